import JvmDerived
import JvmDerived.Pilot.@@N@@Statement
import JvmDerived.Pilot.@@N@@Code
set_option linter.unusedVariables false
set_option linter.unusedSimpArgs false
namespace Jvm.Pilot.@@N@@
open Jvm Jvm.ClassFile Sem Op Lib Jvm.Free Jvm.Stand Jvm.LawKit Jvm.RoadKit Bundle Jvm.Pilot.@@N@@.Jvm.D
/-! THE WALK IN CONTINUATION FORM. Here: the run stands in T, its heap is h, nothing old was written. Go: from the state F the run ends as Q says. CM: a callee's contract. -/
def Here (p : Program) (l : Launch) (e : Env) (R : Room) (s : State) (m : MethodId) (args : Array Value) (below : List Frame) (meth : Method) (c : Code) (n0 : Nat) (T : State) (h : Heap) (k n : Nat) : Prop :=
  ∃ locs, Stand p l e R s m args below meth c T locs k n ∧ T.heap = h ∧ Fr n0 locs
def Fini (below : List Frame) (s : State) (n0 : Nat) (Q : Option Value → Heap → Prop) (K N : Nat) (t : State) (o : Outcome) : Prop :=
  t.status = .running ∧ Ended t below o ∧ ∃ v L, o = .returned v ∧ (Q v t.heap ∧ Fr n0 L) ∧ FrameEnd s o t L K N
def Go (p : Program) (e : Env) (below : List Frame) (Φ : State → Outcome → Prop) (F : State) : Prop :=
  ∃ t o, Steps p.tables e below F t ∧ Φ t o
def CM (l : Launch) (Z : State) (y : MethodName) (code : ByteArray) (maxL : Nat) (ret : Option FieldType) (R : Room) (as : Array Value) (h0 : Heap) (n0 : Nat) (Q : Option Value → Heap → Prop) : Prop :=
  ∀ ws, MetFree l y (head1 (Jvm.Cond.code y code maxL ret :: ws) R) (fun a U => a = as ∧ Z.Warmed39 U.vm ∧ U.heap = h0) (fun _ _ _ _ _ => True) (fun _ U o U' => ∃ v L, o = .returned v ∧ (Q v U'.heap ∧ Fr n0 L) ∧ FrameEnd U o U' L R.cells R.slots)
section Own
variable {p : Program} {l : Launch} {e : Env} {R : Room} {s : State} {m : MethodId} {args : Array Value} {below : List Frame} {meth : Method} {c : Code} {T : State} {h : Heap} {k n n0 K N : Nat} {Q : Option Value → Heap → Prop} {Z : State} {a0 : Array Value} {Φ : State → Outcome → Prop}
theorem Here.here (H : Here p l e R s m args below meth c n0 T h k n) : At T m c below := by obtain ⟨_, X, _, _⟩ := H; exact X.here
theorem Here.stand (H : Here p l e R s m args below meth c n0 T h k n) : ∃ locs, Stand p l e R s m args below meth c T locs k n ∧ T.heap = h ∧ Fr n0 locs := H
theorem Go.via {F F' : State} (st : ∀ t, Steps p.tables e below F' t → Steps p.tables e below F t) (g : Go p e below Φ F') : Go p e below Φ F := by
  obtain ⟨t, o, h1, r⟩ := g; exact ⟨t, o, st t h1, r⟩
theorem own_enter {y : MethodName} {code : ByteArray} {maxL : Nat} {ret : Option FieldType} {as : Array Value} {h0 : Heap} (hpl : plainFor y = true)
    (body : ∀ (p : Program) (e : Env) (s : State) (m : MethodId) (below : List Frame) (meth : Method) (c : Code) (T : State), p.tables.exec = Jvm.exec → c.code = code → c.maxLocals = maxL → s.vm.findClass y.cls = some m.cls → meth.name = y.name → Z.Warmed39 s.vm → meth.sig.returnType = ret → meth.locks = false → Here p l e R s m as below meth c n0 T h0 0 0 → Go p e below (Fini below s n0 Q R.cells R.slots) (T.setTop (entryFrame m as maxL))) :
    CM l Z y code maxL ret R as h0 n0 Q := by
  intro ws
  refine MetFree.of_bodySF hpl hisR ?_
  intro p e s m args below meth c s₁ Bd hml0 hP hK
  obtain ⟨rfl, hZ, hh⟩ := hP
  exact body p e s m below meth c s₁ Bd.exec Bd.bytes hml0 (findClass_of_methodNamed Bd.named) (name_of_methodNamed Bd.named Bd.method).1 hZ Bd.returns Bd.notSynchronized ⟨[], Stand.of_body Bd, by rw [← hh, Bd.state]; rfl, Fr.nil n0⟩
theorem Here.leave (H : Here p l e R s m args below meth c n0 T h k n) (hlk : meth.locks = false) {v : Option Value} (hv : meth.sig.returnType = none → v = none) (hQ : Q v h) (hk : k ≤ K) (hn : n ≤ N) {F : State}
    (st : ∀ fs, (∀ (f : JFrame) (acts : List Action), f.method = m → f.locked = none → f.entered = [] → (doReturn e (T.setTop f) acts v).1 = T.setFrames fs) → Steps p.tables e below F (T.setFrames fs)) : Go p e below (Fini below s n0 Q K N) F := by
  obtain ⟨locs, X, rfl, F0⟩ := H
  obtain ⟨fs, hr, hrun, hended, hW, hsame⟩ := X.leave (v := v) hv hlk
  exact ⟨_, _, st fs hr, hrun, hended, v, locs, rfl, ⟨hQ, F0⟩, ⟨_, rfl⟩, hW, hsame.mono hk hn⟩
theorem own_retV (H : Here p l e R s m args below meth c n0 T h k n) (hx : p.tables.exec = Jvm.exec) (hlk : meth.locks = false) (hret : meth.sig.returnType = none) {pc : Nat} {Ls : Array Slot} (hd : decode c.code pc = .ok (.return_, 1)) (hQ : Q none h) (hk : k ≤ K) (hn : n ≤ N) :
    Go p e below (Fini below s n0 Q K N) (T.setTop (mkF m pc Ls [])) := by
  obtain ⟨locs, X, r1, r2⟩ := H.stand
  exact H.leave hlk (fun _ => rfl) hQ hk hn fun fs hr => X.returnOut hx hret hd hr
theorem own_retI (H : Here p l e R s m args below meth c n0 T h k n) (hx : p.tables.exec = Jvm.exec) (hlk : meth.locks = false) (hret : meth.sig.returnType = some .int) {pc : Nat} {Ls : Array Slot} {z : Int32} {rest : List Value} (hd : decode c.code pc = .ok (.ireturn, 1)) (hQ : Q (some (.int z)) h) (hk : k ≤ K) (hn : n ≤ N) :
    Go p e below (Fini below s n0 Q K N) (T.setTop (mkF m pc Ls (.int z :: rest))) := by
  obtain ⟨locs, X, r1, r2⟩ := H.stand
  exact H.leave hlk (fun q => by rw [hret] at q; cases q) hQ hk hn fun fs hr => retOut X hx hret rfl (Or.inl ⟨rfl, Or.inl rfl, z, rfl⟩) hd hr
theorem own_retN (H : Here p l e R s m args below meth c n0 T h k n) (hx : p.tables.exec = Jvm.exec) (hlk : meth.locks = false) {t : FieldType} (ht : t = .boolean ∨ t = .byte ∨ t = .char ∨ t = .short) (hret : meth.sig.returnType = some t) {pc : Nat} {Ls : Array Slot} {z : Int32} {rest : List Value} (hd : decode c.code pc = .ok (.ireturn, 1)) (hQ : Q (some (.int (nar t z))) h) (hk : k ≤ K) (hn : n ≤ N) :
    Go p e below (Fini below s n0 Q K N) (T.setTop (mkF m pc Ls (.int z :: rest))) := by
  obtain ⟨locs, X, r1, r2⟩ := H.stand
  exact H.leave hlk (fun q => by rw [hret] at q; cases q) hQ hk hn fun fs hr => retN X hx hret ht hd hr
theorem own_retL (H : Here p l e R s m args below meth c n0 T h k n) (hx : p.tables.exec = Jvm.exec) (hlk : meth.locks = false) (hret : meth.sig.returnType = some .long) {pc : Nat} {Ls : Array Slot} {z : Int64} {rest : List Value} (hd : decode c.code pc = .ok (.lreturn, 1)) (hQ : Q (some (.long z)) h) (hk : k ≤ K) (hn : n ≤ N) :
    Go p e below (Fini below s n0 Q K N) (T.setTop (mkF m pc Ls (.long z :: rest))) := by
  obtain ⟨locs, X, r1, r2⟩ := H.stand
  exact H.leave hlk (fun q => by rw [hret] at q; cases q) hQ hk hn fun fs hr => retOut X hx hret rfl (Or.inr (Or.inl ⟨rfl, rfl, z, rfl⟩)) hd hr
theorem own_retA (H : Here p l e R s m args below meth c n0 T h k n) (hx : p.tables.exec = Jvm.exec) (hlk : meth.locks = false) {t : FieldType} (ht : t.isReference = true) (hret : meth.sig.returnType = some t) {pc : Nat} {Ls : Array Slot} {w : Value} {rest : List Value} (hn' : narrow t w = w) (hw : w.isRef = true) (hd : decode c.code pc = .ok (.areturn, 1)) (hQ : Q (some w) h) (hk : k ≤ K) (hn : n ≤ N) :
    Go p e below (Fini below s n0 Q K N) (T.setTop (mkF m pc Ls (w :: rest))) := by
  obtain ⟨locs, X, r1, r2⟩ := H.stand
  exact H.leave hlk (fun q => by rw [hret] at q; cases q) hQ hk hn fun fs hr => retOut X hx hret hn' (Or.inr (Or.inr (Or.inr (Or.inr ⟨rfl, ht, hw⟩)))) hd hr
/-! calls -/
theorem own_callS (H : Here p l e R s m args below meth c n0 T h k n) (hx : p.tables.exec = Jvm.exec) (hZ : Z.Warmed39 s.vm) {own : String} {index : Nat} {y : MethodName} {bytes : ByteArray} {maxL : Nat} {ret : Option FieldType} {rm : Room} {argsL rest : List Value} {Q' : Option Value → Heap → Prop}
    (hown : s.vm.findClass own = some m.cls) (w1 : (Jvm.Cond.methodLink own index y).before a0 Z = true) (w2 : (Jvm.Cond.static y).before a0 Z = true) (w3 : (Jvm.Cond.initialized y.cls).before a0 Z = true) (w4 : (Jvm.Cond.code y bytes maxL ret).before a0 Z = true)
    (hy : y.cls ≠ "java/lang/invoke/MethodHandle" ∧ y.cls ≠ "java/lang/invoke/VarHandle") (hM : CM l Z y bytes maxL ret rm argsL.toArray h n0 Q')
    {g : JFrame} (hg : g.method = m) (hsize : g.locals.size = c.maxLocals) (hlen : ∀ sig, parseMethodDescriptor y.desc = some sig → argsL.length = sig.parameters.length)
    (hstack : g.stack = argsL.reverse ++ rest) (W : Nat) (hW : 2 * g.monitorRoom + (rest.map fun v => v.category).sum ≤ W) (hd : decode c.code g.pc = .ok (.invokestatic index, 3))
    (hf : rm.frames + 1 ≤ R.frames) (hl : W + (maxL + 11) + rm.locals ≤ R.locals) (hc : k + rm.cells ≤ R.cells) (hs : n + rm.slots ≤ R.slots)
    (next : ∀ v T' h', Q' v h' → Here p l e R s m args below meth c n0 T' h' (k + rm.cells) (n + rm.slots) → Go p e below Φ (T'.setTop { g with pc := g.pc + 3, stack := v.toList ++ rest })) :
    Go p e below Φ (T.setTop g) := by
  obtain ⟨locs, X, rfl, F⟩ := H
  obtain ⟨v, _, ⟨T3, L3, k3, n3⟩, -, X3, ⟨Lc3, hQ3, l3, y3, z3⟩, st3⟩ := Jvm.LawKit.callS X hx (y := y) hown (mvT hZ w1) (mvT hZ w2) (mvT hZ w3) (mvT hZ w4) hy (backOf (W := W) (Q := fun v h L => Q' v h ∧ Fr n0 L) (hM []) hZ w4 w3 hf hl) (g := g) hg hsize (argsL := argsL) (rest := rest) hlen hstack hW hd (fun _ _ => ⟨rfl, rfl, hc, hs⟩)
  dsimp only [Pt.U, Pt.locs, Pt.cells, Pt.slots] at X3 l3 y3 z3 st3 hQ3
  subst l3 y3 z3
  exact Go.via st3 (next v T3 T3.heap hQ3.1 ⟨_, X3, rfl, F.app hQ3.2⟩)
theorem own_callI (H : Here p l e R s m args below meth c n0 T h k n) (hx : p.tables.exec = Jvm.exec) (hZ : Z.Warmed39 s.vm) {own : String} {index : Nat} {y : MethodName} {bytes : ByteArray} {maxL : Nat} {rm : Room} {a : Addr} {argsL rest : List Value} {Q' : Option Value → Heap → Prop}
    (hy1 : y.name = "<init>") (hown : s.vm.findClass own = some m.cls) (w1 : (Jvm.Cond.methodLink own index y).before a0 Z = true) (w2 : (Jvm.Cond.instanceMethod y).before a0 Z = true) (w3 : (Jvm.Cond.initialized y.cls).before a0 Z = true) (w4 : (Jvm.Cond.code y bytes maxL none).before a0 Z = true)
    (hy : y.cls ≠ "java/lang/invoke/MethodHandle" ∧ y.cls ≠ "java/lang/invoke/VarHandle") (hM : CM l Z y bytes maxL none rm (Value.ref a :: argsL).toArray h n0 Q')
    {g : JFrame} (hg : g.method = m) (hsize : g.locals.size = c.maxLocals) (hlen : ∀ sig, parseMethodDescriptor y.desc = some sig → argsL.length = sig.parameters.length)
    (hstack : g.stack = argsL.reverse ++ .ref a :: rest) (W : Nat) (hW : 2 * g.monitorRoom + (rest.map fun v => v.category).sum ≤ W) (hd : decode c.code g.pc = .ok (.invokespecial index, 3))
    (hf : rm.frames + 1 ≤ R.frames) (hl : W + (maxL + 11) + rm.locals ≤ R.locals) (hc : k + rm.cells ≤ R.cells) (hs : n + rm.slots ≤ R.slots)
    (next : ∀ v T' h', Q' v h' → Here p l e R s m args below meth c n0 T' h' (k + rm.cells) (n + rm.slots) → Go p e below Φ (T'.setTop { g with pc := g.pc + 3, stack := v.toList ++ rest })) :
    Go p e below Φ (T.setTop g) := by
  obtain ⟨locs, X, rfl, F⟩ := H
  obtain ⟨v, _, ⟨T3, L3, k3, n3⟩, -, X3, ⟨Lc3, hQ3, l3, y3, z3⟩, st3⟩ := X.specialBack hx (y := y) hy1 hown (mvT hZ w1) (mvT hZ w2) (mvT hZ w4) hy (backOf (W := W) (Q := fun v h L => Q' v h ∧ Fr n0 L) (hM []) hZ w4 w3 hf hl) (g := g) hg hsize (Steps.refl _) (a := a) (argsL := argsL) (rest := rest) hlen hstack hW hd (fun _ _ => ⟨rfl, rfl, hc, hs⟩)
  dsimp only [Pt.U, Pt.locs, Pt.cells, Pt.slots] at X3 l3 y3 z3 st3 hQ3
  subst l3 y3 z3
  exact Go.via (fun t q => st3.trans q) (next v T3 T3.heap hQ3.1 ⟨_, X3, rfl, F.app hQ3.2⟩)
theorem own_callV (H : Here p l e R s m args below meth c n0 T h k n) (hx : p.tables.exec = Jvm.exec) (hZ : Z.Warmed39 s.vm) {own C : String} {index : Nat} {y : MethodName} {bytes : ByteArray} {maxL : Nat} {ret : Option FieldType} {rm : Room} {a : Addr} {argsL rest : List Value} {Q' : Option Value → Heap → Prop}
    (hown : s.vm.findClass own = some m.cls) (w1 : (Jvm.Cond.methodLink own index y).before a0 Z = true) (w2 : (Jvm.Cond.declares y).before a0 Z = true) (w3 : (Jvm.Cond.selects C y y).before a0 Z = true) (w4 : (Jvm.Cond.instanceMethod y).before a0 Z = true) (w5 : (Jvm.Cond.initialized y.cls).before a0 Z = true) (w6 : (Jvm.Cond.code y bytes maxL ret).before a0 Z = true)
    (hy : y.cls ≠ "java/lang/invoke/MethodHandle" ∧ y.cls ≠ "java/lang/invoke/VarHandle") (hE : Exa Z h a C) (hM : CM l Z y bytes maxL ret rm (Value.ref a :: argsL).toArray h n0 Q')
    {g : JFrame} (hg : g.method = m) (hsize : g.locals.size = c.maxLocals) (hlen : ∀ sig, parseMethodDescriptor y.desc = some sig → argsL.length = sig.parameters.length)
    (hstack : g.stack = argsL.reverse ++ .ref a :: rest) (W : Nat) (hW : 2 * g.monitorRoom + (rest.map fun v => v.category).sum ≤ W) (hd : decode c.code g.pc = .ok (.invokevirtual index, 3))
    (hf : rm.frames + 1 ≤ R.frames) (hl : W + (maxL + 11) + rm.locals ≤ R.locals) (hc : k + rm.cells ≤ R.cells) (hs : n + rm.slots ≤ R.slots)
    (next : ∀ v T' h', Q' v h' → Here p l e R s m args below meth c n0 T' h' (k + rm.cells) (n + rm.slots) → Go p e below Φ (T'.setTop { g with pc := g.pc + 3, stack := v.toList ++ rest })) :
    Go p e below Φ (T.setTop g) := by
  obtain ⟨locs, X, rfl, F⟩ := H
  obtain ⟨cq, kq, qa, qb, qc⟩ := isOf hZ rfl hE
  obtain ⟨v, _, ⟨T3, L3, k3, n3⟩, -, X3, ⟨Lc3, hQ3, l3, y3, z3⟩, st3⟩ := X.virtualBack hx (y := y) (z := y) hown (mvT hZ w1) (mvT hZ w2) (notFace_of_selects (args := #[]) (mvT hZ w3)) (mvT hZ w3) (mvT hZ w4) hy (backOf (W := W) (Q := fun v h L => Q' v h ∧ Fr n0 L) (hM []) hZ w6 w5 hf hl) qa qc (g := g) hg hsize (Steps.refl _) (argsL := argsL) (rest := rest) hlen hstack hW hd (fun _ _ => ⟨rfl, rfl, hc, hs⟩)
  dsimp only [Pt.U, Pt.locs, Pt.cells, Pt.slots] at X3 l3 y3 z3 st3 hQ3
  subst l3 y3 z3
  exact Go.via (fun t q => st3.trans q) (next v T3 T3.heap hQ3.1 ⟨_, X3, rfl, F.app hQ3.2⟩)
theorem own_initO (H : Here p l e R s m args below meth c n0 T h k n) (hx : p.tables.exec = Jvm.exec) (hZ : Z.Warmed39 s.vm) {own : String} {idx : Nat} (hown : s.vm.findClass own = some m.cls) (w1 : (Jvm.Cond.methodLink own idx Lib.objectInit).before a0 Z = true) (w2 : (Jvm.Cond.instanceMethod Lib.objectInit).before a0 Z = true)
    (w3 : (Jvm.Cond.code Lib.objectInit object_method_1_code 1 none).before a0 Z = true) {g : JFrame} (hg : g.method = m) (hsize : g.locals.size = c.maxLocals) {a : Addr} {rest : List Value} (hs : g.stack = .ref a :: rest) (hd : decode c.code g.pc = .ok (.invokespecial idx, 3))
    (hf : 1 ≤ R.frames) (W : Nat) (hW : 2 * g.monitorRoom + (rest.map fun v => v.category).sum ≤ W) (hl : W + 12 ≤ R.locals)
    (next : ∀ T', Here p l e R s m args below meth c n0 T' h k n → Go p e below Φ (T'.setTop { g with pc := g.pc + 3, stack := rest })) : Go p e below Φ (T.setTop g) := by
  obtain ⟨locs, X, r1, r2⟩ := H.stand
  obtain ⟨T', X', e', st⟩ := initO X hx hZ hown w1 w2 w3 r1 hg hsize hs hd hf hW hl
  exact Go.via st (next T' ⟨_, X', e', r2⟩)
/-! fields, objects -/
theorem own_getF (H : Here p l e R s m args below meth c n0 T h k n) (hx : p.tables.exec = Jvm.exec) (hZ : Z.Warmed39 s.vm) {own O nm d : String} {index : Nat} (hown : s.vm.findClass own = some m.cls) (w : (Jvm.Cond.fieldLink own index O nm d).before a0 Z = true)
    {a : Addr} {v : Value} (F : Fld Z h a O nm d v) {g : JFrame} (hg : g.method = m) {rest : List Value} (hs : g.stack = .ref a :: rest) (hd : decode c.code g.pc = .ok (.getfield index, 3))
    (next : ∀ T', Here p l e R s m args below meth c n0 T' h k n → Go p e below Φ (T'.setTop { g with pc := g.pc + 3, stack := v :: rest })) : Go p e below Φ (T.setTop g) := by
  obtain ⟨locs, X, r1, r2⟩ := H.stand
  obtain ⟨T', X', e', st⟩ := getF X hx hZ hown (host := "") (Or.inl w) Via.refl r1 F hg hs hd
  exact Go.via st (next T' ⟨_, X', e', r2⟩)
theorem own_putF (H : Here p l e R s m args below meth c n0 T h k n) (hx : p.tables.exec = Jvm.exec) (hZ : Z.Warmed39 s.vm) {own O nm d C : String} {index kk : Nat} {ty : FieldType} (hown : s.vm.findClass own = some m.cls) (w : (Jvm.Cond.fieldLink own index O nm d).before a0 Z = true)
    {a : Addr} {v old : Value} (F : Fld Z h a O nm d old) (E : Exa Z h a C) (L : (Jvm.Cond.lays C O nm d).before a0 Z = true ∨ ((Jvm.Cond.laysFinal C O nm d).before a0 Z = true ∧ own = O ∧ meth.name = "<init>")) (wi : (Jvm.Cond.instantiable C kk).before a0 Z = true) (ha : n0 ≤ a)
    (hty : parseFieldDescriptor d = some ty) (hn : narrow ty v = v) (hf : fits ty v = true) {g : JFrame} (hg : g.method = m) {rest : List Value} (hs : g.stack = v :: .ref a :: rest) (hd : decode c.code g.pc = .ok (.putfield index, 3))
    (next : ∀ T' h', Wr h h' a (Jvm.RoadKit.slotOf Z O nm d) v → Here p l e R s m args below meth c n0 T' h' k n → Go p e below Φ (T'.setTop { g with pc := g.pc + 3, stack := rest })) : Go p e below Φ (T.setTop g) := by
  obtain ⟨locs, X, r1, r2⟩ := H.stand
  obtain ⟨T', h', X', e', W, st⟩ := putF X hx hZ hown (host := "") (Or.inl w) Via.refl r1 F E L wi hty hn hf hg hs hd
  exact Go.via st (next T' h' W ⟨_, X', e', Fr.snoc X' r2 ha⟩)
theorem own_putFN (H : Here p l e R s m args below meth c n0 T h k n) (hx : p.tables.exec = Jvm.exec) (hZ : Z.Warmed39 s.vm) {own O nm d C : String} {index kk : Nat} {ty : FieldType} (hown : s.vm.findClass own = some m.cls) (w : (Jvm.Cond.fieldLink own index O nm d).before a0 Z = true)
    {a : Addr} {v v' old : Value} (F : Fld Z h a O nm d old) (E : Exa Z h a C) (L : (Jvm.Cond.lays C O nm d).before a0 Z = true ∨ ((Jvm.Cond.laysFinal C O nm d).before a0 Z = true ∧ own = O ∧ meth.name = "<init>")) (wi : (Jvm.Cond.instantiable C kk).before a0 Z = true) (ha : n0 ≤ a)
    (hty : parseFieldDescriptor d = some ty) (hn : narrow ty v = v') (hf : fits ty v' = true) {g : JFrame} (hg : g.method = m) {rest : List Value} (hs : g.stack = v :: .ref a :: rest) (hd : decode c.code g.pc = .ok (.putfield index, 3))
    (next : ∀ T' h', Wr h h' a (Jvm.RoadKit.slotOf Z O nm d) v' → Here p l e R s m args below meth c n0 T' h' k n → Go p e below Φ (T'.setTop { g with pc := g.pc + 3, stack := rest })) : Go p e below Φ (T.setTop g) := by
  obtain ⟨locs, X, r1, r2⟩ := H.stand
  obtain ⟨T', h', X', e', W, st⟩ := putFN X hx hZ hown w Via.refl r1 F E L wi hty hn hf hg hs hd
  exact Go.via st (next T' h' W ⟨_, X', e', Fr.snoc X' r2 ha⟩)
theorem own_newO (H : Here p l e R s m args below meth c n0 T h k n) (hx : p.tables.exec = Jvm.exec) (hZ : Z.Warmed39 s.vm) {own C : String} {index sl : Nat} (hown : s.vm.findClass own = some m.cls) (w : (Jvm.Cond.classLink own index C).before a0 Z = true) (wi : (Jvm.Cond.instantiable C sl).before a0 Z = true) (wz : (Jvm.Cond.initialized C).before a0 Z = true)
    {g : JFrame} (hg : g.method = m) (hd : decode c.code g.pc = .ok (.new index, 3)) (hc : k + 1 ≤ R.cells) (hl : n + sl ≤ R.slots)
    (next : ∀ T' h' a, a = h.size → Ext h h' → Exa Z h' a C → (∀ {O nm d : String} {ty : FieldType}, Laid Z a0 C O nm d → parseFieldDescriptor d = some ty → Fld Z h' a O nm d (defaultValue ty)) → Here p l e R s m args below meth c n0 T' h' (k + 1) (n + sl) → Go p e below Φ (T'.setTop { g with pc := g.pc + 3, stack := .ref a :: g.stack })) : Go p e below Φ (T.setTop g) := by
  obtain ⟨locs, X, r1, r2⟩ := H.stand
  obtain ⟨T', h', X', e', E, A, D, -, st⟩ := newO X hx hZ hown w wi wz r1 hg hd hc hl
  exact Go.via st (next T' h' _ rfl E A D ⟨_, X', e', r2⟩)
/-! arrays -/
theorem own_newP (H : Here p l e R s m args below meth c n0 T h k n) (hx : p.tables.exec = Jvm.exec) (hZ : Z.Warmed39 s.vm) {aty : ArrayType} (w : (Jvm.Cond.arrayClass (newarray.typeOf aty)).before a0 Z = true) {g : JFrame} (hg : g.method = m) (hd : decode c.code g.pc = .ok (.newarray aty, 2)) {z : Int32} {rest : List Value} (hs : g.stack = .int z :: rest)
    (hn : ¬ z < 0) (cap : Nat) (hcap : z.toNatClampNeg ≤ cap) (hb : cap * 8 ≤ 536870912) (hc : k + 1 ≤ R.cells) (hl : n + cap ≤ R.slots)
    (next : ∀ T' h' a cA, a = h.size → Ext h h' → Arr Z h' a (newA cA (newarray.typeOf aty) z) (newarray.typeOf aty) → Here p l e R s m args below meth c n0 T' h' (k + 1) (n + cap) → Go p e below Φ (T'.setTop { g with pc := g.pc + 2, stack := .ref a :: rest })) : Go p e below Φ (T.setTop g) := by
  obtain ⟨locs, X, r1, r2⟩ := H.stand
  obtain ⟨T', h', cA, X', e', E, A, st⟩ := newP X hx hZ w r1 hg hd hs hn hcap hb hc hl
  exact Go.via st (next T' h' _ cA rfl E A ⟨_, X', e', r2⟩)
theorem own_stI (H : Here p l e R s m args below meth c n0 T h k n) (hx : p.tables.exec = Jvm.exec) (hZ : Z.Warmed39 s.vm) {a : Addr} {cl : Cell} (A : Arr Z h a cl .int) {j x : Int32} (hj : ¬ (j < 0 ∨ cl.slots.size ≤ j.toNatClampNeg)) (ha : n0 ≤ a) {g : JFrame} (hg : g.method = m) {rest : List Value} (hs : g.stack = .int x :: .int j :: .ref a :: rest) (hd : decode c.code g.pc = .ok (.iastore, 1))
    (next : ∀ T' h', Wr h h' a j.toNatClampNeg (.int x) → Here p l e R s m args below meth c n0 T' h' k n → Go p e below Φ (T'.setTop { g with pc := g.pc + 1, stack := rest })) : Go p e below Φ (T.setTop g) := by
  obtain ⟨locs, X, r1, r2⟩ := H.stand
  obtain ⟨T', h', X', e', W, st⟩ := stI X hx hZ r1 A hj hg hs hd
  exact Go.via st (next T' h' W ⟨_, X', e', Fr.snoc X' r2 ha⟩)
theorem own_stB (H : Here p l e R s m args below meth c n0 T h k n) (hx : p.tables.exec = Jvm.exec) (hZ : Z.Warmed39 s.vm) {a : Addr} {cl : Cell} (A : Arr Z h a cl .byte) {j x : Int32} (hj : ¬ (j < 0 ∨ cl.slots.size ≤ j.toNatClampNeg)) (ha : n0 ≤ a) {g : JFrame} (hg : g.method = m) {rest : List Value} (hs : g.stack = .int x :: .int j :: .ref a :: rest) (hd : decode c.code g.pc = .ok (.bastore, 1))
    (next : ∀ T' h', Wr h h' a j.toNatClampNeg (.int (nar .byte x)) → Here p l e R s m args below meth c n0 T' h' k n → Go p e below Φ (T'.setTop { g with pc := g.pc + 1, stack := rest })) : Go p e below Φ (T.setTop g) := by
  obtain ⟨locs, X, r1, r2⟩ := H.stand
  obtain ⟨T', h', X', e', W, st⟩ := stB X hx hZ r1 A hj hg hs hd
  exact Go.via st (next T' h' W ⟨_, X', e', Fr.snoc X' r2 ha⟩)
theorem own_len (H : Here p l e R s m args below meth c n0 T h k n) (hx : p.tables.exec = Jvm.exec) (hZ : Z.Warmed39 s.vm) {a : Addr} {cl : Cell} {ty : FieldType} (A : Arr Z h a cl ty) {g : JFrame} (hg : g.method = m) {rest : List Value} (hs : g.stack = .ref a :: rest) (hd : decode c.code g.pc = .ok (.arraylength, 1))
    (next : Go p e below Φ (T.setTop { g with pc := g.pc + 1, stack := .int cl.slots.size.toInt32 :: rest })) : Go p e below Φ (T.setTop g) := by
  obtain ⟨locs, X, r1, r2⟩ := H.stand
  exact Go.via (fun t q => X.arraylength hx (by rw [r1]; exact A.1) (State.isArrayOf_alike hZ.alike A.2.1) hg hs hd t q) next
theorem own_ldI (H : Here p l e R s m args below meth c n0 T h k n) (hx : p.tables.exec = Jvm.exec) (hZ : Z.Warmed39 s.vm) {a : Addr} {cl : Cell} (A : Arr Z h a cl .int) {j : Int32} {v : Value} (hj : ¬ (j < 0 ∨ cl.slots.size ≤ j.toNatClampNeg)) (hv : cl.slots[j.toNatClampNeg]? = some v) {g : JFrame} (hg : g.method = m) {rest : List Value} (hs : g.stack = .int j :: .ref a :: rest) (hd : decode c.code g.pc = .ok (.iaload, 1))
    (next : Go p e below Φ (T.setTop { g with pc := g.pc + 1, stack := v :: rest })) : Go p e below Φ (T.setTop g) := by
  obtain ⟨locs, X, r1, r2⟩ := H.stand
  exact Go.via (fun t q => X.iaload hx (by rw [r1]; exact A.1) (State.isArrayOf_alike hZ.alike A.2.1) A.2.2 hj hv hg hs hd t q) next
theorem own_ldB (H : Here p l e R s m args below meth c n0 T h k n) (hx : p.tables.exec = Jvm.exec) (hZ : Z.Warmed39 s.vm) {a : Addr} {cl : Cell} (A : Arr Z h a cl .byte) {j : Int32} {v : Value} (hj : ¬ (j < 0 ∨ cl.slots.size ≤ j.toNatClampNeg)) (hv : cl.slots[j.toNatClampNeg]? = some v) {g : JFrame} (hg : g.method = m) {rest : List Value} (hs : g.stack = .int j :: .ref a :: rest) (hd : decode c.code g.pc = .ok (.baload, 1))
    (next : Go p e below Φ (T.setTop { g with pc := g.pc + 1, stack := v :: rest })) : Go p e below Φ (T.setTop g) := by
  obtain ⟨locs, X, r1, r2⟩ := H.stand
  exact Go.via (fun t q => X.baloadBytes hx (by rw [r1]; exact A.1) (State.isArrayOf_alike hZ.alike A.2.1) A.2.2 hj hv hg hs hd t q) next
/-! arrays of ints by a function of the place -/
def upd (B : Nat → Int32) (j : Nat) (v : Int32) : Nat → Int32 := fun i => if i = j then v else B i
theorem upd_hit {B : Nat → Int32} {j : Nat} {v : Int32} : upd B j v j = v := if_pos rfl
theorem upd_miss {B : Nat → Int32} {i j : Nat} {v : Int32} (q : i ≠ j) : upd B j v i = B i := if_neg q
def Ab (Z : State) (h : Heap) (a : Addr) (ty : FieldType) (n : Nat) (B : Nat → Int32) : Prop := ∃ c : Cell, Arr Z h a c ty ∧ c.slots.size = n ∧ ∀ i, i < n → c.slots[i]? = some (.int (B i))
theorem Ab.lt {a : Addr} {ty : FieldType} {B : Nat → Int32} (F : Ab Z h a ty n B) : a < h.size := by obtain ⟨c, A, -⟩ := F; exact A.lt
theorem Ab.ext {h' : Heap} {a : Addr} {ty : FieldType} {B : Nat → Int32} (F : Ab Z h a ty n B) (E : Ext h h') : Ab Z h' a ty n B := by obtain ⟨c, A, r⟩ := F; exact ⟨c, A.ext E, r⟩
theorem Ab.other {h' : Heap} {a b : Addr} {sl : Nat} {v : Value} {ty : FieldType} {B : Nat → Int32} (F : Ab Z h b ty n B) (W : Wr h h' a sl v) (q : b ≠ a) : Ab Z h' b ty n B := by obtain ⟨c, A, r⟩ := F; exact ⟨c, A.other W q, r⟩
theorem Ab.keep {h' : Heap} {a : Addr} {ws : List Addr} {ty : FieldType} {B : Nat → Int32} (F : Ab Z h a ty n B) (Kp : Keep h h' ws) (q : a ∉ ws) : Ab Z h' a ty n B := by obtain ⟨c, A, r⟩ := F; exact ⟨c, ⟨Kp.2.1 a c A.1 q, A.2⟩, r⟩
theorem Ab.set {h' : Heap} {a : Addr} {j : Nat} {v : Int32} {ty : FieldType} {B : Nat → Int32} (F : Ab Z h a ty n B) (W : Wr h h' a j (.int v)) : Ab Z h' a ty n (upd B j v) := by
  obtain ⟨c, A, S, G⟩ := F
  obtain ⟨c', q1, -, -, q4, -, q6, q7⟩ := wr_at W A.1
  obtain ⟨rfl, q8, -⟩ := q7 rfl
  refine ⟨_, A.same W, q4.trans S, fun i hi => ?_⟩
  by_cases q : i = j
  · subst q; rw [q8, upd_hit]
  · rw [q6 i q, G i hi, upd_miss q]
theorem Ab.new {a : Addr} {ty : FieldType} {kk : ClassId} {z : Int32} (A : Arr Z h a (newA kk ty z) ty) (hz : z.toNatClampNeg = n) (hd : defaultValue ty = .int 0) : Ab Z h a ty n (fun _ => 0) := by
  refine ⟨_, A, (sz_new _ _ _).trans hz, fun i hi => ?_⟩
  have hz' : z.toNatClampNeg < 2 ^ 31 := by
    by_cases q : z < 0
    · have : z.toNatClampNeg ≤ 0 := by rw [Int32.lt_iff_toInt_lt] at q; have e0 : (0 : Int32).toInt = 0 := rfl; have : z.toNatClampNeg = z.toInt.toNat := rfl; omega
      omega
    · exact (back32 q).2
  have e1 : i.toInt32.toNatClampNeg = i := by
    have q := idx_in (i := i) (n := i + 1) (Nat.lt_succ_self i) (by omega)
    have q2 : i.toInt32.toInt = i := len_toInt (by omega)
    have := nat_of (j := i.toInt32) (fun z => q (Or.inl z))
    omega
  have q0 : ¬ (i.toInt32 < 0 ∨ z.toNatClampNeg ≤ i.toInt32.toNatClampNeg) := by
    rw [hz, e1]
    intro q
    rcases q with q | q
    · have q3 : i.toInt32.toInt = i := len_toInt (by omega)
      rw [Int32.lt_iff_toInt_lt, q3] at q
      have e0 : (0 : Int32).toInt = 0 := rfl
      omega
    · omega
  have g := get_new (cA := kk) (ty := ty) (n := z) (k := i.toInt32) q0
  rw [e1] at g
  rw [g, hd]
theorem own_idx {J : Int32} {j : Nat} (e : J.toInt = (j : Int)) : ¬ J < 0 ∧ J.toNatClampNeg = j := by
  have h0 : ¬ J < 0 := by rw [Int32.lt_iff_toInt_lt]; have e0 : (0 : Int32).toInt = 0 := rfl; omega
  have := nat_of h0
  exact ⟨h0, by omega⟩
theorem own_in {c : Cell} {J : Int32} {j N' : Nat} (e : J.toInt = (j : Int)) (S : c.slots.size = N') (hj : j < N') : ¬ (J < 0 ∨ c.slots.size ≤ J.toNatClampNeg) := by
  obtain ⟨q1, q2⟩ := own_idx e
  rw [q2, S]; intro q; rcases q with q | q
  · exact q1 q
  · omega
theorem own_newA (H : Here p l e R s m args below meth c n0 T h k n) (hx : p.tables.exec = Jvm.exec) (hZ : Z.Warmed39 s.vm) {aty : ArrayType} (w : (Jvm.Cond.arrayClass (newarray.typeOf aty)).before a0 Z = true) {g : JFrame} (hg : g.method = m) (hd : decode c.code g.pc = .ok (.newarray aty, 2)) {z : Int32} {rest : List Value} (hs : g.stack = .int z :: rest)
    (hn : ¬ z < 0) (N' : Nat) (hz : z.toNatClampNeg = N') (hdv : defaultValue (newarray.typeOf aty) = .int 0) (cap : Nat) (hcap : N' ≤ cap) (hb : cap * 8 ≤ 536870912) (hc : k + 1 ≤ R.cells) (hl : n + cap ≤ R.slots)
    (next : ∀ T' h' a, a = h.size → Ext h h' → Ab Z h' a (newarray.typeOf aty) N' (fun _ => 0) → Here p l e R s m args below meth c n0 T' h' (k + 1) (n + cap) → Go p e below Φ (T'.setTop { g with pc := g.pc + 2, stack := .ref a :: rest })) : Go p e below Φ (T.setTop g) :=
  own_newP H hx hZ w hg hd hs hn cap (by rw [hz]; exact hcap) hb hc hl fun T' h' a cA q1 q2 q3 q4 => next T' h' a q1 q2 (Ab.new q3 hz hdv) q4
theorem own_stIA (H : Here p l e R s m args below meth c n0 T h k n) (hx : p.tables.exec = Jvm.exec) (hZ : Z.Warmed39 s.vm) {a : Addr} {N' : Nat} {B : Nat → Int32} (A : Ab Z h a .int N' B) {J x : Int32} {j : Nat} (ej : J.toInt = (j : Int)) (hj : j < N') (ha : n0 ≤ a) {g : JFrame} (hg : g.method = m) {rest : List Value} (hs : g.stack = .int x :: .int J :: .ref a :: rest) (hd : decode c.code g.pc = .ok (.iastore, 1))
    (next : ∀ T' h', Wr h h' a j (.int x) → Ab Z h' a .int N' (upd B j x) → Here p l e R s m args below meth c n0 T' h' k n → Go p e below Φ (T'.setTop { g with pc := g.pc + 1, stack := rest })) : Go p e below Φ (T.setTop g) := by
  have A' := A
  obtain ⟨cl, A0, S, G⟩ := A
  refine own_stI H hx hZ A0 (own_in ej S hj) ha hg hs hd fun T' h' W H' => ?_
  rw [(own_idx ej).2] at W
  exact next T' h' W (A'.set W) H'
theorem own_stBA (H : Here p l e R s m args below meth c n0 T h k n) (hx : p.tables.exec = Jvm.exec) (hZ : Z.Warmed39 s.vm) {a : Addr} {N' : Nat} {B : Nat → Int32} (A : Ab Z h a .byte N' B) {J x : Int32} {j : Nat} (ej : J.toInt = (j : Int)) (hj : j < N') (ha : n0 ≤ a) {g : JFrame} (hg : g.method = m) {rest : List Value} (hs : g.stack = .int x :: .int J :: .ref a :: rest) (hd : decode c.code g.pc = .ok (.bastore, 1))
    (next : ∀ T' h', Wr h h' a j (.int (nar .byte x)) → Ab Z h' a .byte N' (upd B j (nar .byte x)) → Here p l e R s m args below meth c n0 T' h' k n → Go p e below Φ (T'.setTop { g with pc := g.pc + 1, stack := rest })) : Go p e below Φ (T.setTop g) := by
  have A' := A
  obtain ⟨cl, A0, S, G⟩ := A
  refine own_stB H hx hZ A0 (own_in ej S hj) ha hg hs hd fun T' h' W H' => ?_
  rw [(own_idx ej).2] at W
  exact next T' h' W (A'.set W) H'
theorem own_ldIA (H : Here p l e R s m args below meth c n0 T h k n) (hx : p.tables.exec = Jvm.exec) (hZ : Z.Warmed39 s.vm) {a : Addr} {N' : Nat} {B : Nat → Int32} (A : Ab Z h a .int N' B) {J : Int32} {j : Nat} (ej : J.toInt = (j : Int)) (hj : j < N') {g : JFrame} (hg : g.method = m) {rest : List Value} (hs : g.stack = .int J :: .ref a :: rest) (hd : decode c.code g.pc = .ok (.iaload, 1))
    (next : Go p e below Φ (T.setTop { g with pc := g.pc + 1, stack := .int (B j) :: rest })) : Go p e below Φ (T.setTop g) := by
  obtain ⟨cl, A0, S, G⟩ := A
  exact own_ldI H hx hZ A0 (own_in ej S hj) (by rw [(own_idx ej).2]; exact G j hj) hg hs hd next
theorem own_ldBA (H : Here p l e R s m args below meth c n0 T h k n) (hx : p.tables.exec = Jvm.exec) (hZ : Z.Warmed39 s.vm) {a : Addr} {N' : Nat} {B : Nat → Int32} (A : Ab Z h a .byte N' B) {J : Int32} {j : Nat} (ej : J.toInt = (j : Int)) (hj : j < N') {g : JFrame} (hg : g.method = m) {rest : List Value} (hs : g.stack = .int J :: .ref a :: rest) (hd : decode c.code g.pc = .ok (.baload, 1))
    (next : Go p e below Φ (T.setTop { g with pc := g.pc + 1, stack := .int (B j) :: rest })) : Go p e below Φ (T.setTop g) := by
  obtain ⟨cl, A0, S, G⟩ := A
  exact own_ldB H hx hZ A0 (own_in ej S hj) (by rw [(own_idx ej).2]; exact G j hj) hg hs hd next
theorem own_lenA (H : Here p l e R s m args below meth c n0 T h k n) (hx : p.tables.exec = Jvm.exec) (hZ : Z.Warmed39 s.vm) {a : Addr} {N' : Nat} {B : Nat → Int32} {ty : FieldType} (A : Ab Z h a ty N' B) {z : Int32} (hz : N'.toInt32 = z) {g : JFrame} (hg : g.method = m) {rest : List Value} (hs : g.stack = .ref a :: rest) (hd : decode c.code g.pc = .ok (.arraylength, 1))
    (next : Go p e below Φ (T.setTop { g with pc := g.pc + 1, stack := .int z :: rest })) : Go p e below Φ (T.setTop g) := by
  obtain ⟨cl, A0, S, G⟩ := A
  subst S; subst hz
  exact own_len H hx hZ A0 hg hs hd next
/-! instanceof, checkcast, statics, references in arrays -/
theorem own_instY (H : Here p l e R s m args below meth c n0 T h k n) (hx : p.tables.exec = Jvm.exec) (hZ : Z.Warmed39 s.vm) {own C : String} {index : Nat} (hown : s.vm.findClass own = some m.cls) (w : (Jvm.Cond.classLink own index C).before a0 Z = true) {a : Addr} (F : Ins Z h a C true)
    {g : JFrame} (hg : g.method = m) {rest : List Value} (hs : g.stack = .ref a :: rest) (hd : decode c.code g.pc = .ok (.instanceof index, 3))
    (next : ∀ T', Here p l e R s m args below meth c n0 T' h k n → Go p e below Φ (T'.setTop { g with pc := g.pc + 3, stack := .int 1 :: rest })) : Go p e below Φ (T.setTop g) := by
  obtain ⟨locs, X, r1, r2⟩ := H.stand
  obtain ⟨T', X', e', st⟩ := instY X hx hZ hown w r1 F hg hs hd
  exact Go.via st (next T' ⟨_, X', e', r2⟩)
theorem own_instNo (H : Here p l e R s m args below meth c n0 T h k n) (hx : p.tables.exec = Jvm.exec) (hZ : Z.Warmed39 s.vm) {own C D : String} {index : Nat} (hown : s.vm.findClass own = some m.cls) (w : (Jvm.Cond.classLink own index C).before a0 Z = true) {a : Addr} (E : Exa Z h a D) (F : ∃ c t, Z.vm.findClass D = some c ∧ Z.vm.findClass C = some t ∧ Z.vm.assignable c t = false)
    {g : JFrame} (hg : g.method = m) {rest : List Value} (hs : g.stack = .ref a :: rest) (hd : decode c.code g.pc = .ok (.instanceof index, 3))
    (next : ∀ T', Here p l e R s m args below meth c n0 T' h k n → Go p e below Φ (T'.setTop { g with pc := g.pc + 3, stack := .int 0 :: rest })) : Go p e below Φ (T.setTop g) := by
  obtain ⟨locs, X, r1, r2⟩ := H.stand
  obtain ⟨T', X', e', st⟩ := instNo X hx hZ hown w r1 E F hg hs hd
  exact Go.via st (next T' ⟨_, X', e', r2⟩)
theorem own_instNull (H : Here p l e R s m args below meth c n0 T h k n) (hx : p.tables.exec = Jvm.exec) {index : Nat} {g : JFrame} (hg : g.method = m) {rest : List Value} (hs : g.stack = .null :: rest) (hd : decode c.code g.pc = .ok (.instanceof index, 3))
    (next : Go p e below Φ (T.setTop { g with pc := g.pc + 3, stack := .int 0 :: rest })) : Go p e below Φ (T.setTop g) := by
  obtain ⟨locs, X, r1, r2⟩ := H.stand
  exact Go.via (X.instanceofNull hx hg hs hd) next
theorem own_castY (H : Here p l e R s m args below meth c n0 T h k n) (hx : p.tables.exec = Jvm.exec) (hZ : Z.Warmed39 s.vm) {own C : String} {index : Nat} (hown : s.vm.findClass own = some m.cls) (w : (Jvm.Cond.classLink own index C).before a0 Z = true) {a : Addr} (F : Ins Z h a C true)
    {g : JFrame} (hg : g.method = m) {rest : List Value} (hs : g.stack = .ref a :: rest) (hd : decode c.code g.pc = .ok (.checkcast index, 3))
    (next : ∀ T', Here p l e R s m args below meth c n0 T' h k n → Go p e below Φ (T'.setTop { g with pc := g.pc + 3 })) : Go p e below Φ (T.setTop g) := by
  obtain ⟨locs, X, r1, r2⟩ := H.stand
  obtain ⟨T', X', e', st⟩ := castY X hx hZ hown w r1 F hg hs hd
  exact Go.via st (next T' ⟨_, X', e', r2⟩)
theorem own_getS (H : Here p l e R s m args below meth c n0 T h k n) (hx : p.tables.exec = Jvm.exec) (hZ : Z.Warmed39 s.vm) {own O nm d : String} {index : Nat} (hown : s.vm.findClass own = some m.cls) (w : (Jvm.Cond.fieldLink own index O nm d).before a0 Z = true) {v : Value} (F : Sta Z h O nm d v)
    {g : JFrame} (hg : g.method = m) (hd : decode c.code g.pc = .ok (.getstatic index, 3))
    (next : ∀ T', Here p l e R s m args below meth c n0 T' h k n → Go p e below Φ (T'.setTop { g with pc := g.pc + 3, stack := v :: g.stack })) : Go p e below Φ (T.setTop g) := by
  obtain ⟨locs, X, r1, r2⟩ := H.stand
  obtain ⟨T', X', e', st⟩ := getS (host := "") X hx hZ hown w Via.refl r1 F hg hd
  exact Go.via st (next T' ⟨_, X', e', r2⟩)
theorem own_ldR (H : Here p l e R s m args below meth c n0 T h k n) (hx : p.tables.exec = Jvm.exec) (hZ : Z.Warmed39 s.vm) {a : Addr} {cl : Cell} {ty : FieldType} (A : Arr Z h a cl ty) (hty : ty.isReference = true) {J : Int32} {j : Nat} {v : Value} (ej : J.toInt = (j : Int)) (hj : j < cl.slots.size) (hv : cl.slots[j]? = some v) {g : JFrame} (hg : g.method = m) {rest : List Value} (hs : g.stack = .int J :: .ref a :: rest) (hd : decode c.code g.pc = .ok (.aaload, 1))
    (next : Go p e below Φ (T.setTop { g with pc := g.pc + 1, stack := v :: rest })) : Go p e below Φ (T.setTop g) := by
  obtain ⟨locs, X, r1, r2⟩ := H.stand
  exact Go.via (fun t q => X.aaload hx (by rw [r1]; exact A.1) (State.isArrayOf_alike hZ.alike A.2.1) hty A.2.2 (own_in ej rfl hj) (by rw [(own_idx ej).2]; exact hv) hg hs hd t q) next
/-! constants -/
theorem own_ldcI (H : Here p l e R s m args below meth c n0 T h k n) (hx : p.tables.exec = Jvm.exec) (hZ : Z.Warmed39 s.vm) {own : String} {index : Nat} {v : Int32} (hown : s.vm.findClass own = some m.cls) (w : (Jvm.Cond.constant own index v).before a0 Z = true) {g : JFrame} (hg : g.method = m) (hd : decode c.code g.pc = .ok (.ldc index, 2))
    (next : Go p e below Φ (T.setTop { g with pc := g.pc + 2, stack := .int v :: g.stack })) : Go p e below Φ (T.setTop g) := by
  obtain ⟨locs, X, r1, r2⟩ := H.stand
  exact Go.via (X.ldcInt hx hown (mvT hZ w) hg hd) next
theorem own_ldcL (H : Here p l e R s m args below meth c n0 T h k n) (hx : p.tables.exec = Jvm.exec) (hZ : Z.Warmed39 s.vm) {own : String} {index : Nat} {v : Int64} (hown : s.vm.findClass own = some m.cls) (w : (Jvm.Cond.constantLong own index v).before a0 Z = true) {g : JFrame} (hg : g.method = m) (hd : decode c.code g.pc = .ok (.ldc2_w index, 3))
    (next : Go p e below Φ (T.setTop { g with pc := g.pc + 3, stack := .long v :: g.stack })) : Go p e below Φ (T.setTop g) := by
  obtain ⟨locs, X, r1, r2⟩ := H.stand
  exact Go.via (X.ldc2Long hx hown (mvT hZ w) hg hd) next
/-! comparisons of longs -/
theorem own_llt {x y : Int64} (q : x < y) : ifCond.holds .lt (lcmpW x y) = true ∧ ifCond.holds .ge (lcmpW x y) = false := by
  have := (lw_lt x y).mpr q; rw [if0, if0]; exact ⟨(tlt this).1, (tlt this).2.1⟩
theorem own_nlt {x y : Int64} (q : ¬ x < y) : ifCond.holds .lt (lcmpW x y) = false ∧ ifCond.holds .ge (lcmpW x y) = true := by
  have : ¬ lcmpW x y < 0 := fun z => q ((lw_lt x y).mp z); rw [if0, if0]; exact ⟨(flt this).1, (flt this).2.1⟩
theorem own_lgt {x y : Int64} (q : y < x) : ifCond.holds .gt (lcmpW x y) = true ∧ ifCond.holds .le (lcmpW x y) = false := by
  have := (lw_gt x y).mpr q; rw [if0, if0]; exact ⟨(tlt this).2.2.1, (tlt this).2.2.2⟩
theorem own_ngt {x y : Int64} (q : ¬ y < x) : ifCond.holds .gt (lcmpW x y) = false ∧ ifCond.holds .le (lcmpW x y) = true := by
  have : ¬ 0 < lcmpW x y := fun z => q ((lw_gt x y).mp z); rw [if0, if0]; exact ⟨(flt this).2.2.1, (flt this).2.2.2⟩
theorem own_leq {x y : Int64} (q : x = y) : ifCond.holds .eq (lcmpW x y) = true ∧ ifCond.holds .ne (lcmpW x y) = false := by
  have := (lw_eq x y).mpr q; rw [if0, if0]; exact ⟨(teq this).1, (teq this).2⟩
theorem own_neq {x y : Int64} (q : ¬ x = y) : ifCond.holds .eq (lcmpW x y) = false ∧ ifCond.holds .ne (lcmpW x y) = true := by
  have : ¬ lcmpW x y = 0 := fun z => q ((lw_eq x y).mp z); rw [if0, if0]; exact ⟨(feq this).1, (feq this).2⟩
end Own
def mnL (a b : Int64) : Int64 := if b < a then b else a
def mxL (a b : Int64) : Int64 := if a < b then b else a
def lowF (x y : Int64) : Int64 := if x = y then (if x = (4294967295 : Int64) then x - 1 else x) else mnL x y
def highF (x y : Int64) : Int64 := if x = y then (if x = (4294967295 : Int64) then x else x + 1) else mxL x y
def eqF (a b c d : Int64) : Int32 := if a = b ∧ c = d then 1 else 0
theorem nar0 : nar .boolean 0 = 0 := rfl
theorem nar1 : nar .boolean 1 = 1 := rfl
theorem own_NSroot {Z : State} {a0 : Array Value} {O K : String} {n : Nat} (w : (Jvm.Cond.noSuperclass O).before a0 Z = true) (wk : (Jvm.Cond.instantiable K n).before a0 Z = true) (hn : O ≠ K) : NS Z O K := by
  obtain ⟨c, k, h1, h2, h3, -, -⟩ := Cond.noSuperclass_spec w
  obtain ⟨t, kt, g1, -⟩ := Cond.instantiable_spec wk
  have ne := ids_ne h1 g1 hn
  refine ⟨c, t, h1, g1, fun fuel => ?_⟩
  cases fuel with
  | zero => rfl
  | succ f => simp [Vm.isSubclassAux, ne, h2, h3]
theorem own_NSno {Z : State} {a0 : Array Value} {C S K : String} {n : Nat} (w : (Jvm.Cond.superclass C S).before a0 Z = true) (wk : (Jvm.Cond.instantiable K n).before a0 Z = true) (q : NS Z C K) (hn : C ≠ K) : ∃ c t, Z.vm.findClass C = some c ∧ Z.vm.findClass K = some t ∧ Z.vm.assignable c t = false := by
  obtain ⟨c, t, h0, g0, n3⟩ := q
  obtain ⟨p, k, kp, h1, h2, h3, h4, h5, -, h7⟩ := Cond.superclass_spec h0 w
  obtain ⟨t', kt, g1, g2, g5, g7, -⟩ := Cond.instantiable_spec wk
  cases g0.symm.trans g1
  have g8 : kt.isInterface = false := by cases h : kt.isInterface <;> simp [h] at g7 ⊢
  have ne := ids_ne h0 g0 hn
  refine ⟨c, t, h0, g0, ?_⟩
  show Z.vm.assignableAux (255 + 1) c t = false
  simp [Vm.assignableAux, ne, h2, g2, h5, g5, g8, Vm.isSubclass, n3]
theorem own_mask (a : Int64) : 0 ≤ (a &&& (4294967295 : Int64)).toInt ∧ (a &&& (4294967295 : Int64)).toInt ≤ 4294967295 := by
  have := c_maskL a 4294967295 32 (by decide) (by decide)
  omega
theorem own_lh (x y : Int64) (hx : 0 ≤ x.toInt ∧ x.toInt ≤ 4294967295) (hy : 0 ≤ y.toInt ∧ y.toInt ≤ 4294967295) : 0 ≤ (lowF x y).toInt ∧ (lowF x y).toInt < (highF x y).toInt ∧ (highF x y).toInt ≤ 4294967295 := by
  have c1 := c_lsub x 1; have c2 := c_ladd x 1
  have r1 := rng64 (x - 1); have r2 := rng64 (x + 1)
  have e1 : (1 : Int64).toInt = 1 := by decide
  have e2 : (4294967295 : Int64).toInt = 4294967295 := by decide
  unfold lowF highF
  by_cases h : x = y
  · rw [if_pos h, if_pos h]
    by_cases h2 : x = (4294967295 : Int64)
    · rw [if_pos h2, if_pos h2]; rw [← Int64.toInt_inj, e2] at h2; omega
    · rw [if_neg h2, if_neg h2]; rw [← Int64.toInt_inj, e2] at h2; omega
  · rw [if_neg h, if_neg h]
    rw [← Int64.toInt_inj] at h
    unfold mnL mxL
    simp only [Int64.lt_iff_toInt_lt]
    repeat' split
    all_goals omega
theorem own_pre (x y : Int64) (h : 0 ≤ x.toInt ∧ x.toInt < y.toInt ∧ y.toInt ≤ 4294967295) : ¬ x < 0 ∧ x < y ∧ ¬ (4294967295 : Int64) < y := by
  have e2 : (4294967295 : Int64).toInt = 4294967295 := by decide
  have e3 : (0 : Int64).toInt = 0 := by decide
  simp only [Int64.lt_iff_toInt_lt, e2, e3]
  omega
theorem own_rg (x y : Int64) (h : 0 ≤ x.toInt ∧ x.toInt < y.toInt ∧ y.toInt ≤ 4294967295) : (0 ≤ x.toInt ∧ x.toInt ≤ 4294967295) ∧ (0 ≤ y.toInt ∧ y.toInt ≤ 4294967295) := by omega
theorem own_cacheIx (x : Int64) (h1 : ¬ x < (-128 : Int64)) (h2 : ¬ (127 : Int64) < x) : ∃ j : Nat, ((x.toInt32) + (128 : Int32)).toInt = (j : Int) ∧ j < 256 := by
  have e1 : (-128 : Int64).toInt = -128 := by decide
  have e2 : (127 : Int64).toInt = 127 := by decide
  have e3 : (128 : Int32).toInt = 128 := by decide
  rw [Int64.lt_iff_toInt_lt] at h1 h2
  have c1 := c_l2i x; have c2 := c_iadd x.toInt32 128
  have r1 := rng32 x.toInt32; have r2 := rng32 (x.toInt32 + 128)
  exact ⟨(x.toInt32 + 128).toInt.toNat, by omega, by omega⟩
theorem own_len256 {s : State} {args : Array Value} {t : Term} {a : Addr} {cl : Cell} {ty : FieldType} (ev : t.eval args s none [] s = some (.ref a)) (A : Arr s s.heap a cl ty) (h : (Jvm.Cond.eq (Term.length t) (Term.int (256 : Int32))).before args s = true) : cl.slots.size = 256 := by
  have hA : s.arrayAt? a = some cl := Arr.fin (Vm.Alike.refl _) A
  have e1 := Cond.eq_int (n := 256) h rfl
  have hlt : cl.slots.size < 2 ^ 31 := by
    by_cases q : cl.slots.size < 2 ^ 31
    · exact q
    · simp [Term.eval, ev, hA, q] at e1
  rw [len_f ev hA hlt] at e1
  have e2 : cl.slots.size.toInt32 = 256 := by injection e1 with e1; injection e1
  have e3 : cl.slots.size.toInt32.toInt = cl.slots.size := len_toInt hlt
  rw [e2] at e3
  have : (256 : Int32).toInt = 256 := by decide
  omega
theorem own_elem {s : State} {args : Array Value} {t : Term} {a : Addr} {cl : Cell} {ty : FieldType} {C : String} {X : Jvm.Cond} (ev : ∀ idx, t.eval args s none idx s = some (.ref a)) (A : Arr s s.heap a cl ty) (h : (Jvm.Cond.all t (Jvm.Cond.and (Jvm.Cond.exactly (Term.elem t (Term.index 0)) C) X)).before args s = true) (hs : cl.slots.size = 256) : ∀ j, j < 256 → ∃ b, cl.slots[j]? = some (.ref b) ∧ Exa s s.heap b C := by
  intro j hj
  have hA : s.arrayAt? a = some cl := Arr.fin (Vm.Alike.refl _) A
  have q := Cond.all_elim (ev []) hA (Cond.before_iff.mp h) j (by omega)
  obtain ⟨q1, -⟩ := and_e q
  obtain ⟨b, eb⟩ := exa_v q1
  have E := exa_at eb q1
  refine ⟨b, ?_, E⟩
  have e0 : ¬ (j.toInt32 < 0) := fun z => idx_in (i := j) (n := 256) hj (by decide) (Or.inl z)
  have e1 : j.toInt32.toNatClampNeg = j := by
    have := nat_of e0
    have q2 : j.toInt32.toInt = j := len_toInt (by omega)
    omega
  have ei : (Term.index 0).eval args s none [j] s = some (.int j.toInt32) := by
    have := idx_at (args := args) (s := s) (first := s) (o := none) e0
    rw [e1] at this; exact this
  rw [elem_f (ev _) ei hA e0, e1] at eb
  exact eb
theorem d2_0 : decode jdk_29_method_70_code 0 = .ok (.lload_n 0, 1) := by decide +kernel
theorem d2_1 : decode jdk_29_method_70_code 1 = .ok (.lload_n 2, 1) := by decide +kernel
theorem d2_2 : decode jdk_29_method_70_code 2 = .ok (.lcmp, 1) := by decide +kernel
theorem d2_3 : decode jdk_29_method_70_code 3 = .ok (.ifCond .gt 7, 3) := by decide +kernel
theorem d2_6 : decode jdk_29_method_70_code 6 = .ok (.lload_n 0, 1) := by decide +kernel
theorem d2_7 : decode jdk_29_method_70_code 7 = .ok (.goto 4, 3) := by decide +kernel
theorem d2_10 : decode jdk_29_method_70_code 10 = .ok (.lload_n 2, 1) := by decide +kernel
theorem d2_11 : decode jdk_29_method_70_code 11 = .ok (.lreturn, 1) := by decide +kernel
theorem ef_rmMin (m : MethodId) (x0 : Int64) (x1 : Int64) : entryFrame m #[(.long x0), (.long x1)] 4 = mkF m 0 #[.val (.long x0), .second, .val (.long x1), .second] [] := by first | (simp [entryFrame, mkF, argsToLocals, Value.category]; done) | rfl
set_option maxRecDepth 65536 in
set_option maxHeartbeats 40000000 in
theorem rmMin (l : Launch) (Z : State) (a0 : Array Value) (hw : ∀ d ∈ tables_1, d.before a0 Z = true) (p1 p2 : Int64) (h0 : Heap) (n0 : Nat)  :
    CM l Z (⟨"java/lang/Math", "min", "(JJ)J"⟩ : MethodName) jdk_29_method_70_code 4 (some .long) ({ frames := 0, cells := 0, slots := 0, locals := 0 } : Room) #[(.long p1), (.long p2)] h0 n0 (fun v h => v = some (.long (mnL p1 p2)) ∧ h0 = h) := by
  refine own_enter (Jvm.Free.JP.mathPlain rfl (by decide +kernel)) ?_
  intro p e s m below meth c T0 hx hby hml hown hnm hZ hret hlk H0
  replace hown : s.vm.findClass "java/lang/Math" = some m.cls := hown
  replace hret : meth.sig.returnType = some .long := hret
  refine Go.via (fun t_ k_ => castTop (ef_rmMin m p1 p2) k_) ?_
  show Go _ _ _ _ (T0.setTop (mkF m 0 #[.val (.long p1), .second, .val (.long p2), .second] []))
  refine Go.via (fun t_ k_ => XS.lloadN H0.here hx rfl (hb hby d2_0) rfl k_) ?_
  show Go _ _ _ _ (T0.setTop (mkF m 1 #[.val (.long p1), .second, .val (.long p2), .second] [(.long p1)]))
  refine Go.via (fun t_ k_ => XS.lloadN H0.here hx rfl (hb hby d2_1) rfl k_) ?_
  show Go _ _ _ _ (T0.setTop (mkF m 2 #[.val (.long p1), .second, .val (.long p2), .second] [(.long p2), (.long p1)]))
  refine Go.via (fun t_ k_ => XS.lcmp H0.here hx rfl (hb hby d2_2) rfl k_) ?_
  show Go _ _ _ _ (T0.setTop (mkF m 3 #[.val (.long p1), .second, .val (.long p2), .second] [(.int (lcmpW p1 p2))]))
  by_cases hc3 : p2 < p1
  · refine Go.via (fun t_ k_ => XS.ifYes H0.here hx rfl (pc0 := 3) (pc' := 10) rfl (hb hby d2_3) rfl ((own_lgt hc3).1) (by decide) (by decide) k_) ?_
    show Go _ _ _ _ (T0.setTop (mkF m 10 #[.val (.long p1), .second, .val (.long p2), .second] []))
    refine Go.via (fun t_ k_ => XS.lloadN H0.here hx rfl (hb hby d2_10) rfl k_) ?_
    show Go _ _ _ _ (T0.setTop (mkF m 11 #[.val (.long p1), .second, .val (.long p2), .second] [(.long p2)]))
    exact own_retL H0 hx hlk hret (hb hby d2_11) ⟨by simp [mnL, eq_true hc3], rfl⟩ (by decide) (by decide)
  · refine Go.via (fun t_ k_ => XS.ifNo H0.here hx rfl (hb hby d2_3) rfl ((own_ngt hc3).1) k_) ?_
    show Go _ _ _ _ (T0.setTop (mkF m 6 #[.val (.long p1), .second, .val (.long p2), .second] []))
    refine Go.via (fun t_ k_ => XS.lloadN H0.here hx rfl (hb hby d2_6) rfl k_) ?_
    show Go _ _ _ _ (T0.setTop (mkF m 7 #[.val (.long p1), .second, .val (.long p2), .second] [(.long p1)]))
    refine Go.via (fun t_ k_ => XS.goto H0.here hx rfl (pc0 := 7) (pc' := 11) rfl (hb hby d2_7) (by decide) (by decide) k_) ?_
    show Go _ _ _ _ (T0.setTop (mkF m 11 #[.val (.long p1), .second, .val (.long p2), .second] [(.long p1)]))
    exact own_retL H0 hx hlk hret (hb hby d2_11) ⟨by simp [mnL, eq_false hc3], rfl⟩ (by decide) (by decide)
theorem d4_0 : decode jdk_29_method_66_code 0 = .ok (.lload_n 0, 1) := by decide +kernel
theorem d4_1 : decode jdk_29_method_66_code 1 = .ok (.lload_n 2, 1) := by decide +kernel
theorem d4_2 : decode jdk_29_method_66_code 2 = .ok (.lcmp, 1) := by decide +kernel
theorem d4_3 : decode jdk_29_method_66_code 3 = .ok (.ifCond .lt 7, 3) := by decide +kernel
theorem d4_6 : decode jdk_29_method_66_code 6 = .ok (.lload_n 0, 1) := by decide +kernel
theorem d4_7 : decode jdk_29_method_66_code 7 = .ok (.goto 4, 3) := by decide +kernel
theorem d4_10 : decode jdk_29_method_66_code 10 = .ok (.lload_n 2, 1) := by decide +kernel
theorem d4_11 : decode jdk_29_method_66_code 11 = .ok (.lreturn, 1) := by decide +kernel
theorem ef_rmMax (m : MethodId) (x0 : Int64) (x1 : Int64) : entryFrame m #[(.long x0), (.long x1)] 4 = mkF m 0 #[.val (.long x0), .second, .val (.long x1), .second] [] := by first | (simp [entryFrame, mkF, argsToLocals, Value.category]; done) | rfl
set_option maxRecDepth 65536 in
set_option maxHeartbeats 40000000 in
theorem rmMax (l : Launch) (Z : State) (a0 : Array Value) (hw : ∀ d ∈ tables_1, d.before a0 Z = true) (p1 p2 : Int64) (h0 : Heap) (n0 : Nat)  :
    CM l Z (⟨"java/lang/Math", "max", "(JJ)J"⟩ : MethodName) jdk_29_method_66_code 4 (some .long) ({ frames := 0, cells := 0, slots := 0, locals := 0 } : Room) #[(.long p1), (.long p2)] h0 n0 (fun v h => v = some (.long (mxL p1 p2)) ∧ h0 = h) := by
  refine own_enter (Jvm.Free.JP.mathPlain rfl (by decide +kernel)) ?_
  intro p e s m below meth c T0 hx hby hml hown hnm hZ hret hlk H0
  replace hown : s.vm.findClass "java/lang/Math" = some m.cls := hown
  replace hret : meth.sig.returnType = some .long := hret
  refine Go.via (fun t_ k_ => castTop (ef_rmMax m p1 p2) k_) ?_
  show Go _ _ _ _ (T0.setTop (mkF m 0 #[.val (.long p1), .second, .val (.long p2), .second] []))
  refine Go.via (fun t_ k_ => XS.lloadN H0.here hx rfl (hb hby d4_0) rfl k_) ?_
  show Go _ _ _ _ (T0.setTop (mkF m 1 #[.val (.long p1), .second, .val (.long p2), .second] [(.long p1)]))
  refine Go.via (fun t_ k_ => XS.lloadN H0.here hx rfl (hb hby d4_1) rfl k_) ?_
  show Go _ _ _ _ (T0.setTop (mkF m 2 #[.val (.long p1), .second, .val (.long p2), .second] [(.long p2), (.long p1)]))
  refine Go.via (fun t_ k_ => XS.lcmp H0.here hx rfl (hb hby d4_2) rfl k_) ?_
  show Go _ _ _ _ (T0.setTop (mkF m 3 #[.val (.long p1), .second, .val (.long p2), .second] [(.int (lcmpW p1 p2))]))
  by_cases hc3 : p1 < p2
  · refine Go.via (fun t_ k_ => XS.ifYes H0.here hx rfl (pc0 := 3) (pc' := 10) rfl (hb hby d4_3) rfl ((own_llt hc3).1) (by decide) (by decide) k_) ?_
    show Go _ _ _ _ (T0.setTop (mkF m 10 #[.val (.long p1), .second, .val (.long p2), .second] []))
    refine Go.via (fun t_ k_ => XS.lloadN H0.here hx rfl (hb hby d4_10) rfl k_) ?_
    show Go _ _ _ _ (T0.setTop (mkF m 11 #[.val (.long p1), .second, .val (.long p2), .second] [(.long p2)]))
    exact own_retL H0 hx hlk hret (hb hby d4_11) ⟨by simp [mxL, eq_true hc3], rfl⟩ (by decide) (by decide)
  · refine Go.via (fun t_ k_ => XS.ifNo H0.here hx rfl (hb hby d4_3) rfl ((own_nlt hc3).1) k_) ?_
    show Go _ _ _ _ (T0.setTop (mkF m 6 #[.val (.long p1), .second, .val (.long p2), .second] []))
    refine Go.via (fun t_ k_ => XS.lloadN H0.here hx rfl (hb hby d4_6) rfl k_) ?_
    show Go _ _ _ _ (T0.setTop (mkF m 7 #[.val (.long p1), .second, .val (.long p2), .second] [(.long p1)]))
    refine Go.via (fun t_ k_ => XS.goto H0.here hx rfl (pc0 := 7) (pc' := 11) rfl (hb hby d4_7) (by decide) (by decide) k_) ?_
    show Go _ _ _ _ (T0.setTop (mkF m 11 #[.val (.long p1), .second, .val (.long p2), .second] [(.long p1)]))
    exact own_retL H0 hx hlk hret (hb hby d4_11) ⟨by simp [mxL, eq_false hc3], rfl⟩ (by decide) (by decide)
theorem d1_0 : decode method_2_code 0 = .ok (.lload_n 0, 1) := by decide +kernel
theorem d1_1 : decode method_2_code 1 = .ok (.lload_n 2, 1) := by decide +kernel
theorem d1_2 : decode method_2_code 2 = .ok (.lcmp, 1) := by decide +kernel
theorem d1_3 : decode method_2_code 3 = .ok (.ifCond .ne 19, 3) := by decide +kernel
theorem d1_6 : decode method_2_code 6 = .ok (.lload_n 0, 1) := by decide +kernel
theorem d1_7 : decode method_2_code 7 = .ok (.ldc2_w 9, 3) := by decide +kernel
theorem d1_10 : decode method_2_code 10 = .ok (.lcmp, 1) := by decide +kernel
theorem d1_11 : decode method_2_code 11 = .ok (.ifCond .ne 9, 3) := by decide +kernel
theorem d1_14 : decode method_2_code 14 = .ok (.lload_n 0, 1) := by decide +kernel
theorem d1_15 : decode method_2_code 15 = .ok (.lconst 1, 1) := by decide +kernel
theorem d1_16 : decode method_2_code 16 = .ok (.lsub, 1) := by decide +kernel
theorem d1_17 : decode method_2_code 17 = .ok (.goto 4, 3) := by decide +kernel
theorem d1_20 : decode method_2_code 20 = .ok (.lload_n 0, 1) := by decide +kernel
theorem d1_21 : decode method_2_code 21 = .ok (.lreturn, 1) := by decide +kernel
theorem d1_22 : decode method_2_code 22 = .ok (.lload_n 0, 1) := by decide +kernel
theorem d1_23 : decode method_2_code 23 = .ok (.lload_n 2, 1) := by decide +kernel
theorem d1_24 : decode method_2_code 24 = .ok (.invokestatic 11, 3) := by decide +kernel
theorem d1_27 : decode method_2_code 27 = .ok (.lreturn, 1) := by decide +kernel
theorem ef_rmLow (m : MethodId) (x0 : Int64) (x1 : Int64) : entryFrame m #[(.long x0), (.long x1)] 4 = mkF m 0 #[.val (.long x0), .second, .val (.long x1), .second] [] := by first | (simp [entryFrame, mkF, argsToLocals, Value.category]; done) | rfl
theorem pd_0 : parseMethodDescriptor "(JJ)J" = some ⟨[.long, .long], some .long⟩ := by decide +kernel
set_option maxRecDepth 65536 in
set_option maxHeartbeats 40000000 in
theorem rmLow (l : Launch) (Z : State) (a0 : Array Value) (hw : ∀ d ∈ tables_1, d.before a0 Z = true) (p1 p2 : Int64) (h0 : Heap) (n0 : Nat)  :
    CM l Z (⟨"com/example/tidy_balancer/tidybalancer/model/BundleRangeEqualsPinLaw", "lowOf", "(JJ)J"⟩ : MethodName) method_2_code 4 (some .long) ({ frames := 1, cells := 0, slots := 0, locals := 15 } : Room) #[(.long p1), (.long p2)] h0 n0 (fun v h => v = some (.long (lowF p1 p2)) ∧ h0 = h) := by
  refine own_enter (by decide +kernel) ?_
  intro p e s m below meth c T0 hx hby hml hown hnm hZ hret hlk H0
  replace hown : s.vm.findClass "com/example/tidy_balancer/tidybalancer/model/BundleRangeEqualsPinLaw" = some m.cls := hown
  replace hret : meth.sig.returnType = some .long := hret
  refine Go.via (fun t_ k_ => castTop (ef_rmLow m p1 p2) k_) ?_
  show Go _ _ _ _ (T0.setTop (mkF m 0 #[.val (.long p1), .second, .val (.long p2), .second] []))
  refine Go.via (fun t_ k_ => XS.lloadN H0.here hx rfl (hb hby d1_0) rfl k_) ?_
  show Go _ _ _ _ (T0.setTop (mkF m 1 #[.val (.long p1), .second, .val (.long p2), .second] [(.long p1)]))
  refine Go.via (fun t_ k_ => XS.lloadN H0.here hx rfl (hb hby d1_1) rfl k_) ?_
  show Go _ _ _ _ (T0.setTop (mkF m 2 #[.val (.long p1), .second, .val (.long p2), .second] [(.long p2), (.long p1)]))
  refine Go.via (fun t_ k_ => XS.lcmp H0.here hx rfl (hb hby d1_2) rfl k_) ?_
  show Go _ _ _ _ (T0.setTop (mkF m 3 #[.val (.long p1), .second, .val (.long p2), .second] [(.int (lcmpW p1 p2))]))
  by_cases hc3 : p1 = p2
  · refine Go.via (fun t_ k_ => XS.ifNo H0.here hx rfl (hb hby d1_3) rfl ((own_leq hc3).2) k_) ?_
    show Go _ _ _ _ (T0.setTop (mkF m 6 #[.val (.long p1), .second, .val (.long p2), .second] []))
    refine Go.via (fun t_ k_ => XS.lloadN H0.here hx rfl (hb hby d1_6) rfl k_) ?_
    show Go _ _ _ _ (T0.setTop (mkF m 7 #[.val (.long p1), .second, .val (.long p2), .second] [(.long p1)]))
    refine own_ldcL H0 hx hZ hown (hw _ (List.mem_of_getElem? (i := 0) rfl)) (g := (mkF m 7 #[.val (.long p1), .second, .val (.long p2), .second] [(.long p1)])) rfl (hb hby d1_7) ?_
    show Go _ _ _ _ (T0.setTop (mkF m 10 #[.val (.long p1), .second, .val (.long p2), .second] [(.long (4294967295 : Int64)), (.long p1)]))
    refine Go.via (fun t_ k_ => XS.lcmp H0.here hx rfl (hb hby d1_10) rfl k_) ?_
    show Go _ _ _ _ (T0.setTop (mkF m 11 #[.val (.long p1), .second, .val (.long p2), .second] [(.int (lcmpW p1 (4294967295 : Int64)))]))
    by_cases hc11 : p1 = (4294967295 : Int64)
    · refine Go.via (fun t_ k_ => XS.ifNo H0.here hx rfl (hb hby d1_11) rfl ((own_leq hc11).2) k_) ?_
      show Go _ _ _ _ (T0.setTop (mkF m 14 #[.val (.long p1), .second, .val (.long p2), .second] []))
      refine Go.via (fun t_ k_ => XS.lloadN H0.here hx rfl (hb hby d1_14) rfl k_) ?_
      show Go _ _ _ _ (T0.setTop (mkF m 15 #[.val (.long p1), .second, .val (.long p2), .second] [(.long p1)]))
      refine Go.via (fun t_ k_ => XS.lconst H0.here hx rfl (hb hby d1_15) k_) ?_
      show Go _ _ _ _ (T0.setTop (mkF m 16 #[.val (.long p1), .second, .val (.long p2), .second] [(.long (1 : Int64)), (.long p1)]))
      refine Go.via (fun t_ k_ => XS.lsub H0.here hx rfl (hb hby d1_16) rfl k_) ?_
      show Go _ _ _ _ (T0.setTop (mkF m 17 #[.val (.long p1), .second, .val (.long p2), .second] [(.long (p1 - (1 : Int64)))]))
      refine Go.via (fun t_ k_ => XS.goto H0.here hx rfl (pc0 := 17) (pc' := 21) rfl (hb hby d1_17) (by decide) (by decide) k_) ?_
      show Go _ _ _ _ (T0.setTop (mkF m 21 #[.val (.long p1), .second, .val (.long p2), .second] [(.long (p1 - (1 : Int64)))]))
      exact own_retL H0 hx hlk hret (hb hby d1_21) ⟨by simp [lowF, eq_true hc3, eq_true hc11], rfl⟩ (by decide) (by decide)
    · refine Go.via (fun t_ k_ => XS.ifYes H0.here hx rfl (pc0 := 11) (pc' := 20) rfl (hb hby d1_11) rfl ((own_neq hc11).2) (by decide) (by decide) k_) ?_
      show Go _ _ _ _ (T0.setTop (mkF m 20 #[.val (.long p1), .second, .val (.long p2), .second] []))
      refine Go.via (fun t_ k_ => XS.lloadN H0.here hx rfl (hb hby d1_20) rfl k_) ?_
      show Go _ _ _ _ (T0.setTop (mkF m 21 #[.val (.long p1), .second, .val (.long p2), .second] [(.long p1)]))
      exact own_retL H0 hx hlk hret (hb hby d1_21) ⟨by simp [lowF, eq_true hc3, eq_false hc11], rfl⟩ (by decide) (by decide)
  · refine Go.via (fun t_ k_ => XS.ifYes H0.here hx rfl (pc0 := 3) (pc' := 22) rfl (hb hby d1_3) rfl ((own_neq hc3).2) (by decide) (by decide) k_) ?_
    show Go _ _ _ _ (T0.setTop (mkF m 22 #[.val (.long p1), .second, .val (.long p2), .second] []))
    refine Go.via (fun t_ k_ => XS.lloadN H0.here hx rfl (hb hby d1_22) rfl k_) ?_
    show Go _ _ _ _ (T0.setTop (mkF m 23 #[.val (.long p1), .second, .val (.long p2), .second] [(.long p1)]))
    refine Go.via (fun t_ k_ => XS.lloadN H0.here hx rfl (hb hby d1_23) rfl k_) ?_
    show Go _ _ _ _ (T0.setTop (mkF m 24 #[.val (.long p1), .second, .val (.long p2), .second] [(.long p2), (.long p1)]))
    refine own_callS H0 hx hZ (y := (⟨"java/lang/Math", "min", "(JJ)J"⟩ : MethodName)) hown (hw _ (List.mem_of_getElem? (i := 5) rfl)) (hw _ (List.mem_of_getElem? (i := 6) rfl)) (hw _ (List.mem_of_getElem? (i := 7) rfl)) (hw _ (List.mem_of_getElem? (i := 8) rfl)) (by decide) (rmMin l Z a0 hw p1 p2 h0 n0) (g := (mkF m 24 #[.val (.long p1), .second, .val (.long p2), .second] [(.long p2), (.long p1)])) rfl (by rw [hml]; rfl) (argsL := [(.long p1), (.long p2)]) (rest := []) (lenOf pd_0 rfl) rfl 0 (Nat.le_of_eq rfl) (hb hby d1_24) (by decide) (by decide) (by decide) (by decide) ?_
    rintro _ T1 _ ⟨rfl, rfl⟩ H1
    show Go _ _ _ _ (T1.setTop (mkF m 27 #[.val (.long p1), .second, .val (.long p2), .second] [(.long (mnL p1 p2))]))
    exact own_retL H1 hx hlk hret (hb hby d1_27) ⟨by simp [lowF, eq_false hc3], rfl⟩ (by decide) (by decide)
theorem d3_0 : decode method_3_code 0 = .ok (.lload_n 0, 1) := by decide +kernel
theorem d3_1 : decode method_3_code 1 = .ok (.lload_n 2, 1) := by decide +kernel
theorem d3_2 : decode method_3_code 2 = .ok (.lcmp, 1) := by decide +kernel
theorem d3_3 : decode method_3_code 3 = .ok (.ifCond .ne 19, 3) := by decide +kernel
theorem d3_6 : decode method_3_code 6 = .ok (.lload_n 0, 1) := by decide +kernel
theorem d3_7 : decode method_3_code 7 = .ok (.ldc2_w 9, 3) := by decide +kernel
theorem d3_10 : decode method_3_code 10 = .ok (.lcmp, 1) := by decide +kernel
theorem d3_11 : decode method_3_code 11 = .ok (.ifCond .ne 7, 3) := by decide +kernel
theorem d3_14 : decode method_3_code 14 = .ok (.lload_n 0, 1) := by decide +kernel
theorem d3_15 : decode method_3_code 15 = .ok (.goto 6, 3) := by decide +kernel
theorem d3_18 : decode method_3_code 18 = .ok (.lload_n 0, 1) := by decide +kernel
theorem d3_19 : decode method_3_code 19 = .ok (.lconst 1, 1) := by decide +kernel
theorem d3_20 : decode method_3_code 20 = .ok (.ladd, 1) := by decide +kernel
theorem d3_21 : decode method_3_code 21 = .ok (.lreturn, 1) := by decide +kernel
theorem d3_22 : decode method_3_code 22 = .ok (.lload_n 0, 1) := by decide +kernel
theorem d3_23 : decode method_3_code 23 = .ok (.lload_n 2, 1) := by decide +kernel
theorem d3_24 : decode method_3_code 24 = .ok (.invokestatic 17, 3) := by decide +kernel
theorem d3_27 : decode method_3_code 27 = .ok (.lreturn, 1) := by decide +kernel
theorem ef_rmHigh (m : MethodId) (x0 : Int64) (x1 : Int64) : entryFrame m #[(.long x0), (.long x1)] 4 = mkF m 0 #[.val (.long x0), .second, .val (.long x1), .second] [] := by first | (simp [entryFrame, mkF, argsToLocals, Value.category]; done) | rfl
set_option maxRecDepth 65536 in
set_option maxHeartbeats 40000000 in
theorem rmHigh (l : Launch) (Z : State) (a0 : Array Value) (hw : ∀ d ∈ tables_1, d.before a0 Z = true) (p1 p2 : Int64) (h0 : Heap) (n0 : Nat)  :
    CM l Z (⟨"com/example/tidy_balancer/tidybalancer/model/BundleRangeEqualsPinLaw", "highOf", "(JJ)J"⟩ : MethodName) method_3_code 4 (some .long) ({ frames := 1, cells := 0, slots := 0, locals := 15 } : Room) #[(.long p1), (.long p2)] h0 n0 (fun v h => v = some (.long (highF p1 p2)) ∧ h0 = h) := by
  refine own_enter (by decide +kernel) ?_
  intro p e s m below meth c T0 hx hby hml hown hnm hZ hret hlk H0
  replace hown : s.vm.findClass "com/example/tidy_balancer/tidybalancer/model/BundleRangeEqualsPinLaw" = some m.cls := hown
  replace hret : meth.sig.returnType = some .long := hret
  refine Go.via (fun t_ k_ => castTop (ef_rmHigh m p1 p2) k_) ?_
  show Go _ _ _ _ (T0.setTop (mkF m 0 #[.val (.long p1), .second, .val (.long p2), .second] []))
  refine Go.via (fun t_ k_ => XS.lloadN H0.here hx rfl (hb hby d3_0) rfl k_) ?_
  show Go _ _ _ _ (T0.setTop (mkF m 1 #[.val (.long p1), .second, .val (.long p2), .second] [(.long p1)]))
  refine Go.via (fun t_ k_ => XS.lloadN H0.here hx rfl (hb hby d3_1) rfl k_) ?_
  show Go _ _ _ _ (T0.setTop (mkF m 2 #[.val (.long p1), .second, .val (.long p2), .second] [(.long p2), (.long p1)]))
  refine Go.via (fun t_ k_ => XS.lcmp H0.here hx rfl (hb hby d3_2) rfl k_) ?_
  show Go _ _ _ _ (T0.setTop (mkF m 3 #[.val (.long p1), .second, .val (.long p2), .second] [(.int (lcmpW p1 p2))]))
  by_cases hc3 : p1 = p2
  · refine Go.via (fun t_ k_ => XS.ifNo H0.here hx rfl (hb hby d3_3) rfl ((own_leq hc3).2) k_) ?_
    show Go _ _ _ _ (T0.setTop (mkF m 6 #[.val (.long p1), .second, .val (.long p2), .second] []))
    refine Go.via (fun t_ k_ => XS.lloadN H0.here hx rfl (hb hby d3_6) rfl k_) ?_
    show Go _ _ _ _ (T0.setTop (mkF m 7 #[.val (.long p1), .second, .val (.long p2), .second] [(.long p1)]))
    refine own_ldcL H0 hx hZ hown (hw _ (List.mem_of_getElem? (i := 0) rfl)) (g := (mkF m 7 #[.val (.long p1), .second, .val (.long p2), .second] [(.long p1)])) rfl (hb hby d3_7) ?_
    show Go _ _ _ _ (T0.setTop (mkF m 10 #[.val (.long p1), .second, .val (.long p2), .second] [(.long (4294967295 : Int64)), (.long p1)]))
    refine Go.via (fun t_ k_ => XS.lcmp H0.here hx rfl (hb hby d3_10) rfl k_) ?_
    show Go _ _ _ _ (T0.setTop (mkF m 11 #[.val (.long p1), .second, .val (.long p2), .second] [(.int (lcmpW p1 (4294967295 : Int64)))]))
    by_cases hc11 : p1 = (4294967295 : Int64)
    · refine Go.via (fun t_ k_ => XS.ifNo H0.here hx rfl (hb hby d3_11) rfl ((own_leq hc11).2) k_) ?_
      show Go _ _ _ _ (T0.setTop (mkF m 14 #[.val (.long p1), .second, .val (.long p2), .second] []))
      refine Go.via (fun t_ k_ => XS.lloadN H0.here hx rfl (hb hby d3_14) rfl k_) ?_
      show Go _ _ _ _ (T0.setTop (mkF m 15 #[.val (.long p1), .second, .val (.long p2), .second] [(.long p1)]))
      refine Go.via (fun t_ k_ => XS.goto H0.here hx rfl (pc0 := 15) (pc' := 21) rfl (hb hby d3_15) (by decide) (by decide) k_) ?_
      show Go _ _ _ _ (T0.setTop (mkF m 21 #[.val (.long p1), .second, .val (.long p2), .second] [(.long p1)]))
      exact own_retL H0 hx hlk hret (hb hby d3_21) ⟨by simp [highF, eq_true hc3, eq_true hc11], rfl⟩ (by decide) (by decide)
    · refine Go.via (fun t_ k_ => XS.ifYes H0.here hx rfl (pc0 := 11) (pc' := 18) rfl (hb hby d3_11) rfl ((own_neq hc11).2) (by decide) (by decide) k_) ?_
      show Go _ _ _ _ (T0.setTop (mkF m 18 #[.val (.long p1), .second, .val (.long p2), .second] []))
      refine Go.via (fun t_ k_ => XS.lloadN H0.here hx rfl (hb hby d3_18) rfl k_) ?_
      show Go _ _ _ _ (T0.setTop (mkF m 19 #[.val (.long p1), .second, .val (.long p2), .second] [(.long p1)]))
      refine Go.via (fun t_ k_ => XS.lconst H0.here hx rfl (hb hby d3_19) k_) ?_
      show Go _ _ _ _ (T0.setTop (mkF m 20 #[.val (.long p1), .second, .val (.long p2), .second] [(.long (1 : Int64)), (.long p1)]))
      refine Go.via (fun t_ k_ => XS.ladd H0.here hx rfl (hb hby d3_20) rfl k_) ?_
      show Go _ _ _ _ (T0.setTop (mkF m 21 #[.val (.long p1), .second, .val (.long p2), .second] [(.long (p1 + (1 : Int64)))]))
      exact own_retL H0 hx hlk hret (hb hby d3_21) ⟨by simp [highF, eq_true hc3, eq_false hc11], rfl⟩ (by decide) (by decide)
  · refine Go.via (fun t_ k_ => XS.ifYes H0.here hx rfl (pc0 := 3) (pc' := 22) rfl (hb hby d3_3) rfl ((own_neq hc3).2) (by decide) (by decide) k_) ?_
    show Go _ _ _ _ (T0.setTop (mkF m 22 #[.val (.long p1), .second, .val (.long p2), .second] []))
    refine Go.via (fun t_ k_ => XS.lloadN H0.here hx rfl (hb hby d3_22) rfl k_) ?_
    show Go _ _ _ _ (T0.setTop (mkF m 23 #[.val (.long p1), .second, .val (.long p2), .second] [(.long p1)]))
    refine Go.via (fun t_ k_ => XS.lloadN H0.here hx rfl (hb hby d3_23) rfl k_) ?_
    show Go _ _ _ _ (T0.setTop (mkF m 24 #[.val (.long p1), .second, .val (.long p2), .second] [(.long p2), (.long p1)]))
    refine own_callS H0 hx hZ (y := (⟨"java/lang/Math", "max", "(JJ)J"⟩ : MethodName)) hown (hw _ (List.mem_of_getElem? (i := 12) rfl)) (hw _ (List.mem_of_getElem? (i := 13) rfl)) (hw _ (List.mem_of_getElem? (i := 7) rfl)) (hw _ (List.mem_of_getElem? (i := 14) rfl)) (by decide) (rmMax l Z a0 hw p1 p2 h0 n0) (g := (mkF m 24 #[.val (.long p1), .second, .val (.long p2), .second] [(.long p2), (.long p1)])) rfl (by rw [hml]; rfl) (argsL := [(.long p1), (.long p2)]) (rest := []) (lenOf pd_0 rfl) rfl 0 (Nat.le_of_eq rfl) (hb hby d3_24) (by decide) (by decide) (by decide) (by decide) ?_
    rintro _ T1 _ ⟨rfl, rfl⟩ H1
    show Go _ _ _ _ (T1.setTop (mkF m 27 #[.val (.long p1), .second, .val (.long p2), .second] [(.long (mxL p1 p2))]))
    exact own_retL H1 hx hlk hret (hb hby d3_27) ⟨by simp [highF, eq_false hc3], rfl⟩ (by decide) (by decide)
theorem d5_0 : decode prog_29_method_1_code 0 = .ok (.aload_n 0, 1) := by decide +kernel
theorem d5_1 : decode prog_29_method_1_code 1 = .ok (.invokespecial 1, 3) := by decide +kernel
theorem d5_4 : decode prog_29_method_1_code 4 = .ok (.lload_n 1, 1) := by decide +kernel
theorem d5_5 : decode prog_29_method_1_code 5 = .ok (.lconst 0, 1) := by decide +kernel
theorem d5_6 : decode prog_29_method_1_code 6 = .ok (.lcmp, 1) := by decide +kernel
theorem d5_7 : decode prog_29_method_1_code 7 = .ok (.ifCond .lt 17, 3) := by decide +kernel
theorem d5_10 : decode prog_29_method_1_code 10 = .ok (.lload_n 3, 1) := by decide +kernel
theorem d5_11 : decode prog_29_method_1_code 11 = .ok (.ldc2_w 9, 3) := by decide +kernel
theorem d5_14 : decode prog_29_method_1_code 14 = .ok (.lcmp, 1) := by decide +kernel
theorem d5_15 : decode prog_29_method_1_code 15 = .ok (.ifCond .gt 9, 3) := by decide +kernel
theorem d5_18 : decode prog_29_method_1_code 18 = .ok (.lload_n 1, 1) := by decide +kernel
theorem d5_19 : decode prog_29_method_1_code 19 = .ok (.lload_n 3, 1) := by decide +kernel
theorem d5_20 : decode prog_29_method_1_code 20 = .ok (.lcmp, 1) := by decide +kernel
theorem d5_21 : decode prog_29_method_1_code 21 = .ok (.ifCond .lt 24, 3) := by decide +kernel
theorem d5_24 : decode prog_29_method_1_code 24 = .ok (.new 11, 3) := by decide +kernel
theorem d5_27 : decode prog_29_method_1_code 27 = .ok (.dup, 1) := by decide +kernel
theorem d5_28 : decode prog_29_method_1_code 28 = .ok (.lload_n 1, 1) := by decide +kernel
theorem d5_29 : decode prog_29_method_1_code 29 = .ok (.invokestatic 13, 3) := by decide +kernel
theorem d5_32 : decode prog_29_method_1_code 32 = .ok (.lload_n 3, 1) := by decide +kernel
theorem d5_33 : decode prog_29_method_1_code 33 = .ok (.invokestatic 13, 3) := by decide +kernel
theorem d5_41 : decode prog_29_method_1_code 41 = .ok (.invokespecial 23, 3) := by decide +kernel
theorem d5_44 : decode prog_29_method_1_code 44 = .ok (.athrow, 1) := by decide +kernel
theorem d5_45 : decode prog_29_method_1_code 45 = .ok (.aload_n 0, 1) := by decide +kernel
theorem d5_46 : decode prog_29_method_1_code 46 = .ok (.lload_n 1, 1) := by decide +kernel
theorem d5_47 : decode prog_29_method_1_code 47 = .ok (.putfield 26, 3) := by decide +kernel
theorem d5_50 : decode prog_29_method_1_code 50 = .ok (.aload_n 0, 1) := by decide +kernel
theorem d5_51 : decode prog_29_method_1_code 51 = .ok (.lload_n 3, 1) := by decide +kernel
theorem d5_52 : decode prog_29_method_1_code 52 = .ok (.putfield 32, 3) := by decide +kernel
theorem d5_55 : decode prog_29_method_1_code 55 = .ok (.return_, 1) := by decide +kernel
theorem ef_rmInit (m : MethodId) (x0 : Addr) (x1 : Int64) (x2 : Int64) : entryFrame m #[(.ref x0), (.long x1), (.long x2)] 5 = mkF m 0 #[.val (.ref x0), .val (.long x1), .second, .val (.long x2), .second] [] := by first | (simp [entryFrame, mkF, argsToLocals, Value.category]; done) | rfl
set_option maxRecDepth 65536 in
set_option maxHeartbeats 40000000 in
theorem rmInit (l : Launch) (Z : State) (a0 : Array Value) (hw : ∀ d ∈ tables_1, d.before a0 Z = true) (a : Addr) (p1 p2 : Int64) (h0 : Heap) (n0 : Nat) (Fl : Fld Z h0 a "com/example/tidy_balancer/tidybalancer/model/BundleRange" "lower" "J" (.long (0 : Int64))) (Fu : Fld Z h0 a "com/example/tidy_balancer/tidybalancer/model/BundleRange" "upper" "J" (.long (0 : Int64))) (E : Exa Z h0 a "com/example/tidy_balancer/tidybalancer/model/BundleRange") (g : n0 ≤ a) (q : ¬ p1 < 0 ∧ p1 < p2 ∧ ¬ (4294967295 : Int64) < p2) :
    CM l Z (⟨"com/example/tidy_balancer/tidybalancer/model/BundleRange", "<init>", "(JJ)V"⟩ : MethodName) prog_29_method_1_code 5 none ({ frames := 1, cells := 0, slots := 0, locals := 12 } : Room) #[(.ref a), (.long p1), (.long p2)] h0 n0 (fun v h => v = none ∧ Keep h0 h [a] ∧ Exa Z h a "com/example/tidy_balancer/tidybalancer/model/BundleRange" ∧ Fld Z h a "com/example/tidy_balancer/tidybalancer/model/BundleRange" "lower" "J" (.long p1) ∧ Fld Z h a "com/example/tidy_balancer/tidybalancer/model/BundleRange" "upper" "J" (.long p2)) := by
  refine own_enter (by decide +kernel) ?_
  intro p e s m below meth c T0 hx hby hml hown hnm hZ hret hlk H0
  replace hown : s.vm.findClass "com/example/tidy_balancer/tidybalancer/model/BundleRange" = some m.cls := hown
  replace hret : meth.sig.returnType = none := hret
  refine Go.via (fun t_ k_ => castTop (ef_rmInit m a p1 p2) k_) ?_
  show Go _ _ _ _ (T0.setTop (mkF m 0 #[.val (.ref a), .val (.long p1), .second, .val (.long p2), .second] []))
  refine Go.via (fun t_ k_ => XS.aloadN H0.here hx rfl (hb hby d5_0) rfl rfl k_) ?_
  show Go _ _ _ _ (T0.setTop (mkF m 1 #[.val (.ref a), .val (.long p1), .second, .val (.long p2), .second] [(.ref a)]))
  refine own_initO H0 hx hZ hown (hw _ (List.mem_of_getElem? (i := 21) rfl)) (hw _ (List.mem_of_getElem? (i := 22) rfl)) (hw _ (List.mem_of_getElem? (i := 23) rfl)) (g := (mkF m 1 #[.val (.ref a), .val (.long p1), .second, .val (.long p2), .second] [(.ref a)])) rfl (by rw [hml]; rfl) rfl (hb hby d5_1) (by decide) 0 (Nat.le_of_eq rfl) (by decide) ?_
  intro T1 H1
  show Go _ _ _ _ (T1.setTop (mkF m 4 #[.val (.ref a), .val (.long p1), .second, .val (.long p2), .second] []))
  refine Go.via (fun t_ k_ => XS.lloadN H1.here hx rfl (hb hby d5_4) rfl k_) ?_
  show Go _ _ _ _ (T1.setTop (mkF m 5 #[.val (.ref a), .val (.long p1), .second, .val (.long p2), .second] [(.long p1)]))
  refine Go.via (fun t_ k_ => XS.lconst H1.here hx rfl (hb hby d5_5) k_) ?_
  show Go _ _ _ _ (T1.setTop (mkF m 6 #[.val (.ref a), .val (.long p1), .second, .val (.long p2), .second] [(.long (0 : Int64)), (.long p1)]))
  refine Go.via (fun t_ k_ => XS.lcmp H1.here hx rfl (hb hby d5_6) rfl k_) ?_
  show Go _ _ _ _ (T1.setTop (mkF m 7 #[.val (.ref a), .val (.long p1), .second, .val (.long p2), .second] [(.int (lcmpW p1 (0 : Int64)))]))
  refine Go.via (fun t_ k_ => XS.ifNo H1.here hx rfl (hb hby d5_7) rfl ((own_nlt (show ¬ (p1 < (0 : Int64)) from q.1)).1) k_) ?_
  show Go _ _ _ _ (T1.setTop (mkF m 10 #[.val (.ref a), .val (.long p1), .second, .val (.long p2), .second] []))
  refine Go.via (fun t_ k_ => XS.lloadN H1.here hx rfl (hb hby d5_10) rfl k_) ?_
  show Go _ _ _ _ (T1.setTop (mkF m 11 #[.val (.ref a), .val (.long p1), .second, .val (.long p2), .second] [(.long p2)]))
  refine own_ldcL H1 hx hZ hown (hw _ (List.mem_of_getElem? (i := 24) rfl)) (g := (mkF m 11 #[.val (.ref a), .val (.long p1), .second, .val (.long p2), .second] [(.long p2)])) rfl (hb hby d5_11) ?_
  show Go _ _ _ _ (T1.setTop (mkF m 14 #[.val (.ref a), .val (.long p1), .second, .val (.long p2), .second] [(.long (4294967295 : Int64)), (.long p2)]))
  refine Go.via (fun t_ k_ => XS.lcmp H1.here hx rfl (hb hby d5_14) rfl k_) ?_
  show Go _ _ _ _ (T1.setTop (mkF m 15 #[.val (.ref a), .val (.long p1), .second, .val (.long p2), .second] [(.int (lcmpW p2 (4294967295 : Int64)))]))
  refine Go.via (fun t_ k_ => XS.ifNo H1.here hx rfl (hb hby d5_15) rfl ((own_ngt (show ¬ ((4294967295 : Int64) < p2) from q.2.2)).1) k_) ?_
  show Go _ _ _ _ (T1.setTop (mkF m 18 #[.val (.ref a), .val (.long p1), .second, .val (.long p2), .second] []))
  refine Go.via (fun t_ k_ => XS.lloadN H1.here hx rfl (hb hby d5_18) rfl k_) ?_
  show Go _ _ _ _ (T1.setTop (mkF m 19 #[.val (.ref a), .val (.long p1), .second, .val (.long p2), .second] [(.long p1)]))
  refine Go.via (fun t_ k_ => XS.lloadN H1.here hx rfl (hb hby d5_19) rfl k_) ?_
  show Go _ _ _ _ (T1.setTop (mkF m 20 #[.val (.ref a), .val (.long p1), .second, .val (.long p2), .second] [(.long p2), (.long p1)]))
  refine Go.via (fun t_ k_ => XS.lcmp H1.here hx rfl (hb hby d5_20) rfl k_) ?_
  show Go _ _ _ _ (T1.setTop (mkF m 21 #[.val (.ref a), .val (.long p1), .second, .val (.long p2), .second] [(.int (lcmpW p1 p2))]))
  refine Go.via (fun t_ k_ => XS.ifYes H1.here hx rfl (pc0 := 21) (pc' := 45) rfl (hb hby d5_21) rfl ((own_llt (show p1 < p2 from q.2.1)).1) (by decide) (by decide) k_) ?_
  show Go _ _ _ _ (T1.setTop (mkF m 45 #[.val (.ref a), .val (.long p1), .second, .val (.long p2), .second] []))
  refine Go.via (fun t_ k_ => XS.aloadN H1.here hx rfl (hb hby d5_45) rfl rfl k_) ?_
  show Go _ _ _ _ (T1.setTop (mkF m 46 #[.val (.ref a), .val (.long p1), .second, .val (.long p2), .second] [(.ref a)]))
  refine Go.via (fun t_ k_ => XS.lloadN H1.here hx rfl (hb hby d5_46) rfl k_) ?_
  show Go _ _ _ _ (T1.setTop (mkF m 47 #[.val (.ref a), .val (.long p1), .second, .val (.long p2), .second] [(.long p1), (.ref a)]))
  refine own_putF H1 hx hZ hown (hw _ (List.mem_of_getElem? (i := 25) rfl)) Fl E (Or.inr ⟨(hw _ (List.mem_of_getElem? (i := 26) rfl)), rfl, hnm⟩) (hw _ (List.mem_of_getElem? (i := 16) rfl)) g (ty := .long) (by decide) rfl rfl (g := (mkF m 47 #[.val (.ref a), .val (.long p1), .second, .val (.long p2), .second] [(.long p1), (.ref a)])) rfl rfl (hb hby d5_47) ?_
  intro T2 h2 W2 H2
  have F2_lower := Fl.same W2
  have K2 := ((Keep.refl h0 [a])).wr W2 (Or.inl (List.mem_of_getElem? (i := 0) rfl))
  show Go _ _ _ _ (T2.setTop (mkF m 50 #[.val (.ref a), .val (.long p1), .second, .val (.long p2), .second] []))
  refine Go.via (fun t_ k_ => XS.aloadN H2.here hx rfl (hb hby d5_50) rfl rfl k_) ?_
  show Go _ _ _ _ (T2.setTop (mkF m 51 #[.val (.ref a), .val (.long p1), .second, .val (.long p2), .second] [(.ref a)]))
  refine Go.via (fun t_ k_ => XS.lloadN H2.here hx rfl (hb hby d5_51) rfl k_) ?_
  show Go _ _ _ _ (T2.setTop (mkF m 52 #[.val (.ref a), .val (.long p1), .second, .val (.long p2), .second] [(.long p2), (.ref a)]))
  refine own_putF H2 hx hZ hown (hw _ (List.mem_of_getElem? (i := 27) rfl)) (Fu.other W2 (Or.inr (slot_ne (Or.inr (hw _ (List.mem_of_getElem? (i := 28) rfl))) (Or.inr (hw _ (List.mem_of_getElem? (i := 26) rfl))) (by decide) (t := .long) (t' := .long) (by decide) (by decide)))) (E.wr W2) (Or.inr ⟨(hw _ (List.mem_of_getElem? (i := 28) rfl)), rfl, hnm⟩) (hw _ (List.mem_of_getElem? (i := 16) rfl)) g (ty := .long) (by decide) rfl rfl (g := (mkF m 52 #[.val (.ref a), .val (.long p1), .second, .val (.long p2), .second] [(.long p2), (.ref a)])) rfl rfl (hb hby d5_52) ?_
  intro T3 h3 W3 H3
  have F3_upper := (Fu.other W2 (Or.inr (slot_ne (Or.inr (hw _ (List.mem_of_getElem? (i := 28) rfl))) (Or.inr (hw _ (List.mem_of_getElem? (i := 26) rfl))) (by decide) (t := .long) (t' := .long) (by decide) (by decide)))).same W3
  have K3 := (K2).wr W3 (Or.inl (List.mem_of_getElem? (i := 0) rfl))
  show Go _ _ _ _ (T3.setTop (mkF m 55 #[.val (.ref a), .val (.long p1), .second, .val (.long p2), .second] []))
  exact own_retV H3 hx hlk hret (hb hby d5_55) ⟨rfl, K3, ((E.wr W2).wr W3), (F2_lower.other W3 (Or.inr (slot_ne (Or.inr (hw _ (List.mem_of_getElem? (i := 26) rfl))) (Or.inr (hw _ (List.mem_of_getElem? (i := 28) rfl))) (by decide) (t := .long) (t' := .long) (by decide) (by decide)))), F3_upper⟩ (by decide) (by decide)
theorem d7_0 : decode prog_29_method_6_code 0 = .ok (.aload_n 1, 1) := by decide +kernel
theorem d7_1 : decode prog_29_method_6_code 1 = .ok (.instanceof 27, 3) := by decide +kernel
theorem d7_4 : decode prog_29_method_6_code 4 = .ok (.ifCond .eq 36, 3) := by decide +kernel
theorem d7_7 : decode prog_29_method_6_code 7 = .ok (.aload_n 1, 1) := by decide +kernel
theorem d7_8 : decode prog_29_method_6_code 8 = .ok (.checkcast 27, 3) := by decide +kernel
theorem d7_11 : decode prog_29_method_6_code 11 = .ok (.astore_n 2, 1) := by decide +kernel
theorem d7_12 : decode prog_29_method_6_code 12 = .ok (.aload_n 2, 1) := by decide +kernel
theorem d7_13 : decode prog_29_method_6_code 13 = .ok (.getfield 26, 3) := by decide +kernel
theorem d7_16 : decode prog_29_method_6_code 16 = .ok (.aload_n 0, 1) := by decide +kernel
theorem d7_17 : decode prog_29_method_6_code 17 = .ok (.getfield 26, 3) := by decide +kernel
theorem d7_20 : decode prog_29_method_6_code 20 = .ok (.lcmp, 1) := by decide +kernel
theorem d7_21 : decode prog_29_method_6_code 21 = .ok (.ifCond .ne 19, 3) := by decide +kernel
theorem d7_24 : decode prog_29_method_6_code 24 = .ok (.aload_n 2, 1) := by decide +kernel
theorem d7_25 : decode prog_29_method_6_code 25 = .ok (.getfield 32, 3) := by decide +kernel
theorem d7_28 : decode prog_29_method_6_code 28 = .ok (.aload_n 0, 1) := by decide +kernel
theorem d7_29 : decode prog_29_method_6_code 29 = .ok (.getfield 32, 3) := by decide +kernel
theorem d7_32 : decode prog_29_method_6_code 32 = .ok (.lcmp, 1) := by decide +kernel
theorem d7_33 : decode prog_29_method_6_code 33 = .ok (.ifCond .ne 7, 3) := by decide +kernel
theorem d7_36 : decode prog_29_method_6_code 36 = .ok (.iconst 1, 1) := by decide +kernel
theorem d7_37 : decode prog_29_method_6_code 37 = .ok (.goto 4, 3) := by decide +kernel
theorem d7_40 : decode prog_29_method_6_code 40 = .ok (.iconst 0, 1) := by decide +kernel
theorem d7_41 : decode prog_29_method_6_code 41 = .ok (.ireturn, 1) := by decide +kernel
theorem ef_rmEq (m : MethodId) (x0 : Addr) (x1 : Addr) : entryFrame m #[(.ref x0), (.ref x1)] 3 = mkF m 0 #[.val (.ref x0), .val (.ref x1), .unset] [] := by first | (simp [entryFrame, mkF, argsToLocals, Value.category]; done) | rfl
set_option maxRecDepth 65536 in
set_option maxHeartbeats 40000000 in
theorem rmEq (l : Launch) (Z : State) (a0 : Array Value) (hw : ∀ d ∈ tables_1, d.before a0 Z = true) (a b : Addr) (x y x' y' : Int64) (h0 : Heap) (n0 : Nat) (Fl : Fld Z h0 a "com/example/tidy_balancer/tidybalancer/model/BundleRange" "lower" "J" (.long x)) (Fu : Fld Z h0 a "com/example/tidy_balancer/tidybalancer/model/BundleRange" "upper" "J" (.long y)) (E : Exa Z h0 b "com/example/tidy_balancer/tidybalancer/model/BundleRange") (Gl : Fld Z h0 b "com/example/tidy_balancer/tidybalancer/model/BundleRange" "lower" "J" (.long x')) (Gu : Fld Z h0 b "com/example/tidy_balancer/tidybalancer/model/BundleRange" "upper" "J" (.long y')) :
    CM l Z (⟨"com/example/tidy_balancer/tidybalancer/model/BundleRange", "equals", "(Ljava/lang/Object;)Z"⟩ : MethodName) prog_29_method_6_code 3 (some .boolean) ({ frames := 0, cells := 0, slots := 0, locals := 0 } : Room) #[(.ref a), (.ref b)] h0 n0 (fun v h => v = some (.int (eqF x' x y' y)) ∧ h0 = h) := by
  refine own_enter (by decide +kernel) ?_
  intro p e s m below meth c T0 hx hby hml hown hnm hZ hret hlk H0
  replace hown : s.vm.findClass "com/example/tidy_balancer/tidybalancer/model/BundleRange" = some m.cls := hown
  replace hret : meth.sig.returnType = some .boolean := hret
  refine Go.via (fun t_ k_ => castTop (ef_rmEq m a b) k_) ?_
  show Go _ _ _ _ (T0.setTop (mkF m 0 #[.val (.ref a), .val (.ref b), .unset] []))
  refine Go.via (fun t_ k_ => XS.aloadN H0.here hx rfl (hb hby d7_0) rfl rfl k_) ?_
  show Go _ _ _ _ (T0.setTop (mkF m 1 #[.val (.ref a), .val (.ref b), .unset] [(.ref b)]))
  refine own_instY H0 hx hZ hown (hw _ (List.mem_of_getElem? (i := 34) rfl)) (Ins.self E) (g := (mkF m 1 #[.val (.ref a), .val (.ref b), .unset] [(.ref b)])) rfl rfl (hb hby d7_1) ?_
  intro T1 H1
  show Go _ _ _ _ (T1.setTop (mkF m 4 #[.val (.ref a), .val (.ref b), .unset] [(.int (1 : Int32))]))
  refine Go.via (fun t_ k_ => XS.ifNo H1.here hx rfl (hb hby d7_4) rfl ((if0 _ _).trans (feq (show ¬ ((1 : Int32) = (0 : Int32)) from (by decide))).1) k_) ?_
  show Go _ _ _ _ (T1.setTop (mkF m 7 #[.val (.ref a), .val (.ref b), .unset] []))
  refine Go.via (fun t_ k_ => XS.aloadN H1.here hx rfl (hb hby d7_7) rfl rfl k_) ?_
  show Go _ _ _ _ (T1.setTop (mkF m 8 #[.val (.ref a), .val (.ref b), .unset] [(.ref b)]))
  refine own_castY H1 hx hZ hown (hw _ (List.mem_of_getElem? (i := 34) rfl)) (Ins.self E) (g := (mkF m 8 #[.val (.ref a), .val (.ref b), .unset] [(.ref b)])) rfl rfl (hb hby d7_8) ?_
  intro T2 H2
  show Go _ _ _ _ (T2.setTop (mkF m 11 #[.val (.ref a), .val (.ref b), .unset] [(.ref b)]))
  refine Go.via (fun t_ k_ => XS.astoreN H2.here hx rfl (hb hby d7_11) rfl rfl (l' := #[.val (.ref a), .val (.ref b), .val (.ref b)]) rfl k_) ?_
  show Go _ _ _ _ (T2.setTop (mkF m 12 #[.val (.ref a), .val (.ref b), .val (.ref b)] []))
  refine Go.via (fun t_ k_ => XS.aloadN H2.here hx rfl (hb hby d7_12) rfl rfl k_) ?_
  show Go _ _ _ _ (T2.setTop (mkF m 13 #[.val (.ref a), .val (.ref b), .val (.ref b)] [(.ref b)]))
  refine own_getF H2 hx hZ hown (hw _ (List.mem_of_getElem? (i := 25) rfl)) Gl (g := (mkF m 13 #[.val (.ref a), .val (.ref b), .val (.ref b)] [(.ref b)])) rfl rfl (hb hby d7_13) ?_
  intro T3 H3
  show Go _ _ _ _ (T3.setTop (mkF m 16 #[.val (.ref a), .val (.ref b), .val (.ref b)] [(.long x')]))
  refine Go.via (fun t_ k_ => XS.aloadN H3.here hx rfl (hb hby d7_16) rfl rfl k_) ?_
  show Go _ _ _ _ (T3.setTop (mkF m 17 #[.val (.ref a), .val (.ref b), .val (.ref b)] [(.ref a), (.long x')]))
  refine own_getF H3 hx hZ hown (hw _ (List.mem_of_getElem? (i := 25) rfl)) Fl (g := (mkF m 17 #[.val (.ref a), .val (.ref b), .val (.ref b)] [(.ref a), (.long x')])) rfl rfl (hb hby d7_17) ?_
  intro T4 H4
  show Go _ _ _ _ (T4.setTop (mkF m 20 #[.val (.ref a), .val (.ref b), .val (.ref b)] [(.long x), (.long x')]))
  refine Go.via (fun t_ k_ => XS.lcmp H4.here hx rfl (hb hby d7_20) rfl k_) ?_
  show Go _ _ _ _ (T4.setTop (mkF m 21 #[.val (.ref a), .val (.ref b), .val (.ref b)] [(.int (lcmpW x' x))]))
  by_cases hc21 : x' = x
  · refine Go.via (fun t_ k_ => XS.ifNo H4.here hx rfl (hb hby d7_21) rfl ((own_leq hc21).2) k_) ?_
    show Go _ _ _ _ (T4.setTop (mkF m 24 #[.val (.ref a), .val (.ref b), .val (.ref b)] []))
    refine Go.via (fun t_ k_ => XS.aloadN H4.here hx rfl (hb hby d7_24) rfl rfl k_) ?_
    show Go _ _ _ _ (T4.setTop (mkF m 25 #[.val (.ref a), .val (.ref b), .val (.ref b)] [(.ref b)]))
    refine own_getF H4 hx hZ hown (hw _ (List.mem_of_getElem? (i := 27) rfl)) Gu (g := (mkF m 25 #[.val (.ref a), .val (.ref b), .val (.ref b)] [(.ref b)])) rfl rfl (hb hby d7_25) ?_
    intro T5 H5
    show Go _ _ _ _ (T5.setTop (mkF m 28 #[.val (.ref a), .val (.ref b), .val (.ref b)] [(.long y')]))
    refine Go.via (fun t_ k_ => XS.aloadN H5.here hx rfl (hb hby d7_28) rfl rfl k_) ?_
    show Go _ _ _ _ (T5.setTop (mkF m 29 #[.val (.ref a), .val (.ref b), .val (.ref b)] [(.ref a), (.long y')]))
    refine own_getF H5 hx hZ hown (hw _ (List.mem_of_getElem? (i := 27) rfl)) Fu (g := (mkF m 29 #[.val (.ref a), .val (.ref b), .val (.ref b)] [(.ref a), (.long y')])) rfl rfl (hb hby d7_29) ?_
    intro T6 H6
    show Go _ _ _ _ (T6.setTop (mkF m 32 #[.val (.ref a), .val (.ref b), .val (.ref b)] [(.long y), (.long y')]))
    refine Go.via (fun t_ k_ => XS.lcmp H6.here hx rfl (hb hby d7_32) rfl k_) ?_
    show Go _ _ _ _ (T6.setTop (mkF m 33 #[.val (.ref a), .val (.ref b), .val (.ref b)] [(.int (lcmpW y' y))]))
    by_cases hc33 : y' = y
    · refine Go.via (fun t_ k_ => XS.ifNo H6.here hx rfl (hb hby d7_33) rfl ((own_leq hc33).2) k_) ?_
      show Go _ _ _ _ (T6.setTop (mkF m 36 #[.val (.ref a), .val (.ref b), .val (.ref b)] []))
      refine Go.via (fun t_ k_ => XS.iconst H6.here hx rfl (hb hby d7_36) k_) ?_
      show Go _ _ _ _ (T6.setTop (mkF m 37 #[.val (.ref a), .val (.ref b), .val (.ref b)] [(.int (1 : Int32))]))
      refine Go.via (fun t_ k_ => XS.goto H6.here hx rfl (pc0 := 37) (pc' := 41) rfl (hb hby d7_37) (by decide) (by decide) k_) ?_
      show Go _ _ _ _ (T6.setTop (mkF m 41 #[.val (.ref a), .val (.ref b), .val (.ref b)] [(.int (1 : Int32))]))
      exact own_retN H6 hx hlk (by simp) hret (hb hby d7_41) ⟨by simp [eqF, nar0, nar1, eq_true hc21, eq_true hc33], rfl⟩ (by decide) (by decide)
    · refine Go.via (fun t_ k_ => XS.ifYes H6.here hx rfl (pc0 := 33) (pc' := 40) rfl (hb hby d7_33) rfl ((own_neq hc33).2) (by decide) (by decide) k_) ?_
      show Go _ _ _ _ (T6.setTop (mkF m 40 #[.val (.ref a), .val (.ref b), .val (.ref b)] []))
      refine Go.via (fun t_ k_ => XS.iconst H6.here hx rfl (hb hby d7_40) k_) ?_
      show Go _ _ _ _ (T6.setTop (mkF m 41 #[.val (.ref a), .val (.ref b), .val (.ref b)] [(.int (0 : Int32))]))
      exact own_retN H6 hx hlk (by simp) hret (hb hby d7_41) ⟨by simp [eqF, nar0, nar1, eq_true hc21, eq_false hc33], rfl⟩ (by decide) (by decide)
  · refine Go.via (fun t_ k_ => XS.ifYes H4.here hx rfl (pc0 := 21) (pc' := 40) rfl (hb hby d7_21) rfl ((own_neq hc21).2) (by decide) (by decide) k_) ?_
    show Go _ _ _ _ (T4.setTop (mkF m 40 #[.val (.ref a), .val (.ref b), .val (.ref b)] []))
    refine Go.via (fun t_ k_ => XS.iconst H4.here hx rfl (hb hby d7_40) k_) ?_
    show Go _ _ _ _ (T4.setTop (mkF m 41 #[.val (.ref a), .val (.ref b), .val (.ref b)] [(.int (0 : Int32))]))
    exact own_retN H4 hx hlk (by simp) hret (hb hby d7_41) ⟨by simp [eqF, nar0, nar1, eq_false hc21], rfl⟩ (by decide) (by decide)
theorem ef_rmEqN (m : MethodId) (x0 : Addr) : entryFrame m #[(.ref x0), .null] 3 = mkF m 0 #[.val (.ref x0), .val .null, .unset] [] := by first | (simp [entryFrame, mkF, argsToLocals, Value.category]; done) | rfl
set_option maxRecDepth 65536 in
set_option maxHeartbeats 40000000 in
theorem rmEqN (l : Launch) (Z : State) (a0 : Array Value) (hw : ∀ d ∈ tables_1, d.before a0 Z = true) (a : Addr) (h0 : Heap) (n0 : Nat)  :
    CM l Z (⟨"com/example/tidy_balancer/tidybalancer/model/BundleRange", "equals", "(Ljava/lang/Object;)Z"⟩ : MethodName) prog_29_method_6_code 3 (some .boolean) ({ frames := 0, cells := 0, slots := 0, locals := 0 } : Room) #[(.ref a), .null] h0 n0 (fun v h => v = some (.int (0 : Int32)) ∧ h0 = h) := by
  refine own_enter (by decide +kernel) ?_
  intro p e s m below meth c T0 hx hby hml hown hnm hZ hret hlk H0
  replace hown : s.vm.findClass "com/example/tidy_balancer/tidybalancer/model/BundleRange" = some m.cls := hown
  replace hret : meth.sig.returnType = some .boolean := hret
  refine Go.via (fun t_ k_ => castTop (ef_rmEqN m a) k_) ?_
  show Go _ _ _ _ (T0.setTop (mkF m 0 #[.val (.ref a), .val .null, .unset] []))
  refine Go.via (fun t_ k_ => XS.aloadN H0.here hx rfl (hb hby d7_0) rfl rfl k_) ?_
  show Go _ _ _ _ (T0.setTop (mkF m 1 #[.val (.ref a), .val .null, .unset] [.null]))
  refine own_instNull H0 hx (g := (mkF m 1 #[.val (.ref a), .val .null, .unset] [.null])) rfl rfl (hb hby d7_1) ?_
  show Go _ _ _ _ (T0.setTop (mkF m 4 #[.val (.ref a), .val .null, .unset] [(.int (0 : Int32))]))
  refine Go.via (fun t_ k_ => XS.ifYes H0.here hx rfl (pc0 := 4) (pc' := 40) rfl (hb hby d7_4) rfl ((if0 _ _).trans (teq (show (0 : Int32) = (0 : Int32) from (by decide))).1) (by decide) (by decide) k_) ?_
  show Go _ _ _ _ (T0.setTop (mkF m 40 #[.val (.ref a), .val .null, .unset] []))
  refine Go.via (fun t_ k_ => XS.iconst H0.here hx rfl (hb hby d7_40) k_) ?_
  show Go _ _ _ _ (T0.setTop (mkF m 41 #[.val (.ref a), .val .null, .unset] [(.int (0 : Int32))]))
  exact own_retN H0 hx hlk (by simp) hret (hb hby d7_41) ⟨rfl, rfl⟩ (by decide) (by decide)
theorem ef_rmEqL (m : MethodId) (x0 : Addr) (x1 : Addr) : entryFrame m #[(.ref x0), (.ref x1)] 3 = mkF m 0 #[.val (.ref x0), .val (.ref x1), .unset] [] := by first | (simp [entryFrame, mkF, argsToLocals, Value.category]; done) | rfl
set_option maxRecDepth 65536 in
set_option maxHeartbeats 40000000 in
theorem rmEqL (l : Launch) (Z : State) (a0 : Array Value) (hw : ∀ d ∈ tables_1, d.before a0 Z = true) (a b : Addr) (h0 : Heap) (n0 : Nat) (E : Exa Z h0 b "java/lang/Long") :
    CM l Z (⟨"com/example/tidy_balancer/tidybalancer/model/BundleRange", "equals", "(Ljava/lang/Object;)Z"⟩ : MethodName) prog_29_method_6_code 3 (some .boolean) ({ frames := 0, cells := 0, slots := 0, locals := 0 } : Room) #[(.ref a), (.ref b)] h0 n0 (fun v h => v = some (.int (0 : Int32)) ∧ h0 = h) := by
  refine own_enter (by decide +kernel) ?_
  intro p e s m below meth c T0 hx hby hml hown hnm hZ hret hlk H0
  replace hown : s.vm.findClass "com/example/tidy_balancer/tidybalancer/model/BundleRange" = some m.cls := hown
  replace hret : meth.sig.returnType = some .boolean := hret
  refine Go.via (fun t_ k_ => castTop (ef_rmEqL m a b) k_) ?_
  show Go _ _ _ _ (T0.setTop (mkF m 0 #[.val (.ref a), .val (.ref b), .unset] []))
  refine Go.via (fun t_ k_ => XS.aloadN H0.here hx rfl (hb hby d7_0) rfl rfl k_) ?_
  show Go _ _ _ _ (T0.setTop (mkF m 1 #[.val (.ref a), .val (.ref b), .unset] [(.ref b)]))
  refine own_instNo H0 hx hZ hown (hw _ (List.mem_of_getElem? (i := 34) rfl)) E (own_NSno (hw _ (List.mem_of_getElem? (i := 44) rfl)) (hw _ (List.mem_of_getElem? (i := 16) rfl)) (NS.step (hw _ (List.mem_of_getElem? (i := 44) rfl)) (NS.step (hw _ (List.mem_of_getElem? (i := 45) rfl)) (own_NSroot (hw _ (List.mem_of_getElem? (i := 46) rfl)) (hw _ (List.mem_of_getElem? (i := 16) rfl)) (by decide)) (by decide)) (by decide)) (by decide)) (g := (mkF m 1 #[.val (.ref a), .val (.ref b), .unset] [(.ref b)])) rfl rfl (hb hby d7_1) ?_
  intro T1 H1
  show Go _ _ _ _ (T1.setTop (mkF m 4 #[.val (.ref a), .val (.ref b), .unset] [(.int (0 : Int32))]))
  refine Go.via (fun t_ k_ => XS.ifYes H1.here hx rfl (pc0 := 4) (pc' := 40) rfl (hb hby d7_4) rfl ((if0 _ _).trans (teq (show (0 : Int32) = (0 : Int32) from (by decide))).1) (by decide) (by decide) k_) ?_
  show Go _ _ _ _ (T1.setTop (mkF m 40 #[.val (.ref a), .val (.ref b), .unset] []))
  refine Go.via (fun t_ k_ => XS.iconst H1.here hx rfl (hb hby d7_40) k_) ?_
  show Go _ _ _ _ (T1.setTop (mkF m 41 #[.val (.ref a), .val (.ref b), .unset] [(.int (0 : Int32))]))
  exact own_retN H1 hx hlk (by simp) hret (hb hby d7_41) ⟨rfl, rfl⟩ (by decide) (by decide)
theorem d10_0 : decode jdk_18_method_1_code 0 = .ok (.aload_n 0, 1) := by decide +kernel
theorem d10_1 : decode jdk_18_method_1_code 1 = .ok (.invokespecial 1, 3) := by decide +kernel
theorem d10_4 : decode jdk_18_method_1_code 4 = .ok (.return_, 1) := by decide +kernel
theorem ef_rmNum (m : MethodId) (x0 : Addr) : entryFrame m #[(.ref x0)] 1 = mkF m 0 #[.val (.ref x0)] [] := by first | (simp [entryFrame, mkF, argsToLocals, Value.category]; done) | rfl
set_option maxRecDepth 65536 in
set_option maxHeartbeats 40000000 in
theorem rmNum (l : Launch) (Z : State) (a0 : Array Value) (hw : ∀ d ∈ tables_1, d.before a0 Z = true) (a : Addr) (h0 : Heap) (n0 : Nat)  :
    CM l Z (⟨"java/lang/Number", "<init>", "()V"⟩ : MethodName) jdk_18_method_1_code 1 none ({ frames := 1, cells := 0, slots := 0, locals := 12 } : Room) #[(.ref a)] h0 n0 (fun v h => v = none ∧ h0 = h) := by
  refine own_enter (by decide +kernel) ?_
  intro p e s m below meth c T0 hx hby hml hown hnm hZ hret hlk H0
  replace hown : s.vm.findClass "java/lang/Number" = some m.cls := hown
  replace hret : meth.sig.returnType = none := hret
  refine Go.via (fun t_ k_ => castTop (ef_rmNum m a) k_) ?_
  show Go _ _ _ _ (T0.setTop (mkF m 0 #[.val (.ref a)] []))
  refine Go.via (fun t_ k_ => XS.aloadN H0.here hx rfl (hb hby d10_0) rfl rfl k_) ?_
  show Go _ _ _ _ (T0.setTop (mkF m 1 #[.val (.ref a)] [(.ref a)]))
  refine own_initO H0 hx hZ hown (hw _ (List.mem_of_getElem? (i := 59) rfl)) (hw _ (List.mem_of_getElem? (i := 22) rfl)) (hw _ (List.mem_of_getElem? (i := 23) rfl)) (g := (mkF m 1 #[.val (.ref a)] [(.ref a)])) rfl (by rw [hml]; rfl) rfl (hb hby d10_1) (by decide) 0 (Nat.le_of_eq rfl) (by decide) ?_
  intro T1 H1
  show Go _ _ _ _ (T1.setTop (mkF m 4 #[.val (.ref a)] []))
  exact own_retV H1 hx hlk hret (hb hby d10_4) ⟨rfl, rfl⟩ (by decide) (by decide)
theorem d9_0 : decode jdk_35_method_26_code 0 = .ok (.aload_n 0, 1) := by decide +kernel
theorem d9_1 : decode jdk_35_method_26_code 1 = .ok (.invokespecial 270, 3) := by decide +kernel
theorem d9_4 : decode jdk_35_method_26_code 4 = .ok (.aload_n 0, 1) := by decide +kernel
theorem d9_5 : decode jdk_35_method_26_code 5 = .ok (.lload_n 1, 1) := by decide +kernel
theorem d9_6 : decode jdk_35_method_26_code 6 = .ok (.putfield 273, 3) := by decide +kernel
theorem d9_9 : decode jdk_35_method_26_code 9 = .ok (.return_, 1) := by decide +kernel
theorem ef_rmLI (m : MethodId) (x0 : Addr) (x1 : Int64) : entryFrame m #[(.ref x0), (.long x1)] 3 = mkF m 0 #[.val (.ref x0), .val (.long x1), .second] [] := by first | (simp [entryFrame, mkF, argsToLocals, Value.category]; done) | rfl
theorem pd_1 : parseMethodDescriptor "()V" = some ⟨[], none⟩ := by decide +kernel
set_option maxRecDepth 65536 in
set_option maxHeartbeats 40000000 in
theorem rmLI (l : Launch) (Z : State) (a0 : Array Value) (hw : ∀ d ∈ tables_1, d.before a0 Z = true) (a : Addr) (p1 : Int64) (h0 : Heap) (n0 : Nat) (E : Exa Z h0 a "java/lang/Long") (F : Fld Z h0 a "java/lang/Long" "value" "J" (.long (0 : Int64))) (g : n0 ≤ a) :
    CM l Z (⟨"java/lang/Long", "<init>", "(J)V"⟩ : MethodName) jdk_35_method_26_code 3 none ({ frames := 2, cells := 0, slots := 0, locals := 24 } : Room) #[(.ref a), (.long p1)] h0 n0 (fun v h => v = none ∧ Keep h0 h [a] ∧ Exa Z h a "java/lang/Long") := by
  refine own_enter (by decide +kernel) ?_
  intro p e s m below meth c T0 hx hby hml hown hnm hZ hret hlk H0
  replace hown : s.vm.findClass "java/lang/Long" = some m.cls := hown
  replace hret : meth.sig.returnType = none := hret
  refine Go.via (fun t_ k_ => castTop (ef_rmLI m a p1) k_) ?_
  show Go _ _ _ _ (T0.setTop (mkF m 0 #[.val (.ref a), .val (.long p1), .second] []))
  refine Go.via (fun t_ k_ => XS.aloadN H0.here hx rfl (hb hby d9_0) rfl rfl k_) ?_
  show Go _ _ _ _ (T0.setTop (mkF m 1 #[.val (.ref a), .val (.long p1), .second] [(.ref a)]))
  refine own_callI H0 hx hZ (y := (⟨"java/lang/Number", "<init>", "()V"⟩ : MethodName)) (a := a) rfl hown (hw _ (List.mem_of_getElem? (i := 53) rfl)) (hw _ (List.mem_of_getElem? (i := 54) rfl)) (hw _ (List.mem_of_getElem? (i := 57) rfl)) (hw _ (List.mem_of_getElem? (i := 58) rfl)) (by decide) (rmNum l Z a0 hw a h0 n0) (g := (mkF m 1 #[.val (.ref a), .val (.long p1), .second] [(.ref a)])) rfl (by rw [hml]; rfl) (argsL := []) (rest := []) (lenOf pd_1 rfl) rfl 0 (Nat.le_of_eq rfl) (hb hby d9_1) (by decide) (by decide) (by decide) (by decide) ?_
  rintro _ T1 _ ⟨rfl, rfl⟩ H1
  show Go _ _ _ _ (T1.setTop (mkF m 4 #[.val (.ref a), .val (.long p1), .second] []))
  refine Go.via (fun t_ k_ => XS.aloadN H1.here hx rfl (hb hby d9_4) rfl rfl k_) ?_
  show Go _ _ _ _ (T1.setTop (mkF m 5 #[.val (.ref a), .val (.long p1), .second] [(.ref a)]))
  refine Go.via (fun t_ k_ => XS.lloadN H1.here hx rfl (hb hby d9_5) rfl k_) ?_
  show Go _ _ _ _ (T1.setTop (mkF m 6 #[.val (.ref a), .val (.long p1), .second] [(.long p1), (.ref a)]))
  refine own_putF H1 hx hZ hown (hw _ (List.mem_of_getElem? (i := 60) rfl)) F E (Or.inr ⟨(hw _ (List.mem_of_getElem? (i := 61) rfl)), rfl, hnm⟩) (hw _ (List.mem_of_getElem? (i := 48) rfl)) g (ty := .long) (by decide) rfl rfl (g := (mkF m 6 #[.val (.ref a), .val (.long p1), .second] [(.long p1), (.ref a)])) rfl rfl (hb hby d9_6) ?_
  intro T2 h2 W2 H2
  have F2_value := F.same W2
  have K2 := ((Keep.refl h0 [a])).wr W2 (Or.inl (List.mem_of_getElem? (i := 0) rfl))
  show Go _ _ _ _ (T2.setTop (mkF m 9 #[.val (.ref a), .val (.long p1), .second] []))
  exact own_retV H2 hx hlk hret (hb hby d9_9) ⟨rfl, K2, (E.wr W2)⟩ (by decide) (by decide)
theorem d8_0 : decode jdk_35_method_24_code 0 = .ok (.sipush 128, 3) := by decide +kernel
theorem d8_3 : decode jdk_35_method_24_code 3 = .ok (.istore_n 2, 1) := by decide +kernel
theorem d8_4 : decode jdk_35_method_24_code 4 = .ok (.lload_n 0, 1) := by decide +kernel
theorem d8_5 : decode jdk_35_method_24_code 5 = .ok (.ldc2_w 230, 3) := by decide +kernel
theorem d8_8 : decode jdk_35_method_24_code 8 = .ok (.lcmp, 1) := by decide +kernel
theorem d8_9 : decode jdk_35_method_24_code 9 = .ok (.ifCond .lt 22, 3) := by decide +kernel
theorem d8_12 : decode jdk_35_method_24_code 12 = .ok (.lload_n 0, 1) := by decide +kernel
theorem d8_13 : decode jdk_35_method_24_code 13 = .ok (.ldc2_w 232, 3) := by decide +kernel
theorem d8_16 : decode jdk_35_method_24_code 16 = .ok (.lcmp, 1) := by decide +kernel
theorem d8_17 : decode jdk_35_method_24_code 17 = .ok (.ifCond .gt 14, 3) := by decide +kernel
theorem d8_20 : decode jdk_35_method_24_code 20 = .ok (.getstatic 234, 3) := by decide +kernel
theorem d8_23 : decode jdk_35_method_24_code 23 = .ok (.lload_n 0, 1) := by decide +kernel
theorem d8_24 : decode jdk_35_method_24_code 24 = .ok (.l2i, 1) := by decide +kernel
theorem d8_25 : decode jdk_35_method_24_code 25 = .ok (.sipush 128, 3) := by decide +kernel
theorem d8_28 : decode jdk_35_method_24_code 28 = .ok (.iadd, 1) := by decide +kernel
theorem d8_29 : decode jdk_35_method_24_code 29 = .ok (.aaload, 1) := by decide +kernel
theorem d8_30 : decode jdk_35_method_24_code 30 = .ok (.areturn, 1) := by decide +kernel
theorem d8_31 : decode jdk_35_method_24_code 31 = .ok (.new 1, 3) := by decide +kernel
theorem d8_34 : decode jdk_35_method_24_code 34 = .ok (.dup, 1) := by decide +kernel
theorem d8_35 : decode jdk_35_method_24_code 35 = .ok (.lload_n 0, 1) := by decide +kernel
theorem d8_36 : decode jdk_35_method_24_code 36 = .ok (.invokespecial 240, 3) := by decide +kernel
theorem d8_39 : decode jdk_35_method_24_code 39 = .ok (.areturn, 1) := by decide +kernel
theorem ef_rmVal (m : MethodId) (x0 : Int64) : entryFrame m #[(.long x0)] 3 = mkF m 0 #[.val (.long x0), .second, .unset] [] := by first | (simp [entryFrame, mkF, argsToLocals, Value.category]; done) | rfl
theorem pd_2 : parseMethodDescriptor "(J)V" = some ⟨[.long], none⟩ := by decide +kernel
set_option maxRecDepth 65536 in
set_option maxHeartbeats 40000000 in
theorem rmVal (l : Launch) (Z : State) (a0 : Array Value) (hw : ∀ d ∈ tables_1, d.before a0 Z = true) (p1 : Int64) (ca : Addr) (cl : Cell) (h0 : Heap) (n0 : Nat) (Z0 : n0 ≤ h0.size) (SC : Sta Z h0 "java/lang/Long$LongCache" "cache" "[Ljava/lang/Long;" (.ref ca)) (AC : Arr Z h0 ca cl (.object "java/lang/Long")) (hs : cl.slots.size = 256) (hall : ∀ j, j < 256 → ∃ b, cl.slots[j]? = some (.ref b) ∧ Exa Z h0 b "java/lang/Long") :
    CM l Z (⟨"java/lang/Long", "valueOf", "(J)Ljava/lang/Long;"⟩ : MethodName) jdk_35_method_24_code 3 (some (.object "java/lang/Long")) ({ frames := 3, cells := 1, slots := 1, locals := 39 } : Room) #[(.long p1)] h0 n0 (fun v h => ∃ b, v = some (.ref b) ∧ Keep h0 h [] ∧ Exa Z h b "java/lang/Long") := by
  refine own_enter (by decide +kernel) ?_
  intro p e s m below meth c T0 hx hby hml hown hnm hZ hret hlk H0
  replace hown : s.vm.findClass "java/lang/Long" = some m.cls := hown
  replace hret : meth.sig.returnType = some (.object "java/lang/Long") := hret
  refine Go.via (fun t_ k_ => castTop (ef_rmVal m p1) k_) ?_
  show Go _ _ _ _ (T0.setTop (mkF m 0 #[.val (.long p1), .second, .unset] []))
  refine Go.via (fun t_ k_ => XS.sipush H0.here hx rfl (hb hby d8_0) k_) ?_
  show Go _ _ _ _ (T0.setTop (mkF m 3 #[.val (.long p1), .second, .unset] [(.int (128 : Int32))]))
  refine Go.via (fun t_ k_ => XS.istoreN H0.here hx rfl (hb hby d8_3) rfl (l' := #[.val (.long p1), .second, .val (.int (128 : Int32))]) rfl k_) ?_
  show Go _ _ _ _ (T0.setTop (mkF m 4 #[.val (.long p1), .second, .val (.int (128 : Int32))] []))
  refine Go.via (fun t_ k_ => XS.lloadN H0.here hx rfl (hb hby d8_4) rfl k_) ?_
  show Go _ _ _ _ (T0.setTop (mkF m 5 #[.val (.long p1), .second, .val (.int (128 : Int32))] [(.long p1)]))
  refine own_ldcL H0 hx hZ hown (hw _ (List.mem_of_getElem? (i := 40) rfl)) (g := (mkF m 5 #[.val (.long p1), .second, .val (.int (128 : Int32))] [(.long p1)])) rfl (hb hby d8_5) ?_
  show Go _ _ _ _ (T0.setTop (mkF m 8 #[.val (.long p1), .second, .val (.int (128 : Int32))] [(.long (-128 : Int64)), (.long p1)]))
  refine Go.via (fun t_ k_ => XS.lcmp H0.here hx rfl (hb hby d8_8) rfl k_) ?_
  show Go _ _ _ _ (T0.setTop (mkF m 9 #[.val (.long p1), .second, .val (.int (128 : Int32))] [(.int (lcmpW p1 (-128 : Int64)))]))
  by_cases hc9 : p1 < (-128 : Int64)
  · refine Go.via (fun t_ k_ => XS.ifYes H0.here hx rfl (pc0 := 9) (pc' := 31) rfl (hb hby d8_9) rfl ((own_llt hc9).1) (by decide) (by decide) k_) ?_
    show Go _ _ _ _ (T0.setTop (mkF m 31 #[.val (.long p1), .second, .val (.int (128 : Int32))] []))
    refine own_newO H0 hx hZ hown (hw _ (List.mem_of_getElem? (i := 47) rfl)) (hw _ (List.mem_of_getElem? (i := 48) rfl)) (hw _ (List.mem_of_getElem? (i := 38) rfl)) (g := (mkF m 31 #[.val (.long p1), .second, .val (.int (128 : Int32))] [])) rfl (hb hby d8_31) (by decide) (by decide) ?_
    intro T1 h1 a1 ga1 E1 A1 D1 H1
    have g_a1 : n0 ≤ a1 := by rw [ga1]; exact Z0
    have sz1 : n0 ≤ h1.size := Nat.le_trans Z0 E1.1
    have kin_a1 : h0.size ≤ a1 := by rw [ga1]; exact ((Keep.refl h0 [])).1
    have K1 := ((Keep.refl h0 [])).ext E1
    have F1_value : Fld Z h1 a1 "java/lang/Long" "value" "J" (.long (0 : Int64)) := D1 (Or.inr (hw _ (List.mem_of_getElem? (i := 61) rfl))) (ty := .long) (by decide)
    show Go _ _ _ _ (T1.setTop (mkF m 34 #[.val (.long p1), .second, .val (.int (128 : Int32))] [(.ref a1)]))
    refine Go.via (fun t_ k_ => XS.dup H1.here hx rfl (hb hby d8_34) rfl rfl k_) ?_
    show Go _ _ _ _ (T1.setTop (mkF m 35 #[.val (.long p1), .second, .val (.int (128 : Int32))] [(.ref a1), (.ref a1)]))
    refine Go.via (fun t_ k_ => XS.lloadN H1.here hx rfl (hb hby d8_35) rfl k_) ?_
    show Go _ _ _ _ (T1.setTop (mkF m 36 #[.val (.long p1), .second, .val (.int (128 : Int32))] [(.long p1), (.ref a1), (.ref a1)]))
    refine own_callI H1 hx hZ (y := (⟨"java/lang/Long", "<init>", "(J)V"⟩ : MethodName)) (a := a1) rfl hown (hw _ (List.mem_of_getElem? (i := 49) rfl)) (hw _ (List.mem_of_getElem? (i := 50) rfl)) (hw _ (List.mem_of_getElem? (i := 38) rfl)) (hw _ (List.mem_of_getElem? (i := 52) rfl)) (by decide) (rmLI l Z a0 hw a1 p1 h1 n0 A1 F1_value g_a1) (g := (mkF m 36 #[.val (.long p1), .second, .val (.int (128 : Int32))] [(.long p1), (.ref a1), (.ref a1)])) rfl (by rw [hml]; rfl) (argsL := [(.long p1)]) (rest := [(.ref a1)]) (lenOf pd_2 rfl) rfl 1 (Nat.le_of_eq rfl) (hb hby d8_36) (by decide) (by decide) (by decide) (by decide) ?_
    rintro _ T2 h2 ⟨rfl, K2, E2⟩ H2
    show Go _ _ _ _ (T2.setTop (mkF m 39 #[.val (.long p1), .second, .val (.int (128 : Int32))] [(.ref a1)]))
    exact own_retA H2 hx hlk rfl hret rfl rfl (hb hby d8_39) ⟨a1, rfl, (K1.trans K2 (allS (Or.inr kin_a1) all0)), E2⟩ (by decide) (by decide)
  · refine Go.via (fun t_ k_ => XS.ifNo H0.here hx rfl (hb hby d8_9) rfl ((own_nlt hc9).1) k_) ?_
    show Go _ _ _ _ (T0.setTop (mkF m 12 #[.val (.long p1), .second, .val (.int (128 : Int32))] []))
    refine Go.via (fun t_ k_ => XS.lloadN H0.here hx rfl (hb hby d8_12) rfl k_) ?_
    show Go _ _ _ _ (T0.setTop (mkF m 13 #[.val (.long p1), .second, .val (.int (128 : Int32))] [(.long p1)]))
    refine own_ldcL H0 hx hZ hown (hw _ (List.mem_of_getElem? (i := 41) rfl)) (g := (mkF m 13 #[.val (.long p1), .second, .val (.int (128 : Int32))] [(.long p1)])) rfl (hb hby d8_13) ?_
    show Go _ _ _ _ (T0.setTop (mkF m 16 #[.val (.long p1), .second, .val (.int (128 : Int32))] [(.long (127 : Int64)), (.long p1)]))
    refine Go.via (fun t_ k_ => XS.lcmp H0.here hx rfl (hb hby d8_16) rfl k_) ?_
    show Go _ _ _ _ (T0.setTop (mkF m 17 #[.val (.long p1), .second, .val (.int (128 : Int32))] [(.int (lcmpW p1 (127 : Int64)))]))
    by_cases hc17 : (127 : Int64) < p1
    · refine Go.via (fun t_ k_ => XS.ifYes H0.here hx rfl (pc0 := 17) (pc' := 31) rfl (hb hby d8_17) rfl ((own_lgt hc17).1) (by decide) (by decide) k_) ?_
      show Go _ _ _ _ (T0.setTop (mkF m 31 #[.val (.long p1), .second, .val (.int (128 : Int32))] []))
      refine own_newO H0 hx hZ hown (hw _ (List.mem_of_getElem? (i := 47) rfl)) (hw _ (List.mem_of_getElem? (i := 48) rfl)) (hw _ (List.mem_of_getElem? (i := 38) rfl)) (g := (mkF m 31 #[.val (.long p1), .second, .val (.int (128 : Int32))] [])) rfl (hb hby d8_31) (by decide) (by decide) ?_
      intro T3 h3 a3 ga3 E3 A3 D3 H3
      have g_a3 : n0 ≤ a3 := by rw [ga3]; exact Z0
      have sz3 : n0 ≤ h3.size := Nat.le_trans Z0 E3.1
      have kin_a3 : h0.size ≤ a3 := by rw [ga3]; exact ((Keep.refl h0 [])).1
      have K3 := ((Keep.refl h0 [])).ext E3
      have F3_value : Fld Z h3 a3 "java/lang/Long" "value" "J" (.long (0 : Int64)) := D3 (Or.inr (hw _ (List.mem_of_getElem? (i := 61) rfl))) (ty := .long) (by decide)
      show Go _ _ _ _ (T3.setTop (mkF m 34 #[.val (.long p1), .second, .val (.int (128 : Int32))] [(.ref a3)]))
      refine Go.via (fun t_ k_ => XS.dup H3.here hx rfl (hb hby d8_34) rfl rfl k_) ?_
      show Go _ _ _ _ (T3.setTop (mkF m 35 #[.val (.long p1), .second, .val (.int (128 : Int32))] [(.ref a3), (.ref a3)]))
      refine Go.via (fun t_ k_ => XS.lloadN H3.here hx rfl (hb hby d8_35) rfl k_) ?_
      show Go _ _ _ _ (T3.setTop (mkF m 36 #[.val (.long p1), .second, .val (.int (128 : Int32))] [(.long p1), (.ref a3), (.ref a3)]))
      refine own_callI H3 hx hZ (y := (⟨"java/lang/Long", "<init>", "(J)V"⟩ : MethodName)) (a := a3) rfl hown (hw _ (List.mem_of_getElem? (i := 49) rfl)) (hw _ (List.mem_of_getElem? (i := 50) rfl)) (hw _ (List.mem_of_getElem? (i := 38) rfl)) (hw _ (List.mem_of_getElem? (i := 52) rfl)) (by decide) (rmLI l Z a0 hw a3 p1 h3 n0 A3 F3_value g_a3) (g := (mkF m 36 #[.val (.long p1), .second, .val (.int (128 : Int32))] [(.long p1), (.ref a3), (.ref a3)])) rfl (by rw [hml]; rfl) (argsL := [(.long p1)]) (rest := [(.ref a3)]) (lenOf pd_2 rfl) rfl 1 (Nat.le_of_eq rfl) (hb hby d8_36) (by decide) (by decide) (by decide) (by decide) ?_
      rintro _ T4 h4 ⟨rfl, K4, E4⟩ H4
      show Go _ _ _ _ (T4.setTop (mkF m 39 #[.val (.long p1), .second, .val (.int (128 : Int32))] [(.ref a3)]))
      exact own_retA H4 hx hlk rfl hret rfl rfl (hb hby d8_39) ⟨a3, rfl, (K3.trans K4 (allS (Or.inr kin_a3) all0)), E4⟩ (by decide) (by decide)
    · refine Go.via (fun t_ k_ => XS.ifNo H0.here hx rfl (hb hby d8_17) rfl ((own_ngt hc17).1) k_) ?_
      show Go _ _ _ _ (T0.setTop (mkF m 20 #[.val (.long p1), .second, .val (.int (128 : Int32))] []))
      refine own_getS H0 hx hZ hown (hw _ (List.mem_of_getElem? (i := 42) rfl)) SC (g := (mkF m 20 #[.val (.long p1), .second, .val (.int (128 : Int32))] [])) rfl (hb hby d8_20) ?_
      intro T5 H5
      show Go _ _ _ _ (T5.setTop (mkF m 23 #[.val (.long p1), .second, .val (.int (128 : Int32))] [(.ref ca)]))
      refine Go.via (fun t_ k_ => XS.lloadN H5.here hx rfl (hb hby d8_23) rfl k_) ?_
      show Go _ _ _ _ (T5.setTop (mkF m 24 #[.val (.long p1), .second, .val (.int (128 : Int32))] [(.long p1), (.ref ca)]))
      refine Go.via (fun t_ k_ => XS.l2i H5.here hx rfl (hb hby d8_24) rfl k_) ?_
      show Go _ _ _ _ (T5.setTop (mkF m 25 #[.val (.long p1), .second, .val (.int (128 : Int32))] [(.int (p1.toInt32)), (.ref ca)]))
      refine Go.via (fun t_ k_ => XS.sipush H5.here hx rfl (hb hby d8_25) k_) ?_
      show Go _ _ _ _ (T5.setTop (mkF m 28 #[.val (.long p1), .second, .val (.int (128 : Int32))] [(.int (128 : Int32)), (.int (p1.toInt32)), (.ref ca)]))
      refine Go.via (fun t_ k_ => XS.iadd H5.here hx rfl (hb hby d8_28) rfl k_) ?_
      show Go _ _ _ _ (T5.setTop (mkF m 29 #[.val (.long p1), .second, .val (.int (128 : Int32))] [(.int ((p1.toInt32) + (128 : Int32))), (.ref ca)]))
      obtain ⟨j, hj, hj'⟩ := own_cacheIx p1 hc9 hc17
      obtain ⟨b, hb', Eb⟩ := hall j hj'
      refine own_ldR H5 hx hZ AC rfl (j := j) (v := .ref b) hj (by rw [hs]; exact hj') hb' (g := (mkF m 29 #[.val (.long p1), .second, .val (.int (128 : Int32))] [(.int ((p1.toInt32) + (128 : Int32))), (.ref ca)])) rfl rfl (hb hby d8_29) ?_
      show Go _ _ _ _ (T5.setTop (mkF m 30 #[.val (.long p1), .second, .val (.int (128 : Int32))] [(.ref b)]))
      exact own_retA H5 hx hlk rfl hret rfl rfl (hb hby d8_30) ⟨b, rfl, (Keep.refl h0 []), Eb⟩ (by decide) (by decide)
theorem pd_3 : parseMethodDescriptor "(JJ)V" = some ⟨[.long, .long], none⟩ := by decide +kernel
theorem pd_4 : parseMethodDescriptor "(Ljava/lang/Object;)Z" = some ⟨[(.object "java/lang/Object")], some .boolean⟩ := by decide +kernel
theorem pd_5 : parseMethodDescriptor "(J)Ljava/lang/Long;" = some ⟨[.long], some (.object "java/lang/Long")⟩ := by decide +kernel
theorem ef_rm0 (m : MethodId) (x0 : Int64) (x1 : Int64) (x2 : Int64) (x3 : Int64) (x4 : Int32) : entryFrame m #[(.long x0), (.long x1), (.long x2), (.long x3), (.int x4)] maxLocals = mkF m 0 #[.val (.long x0), .second, .val (.long x1), .second, .val (.long x2), .second, .val (.long x3), .second, .val (.int x4), .unset, .unset, .unset, .unset, .unset, .unset, .unset, .unset, .unset, .unset, .unset, .unset, .unset, .unset, .unset, .unset, .unset, .unset, .unset, .unset, .unset, .unset, .unset, .unset] [] := by first | (simp [entryFrame, mkF, argsToLocals, Value.category, maxLocals]; done) | rfl
set_option maxRecDepth 65536 in
set_option maxHeartbeats 40000000 in
theorem rm0 (l : Launch) (Z : State) (a0 : Array Value) (hw : ∀ d ∈ tables_1, d.before a0 Z = true) (p1 p2 p3 p4 : Int64) (p5 : Int32) (ca : Addr) (cl : Cell) (h0 : Heap) (n0 : Nat) (Z0 : n0 ≤ h0.size) (OL : Old Z n0 h0) (SC : Sta Z Z.heap "java/lang/Long$LongCache" "cache" "[Ljava/lang/Long;" (.ref ca)) (AC : Arr Z Z.heap ca cl (.object "java/lang/Long")) (hs : cl.slots.size = 256) (hall : ∀ j, j < 256 → ∃ b, cl.slots[j]? = some (.ref b) ∧ Exa Z Z.heap b "java/lang/Long") :
    CM l Z x code maxLocals ret room_1 #[(.long p1), (.long p2), (.long p3), (.long p4), (.int p5)] h0 n0 (fun v h => v = some (.int (1 : Int32))) := by
  refine own_enter (by decide +kernel) ?_
  intro p e s m below meth c T0 hx hby hml hown hnm hZ hret hlk H0
  replace hown : s.vm.findClass "com/example/tidy_balancer/tidybalancer/model/BundleRangeEqualsPinLaw" = some m.cls := hown
  replace hret : meth.sig.returnType = some .boolean := hret
  replace hml : c.maxLocals = 33 := hml
  refine Go.via (fun t_ k_ => castTop (ef_rm0 m p1 p2 p3 p4 p5) k_) ?_
  have J90 : ∀ (Tj : State) (xa ya l1 u1 xb yb l2 u2 : Int64), Here p l e room_1 s m #[(.long p1), (.long p2), (.long p3), (.long p4), (.int p5)] below meth c n0 Tj h0 0 0 → (¬ l1 < 0 ∧ l1 < u1 ∧ ¬ (4294967295 : Int64) < u1) → (¬ l2 < 0 ∧ l2 < u2 ∧ ¬ (4294967295 : Int64) < u2) → Go p e below (Fini below s n0 (fun v h => v = some (.int (1 : Int32))) room_1.cells room_1.slots) (Tj.setTop (mkF m 90 #[.val (.long p1), .second, .val (.long p2), .second, .val (.long p3), .second, .val (.long p4), .second, .val (.int p5), .val (.long xa), .second, .val (.long ya), .second, .val (.long l1), .second, .val (.long u1), .second, .val (.long xb), .second, .val (.long yb), .second, .val (.long l2), .second, .val (.long u2), .second, .unset, .unset, .unset, .unset, .unset, .unset, .unset, .unset] [])) := by
    intro Tj xa ya l1 u1 xb yb l2 u2 Hj q1 q2
    show Go _ _ _ _ (Tj.setTop (mkF m 90 #[.val (.long p1), .second, .val (.long p2), .second, .val (.long p3), .second, .val (.long p4), .second, .val (.int p5), .val (.long xa), .second, .val (.long ya), .second, .val (.long l1), .second, .val (.long u1), .second, .val (.long xb), .second, .val (.long yb), .second, .val (.long l2), .second, .val (.long u2), .second, .unset, .unset, .unset, .unset, .unset, .unset, .unset, .unset] []))
    refine own_newO Hj hx hZ hown (hw _ (List.mem_of_getElem? (i := 15) rfl)) (hw _ (List.mem_of_getElem? (i := 16) rfl)) (hw _ (List.mem_of_getElem? (i := 17) rfl)) (g := (mkF m 90 #[.val (.long p1), .second, .val (.long p2), .second, .val (.long p3), .second, .val (.long p4), .second, .val (.int p5), .val (.long xa), .second, .val (.long ya), .second, .val (.long l1), .second, .val (.long u1), .second, .val (.long xb), .second, .val (.long yb), .second, .val (.long l2), .second, .val (.long u2), .second, .unset, .unset, .unset, .unset, .unset, .unset, .unset, .unset] [])) rfl (hb hby at_90) (by decide) (by decide) ?_
    intro T1 h1 a1 ga1 E1 A1 D1 H1
    have g_a1 : n0 ≤ a1 := by rw [ga1]; exact Z0
    have sz1 : n0 ≤ h1.size := Nat.le_trans Z0 E1.1
    have F1_lower : Fld Z h1 a1 "com/example/tidy_balancer/tidybalancer/model/BundleRange" "lower" "J" (.long (0 : Int64)) := D1 (Or.inr (hw _ (List.mem_of_getElem? (i := 26) rfl))) (ty := .long) (by decide)
    have F1_upper : Fld Z h1 a1 "com/example/tidy_balancer/tidybalancer/model/BundleRange" "upper" "J" (.long (0 : Int64)) := D1 (Or.inr (hw _ (List.mem_of_getElem? (i := 28) rfl))) (ty := .long) (by decide)
    show Go _ _ _ _ (T1.setTop (mkF m 93 #[.val (.long p1), .second, .val (.long p2), .second, .val (.long p3), .second, .val (.long p4), .second, .val (.int p5), .val (.long xa), .second, .val (.long ya), .second, .val (.long l1), .second, .val (.long u1), .second, .val (.long xb), .second, .val (.long yb), .second, .val (.long l2), .second, .val (.long u2), .second, .unset, .unset, .unset, .unset, .unset, .unset, .unset, .unset] [(.ref a1)]))
    refine Go.via (fun t_ k_ => XS.dup H1.here hx rfl (hb hby at_93) rfl rfl k_) ?_
    show Go _ _ _ _ (T1.setTop (mkF m 94 #[.val (.long p1), .second, .val (.long p2), .second, .val (.long p3), .second, .val (.long p4), .second, .val (.int p5), .val (.long xa), .second, .val (.long ya), .second, .val (.long l1), .second, .val (.long u1), .second, .val (.long xb), .second, .val (.long yb), .second, .val (.long l2), .second, .val (.long u2), .second, .unset, .unset, .unset, .unset, .unset, .unset, .unset, .unset] [(.ref a1), (.ref a1)]))
    refine Go.via (fun t_ k_ => XS.lload H1.here hx rfl (hb hby at_94) rfl k_) ?_
    show Go _ _ _ _ (T1.setTop (mkF m 96 #[.val (.long p1), .second, .val (.long p2), .second, .val (.long p3), .second, .val (.long p4), .second, .val (.int p5), .val (.long xa), .second, .val (.long ya), .second, .val (.long l1), .second, .val (.long u1), .second, .val (.long xb), .second, .val (.long yb), .second, .val (.long l2), .second, .val (.long u2), .second, .unset, .unset, .unset, .unset, .unset, .unset, .unset, .unset] [(.long l1), (.ref a1), (.ref a1)]))
    refine Go.via (fun t_ k_ => XS.lload H1.here hx rfl (hb hby at_96) rfl k_) ?_
    show Go _ _ _ _ (T1.setTop (mkF m 98 #[.val (.long p1), .second, .val (.long p2), .second, .val (.long p3), .second, .val (.long p4), .second, .val (.int p5), .val (.long xa), .second, .val (.long ya), .second, .val (.long l1), .second, .val (.long u1), .second, .val (.long xb), .second, .val (.long yb), .second, .val (.long l2), .second, .val (.long u2), .second, .unset, .unset, .unset, .unset, .unset, .unset, .unset, .unset] [(.long u1), (.long l1), (.ref a1), (.ref a1)]))
    refine own_callI H1 hx hZ (y := (⟨"com/example/tidy_balancer/tidybalancer/model/BundleRange", "<init>", "(JJ)V"⟩ : MethodName)) (a := a1) rfl hown (hw _ (List.mem_of_getElem? (i := 18) rfl)) (hw _ (List.mem_of_getElem? (i := 19) rfl)) (hw _ (List.mem_of_getElem? (i := 17) rfl)) (hw _ (List.mem_of_getElem? (i := 20) rfl)) (by decide) (rmInit l Z a0 hw a1 l1 u1 h1 n0 F1_lower F1_upper A1 g_a1 q1) (g := (mkF m 98 #[.val (.long p1), .second, .val (.long p2), .second, .val (.long p3), .second, .val (.long p4), .second, .val (.int p5), .val (.long xa), .second, .val (.long ya), .second, .val (.long l1), .second, .val (.long u1), .second, .val (.long xb), .second, .val (.long yb), .second, .val (.long l2), .second, .val (.long u2), .second, .unset, .unset, .unset, .unset, .unset, .unset, .unset, .unset] [(.long u1), (.long l1), (.ref a1), (.ref a1)])) rfl (by rw [hml]; rfl) (argsL := [(.long l1), (.long u1)]) (rest := [(.ref a1)]) (lenOf pd_3 rfl) rfl 1 (Nat.le_of_eq rfl) (hb hby at_98) (by decide) (by decide) (by decide) (by decide) ?_
    rintro _ T2 h2 ⟨rfl, K2, E2, Fl2, Fu2⟩ H2
    show Go _ _ _ _ (T2.setTop (mkF m 101 #[.val (.long p1), .second, .val (.long p2), .second, .val (.long p3), .second, .val (.long p4), .second, .val (.int p5), .val (.long xa), .second, .val (.long ya), .second, .val (.long l1), .second, .val (.long u1), .second, .val (.long xb), .second, .val (.long yb), .second, .val (.long l2), .second, .val (.long u2), .second, .unset, .unset, .unset, .unset, .unset, .unset, .unset, .unset] [(.ref a1)]))
    refine Go.via (fun t_ k_ => XS.astore H2.here hx rfl (hb hby at_101) rfl rfl (l' := #[.val (.long p1), .second, .val (.long p2), .second, .val (.long p3), .second, .val (.long p4), .second, .val (.int p5), .val (.long xa), .second, .val (.long ya), .second, .val (.long l1), .second, .val (.long u1), .second, .val (.long xb), .second, .val (.long yb), .second, .val (.long l2), .second, .val (.long u2), .second, .val (.ref a1), .unset, .unset, .unset, .unset, .unset, .unset, .unset]) rfl k_) ?_
    show Go _ _ _ _ (T2.setTop (mkF m 103 #[.val (.long p1), .second, .val (.long p2), .second, .val (.long p3), .second, .val (.long p4), .second, .val (.int p5), .val (.long xa), .second, .val (.long ya), .second, .val (.long l1), .second, .val (.long u1), .second, .val (.long xb), .second, .val (.long yb), .second, .val (.long l2), .second, .val (.long u2), .second, .val (.ref a1), .unset, .unset, .unset, .unset, .unset, .unset, .unset] []))
    refine own_newO H2 hx hZ hown (hw _ (List.mem_of_getElem? (i := 15) rfl)) (hw _ (List.mem_of_getElem? (i := 16) rfl)) (hw _ (List.mem_of_getElem? (i := 17) rfl)) (g := (mkF m 103 #[.val (.long p1), .second, .val (.long p2), .second, .val (.long p3), .second, .val (.long p4), .second, .val (.int p5), .val (.long xa), .second, .val (.long ya), .second, .val (.long l1), .second, .val (.long u1), .second, .val (.long xb), .second, .val (.long yb), .second, .val (.long l2), .second, .val (.long u2), .second, .val (.ref a1), .unset, .unset, .unset, .unset, .unset, .unset, .unset] [])) rfl (hb hby at_103) (by decide) (by decide) ?_
    intro T3 h3 a3 ga3 E3 A3 D3 H3
    have ne_a1_a3 : a1 ≠ a3 := by rw [ga3]; exact Nat.ne_of_lt E2.lt
    have g_a3 : n0 ≤ a3 := by rw [ga3]; exact (Nat.le_trans sz1 K2.1)
    have sz3 : n0 ≤ h3.size := Nat.le_trans (Nat.le_trans sz1 K2.1) E3.1
    have F3_lower : Fld Z h3 a3 "com/example/tidy_balancer/tidybalancer/model/BundleRange" "lower" "J" (.long (0 : Int64)) := D3 (Or.inr (hw _ (List.mem_of_getElem? (i := 26) rfl))) (ty := .long) (by decide)
    have F3_upper : Fld Z h3 a3 "com/example/tidy_balancer/tidybalancer/model/BundleRange" "upper" "J" (.long (0 : Int64)) := D3 (Or.inr (hw _ (List.mem_of_getElem? (i := 28) rfl))) (ty := .long) (by decide)
    show Go _ _ _ _ (T3.setTop (mkF m 106 #[.val (.long p1), .second, .val (.long p2), .second, .val (.long p3), .second, .val (.long p4), .second, .val (.int p5), .val (.long xa), .second, .val (.long ya), .second, .val (.long l1), .second, .val (.long u1), .second, .val (.long xb), .second, .val (.long yb), .second, .val (.long l2), .second, .val (.long u2), .second, .val (.ref a1), .unset, .unset, .unset, .unset, .unset, .unset, .unset] [(.ref a3)]))
    refine Go.via (fun t_ k_ => XS.dup H3.here hx rfl (hb hby at_106) rfl rfl k_) ?_
    show Go _ _ _ _ (T3.setTop (mkF m 107 #[.val (.long p1), .second, .val (.long p2), .second, .val (.long p3), .second, .val (.long p4), .second, .val (.int p5), .val (.long xa), .second, .val (.long ya), .second, .val (.long l1), .second, .val (.long u1), .second, .val (.long xb), .second, .val (.long yb), .second, .val (.long l2), .second, .val (.long u2), .second, .val (.ref a1), .unset, .unset, .unset, .unset, .unset, .unset, .unset] [(.ref a3), (.ref a3)]))
    refine Go.via (fun t_ k_ => XS.lload H3.here hx rfl (hb hby at_107) rfl k_) ?_
    show Go _ _ _ _ (T3.setTop (mkF m 109 #[.val (.long p1), .second, .val (.long p2), .second, .val (.long p3), .second, .val (.long p4), .second, .val (.int p5), .val (.long xa), .second, .val (.long ya), .second, .val (.long l1), .second, .val (.long u1), .second, .val (.long xb), .second, .val (.long yb), .second, .val (.long l2), .second, .val (.long u2), .second, .val (.ref a1), .unset, .unset, .unset, .unset, .unset, .unset, .unset] [(.long l2), (.ref a3), (.ref a3)]))
    refine Go.via (fun t_ k_ => XS.lload H3.here hx rfl (hb hby at_109) rfl k_) ?_
    show Go _ _ _ _ (T3.setTop (mkF m 111 #[.val (.long p1), .second, .val (.long p2), .second, .val (.long p3), .second, .val (.long p4), .second, .val (.int p5), .val (.long xa), .second, .val (.long ya), .second, .val (.long l1), .second, .val (.long u1), .second, .val (.long xb), .second, .val (.long yb), .second, .val (.long l2), .second, .val (.long u2), .second, .val (.ref a1), .unset, .unset, .unset, .unset, .unset, .unset, .unset] [(.long u2), (.long l2), (.ref a3), (.ref a3)]))
    refine own_callI H3 hx hZ (y := (⟨"com/example/tidy_balancer/tidybalancer/model/BundleRange", "<init>", "(JJ)V"⟩ : MethodName)) (a := a3) rfl hown (hw _ (List.mem_of_getElem? (i := 18) rfl)) (hw _ (List.mem_of_getElem? (i := 19) rfl)) (hw _ (List.mem_of_getElem? (i := 17) rfl)) (hw _ (List.mem_of_getElem? (i := 20) rfl)) (by decide) (rmInit l Z a0 hw a3 l2 u2 h3 n0 F3_lower F3_upper A3 g_a3 q2) (g := (mkF m 111 #[.val (.long p1), .second, .val (.long p2), .second, .val (.long p3), .second, .val (.long p4), .second, .val (.int p5), .val (.long xa), .second, .val (.long ya), .second, .val (.long l1), .second, .val (.long u1), .second, .val (.long xb), .second, .val (.long yb), .second, .val (.long l2), .second, .val (.long u2), .second, .val (.ref a1), .unset, .unset, .unset, .unset, .unset, .unset, .unset] [(.long u2), (.long l2), (.ref a3), (.ref a3)])) rfl (by rw [hml]; rfl) (argsL := [(.long l2), (.long u2)]) (rest := [(.ref a3)]) (lenOf pd_3 rfl) rfl 1 (Nat.le_of_eq rfl) (hb hby at_111) (by decide) (by decide) (by decide) (by decide) ?_
    rintro _ T4 h4 ⟨rfl, K4, E4, Fl4, Fu4⟩ H4
    show Go _ _ _ _ (T4.setTop (mkF m 114 #[.val (.long p1), .second, .val (.long p2), .second, .val (.long p3), .second, .val (.long p4), .second, .val (.int p5), .val (.long xa), .second, .val (.long ya), .second, .val (.long l1), .second, .val (.long u1), .second, .val (.long xb), .second, .val (.long yb), .second, .val (.long l2), .second, .val (.long u2), .second, .val (.ref a1), .unset, .unset, .unset, .unset, .unset, .unset, .unset] [(.ref a3)]))
    refine Go.via (fun t_ k_ => XS.astore H4.here hx rfl (hb hby at_114) rfl rfl (l' := #[.val (.long p1), .second, .val (.long p2), .second, .val (.long p3), .second, .val (.long p4), .second, .val (.int p5), .val (.long xa), .second, .val (.long ya), .second, .val (.long l1), .second, .val (.long u1), .second, .val (.long xb), .second, .val (.long yb), .second, .val (.long l2), .second, .val (.long u2), .second, .val (.ref a1), .val (.ref a3), .unset, .unset, .unset, .unset, .unset, .unset]) rfl k_) ?_
    show Go _ _ _ _ (T4.setTop (mkF m 116 #[.val (.long p1), .second, .val (.long p2), .second, .val (.long p3), .second, .val (.long p4), .second, .val (.int p5), .val (.long xa), .second, .val (.long ya), .second, .val (.long l1), .second, .val (.long u1), .second, .val (.long xb), .second, .val (.long yb), .second, .val (.long l2), .second, .val (.long u2), .second, .val (.ref a1), .val (.ref a3), .unset, .unset, .unset, .unset, .unset, .unset] []))
    have J137 : ∀ (Tj : State) (ex : Int32), Here p l e room_1 s m #[(.long p1), (.long p2), (.long p3), (.long p4), (.int p5)] below meth c n0 Tj h4 2 4 → (ex = eqF l2 l1 u2 u1) → Go p e below (Fini below s n0 (fun v h => v = some (.int (1 : Int32))) room_1.cells room_1.slots) (Tj.setTop (mkF m 137 #[.val (.long p1), .second, .val (.long p2), .second, .val (.long p3), .second, .val (.long p4), .second, .val (.int p5), .val (.long xa), .second, .val (.long ya), .second, .val (.long l1), .second, .val (.long u1), .second, .val (.long xb), .second, .val (.long yb), .second, .val (.long l2), .second, .val (.long u2), .second, .val (.ref a1), .val (.ref a3), .unset, .unset, .unset, .unset, .unset, .unset] [(.int ex)])) := by
      intro Tj ex Hj hex
      show Go _ _ _ _ (Tj.setTop (mkF m 137 #[.val (.long p1), .second, .val (.long p2), .second, .val (.long p3), .second, .val (.long p4), .second, .val (.int p5), .val (.long xa), .second, .val (.long ya), .second, .val (.long l1), .second, .val (.long u1), .second, .val (.long xb), .second, .val (.long yb), .second, .val (.long l2), .second, .val (.long u2), .second, .val (.ref a1), .val (.ref a3), .unset, .unset, .unset, .unset, .unset, .unset] [(.int ex)]))
      refine Go.via (fun t_ k_ => XS.istore Hj.here hx rfl (hb hby at_137) rfl (l' := #[.val (.long p1), .second, .val (.long p2), .second, .val (.long p3), .second, .val (.long p4), .second, .val (.int p5), .val (.long xa), .second, .val (.long ya), .second, .val (.long l1), .second, .val (.long u1), .second, .val (.long xb), .second, .val (.long yb), .second, .val (.long l2), .second, .val (.long u2), .second, .val (.ref a1), .val (.ref a3), .val (.int ex), .unset, .unset, .unset, .unset, .unset]) rfl k_) ?_
      show Go _ _ _ _ (Tj.setTop (mkF m 139 #[.val (.long p1), .second, .val (.long p2), .second, .val (.long p3), .second, .val (.long p4), .second, .val (.int p5), .val (.long xa), .second, .val (.long ya), .second, .val (.long l1), .second, .val (.long u1), .second, .val (.long xb), .second, .val (.long yb), .second, .val (.long l2), .second, .val (.long u2), .second, .val (.ref a1), .val (.ref a3), .val (.int ex), .unset, .unset, .unset, .unset, .unset] []))
      refine Go.via (fun t_ k_ => XS.aload Hj.here hx rfl (hb hby at_139) rfl rfl k_) ?_
      show Go _ _ _ _ (Tj.setTop (mkF m 141 #[.val (.long p1), .second, .val (.long p2), .second, .val (.long p3), .second, .val (.long p4), .second, .val (.int p5), .val (.long xa), .second, .val (.long ya), .second, .val (.long l1), .second, .val (.long u1), .second, .val (.long xb), .second, .val (.long yb), .second, .val (.long l2), .second, .val (.long u2), .second, .val (.ref a1), .val (.ref a3), .val (.int ex), .unset, .unset, .unset, .unset, .unset] [(.ref a1)]))
      refine Go.via (fun t_ k_ => XS.aload Hj.here hx rfl (hb hby at_141) rfl rfl k_) ?_
      show Go _ _ _ _ (Tj.setTop (mkF m 143 #[.val (.long p1), .second, .val (.long p2), .second, .val (.long p3), .second, .val (.long p4), .second, .val (.int p5), .val (.long xa), .second, .val (.long ya), .second, .val (.long l1), .second, .val (.long u1), .second, .val (.long xb), .second, .val (.long yb), .second, .val (.long l2), .second, .val (.long u2), .second, .val (.ref a1), .val (.ref a3), .val (.int ex), .unset, .unset, .unset, .unset, .unset] [(.ref a3), (.ref a1)]))
      refine own_callV Hj hx hZ (C := "com/example/tidy_balancer/tidybalancer/model/BundleRange") (y := (⟨"com/example/tidy_balancer/tidybalancer/model/BundleRange", "equals", "(Ljava/lang/Object;)Z"⟩ : MethodName)) (a := a1) hown (hw _ (List.mem_of_getElem? (i := 29) rfl)) (hw _ (List.mem_of_getElem? (i := 30) rfl)) (hw _ (List.mem_of_getElem? (i := 32) rfl)) (hw _ (List.mem_of_getElem? (i := 31) rfl)) (hw _ (List.mem_of_getElem? (i := 17) rfl)) (hw _ (List.mem_of_getElem? (i := 33) rfl)) (by decide) ((E2.ext E3).keep K4) (rmEq l Z a0 hw a1 a3 l1 u1 l2 u2 h4 n0 ((Fl2.ext E3).keep K4 (ninS ne_a1_a3 nin0)) ((Fu2.ext E3).keep K4 (ninS ne_a1_a3 nin0)) E4 Fl4 Fu4) (g := (mkF m 143 #[.val (.long p1), .second, .val (.long p2), .second, .val (.long p3), .second, .val (.long p4), .second, .val (.int p5), .val (.long xa), .second, .val (.long ya), .second, .val (.long l1), .second, .val (.long u1), .second, .val (.long xb), .second, .val (.long yb), .second, .val (.long l2), .second, .val (.long u2), .second, .val (.ref a1), .val (.ref a3), .val (.int ex), .unset, .unset, .unset, .unset, .unset] [(.ref a3), (.ref a1)])) rfl (by rw [hml]; rfl) (argsL := [(.ref a3)]) (rest := []) (lenOf pd_4 rfl) rfl 0 (Nat.le_of_eq rfl) (hb hby at_143) (by decide) (by decide) (by decide) (by decide) ?_
      rintro _ T5 _ ⟨rfl, rfl⟩ H5
      show Go _ _ _ _ (T5.setTop (mkF m 146 #[.val (.long p1), .second, .val (.long p2), .second, .val (.long p3), .second, .val (.long p4), .second, .val (.int p5), .val (.long xa), .second, .val (.long ya), .second, .val (.long l1), .second, .val (.long u1), .second, .val (.long xb), .second, .val (.long yb), .second, .val (.long l2), .second, .val (.long u2), .second, .val (.ref a1), .val (.ref a3), .val (.int ex), .unset, .unset, .unset, .unset, .unset] [(.int (eqF l2 l1 u2 u1))]))
      refine Go.via (fun t_ k_ => XS.istore H5.here hx rfl (hb hby at_146) rfl (l' := #[.val (.long p1), .second, .val (.long p2), .second, .val (.long p3), .second, .val (.long p4), .second, .val (.int p5), .val (.long xa), .second, .val (.long ya), .second, .val (.long l1), .second, .val (.long u1), .second, .val (.long xb), .second, .val (.long yb), .second, .val (.long l2), .second, .val (.long u2), .second, .val (.ref a1), .val (.ref a3), .val (.int ex), .val (.int (eqF l2 l1 u2 u1)), .unset, .unset, .unset, .unset]) rfl k_) ?_
      show Go _ _ _ _ (T5.setTop (mkF m 148 #[.val (.long p1), .second, .val (.long p2), .second, .val (.long p3), .second, .val (.long p4), .second, .val (.int p5), .val (.long xa), .second, .val (.long ya), .second, .val (.long l1), .second, .val (.long u1), .second, .val (.long xb), .second, .val (.long yb), .second, .val (.long l2), .second, .val (.long u2), .second, .val (.ref a1), .val (.ref a3), .val (.int ex), .val (.int (eqF l2 l1 u2 u1)), .unset, .unset, .unset, .unset] []))
      refine Go.via (fun t_ k_ => XS.aload H5.here hx rfl (hb hby at_148) rfl rfl k_) ?_
      show Go _ _ _ _ (T5.setTop (mkF m 150 #[.val (.long p1), .second, .val (.long p2), .second, .val (.long p3), .second, .val (.long p4), .second, .val (.int p5), .val (.long xa), .second, .val (.long ya), .second, .val (.long l1), .second, .val (.long u1), .second, .val (.long xb), .second, .val (.long yb), .second, .val (.long l2), .second, .val (.long u2), .second, .val (.ref a1), .val (.ref a3), .val (.int ex), .val (.int (eqF l2 l1 u2 u1)), .unset, .unset, .unset, .unset] [(.ref a3)]))
      refine Go.via (fun t_ k_ => XS.aload H5.here hx rfl (hb hby at_150) rfl rfl k_) ?_
      show Go _ _ _ _ (T5.setTop (mkF m 152 #[.val (.long p1), .second, .val (.long p2), .second, .val (.long p3), .second, .val (.long p4), .second, .val (.int p5), .val (.long xa), .second, .val (.long ya), .second, .val (.long l1), .second, .val (.long u1), .second, .val (.long xb), .second, .val (.long yb), .second, .val (.long l2), .second, .val (.long u2), .second, .val (.ref a1), .val (.ref a3), .val (.int ex), .val (.int (eqF l2 l1 u2 u1)), .unset, .unset, .unset, .unset] [(.ref a1), (.ref a3)]))
      refine own_callV H5 hx hZ (C := "com/example/tidy_balancer/tidybalancer/model/BundleRange") (y := (⟨"com/example/tidy_balancer/tidybalancer/model/BundleRange", "equals", "(Ljava/lang/Object;)Z"⟩ : MethodName)) (a := a3) hown (hw _ (List.mem_of_getElem? (i := 29) rfl)) (hw _ (List.mem_of_getElem? (i := 30) rfl)) (hw _ (List.mem_of_getElem? (i := 32) rfl)) (hw _ (List.mem_of_getElem? (i := 31) rfl)) (hw _ (List.mem_of_getElem? (i := 17) rfl)) (hw _ (List.mem_of_getElem? (i := 33) rfl)) (by decide) E4 (rmEq l Z a0 hw a3 a1 l2 u2 l1 u1 h4 n0 Fl4 Fu4 ((E2.ext E3).keep K4) ((Fl2.ext E3).keep K4 (ninS ne_a1_a3 nin0)) ((Fu2.ext E3).keep K4 (ninS ne_a1_a3 nin0))) (g := (mkF m 152 #[.val (.long p1), .second, .val (.long p2), .second, .val (.long p3), .second, .val (.long p4), .second, .val (.int p5), .val (.long xa), .second, .val (.long ya), .second, .val (.long l1), .second, .val (.long u1), .second, .val (.long xb), .second, .val (.long yb), .second, .val (.long l2), .second, .val (.long u2), .second, .val (.ref a1), .val (.ref a3), .val (.int ex), .val (.int (eqF l2 l1 u2 u1)), .unset, .unset, .unset, .unset] [(.ref a1), (.ref a3)])) rfl (by rw [hml]; rfl) (argsL := [(.ref a1)]) (rest := []) (lenOf pd_4 rfl) rfl 0 (Nat.le_of_eq rfl) (hb hby at_152) (by decide) (by decide) (by decide) (by decide) ?_
      rintro _ T6 _ ⟨rfl, rfl⟩ H6
      show Go _ _ _ _ (T6.setTop (mkF m 155 #[.val (.long p1), .second, .val (.long p2), .second, .val (.long p3), .second, .val (.long p4), .second, .val (.int p5), .val (.long xa), .second, .val (.long ya), .second, .val (.long l1), .second, .val (.long u1), .second, .val (.long xb), .second, .val (.long yb), .second, .val (.long l2), .second, .val (.long u2), .second, .val (.ref a1), .val (.ref a3), .val (.int ex), .val (.int (eqF l2 l1 u2 u1)), .unset, .unset, .unset, .unset] [(.int (eqF l1 l2 u1 u2))]))
      refine Go.via (fun t_ k_ => XS.istore H6.here hx rfl (hb hby at_155) rfl (l' := #[.val (.long p1), .second, .val (.long p2), .second, .val (.long p3), .second, .val (.long p4), .second, .val (.int p5), .val (.long xa), .second, .val (.long ya), .second, .val (.long l1), .second, .val (.long u1), .second, .val (.long xb), .second, .val (.long yb), .second, .val (.long l2), .second, .val (.long u2), .second, .val (.ref a1), .val (.ref a3), .val (.int ex), .val (.int (eqF l2 l1 u2 u1)), .val (.int (eqF l1 l2 u1 u2)), .unset, .unset, .unset]) rfl k_) ?_
      show Go _ _ _ _ (T6.setTop (mkF m 157 #[.val (.long p1), .second, .val (.long p2), .second, .val (.long p3), .second, .val (.long p4), .second, .val (.int p5), .val (.long xa), .second, .val (.long ya), .second, .val (.long l1), .second, .val (.long u1), .second, .val (.long xb), .second, .val (.long yb), .second, .val (.long l2), .second, .val (.long u2), .second, .val (.ref a1), .val (.ref a3), .val (.int ex), .val (.int (eqF l2 l1 u2 u1)), .val (.int (eqF l1 l2 u1 u2)), .unset, .unset, .unset] []))
      refine Go.via (fun t_ k_ => XS.aload H6.here hx rfl (hb hby at_157) rfl rfl k_) ?_
      show Go _ _ _ _ (T6.setTop (mkF m 159 #[.val (.long p1), .second, .val (.long p2), .second, .val (.long p3), .second, .val (.long p4), .second, .val (.int p5), .val (.long xa), .second, .val (.long ya), .second, .val (.long l1), .second, .val (.long u1), .second, .val (.long xb), .second, .val (.long yb), .second, .val (.long l2), .second, .val (.long u2), .second, .val (.ref a1), .val (.ref a3), .val (.int ex), .val (.int (eqF l2 l1 u2 u1)), .val (.int (eqF l1 l2 u1 u2)), .unset, .unset, .unset] [(.ref a1)]))
      refine Go.via (fun t_ k_ => XS.aload H6.here hx rfl (hb hby at_159) rfl rfl k_) ?_
      show Go _ _ _ _ (T6.setTop (mkF m 161 #[.val (.long p1), .second, .val (.long p2), .second, .val (.long p3), .second, .val (.long p4), .second, .val (.int p5), .val (.long xa), .second, .val (.long ya), .second, .val (.long l1), .second, .val (.long u1), .second, .val (.long xb), .second, .val (.long yb), .second, .val (.long l2), .second, .val (.long u2), .second, .val (.ref a1), .val (.ref a3), .val (.int ex), .val (.int (eqF l2 l1 u2 u1)), .val (.int (eqF l1 l2 u1 u2)), .unset, .unset, .unset] [(.ref a1), (.ref a1)]))
      refine own_callV H6 hx hZ (C := "com/example/tidy_balancer/tidybalancer/model/BundleRange") (y := (⟨"com/example/tidy_balancer/tidybalancer/model/BundleRange", "equals", "(Ljava/lang/Object;)Z"⟩ : MethodName)) (a := a1) hown (hw _ (List.mem_of_getElem? (i := 29) rfl)) (hw _ (List.mem_of_getElem? (i := 30) rfl)) (hw _ (List.mem_of_getElem? (i := 32) rfl)) (hw _ (List.mem_of_getElem? (i := 31) rfl)) (hw _ (List.mem_of_getElem? (i := 17) rfl)) (hw _ (List.mem_of_getElem? (i := 33) rfl)) (by decide) ((E2.ext E3).keep K4) (rmEq l Z a0 hw a1 a1 l1 u1 l1 u1 h4 n0 ((Fl2.ext E3).keep K4 (ninS ne_a1_a3 nin0)) ((Fu2.ext E3).keep K4 (ninS ne_a1_a3 nin0)) ((E2.ext E3).keep K4) ((Fl2.ext E3).keep K4 (ninS ne_a1_a3 nin0)) ((Fu2.ext E3).keep K4 (ninS ne_a1_a3 nin0))) (g := (mkF m 161 #[.val (.long p1), .second, .val (.long p2), .second, .val (.long p3), .second, .val (.long p4), .second, .val (.int p5), .val (.long xa), .second, .val (.long ya), .second, .val (.long l1), .second, .val (.long u1), .second, .val (.long xb), .second, .val (.long yb), .second, .val (.long l2), .second, .val (.long u2), .second, .val (.ref a1), .val (.ref a3), .val (.int ex), .val (.int (eqF l2 l1 u2 u1)), .val (.int (eqF l1 l2 u1 u2)), .unset, .unset, .unset] [(.ref a1), (.ref a1)])) rfl (by rw [hml]; rfl) (argsL := [(.ref a1)]) (rest := []) (lenOf pd_4 rfl) rfl 0 (Nat.le_of_eq rfl) (hb hby at_161) (by decide) (by decide) (by decide) (by decide) ?_
      rintro _ T7 _ ⟨rfl, rfl⟩ H7
      show Go _ _ _ _ (T7.setTop (mkF m 164 #[.val (.long p1), .second, .val (.long p2), .second, .val (.long p3), .second, .val (.long p4), .second, .val (.int p5), .val (.long xa), .second, .val (.long ya), .second, .val (.long l1), .second, .val (.long u1), .second, .val (.long xb), .second, .val (.long yb), .second, .val (.long l2), .second, .val (.long u2), .second, .val (.ref a1), .val (.ref a3), .val (.int ex), .val (.int (eqF l2 l1 u2 u1)), .val (.int (eqF l1 l2 u1 u2)), .unset, .unset, .unset] [(.int (eqF l1 l1 u1 u1))]))
      refine Go.via (fun t_ k_ => XS.istore H7.here hx rfl (hb hby at_164) rfl (l' := #[.val (.long p1), .second, .val (.long p2), .second, .val (.long p3), .second, .val (.long p4), .second, .val (.int p5), .val (.long xa), .second, .val (.long ya), .second, .val (.long l1), .second, .val (.long u1), .second, .val (.long xb), .second, .val (.long yb), .second, .val (.long l2), .second, .val (.long u2), .second, .val (.ref a1), .val (.ref a3), .val (.int ex), .val (.int (eqF l2 l1 u2 u1)), .val (.int (eqF l1 l2 u1 u2)), .val (.int (eqF l1 l1 u1 u1)), .unset, .unset]) rfl k_) ?_
      show Go _ _ _ _ (T7.setTop (mkF m 166 #[.val (.long p1), .second, .val (.long p2), .second, .val (.long p3), .second, .val (.long p4), .second, .val (.int p5), .val (.long xa), .second, .val (.long ya), .second, .val (.long l1), .second, .val (.long u1), .second, .val (.long xb), .second, .val (.long yb), .second, .val (.long l2), .second, .val (.long u2), .second, .val (.ref a1), .val (.ref a3), .val (.int ex), .val (.int (eqF l2 l1 u2 u1)), .val (.int (eqF l1 l2 u1 u2)), .val (.int (eqF l1 l1 u1 u1)), .unset, .unset] []))
      refine Go.via (fun t_ k_ => XS.aload H7.here hx rfl (hb hby at_166) rfl rfl k_) ?_
      show Go _ _ _ _ (T7.setTop (mkF m 168 #[.val (.long p1), .second, .val (.long p2), .second, .val (.long p3), .second, .val (.long p4), .second, .val (.int p5), .val (.long xa), .second, .val (.long ya), .second, .val (.long l1), .second, .val (.long u1), .second, .val (.long xb), .second, .val (.long yb), .second, .val (.long l2), .second, .val (.long u2), .second, .val (.ref a1), .val (.ref a3), .val (.int ex), .val (.int (eqF l2 l1 u2 u1)), .val (.int (eqF l1 l2 u1 u2)), .val (.int (eqF l1 l1 u1 u1)), .unset, .unset] [(.ref a1)]))
      refine Go.via (fun t_ k_ => XS.aconstNull H7.here hx rfl (hb hby at_168) k_) ?_
      show Go _ _ _ _ (T7.setTop (mkF m 169 #[.val (.long p1), .second, .val (.long p2), .second, .val (.long p3), .second, .val (.long p4), .second, .val (.int p5), .val (.long xa), .second, .val (.long ya), .second, .val (.long l1), .second, .val (.long u1), .second, .val (.long xb), .second, .val (.long yb), .second, .val (.long l2), .second, .val (.long u2), .second, .val (.ref a1), .val (.ref a3), .val (.int ex), .val (.int (eqF l2 l1 u2 u1)), .val (.int (eqF l1 l2 u1 u2)), .val (.int (eqF l1 l1 u1 u1)), .unset, .unset] [.null, (.ref a1)]))
      refine own_callV H7 hx hZ (C := "com/example/tidy_balancer/tidybalancer/model/BundleRange") (y := (⟨"com/example/tidy_balancer/tidybalancer/model/BundleRange", "equals", "(Ljava/lang/Object;)Z"⟩ : MethodName)) (a := a1) hown (hw _ (List.mem_of_getElem? (i := 29) rfl)) (hw _ (List.mem_of_getElem? (i := 30) rfl)) (hw _ (List.mem_of_getElem? (i := 32) rfl)) (hw _ (List.mem_of_getElem? (i := 31) rfl)) (hw _ (List.mem_of_getElem? (i := 17) rfl)) (hw _ (List.mem_of_getElem? (i := 33) rfl)) (by decide) ((E2.ext E3).keep K4) (rmEqN l Z a0 hw a1 h4 n0) (g := (mkF m 169 #[.val (.long p1), .second, .val (.long p2), .second, .val (.long p3), .second, .val (.long p4), .second, .val (.int p5), .val (.long xa), .second, .val (.long ya), .second, .val (.long l1), .second, .val (.long u1), .second, .val (.long xb), .second, .val (.long yb), .second, .val (.long l2), .second, .val (.long u2), .second, .val (.ref a1), .val (.ref a3), .val (.int ex), .val (.int (eqF l2 l1 u2 u1)), .val (.int (eqF l1 l2 u1 u2)), .val (.int (eqF l1 l1 u1 u1)), .unset, .unset] [.null, (.ref a1)])) rfl (by rw [hml]; rfl) (argsL := [.null]) (rest := []) (lenOf pd_4 rfl) rfl 0 (Nat.le_of_eq rfl) (hb hby at_169) (by decide) (by decide) (by decide) (by decide) ?_
      rintro _ T8 _ ⟨rfl, rfl⟩ H8
      show Go _ _ _ _ (T8.setTop (mkF m 172 #[.val (.long p1), .second, .val (.long p2), .second, .val (.long p3), .second, .val (.long p4), .second, .val (.int p5), .val (.long xa), .second, .val (.long ya), .second, .val (.long l1), .second, .val (.long u1), .second, .val (.long xb), .second, .val (.long yb), .second, .val (.long l2), .second, .val (.long u2), .second, .val (.ref a1), .val (.ref a3), .val (.int ex), .val (.int (eqF l2 l1 u2 u1)), .val (.int (eqF l1 l2 u1 u2)), .val (.int (eqF l1 l1 u1 u1)), .unset, .unset] [(.int (0 : Int32))]))
      refine Go.via (fun t_ k_ => XS.istore H8.here hx rfl (hb hby at_172) rfl (l' := #[.val (.long p1), .second, .val (.long p2), .second, .val (.long p3), .second, .val (.long p4), .second, .val (.int p5), .val (.long xa), .second, .val (.long ya), .second, .val (.long l1), .second, .val (.long u1), .second, .val (.long xb), .second, .val (.long yb), .second, .val (.long l2), .second, .val (.long u2), .second, .val (.ref a1), .val (.ref a3), .val (.int ex), .val (.int (eqF l2 l1 u2 u1)), .val (.int (eqF l1 l2 u1 u2)), .val (.int (eqF l1 l1 u1 u1)), .val (.int (0 : Int32)), .unset]) rfl k_) ?_
      show Go _ _ _ _ (T8.setTop (mkF m 174 #[.val (.long p1), .second, .val (.long p2), .second, .val (.long p3), .second, .val (.long p4), .second, .val (.int p5), .val (.long xa), .second, .val (.long ya), .second, .val (.long l1), .second, .val (.long u1), .second, .val (.long xb), .second, .val (.long yb), .second, .val (.long l2), .second, .val (.long u2), .second, .val (.ref a1), .val (.ref a3), .val (.int ex), .val (.int (eqF l2 l1 u2 u1)), .val (.int (eqF l1 l2 u1 u2)), .val (.int (eqF l1 l1 u1 u1)), .val (.int (0 : Int32)), .unset] []))
      refine Go.via (fun t_ k_ => XS.aload H8.here hx rfl (hb hby at_174) rfl rfl k_) ?_
      show Go _ _ _ _ (T8.setTop (mkF m 176 #[.val (.long p1), .second, .val (.long p2), .second, .val (.long p3), .second, .val (.long p4), .second, .val (.int p5), .val (.long xa), .second, .val (.long ya), .second, .val (.long l1), .second, .val (.long u1), .second, .val (.long xb), .second, .val (.long yb), .second, .val (.long l2), .second, .val (.long u2), .second, .val (.ref a1), .val (.ref a3), .val (.int ex), .val (.int (eqF l2 l1 u2 u1)), .val (.int (eqF l1 l2 u1 u2)), .val (.int (eqF l1 l1 u1 u1)), .val (.int (0 : Int32)), .unset] [(.ref a1)]))
      refine Go.via (fun t_ k_ => XS.lload H8.here hx rfl (hb hby at_176) rfl k_) ?_
      show Go _ _ _ _ (T8.setTop (mkF m 178 #[.val (.long p1), .second, .val (.long p2), .second, .val (.long p3), .second, .val (.long p4), .second, .val (.int p5), .val (.long xa), .second, .val (.long ya), .second, .val (.long l1), .second, .val (.long u1), .second, .val (.long xb), .second, .val (.long yb), .second, .val (.long l2), .second, .val (.long u2), .second, .val (.ref a1), .val (.ref a3), .val (.int ex), .val (.int (eqF l2 l1 u2 u1)), .val (.int (eqF l1 l2 u1 u2)), .val (.int (eqF l1 l1 u1 u1)), .val (.int (0 : Int32)), .unset] [(.long l1), (.ref a1)]))
      refine own_callS H8 hx hZ (y := (⟨"java/lang/Long", "valueOf", "(J)Ljava/lang/Long;"⟩ : MethodName)) hown (hw _ (List.mem_of_getElem? (i := 36) rfl)) (hw _ (List.mem_of_getElem? (i := 37) rfl)) (hw _ (List.mem_of_getElem? (i := 38) rfl)) (hw _ (List.mem_of_getElem? (i := 39) rfl)) (by decide) (rmVal l Z a0 hw l1 ca cl h4 n0 (Nat.le_trans sz3 K4.1) (SC.ext ((((OL.ext E1).keep K2 (allS g_a1 all0)).ext E3).keep K4 (allS g_a3 all0)).2) (AC.ext ((((OL.ext E1).keep K2 (allS g_a1 all0)).ext E3).keep K4 (allS g_a3 all0)).2) hs (fun j hj => by obtain ⟨b, q1, q2⟩ := hall j hj; exact ⟨b, q1, q2.ext ((((OL.ext E1).keep K2 (allS g_a1 all0)).ext E3).keep K4 (allS g_a3 all0)).2⟩)) (g := (mkF m 178 #[.val (.long p1), .second, .val (.long p2), .second, .val (.long p3), .second, .val (.long p4), .second, .val (.int p5), .val (.long xa), .second, .val (.long ya), .second, .val (.long l1), .second, .val (.long u1), .second, .val (.long xb), .second, .val (.long yb), .second, .val (.long l2), .second, .val (.long u2), .second, .val (.ref a1), .val (.ref a3), .val (.int ex), .val (.int (eqF l2 l1 u2 u1)), .val (.int (eqF l1 l2 u1 u2)), .val (.int (eqF l1 l1 u1 u1)), .val (.int (0 : Int32)), .unset] [(.long l1), (.ref a1)])) rfl (by rw [hml]; rfl) (argsL := [(.long l1)]) (rest := [(.ref a1)]) (lenOf pd_5 rfl) rfl 1 (Nat.le_of_eq rfl) (hb hby at_178) (by decide) (by decide) (by decide) (by decide) ?_
      rintro _ T9 h9 ⟨b9, rfl, K9, E9⟩ H9
      show Go _ _ _ _ (T9.setTop (mkF m 181 #[.val (.long p1), .second, .val (.long p2), .second, .val (.long p3), .second, .val (.long p4), .second, .val (.int p5), .val (.long xa), .second, .val (.long ya), .second, .val (.long l1), .second, .val (.long u1), .second, .val (.long xb), .second, .val (.long yb), .second, .val (.long l2), .second, .val (.long u2), .second, .val (.ref a1), .val (.ref a3), .val (.int ex), .val (.int (eqF l2 l1 u2 u1)), .val (.int (eqF l1 l2 u1 u2)), .val (.int (eqF l1 l1 u1 u1)), .val (.int (0 : Int32)), .unset] [(.ref b9), (.ref a1)]))
      refine own_callV H9 hx hZ (C := "com/example/tidy_balancer/tidybalancer/model/BundleRange") (y := (⟨"com/example/tidy_balancer/tidybalancer/model/BundleRange", "equals", "(Ljava/lang/Object;)Z"⟩ : MethodName)) (a := a1) hown (hw _ (List.mem_of_getElem? (i := 29) rfl)) (hw _ (List.mem_of_getElem? (i := 30) rfl)) (hw _ (List.mem_of_getElem? (i := 32) rfl)) (hw _ (List.mem_of_getElem? (i := 31) rfl)) (hw _ (List.mem_of_getElem? (i := 17) rfl)) (hw _ (List.mem_of_getElem? (i := 33) rfl)) (by decide) (((E2.ext E3).keep K4).keep K9) (rmEqL l Z a0 hw a1 b9 h9 n0 E9) (g := (mkF m 181 #[.val (.long p1), .second, .val (.long p2), .second, .val (.long p3), .second, .val (.long p4), .second, .val (.int p5), .val (.long xa), .second, .val (.long ya), .second, .val (.long l1), .second, .val (.long u1), .second, .val (.long xb), .second, .val (.long yb), .second, .val (.long l2), .second, .val (.long u2), .second, .val (.ref a1), .val (.ref a3), .val (.int ex), .val (.int (eqF l2 l1 u2 u1)), .val (.int (eqF l1 l2 u1 u2)), .val (.int (eqF l1 l1 u1 u1)), .val (.int (0 : Int32)), .unset] [(.ref b9), (.ref a1)])) rfl (by rw [hml]; rfl) (argsL := [(.ref b9)]) (rest := []) (lenOf pd_4 rfl) rfl 0 (Nat.le_of_eq rfl) (hb hby at_181) (by decide) (by decide) (by decide) (by decide) ?_
      rintro _ T10 _ ⟨rfl, rfl⟩ H10
      show Go _ _ _ _ (T10.setTop (mkF m 184 #[.val (.long p1), .second, .val (.long p2), .second, .val (.long p3), .second, .val (.long p4), .second, .val (.int p5), .val (.long xa), .second, .val (.long ya), .second, .val (.long l1), .second, .val (.long u1), .second, .val (.long xb), .second, .val (.long yb), .second, .val (.long l2), .second, .val (.long u2), .second, .val (.ref a1), .val (.ref a3), .val (.int ex), .val (.int (eqF l2 l1 u2 u1)), .val (.int (eqF l1 l2 u1 u2)), .val (.int (eqF l1 l1 u1 u1)), .val (.int (0 : Int32)), .unset] [(.int (0 : Int32))]))
      refine Go.via (fun t_ k_ => XS.istore H10.here hx rfl (hb hby at_184) rfl (l' := #[.val (.long p1), .second, .val (.long p2), .second, .val (.long p3), .second, .val (.long p4), .second, .val (.int p5), .val (.long xa), .second, .val (.long ya), .second, .val (.long l1), .second, .val (.long u1), .second, .val (.long xb), .second, .val (.long yb), .second, .val (.long l2), .second, .val (.long u2), .second, .val (.ref a1), .val (.ref a3), .val (.int ex), .val (.int (eqF l2 l1 u2 u1)), .val (.int (eqF l1 l2 u1 u2)), .val (.int (eqF l1 l1 u1 u1)), .val (.int (0 : Int32)), .val (.int (0 : Int32))]) rfl k_) ?_
      show Go _ _ _ _ (T10.setTop (mkF m 186 #[.val (.long p1), .second, .val (.long p2), .second, .val (.long p3), .second, .val (.long p4), .second, .val (.int p5), .val (.long xa), .second, .val (.long ya), .second, .val (.long l1), .second, .val (.long u1), .second, .val (.long xb), .second, .val (.long yb), .second, .val (.long l2), .second, .val (.long u2), .second, .val (.ref a1), .val (.ref a3), .val (.int ex), .val (.int (eqF l2 l1 u2 u1)), .val (.int (eqF l1 l2 u1 u2)), .val (.int (eqF l1 l1 u1 u1)), .val (.int (0 : Int32)), .val (.int (0 : Int32))] []))
      refine Go.via (fun t_ k_ => XS.iload H10.here hx rfl (hb hby at_186) rfl k_) ?_
      show Go _ _ _ _ (T10.setTop (mkF m 188 #[.val (.long p1), .second, .val (.long p2), .second, .val (.long p3), .second, .val (.long p4), .second, .val (.int p5), .val (.long xa), .second, .val (.long ya), .second, .val (.long l1), .second, .val (.long u1), .second, .val (.long xb), .second, .val (.long yb), .second, .val (.long l2), .second, .val (.long u2), .second, .val (.ref a1), .val (.ref a3), .val (.int ex), .val (.int (eqF l2 l1 u2 u1)), .val (.int (eqF l1 l2 u1 u2)), .val (.int (eqF l1 l1 u1 u1)), .val (.int (0 : Int32)), .val (.int (0 : Int32))] [(.int (eqF l2 l1 u2 u1))]))
      refine Go.via (fun t_ k_ => XS.iload H10.here hx rfl (hb hby at_188) rfl k_) ?_
      show Go _ _ _ _ (T10.setTop (mkF m 190 #[.val (.long p1), .second, .val (.long p2), .second, .val (.long p3), .second, .val (.long p4), .second, .val (.int p5), .val (.long xa), .second, .val (.long ya), .second, .val (.long l1), .second, .val (.long u1), .second, .val (.long xb), .second, .val (.long yb), .second, .val (.long l2), .second, .val (.long u2), .second, .val (.ref a1), .val (.ref a3), .val (.int ex), .val (.int (eqF l2 l1 u2 u1)), .val (.int (eqF l1 l2 u1 u2)), .val (.int (eqF l1 l1 u1 u1)), .val (.int (0 : Int32)), .val (.int (0 : Int32))] [(.int ex), (.int (eqF l2 l1 u2 u1))]))
      refine Go.via (fun t_ k_ => XS.icmpNo H10.here hx rfl (hb hby at_190) rfl ((teq (show (eqF l2 l1 u2 u1) = ex from hex.symm)).2) k_) ?_
      show Go _ _ _ _ (T10.setTop (mkF m 193 #[.val (.long p1), .second, .val (.long p2), .second, .val (.long p3), .second, .val (.long p4), .second, .val (.int p5), .val (.long xa), .second, .val (.long ya), .second, .val (.long l1), .second, .val (.long u1), .second, .val (.long xb), .second, .val (.long yb), .second, .val (.long l2), .second, .val (.long u2), .second, .val (.ref a1), .val (.ref a3), .val (.int ex), .val (.int (eqF l2 l1 u2 u1)), .val (.int (eqF l1 l2 u1 u2)), .val (.int (eqF l1 l1 u1 u1)), .val (.int (0 : Int32)), .val (.int (0 : Int32))] []))
      refine Go.via (fun t_ k_ => XS.iload H10.here hx rfl (hb hby at_193) rfl k_) ?_
      show Go _ _ _ _ (T10.setTop (mkF m 195 #[.val (.long p1), .second, .val (.long p2), .second, .val (.long p3), .second, .val (.long p4), .second, .val (.int p5), .val (.long xa), .second, .val (.long ya), .second, .val (.long l1), .second, .val (.long u1), .second, .val (.long xb), .second, .val (.long yb), .second, .val (.long l2), .second, .val (.long u2), .second, .val (.ref a1), .val (.ref a3), .val (.int ex), .val (.int (eqF l2 l1 u2 u1)), .val (.int (eqF l1 l2 u1 u2)), .val (.int (eqF l1 l1 u1 u1)), .val (.int (0 : Int32)), .val (.int (0 : Int32))] [(.int (eqF l1 l2 u1 u2))]))
      refine Go.via (fun t_ k_ => XS.iload H10.here hx rfl (hb hby at_195) rfl k_) ?_
      show Go _ _ _ _ (T10.setTop (mkF m 197 #[.val (.long p1), .second, .val (.long p2), .second, .val (.long p3), .second, .val (.long p4), .second, .val (.int p5), .val (.long xa), .second, .val (.long ya), .second, .val (.long l1), .second, .val (.long u1), .second, .val (.long xb), .second, .val (.long yb), .second, .val (.long l2), .second, .val (.long u2), .second, .val (.ref a1), .val (.ref a3), .val (.int ex), .val (.int (eqF l2 l1 u2 u1)), .val (.int (eqF l1 l2 u1 u2)), .val (.int (eqF l1 l1 u1 u1)), .val (.int (0 : Int32)), .val (.int (0 : Int32))] [(.int ex), (.int (eqF l1 l2 u1 u2))]))
      refine Go.via (fun t_ k_ => XS.icmpNo H10.here hx rfl (hb hby at_197) rfl ((teq (show (eqF l1 l2 u1 u2) = ex from (by rw [hex]; simp [eqF, eq_comm]))).2) k_) ?_
      show Go _ _ _ _ (T10.setTop (mkF m 200 #[.val (.long p1), .second, .val (.long p2), .second, .val (.long p3), .second, .val (.long p4), .second, .val (.int p5), .val (.long xa), .second, .val (.long ya), .second, .val (.long l1), .second, .val (.long u1), .second, .val (.long xb), .second, .val (.long yb), .second, .val (.long l2), .second, .val (.long u2), .second, .val (.ref a1), .val (.ref a3), .val (.int ex), .val (.int (eqF l2 l1 u2 u1)), .val (.int (eqF l1 l2 u1 u2)), .val (.int (eqF l1 l1 u1 u1)), .val (.int (0 : Int32)), .val (.int (0 : Int32))] []))
      refine Go.via (fun t_ k_ => XS.iload H10.here hx rfl (hb hby at_200) rfl k_) ?_
      show Go _ _ _ _ (T10.setTop (mkF m 202 #[.val (.long p1), .second, .val (.long p2), .second, .val (.long p3), .second, .val (.long p4), .second, .val (.int p5), .val (.long xa), .second, .val (.long ya), .second, .val (.long l1), .second, .val (.long u1), .second, .val (.long xb), .second, .val (.long yb), .second, .val (.long l2), .second, .val (.long u2), .second, .val (.ref a1), .val (.ref a3), .val (.int ex), .val (.int (eqF l2 l1 u2 u1)), .val (.int (eqF l1 l2 u1 u2)), .val (.int (eqF l1 l1 u1 u1)), .val (.int (0 : Int32)), .val (.int (0 : Int32))] [(.int (eqF l1 l1 u1 u1))]))
      refine Go.via (fun t_ k_ => XS.ifNo H10.here hx rfl (hb hby at_202) rfl ((if0 _ _).trans (feq (show ¬ ((eqF l1 l1 u1 u1) = (0 : Int32)) from (by simp [eqF]))).1) k_) ?_
      show Go _ _ _ _ (T10.setTop (mkF m 205 #[.val (.long p1), .second, .val (.long p2), .second, .val (.long p3), .second, .val (.long p4), .second, .val (.int p5), .val (.long xa), .second, .val (.long ya), .second, .val (.long l1), .second, .val (.long u1), .second, .val (.long xb), .second, .val (.long yb), .second, .val (.long l2), .second, .val (.long u2), .second, .val (.ref a1), .val (.ref a3), .val (.int ex), .val (.int (eqF l2 l1 u2 u1)), .val (.int (eqF l1 l2 u1 u2)), .val (.int (eqF l1 l1 u1 u1)), .val (.int (0 : Int32)), .val (.int (0 : Int32))] []))
      refine Go.via (fun t_ k_ => XS.iload H10.here hx rfl (hb hby at_205) rfl k_) ?_
      show Go _ _ _ _ (T10.setTop (mkF m 207 #[.val (.long p1), .second, .val (.long p2), .second, .val (.long p3), .second, .val (.long p4), .second, .val (.int p5), .val (.long xa), .second, .val (.long ya), .second, .val (.long l1), .second, .val (.long u1), .second, .val (.long xb), .second, .val (.long yb), .second, .val (.long l2), .second, .val (.long u2), .second, .val (.ref a1), .val (.ref a3), .val (.int ex), .val (.int (eqF l2 l1 u2 u1)), .val (.int (eqF l1 l2 u1 u2)), .val (.int (eqF l1 l1 u1 u1)), .val (.int (0 : Int32)), .val (.int (0 : Int32))] [(.int (0 : Int32))]))
      refine Go.via (fun t_ k_ => XS.ifNo H10.here hx rfl (hb hby at_207) rfl ((if0 _ _).trans (teq (show (0 : Int32) = (0 : Int32) from (by decide))).2) k_) ?_
      show Go _ _ _ _ (T10.setTop (mkF m 210 #[.val (.long p1), .second, .val (.long p2), .second, .val (.long p3), .second, .val (.long p4), .second, .val (.int p5), .val (.long xa), .second, .val (.long ya), .second, .val (.long l1), .second, .val (.long u1), .second, .val (.long xb), .second, .val (.long yb), .second, .val (.long l2), .second, .val (.long u2), .second, .val (.ref a1), .val (.ref a3), .val (.int ex), .val (.int (eqF l2 l1 u2 u1)), .val (.int (eqF l1 l2 u1 u2)), .val (.int (eqF l1 l1 u1 u1)), .val (.int (0 : Int32)), .val (.int (0 : Int32))] []))
      refine Go.via (fun t_ k_ => XS.iload H10.here hx rfl (hb hby at_210) rfl k_) ?_
      show Go _ _ _ _ (T10.setTop (mkF m 212 #[.val (.long p1), .second, .val (.long p2), .second, .val (.long p3), .second, .val (.long p4), .second, .val (.int p5), .val (.long xa), .second, .val (.long ya), .second, .val (.long l1), .second, .val (.long u1), .second, .val (.long xb), .second, .val (.long yb), .second, .val (.long l2), .second, .val (.long u2), .second, .val (.ref a1), .val (.ref a3), .val (.int ex), .val (.int (eqF l2 l1 u2 u1)), .val (.int (eqF l1 l2 u1 u2)), .val (.int (eqF l1 l1 u1 u1)), .val (.int (0 : Int32)), .val (.int (0 : Int32))] [(.int (0 : Int32))]))
      refine Go.via (fun t_ k_ => XS.ifNo H10.here hx rfl (hb hby at_212) rfl ((if0 _ _).trans (teq (show (0 : Int32) = (0 : Int32) from (by decide))).2) k_) ?_
      show Go _ _ _ _ (T10.setTop (mkF m 215 #[.val (.long p1), .second, .val (.long p2), .second, .val (.long p3), .second, .val (.long p4), .second, .val (.int p5), .val (.long xa), .second, .val (.long ya), .second, .val (.long l1), .second, .val (.long u1), .second, .val (.long xb), .second, .val (.long yb), .second, .val (.long l2), .second, .val (.long u2), .second, .val (.ref a1), .val (.ref a3), .val (.int ex), .val (.int (eqF l2 l1 u2 u1)), .val (.int (eqF l1 l2 u1 u2)), .val (.int (eqF l1 l1 u1 u1)), .val (.int (0 : Int32)), .val (.int (0 : Int32))] []))
      refine Go.via (fun t_ k_ => XS.iconst H10.here hx rfl (hb hby at_215) k_) ?_
      show Go _ _ _ _ (T10.setTop (mkF m 216 #[.val (.long p1), .second, .val (.long p2), .second, .val (.long p3), .second, .val (.long p4), .second, .val (.int p5), .val (.long xa), .second, .val (.long ya), .second, .val (.long l1), .second, .val (.long u1), .second, .val (.long xb), .second, .val (.long yb), .second, .val (.long l2), .second, .val (.long u2), .second, .val (.ref a1), .val (.ref a3), .val (.int ex), .val (.int (eqF l2 l1 u2 u1)), .val (.int (eqF l1 l2 u1 u2)), .val (.int (eqF l1 l1 u1 u1)), .val (.int (0 : Int32)), .val (.int (0 : Int32))] [(.int (1 : Int32))]))
      refine Go.via (fun t_ k_ => XS.goto H10.here hx rfl (pc0 := 216) (pc' := 220) rfl (hb hby at_216) (by decide) (by decide) k_) ?_
      show Go _ _ _ _ (T10.setTop (mkF m 220 #[.val (.long p1), .second, .val (.long p2), .second, .val (.long p3), .second, .val (.long p4), .second, .val (.int p5), .val (.long xa), .second, .val (.long ya), .second, .val (.long l1), .second, .val (.long u1), .second, .val (.long xb), .second, .val (.long yb), .second, .val (.long l2), .second, .val (.long u2), .second, .val (.ref a1), .val (.ref a3), .val (.int ex), .val (.int (eqF l2 l1 u2 u1)), .val (.int (eqF l1 l2 u1 u2)), .val (.int (eqF l1 l1 u1 u1)), .val (.int (0 : Int32)), .val (.int (0 : Int32))] [(.int (1 : Int32))]))
      exact own_retN H10 hx hlk (by simp) hret (hb hby at_220) rfl (by decide) (by decide)
    refine Go.via (fun t_ k_ => XS.lload H4.here hx rfl (hb hby at_116) rfl k_) ?_
    show Go _ _ _ _ (T4.setTop (mkF m 118 #[.val (.long p1), .second, .val (.long p2), .second, .val (.long p3), .second, .val (.long p4), .second, .val (.int p5), .val (.long xa), .second, .val (.long ya), .second, .val (.long l1), .second, .val (.long u1), .second, .val (.long xb), .second, .val (.long yb), .second, .val (.long l2), .second, .val (.long u2), .second, .val (.ref a1), .val (.ref a3), .unset, .unset, .unset, .unset, .unset, .unset] [(.long l1)]))
    refine Go.via (fun t_ k_ => XS.lload H4.here hx rfl (hb hby at_118) rfl k_) ?_
    show Go _ _ _ _ (T4.setTop (mkF m 120 #[.val (.long p1), .second, .val (.long p2), .second, .val (.long p3), .second, .val (.long p4), .second, .val (.int p5), .val (.long xa), .second, .val (.long ya), .second, .val (.long l1), .second, .val (.long u1), .second, .val (.long xb), .second, .val (.long yb), .second, .val (.long l2), .second, .val (.long u2), .second, .val (.ref a1), .val (.ref a3), .unset, .unset, .unset, .unset, .unset, .unset] [(.long l2), (.long l1)]))
    refine Go.via (fun t_ k_ => XS.lcmp H4.here hx rfl (hb hby at_120) rfl k_) ?_
    show Go _ _ _ _ (T4.setTop (mkF m 121 #[.val (.long p1), .second, .val (.long p2), .second, .val (.long p3), .second, .val (.long p4), .second, .val (.int p5), .val (.long xa), .second, .val (.long ya), .second, .val (.long l1), .second, .val (.long u1), .second, .val (.long xb), .second, .val (.long yb), .second, .val (.long l2), .second, .val (.long u2), .second, .val (.ref a1), .val (.ref a3), .unset, .unset, .unset, .unset, .unset, .unset] [(.int (lcmpW l1 l2))]))
    by_cases hc121 : l1 = l2
    · refine Go.via (fun t_ k_ => XS.ifNo H4.here hx rfl (hb hby at_121) rfl ((own_leq hc121).2) k_) ?_
      show Go _ _ _ _ (T4.setTop (mkF m 124 #[.val (.long p1), .second, .val (.long p2), .second, .val (.long p3), .second, .val (.long p4), .second, .val (.int p5), .val (.long xa), .second, .val (.long ya), .second, .val (.long l1), .second, .val (.long u1), .second, .val (.long xb), .second, .val (.long yb), .second, .val (.long l2), .second, .val (.long u2), .second, .val (.ref a1), .val (.ref a3), .unset, .unset, .unset, .unset, .unset, .unset] []))
      refine Go.via (fun t_ k_ => XS.lload H4.here hx rfl (hb hby at_124) rfl k_) ?_
      show Go _ _ _ _ (T4.setTop (mkF m 126 #[.val (.long p1), .second, .val (.long p2), .second, .val (.long p3), .second, .val (.long p4), .second, .val (.int p5), .val (.long xa), .second, .val (.long ya), .second, .val (.long l1), .second, .val (.long u1), .second, .val (.long xb), .second, .val (.long yb), .second, .val (.long l2), .second, .val (.long u2), .second, .val (.ref a1), .val (.ref a3), .unset, .unset, .unset, .unset, .unset, .unset] [(.long u1)]))
      refine Go.via (fun t_ k_ => XS.lload H4.here hx rfl (hb hby at_126) rfl k_) ?_
      show Go _ _ _ _ (T4.setTop (mkF m 128 #[.val (.long p1), .second, .val (.long p2), .second, .val (.long p3), .second, .val (.long p4), .second, .val (.int p5), .val (.long xa), .second, .val (.long ya), .second, .val (.long l1), .second, .val (.long u1), .second, .val (.long xb), .second, .val (.long yb), .second, .val (.long l2), .second, .val (.long u2), .second, .val (.ref a1), .val (.ref a3), .unset, .unset, .unset, .unset, .unset, .unset] [(.long u2), (.long u1)]))
      refine Go.via (fun t_ k_ => XS.lcmp H4.here hx rfl (hb hby at_128) rfl k_) ?_
      show Go _ _ _ _ (T4.setTop (mkF m 129 #[.val (.long p1), .second, .val (.long p2), .second, .val (.long p3), .second, .val (.long p4), .second, .val (.int p5), .val (.long xa), .second, .val (.long ya), .second, .val (.long l1), .second, .val (.long u1), .second, .val (.long xb), .second, .val (.long yb), .second, .val (.long l2), .second, .val (.long u2), .second, .val (.ref a1), .val (.ref a3), .unset, .unset, .unset, .unset, .unset, .unset] [(.int (lcmpW u1 u2))]))
      by_cases hc129 : u1 = u2
      · refine Go.via (fun t_ k_ => XS.ifNo H4.here hx rfl (hb hby at_129) rfl ((own_leq hc129).2) k_) ?_
        show Go _ _ _ _ (T4.setTop (mkF m 132 #[.val (.long p1), .second, .val (.long p2), .second, .val (.long p3), .second, .val (.long p4), .second, .val (.int p5), .val (.long xa), .second, .val (.long ya), .second, .val (.long l1), .second, .val (.long u1), .second, .val (.long xb), .second, .val (.long yb), .second, .val (.long l2), .second, .val (.long u2), .second, .val (.ref a1), .val (.ref a3), .unset, .unset, .unset, .unset, .unset, .unset] []))
        refine Go.via (fun t_ k_ => XS.iconst H4.here hx rfl (hb hby at_132) k_) ?_
        show Go _ _ _ _ (T4.setTop (mkF m 133 #[.val (.long p1), .second, .val (.long p2), .second, .val (.long p3), .second, .val (.long p4), .second, .val (.int p5), .val (.long xa), .second, .val (.long ya), .second, .val (.long l1), .second, .val (.long u1), .second, .val (.long xb), .second, .val (.long yb), .second, .val (.long l2), .second, .val (.long u2), .second, .val (.ref a1), .val (.ref a3), .unset, .unset, .unset, .unset, .unset, .unset] [(.int (1 : Int32))]))
        refine Go.via (fun t_ k_ => XS.goto H4.here hx rfl (pc0 := 133) (pc' := 137) rfl (hb hby at_133) (by decide) (by decide) k_) ?_
        show Go _ _ _ _ (T4.setTop (mkF m 137 #[.val (.long p1), .second, .val (.long p2), .second, .val (.long p3), .second, .val (.long p4), .second, .val (.int p5), .val (.long xa), .second, .val (.long ya), .second, .val (.long l1), .second, .val (.long u1), .second, .val (.long xb), .second, .val (.long yb), .second, .val (.long l2), .second, .val (.long u2), .second, .val (.ref a1), .val (.ref a3), .unset, .unset, .unset, .unset, .unset, .unset] [(.int (1 : Int32))]))
        exact J137 T4 (1 : Int32) H4 (by simp [eqF, (show (l2 = l1) = True from eq_true hc121.symm), (show (u2 = u1) = True from eq_true hc129.symm)])
      · refine Go.via (fun t_ k_ => XS.ifYes H4.here hx rfl (pc0 := 129) (pc' := 136) rfl (hb hby at_129) rfl ((own_neq hc129).2) (by decide) (by decide) k_) ?_
        show Go _ _ _ _ (T4.setTop (mkF m 136 #[.val (.long p1), .second, .val (.long p2), .second, .val (.long p3), .second, .val (.long p4), .second, .val (.int p5), .val (.long xa), .second, .val (.long ya), .second, .val (.long l1), .second, .val (.long u1), .second, .val (.long xb), .second, .val (.long yb), .second, .val (.long l2), .second, .val (.long u2), .second, .val (.ref a1), .val (.ref a3), .unset, .unset, .unset, .unset, .unset, .unset] []))
        refine Go.via (fun t_ k_ => XS.iconst H4.here hx rfl (hb hby at_136) k_) ?_
        show Go _ _ _ _ (T4.setTop (mkF m 137 #[.val (.long p1), .second, .val (.long p2), .second, .val (.long p3), .second, .val (.long p4), .second, .val (.int p5), .val (.long xa), .second, .val (.long ya), .second, .val (.long l1), .second, .val (.long u1), .second, .val (.long xb), .second, .val (.long yb), .second, .val (.long l2), .second, .val (.long u2), .second, .val (.ref a1), .val (.ref a3), .unset, .unset, .unset, .unset, .unset, .unset] [(.int (0 : Int32))]))
        exact J137 T4 (0 : Int32) H4 (by simp [eqF, (show (l2 = l1) = True from eq_true hc121.symm), (show (u2 = u1) = False from eq_false (fun u => hc129 u.symm))])
    · refine Go.via (fun t_ k_ => XS.ifYes H4.here hx rfl (pc0 := 121) (pc' := 136) rfl (hb hby at_121) rfl ((own_neq hc121).2) (by decide) (by decide) k_) ?_
      show Go _ _ _ _ (T4.setTop (mkF m 136 #[.val (.long p1), .second, .val (.long p2), .second, .val (.long p3), .second, .val (.long p4), .second, .val (.int p5), .val (.long xa), .second, .val (.long ya), .second, .val (.long l1), .second, .val (.long u1), .second, .val (.long xb), .second, .val (.long yb), .second, .val (.long l2), .second, .val (.long u2), .second, .val (.ref a1), .val (.ref a3), .unset, .unset, .unset, .unset, .unset, .unset] []))
      refine Go.via (fun t_ k_ => XS.iconst H4.here hx rfl (hb hby at_136) k_) ?_
      show Go _ _ _ _ (T4.setTop (mkF m 137 #[.val (.long p1), .second, .val (.long p2), .second, .val (.long p3), .second, .val (.long p4), .second, .val (.int p5), .val (.long xa), .second, .val (.long ya), .second, .val (.long l1), .second, .val (.long u1), .second, .val (.long xb), .second, .val (.long yb), .second, .val (.long l2), .second, .val (.long u2), .second, .val (.ref a1), .val (.ref a3), .unset, .unset, .unset, .unset, .unset, .unset] [(.int (0 : Int32))]))
      exact J137 T4 (0 : Int32) H4 (by simp [eqF, (show (l2 = l1) = False from eq_false (fun u => hc121 u.symm))])
  have J32 : ∀ (Tj : State) (xa ya l1 u1 : Int64), Here p l e room_1 s m #[(.long p1), (.long p2), (.long p3), (.long p4), (.int p5)] below meth c n0 Tj h0 0 0 → (0 ≤ l1.toInt ∧ l1.toInt < u1.toInt ∧ u1.toInt ≤ 4294967295) → Go p e below (Fini below s n0 (fun v h => v = some (.int (1 : Int32))) room_1.cells room_1.slots) (Tj.setTop (mkF m 32 #[.val (.long p1), .second, .val (.long p2), .second, .val (.long p3), .second, .val (.long p4), .second, .val (.int p5), .val (.long xa), .second, .val (.long ya), .second, .val (.long l1), .second, .val (.long u1), .second, .unset, .unset, .unset, .unset, .unset, .unset, .unset, .unset, .unset, .unset, .unset, .unset, .unset, .unset, .unset, .unset] [])) := by
    intro Tj xa ya l1 u1 Hj q1
    show Go _ _ _ _ (Tj.setTop (mkF m 32 #[.val (.long p1), .second, .val (.long p2), .second, .val (.long p3), .second, .val (.long p4), .second, .val (.int p5), .val (.long xa), .second, .val (.long ya), .second, .val (.long l1), .second, .val (.long u1), .second, .unset, .unset, .unset, .unset, .unset, .unset, .unset, .unset, .unset, .unset, .unset, .unset, .unset, .unset, .unset, .unset] []))
    refine Go.via (fun t_ k_ => XS.iload Hj.here hx rfl (hb hby at_32) rfl k_) ?_
    show Go _ _ _ _ (Tj.setTop (mkF m 34 #[.val (.long p1), .second, .val (.long p2), .second, .val (.long p3), .second, .val (.long p4), .second, .val (.int p5), .val (.long xa), .second, .val (.long ya), .second, .val (.long l1), .second, .val (.long u1), .second, .unset, .unset, .unset, .unset, .unset, .unset, .unset, .unset, .unset, .unset, .unset, .unset, .unset, .unset, .unset, .unset] [(.int p5)]))
    refine Go.via (fun t_ k_ => XS.iconst Hj.here hx rfl (hb hby at_34) k_) ?_
    show Go _ _ _ _ (Tj.setTop (mkF m 35 #[.val (.long p1), .second, .val (.long p2), .second, .val (.long p3), .second, .val (.long p4), .second, .val (.int p5), .val (.long xa), .second, .val (.long ya), .second, .val (.long l1), .second, .val (.long u1), .second, .unset, .unset, .unset, .unset, .unset, .unset, .unset, .unset, .unset, .unset, .unset, .unset, .unset, .unset, .unset, .unset] [(.int (1 : Int32)), (.int p5)]))
    refine Go.via (fun t_ k_ => XS.iand Hj.here hx rfl (hb hby at_35) rfl k_) ?_
    show Go _ _ _ _ (Tj.setTop (mkF m 36 #[.val (.long p1), .second, .val (.long p2), .second, .val (.long p3), .second, .val (.long p4), .second, .val (.int p5), .val (.long xa), .second, .val (.long ya), .second, .val (.long l1), .second, .val (.long u1), .second, .unset, .unset, .unset, .unset, .unset, .unset, .unset, .unset, .unset, .unset, .unset, .unset, .unset, .unset, .unset, .unset] [(.int (p5 &&& (1 : Int32)))]))
    by_cases hc36 : (p5 &&& (1 : Int32)) = (0 : Int32)
    · refine Go.via (fun t_ k_ => XS.ifYes Hj.here hx rfl (pc0 := 36) (pc' := 44) rfl (hb hby at_36) rfl ((if0 _ _).trans (teq hc36).1) (by decide) (by decide) k_) ?_
      show Go _ _ _ _ (Tj.setTop (mkF m 44 #[.val (.long p1), .second, .val (.long p2), .second, .val (.long p3), .second, .val (.long p4), .second, .val (.int p5), .val (.long xa), .second, .val (.long ya), .second, .val (.long l1), .second, .val (.long u1), .second, .unset, .unset, .unset, .unset, .unset, .unset, .unset, .unset, .unset, .unset, .unset, .unset, .unset, .unset, .unset, .unset] []))
      refine Go.via (fun t_ k_ => XS.lload Hj.here hx rfl (hb hby at_44) rfl k_) ?_
      show Go _ _ _ _ (Tj.setTop (mkF m 46 #[.val (.long p1), .second, .val (.long p2), .second, .val (.long p3), .second, .val (.long p4), .second, .val (.int p5), .val (.long xa), .second, .val (.long ya), .second, .val (.long l1), .second, .val (.long u1), .second, .unset, .unset, .unset, .unset, .unset, .unset, .unset, .unset, .unset, .unset, .unset, .unset, .unset, .unset, .unset, .unset] [(.long p3)]))
      refine own_ldcL Hj hx hZ hown (hw _ (List.mem_of_getElem? (i := 0) rfl)) (g := (mkF m 46 #[.val (.long p1), .second, .val (.long p2), .second, .val (.long p3), .second, .val (.long p4), .second, .val (.int p5), .val (.long xa), .second, .val (.long ya), .second, .val (.long l1), .second, .val (.long u1), .second, .unset, .unset, .unset, .unset, .unset, .unset, .unset, .unset, .unset, .unset, .unset, .unset, .unset, .unset, .unset, .unset] [(.long p3)])) rfl (hb hby at_46) ?_
      show Go _ _ _ _ (Tj.setTop (mkF m 49 #[.val (.long p1), .second, .val (.long p2), .second, .val (.long p3), .second, .val (.long p4), .second, .val (.int p5), .val (.long xa), .second, .val (.long ya), .second, .val (.long l1), .second, .val (.long u1), .second, .unset, .unset, .unset, .unset, .unset, .unset, .unset, .unset, .unset, .unset, .unset, .unset, .unset, .unset, .unset, .unset] [(.long (4294967295 : Int64)), (.long p3)]))
      refine Go.via (fun t_ k_ => XS.land Hj.here hx rfl (hb hby at_49) rfl k_) ?_
      show Go _ _ _ _ (Tj.setTop (mkF m 50 #[.val (.long p1), .second, .val (.long p2), .second, .val (.long p3), .second, .val (.long p4), .second, .val (.int p5), .val (.long xa), .second, .val (.long ya), .second, .val (.long l1), .second, .val (.long u1), .second, .unset, .unset, .unset, .unset, .unset, .unset, .unset, .unset, .unset, .unset, .unset, .unset, .unset, .unset, .unset, .unset] [(.long (p3 &&& (4294967295 : Int64)))]))
      refine Go.via (fun t_ k_ => XS.lstore Hj.here hx rfl (hb hby at_50) rfl (l' := #[.val (.long p1), .second, .val (.long p2), .second, .val (.long p3), .second, .val (.long p4), .second, .val (.int p5), .val (.long xa), .second, .val (.long ya), .second, .val (.long l1), .second, .val (.long u1), .second, .val (.long (p3 &&& (4294967295 : Int64))), .second, .unset, .unset, .unset, .unset, .unset, .unset, .unset, .unset, .unset, .unset, .unset, .unset, .unset, .unset]) rfl k_) ?_
      show Go _ _ _ _ (Tj.setTop (mkF m 52 #[.val (.long p1), .second, .val (.long p2), .second, .val (.long p3), .second, .val (.long p4), .second, .val (.int p5), .val (.long xa), .second, .val (.long ya), .second, .val (.long l1), .second, .val (.long u1), .second, .val (.long (p3 &&& (4294967295 : Int64))), .second, .unset, .unset, .unset, .unset, .unset, .unset, .unset, .unset, .unset, .unset, .unset, .unset, .unset, .unset] []))
      refine Go.via (fun t_ k_ => XS.iload Hj.here hx rfl (hb hby at_52) rfl k_) ?_
      show Go _ _ _ _ (Tj.setTop (mkF m 54 #[.val (.long p1), .second, .val (.long p2), .second, .val (.long p3), .second, .val (.long p4), .second, .val (.int p5), .val (.long xa), .second, .val (.long ya), .second, .val (.long l1), .second, .val (.long u1), .second, .val (.long (p3 &&& (4294967295 : Int64))), .second, .unset, .unset, .unset, .unset, .unset, .unset, .unset, .unset, .unset, .unset, .unset, .unset, .unset, .unset] [(.int p5)]))
      refine Go.via (fun t_ k_ => XS.iconst Hj.here hx rfl (hb hby at_54) k_) ?_
      show Go _ _ _ _ (Tj.setTop (mkF m 55 #[.val (.long p1), .second, .val (.long p2), .second, .val (.long p3), .second, .val (.long p4), .second, .val (.int p5), .val (.long xa), .second, .val (.long ya), .second, .val (.long l1), .second, .val (.long u1), .second, .val (.long (p3 &&& (4294967295 : Int64))), .second, .unset, .unset, .unset, .unset, .unset, .unset, .unset, .unset, .unset, .unset, .unset, .unset, .unset, .unset] [(.int (2 : Int32)), (.int p5)]))
      refine Go.via (fun t_ k_ => XS.iand Hj.here hx rfl (hb hby at_55) rfl k_) ?_
      show Go _ _ _ _ (Tj.setTop (mkF m 56 #[.val (.long p1), .second, .val (.long p2), .second, .val (.long p3), .second, .val (.long p4), .second, .val (.int p5), .val (.long xa), .second, .val (.long ya), .second, .val (.long l1), .second, .val (.long u1), .second, .val (.long (p3 &&& (4294967295 : Int64))), .second, .unset, .unset, .unset, .unset, .unset, .unset, .unset, .unset, .unset, .unset, .unset, .unset, .unset, .unset] [(.int (p5 &&& (2 : Int32)))]))
      by_cases hc56 : (p5 &&& (2 : Int32)) = (0 : Int32)
      · refine Go.via (fun t_ k_ => XS.ifYes Hj.here hx rfl (pc0 := 56) (pc' := 64) rfl (hb hby at_56) rfl ((if0 _ _).trans (teq hc56).1) (by decide) (by decide) k_) ?_
        show Go _ _ _ _ (Tj.setTop (mkF m 64 #[.val (.long p1), .second, .val (.long p2), .second, .val (.long p3), .second, .val (.long p4), .second, .val (.int p5), .val (.long xa), .second, .val (.long ya), .second, .val (.long l1), .second, .val (.long u1), .second, .val (.long (p3 &&& (4294967295 : Int64))), .second, .unset, .unset, .unset, .unset, .unset, .unset, .unset, .unset, .unset, .unset, .unset, .unset, .unset, .unset] []))
        refine Go.via (fun t_ k_ => XS.lload Hj.here hx rfl (hb hby at_64) rfl k_) ?_
        show Go _ _ _ _ (Tj.setTop (mkF m 66 #[.val (.long p1), .second, .val (.long p2), .second, .val (.long p3), .second, .val (.long p4), .second, .val (.int p5), .val (.long xa), .second, .val (.long ya), .second, .val (.long l1), .second, .val (.long u1), .second, .val (.long (p3 &&& (4294967295 : Int64))), .second, .unset, .unset, .unset, .unset, .unset, .unset, .unset, .unset, .unset, .unset, .unset, .unset, .unset, .unset] [(.long p4)]))
        refine own_ldcL Hj hx hZ hown (hw _ (List.mem_of_getElem? (i := 0) rfl)) (g := (mkF m 66 #[.val (.long p1), .second, .val (.long p2), .second, .val (.long p3), .second, .val (.long p4), .second, .val (.int p5), .val (.long xa), .second, .val (.long ya), .second, .val (.long l1), .second, .val (.long u1), .second, .val (.long (p3 &&& (4294967295 : Int64))), .second, .unset, .unset, .unset, .unset, .unset, .unset, .unset, .unset, .unset, .unset, .unset, .unset, .unset, .unset] [(.long p4)])) rfl (hb hby at_66) ?_
        show Go _ _ _ _ (Tj.setTop (mkF m 69 #[.val (.long p1), .second, .val (.long p2), .second, .val (.long p3), .second, .val (.long p4), .second, .val (.int p5), .val (.long xa), .second, .val (.long ya), .second, .val (.long l1), .second, .val (.long u1), .second, .val (.long (p3 &&& (4294967295 : Int64))), .second, .unset, .unset, .unset, .unset, .unset, .unset, .unset, .unset, .unset, .unset, .unset, .unset, .unset, .unset] [(.long (4294967295 : Int64)), (.long p4)]))
        refine Go.via (fun t_ k_ => XS.land Hj.here hx rfl (hb hby at_69) rfl k_) ?_
        show Go _ _ _ _ (Tj.setTop (mkF m 70 #[.val (.long p1), .second, .val (.long p2), .second, .val (.long p3), .second, .val (.long p4), .second, .val (.int p5), .val (.long xa), .second, .val (.long ya), .second, .val (.long l1), .second, .val (.long u1), .second, .val (.long (p3 &&& (4294967295 : Int64))), .second, .unset, .unset, .unset, .unset, .unset, .unset, .unset, .unset, .unset, .unset, .unset, .unset, .unset, .unset] [(.long (p4 &&& (4294967295 : Int64)))]))
        refine Go.via (fun t_ k_ => XS.lstore Hj.here hx rfl (hb hby at_70) rfl (l' := #[.val (.long p1), .second, .val (.long p2), .second, .val (.long p3), .second, .val (.long p4), .second, .val (.int p5), .val (.long xa), .second, .val (.long ya), .second, .val (.long l1), .second, .val (.long u1), .second, .val (.long (p3 &&& (4294967295 : Int64))), .second, .val (.long (p4 &&& (4294967295 : Int64))), .second, .unset, .unset, .unset, .unset, .unset, .unset, .unset, .unset, .unset, .unset, .unset, .unset]) rfl k_) ?_
        show Go _ _ _ _ (Tj.setTop (mkF m 72 #[.val (.long p1), .second, .val (.long p2), .second, .val (.long p3), .second, .val (.long p4), .second, .val (.int p5), .val (.long xa), .second, .val (.long ya), .second, .val (.long l1), .second, .val (.long u1), .second, .val (.long (p3 &&& (4294967295 : Int64))), .second, .val (.long (p4 &&& (4294967295 : Int64))), .second, .unset, .unset, .unset, .unset, .unset, .unset, .unset, .unset, .unset, .unset, .unset, .unset] []))
        refine Go.via (fun t_ k_ => XS.lload Hj.here hx rfl (hb hby at_72) rfl k_) ?_
        show Go _ _ _ _ (Tj.setTop (mkF m 74 #[.val (.long p1), .second, .val (.long p2), .second, .val (.long p3), .second, .val (.long p4), .second, .val (.int p5), .val (.long xa), .second, .val (.long ya), .second, .val (.long l1), .second, .val (.long u1), .second, .val (.long (p3 &&& (4294967295 : Int64))), .second, .val (.long (p4 &&& (4294967295 : Int64))), .second, .unset, .unset, .unset, .unset, .unset, .unset, .unset, .unset, .unset, .unset, .unset, .unset] [(.long (p3 &&& (4294967295 : Int64)))]))
        refine Go.via (fun t_ k_ => XS.lload Hj.here hx rfl (hb hby at_74) rfl k_) ?_
        show Go _ _ _ _ (Tj.setTop (mkF m 76 #[.val (.long p1), .second, .val (.long p2), .second, .val (.long p3), .second, .val (.long p4), .second, .val (.int p5), .val (.long xa), .second, .val (.long ya), .second, .val (.long l1), .second, .val (.long u1), .second, .val (.long (p3 &&& (4294967295 : Int64))), .second, .val (.long (p4 &&& (4294967295 : Int64))), .second, .unset, .unset, .unset, .unset, .unset, .unset, .unset, .unset, .unset, .unset, .unset, .unset] [(.long (p4 &&& (4294967295 : Int64))), (.long (p3 &&& (4294967295 : Int64)))]))
        refine own_callS Hj hx hZ (y := (⟨"com/example/tidy_balancer/tidybalancer/model/BundleRangeEqualsPinLaw", "lowOf", "(JJ)J"⟩ : MethodName)) hown (hw _ (List.mem_of_getElem? (i := 1) rfl)) (hw _ (List.mem_of_getElem? (i := 2) rfl)) (hw _ (List.mem_of_getElem? (i := 3) rfl)) (hw _ (List.mem_of_getElem? (i := 4) rfl)) (by decide) (rmLow l Z a0 hw (p3 &&& (4294967295 : Int64)) (p4 &&& (4294967295 : Int64)) h0 n0) (g := (mkF m 76 #[.val (.long p1), .second, .val (.long p2), .second, .val (.long p3), .second, .val (.long p4), .second, .val (.int p5), .val (.long xa), .second, .val (.long ya), .second, .val (.long l1), .second, .val (.long u1), .second, .val (.long (p3 &&& (4294967295 : Int64))), .second, .val (.long (p4 &&& (4294967295 : Int64))), .second, .unset, .unset, .unset, .unset, .unset, .unset, .unset, .unset, .unset, .unset, .unset, .unset] [(.long (p4 &&& (4294967295 : Int64))), (.long (p3 &&& (4294967295 : Int64)))])) rfl (by rw [hml]; rfl) (argsL := [(.long (p3 &&& (4294967295 : Int64))), (.long (p4 &&& (4294967295 : Int64)))]) (rest := []) (lenOf pd_0 rfl) rfl 0 (Nat.le_of_eq rfl) (hb hby at_76) (by decide) (by decide) (by decide) (by decide) ?_
        rintro _ T11 _ ⟨rfl, rfl⟩ H11
        show Go _ _ _ _ (T11.setTop (mkF m 79 #[.val (.long p1), .second, .val (.long p2), .second, .val (.long p3), .second, .val (.long p4), .second, .val (.int p5), .val (.long xa), .second, .val (.long ya), .second, .val (.long l1), .second, .val (.long u1), .second, .val (.long (p3 &&& (4294967295 : Int64))), .second, .val (.long (p4 &&& (4294967295 : Int64))), .second, .unset, .unset, .unset, .unset, .unset, .unset, .unset, .unset, .unset, .unset, .unset, .unset] [(.long (lowF (p3 &&& (4294967295 : Int64)) (p4 &&& (4294967295 : Int64))))]))
        refine Go.via (fun t_ k_ => XS.lstore H11.here hx rfl (hb hby at_79) rfl (l' := #[.val (.long p1), .second, .val (.long p2), .second, .val (.long p3), .second, .val (.long p4), .second, .val (.int p5), .val (.long xa), .second, .val (.long ya), .second, .val (.long l1), .second, .val (.long u1), .second, .val (.long (p3 &&& (4294967295 : Int64))), .second, .val (.long (p4 &&& (4294967295 : Int64))), .second, .val (.long (lowF (p3 &&& (4294967295 : Int64)) (p4 &&& (4294967295 : Int64)))), .second, .unset, .unset, .unset, .unset, .unset, .unset, .unset, .unset, .unset, .unset]) rfl k_) ?_
        show Go _ _ _ _ (T11.setTop (mkF m 81 #[.val (.long p1), .second, .val (.long p2), .second, .val (.long p3), .second, .val (.long p4), .second, .val (.int p5), .val (.long xa), .second, .val (.long ya), .second, .val (.long l1), .second, .val (.long u1), .second, .val (.long (p3 &&& (4294967295 : Int64))), .second, .val (.long (p4 &&& (4294967295 : Int64))), .second, .val (.long (lowF (p3 &&& (4294967295 : Int64)) (p4 &&& (4294967295 : Int64)))), .second, .unset, .unset, .unset, .unset, .unset, .unset, .unset, .unset, .unset, .unset] []))
        refine Go.via (fun t_ k_ => XS.lload H11.here hx rfl (hb hby at_81) rfl k_) ?_
        show Go _ _ _ _ (T11.setTop (mkF m 83 #[.val (.long p1), .second, .val (.long p2), .second, .val (.long p3), .second, .val (.long p4), .second, .val (.int p5), .val (.long xa), .second, .val (.long ya), .second, .val (.long l1), .second, .val (.long u1), .second, .val (.long (p3 &&& (4294967295 : Int64))), .second, .val (.long (p4 &&& (4294967295 : Int64))), .second, .val (.long (lowF (p3 &&& (4294967295 : Int64)) (p4 &&& (4294967295 : Int64)))), .second, .unset, .unset, .unset, .unset, .unset, .unset, .unset, .unset, .unset, .unset] [(.long (p3 &&& (4294967295 : Int64)))]))
        refine Go.via (fun t_ k_ => XS.lload H11.here hx rfl (hb hby at_83) rfl k_) ?_
        show Go _ _ _ _ (T11.setTop (mkF m 85 #[.val (.long p1), .second, .val (.long p2), .second, .val (.long p3), .second, .val (.long p4), .second, .val (.int p5), .val (.long xa), .second, .val (.long ya), .second, .val (.long l1), .second, .val (.long u1), .second, .val (.long (p3 &&& (4294967295 : Int64))), .second, .val (.long (p4 &&& (4294967295 : Int64))), .second, .val (.long (lowF (p3 &&& (4294967295 : Int64)) (p4 &&& (4294967295 : Int64)))), .second, .unset, .unset, .unset, .unset, .unset, .unset, .unset, .unset, .unset, .unset] [(.long (p4 &&& (4294967295 : Int64))), (.long (p3 &&& (4294967295 : Int64)))]))
        refine own_callS H11 hx hZ (y := (⟨"com/example/tidy_balancer/tidybalancer/model/BundleRangeEqualsPinLaw", "highOf", "(JJ)J"⟩ : MethodName)) hown (hw _ (List.mem_of_getElem? (i := 9) rfl)) (hw _ (List.mem_of_getElem? (i := 10) rfl)) (hw _ (List.mem_of_getElem? (i := 3) rfl)) (hw _ (List.mem_of_getElem? (i := 11) rfl)) (by decide) (rmHigh l Z a0 hw (p3 &&& (4294967295 : Int64)) (p4 &&& (4294967295 : Int64)) h0 n0) (g := (mkF m 85 #[.val (.long p1), .second, .val (.long p2), .second, .val (.long p3), .second, .val (.long p4), .second, .val (.int p5), .val (.long xa), .second, .val (.long ya), .second, .val (.long l1), .second, .val (.long u1), .second, .val (.long (p3 &&& (4294967295 : Int64))), .second, .val (.long (p4 &&& (4294967295 : Int64))), .second, .val (.long (lowF (p3 &&& (4294967295 : Int64)) (p4 &&& (4294967295 : Int64)))), .second, .unset, .unset, .unset, .unset, .unset, .unset, .unset, .unset, .unset, .unset] [(.long (p4 &&& (4294967295 : Int64))), (.long (p3 &&& (4294967295 : Int64)))])) rfl (by rw [hml]; rfl) (argsL := [(.long (p3 &&& (4294967295 : Int64))), (.long (p4 &&& (4294967295 : Int64)))]) (rest := []) (lenOf pd_0 rfl) rfl 0 (Nat.le_of_eq rfl) (hb hby at_85) (by decide) (by decide) (by decide) (by decide) ?_
        rintro _ T12 _ ⟨rfl, rfl⟩ H12
        show Go _ _ _ _ (T12.setTop (mkF m 88 #[.val (.long p1), .second, .val (.long p2), .second, .val (.long p3), .second, .val (.long p4), .second, .val (.int p5), .val (.long xa), .second, .val (.long ya), .second, .val (.long l1), .second, .val (.long u1), .second, .val (.long (p3 &&& (4294967295 : Int64))), .second, .val (.long (p4 &&& (4294967295 : Int64))), .second, .val (.long (lowF (p3 &&& (4294967295 : Int64)) (p4 &&& (4294967295 : Int64)))), .second, .unset, .unset, .unset, .unset, .unset, .unset, .unset, .unset, .unset, .unset] [(.long (highF (p3 &&& (4294967295 : Int64)) (p4 &&& (4294967295 : Int64))))]))
        refine Go.via (fun t_ k_ => XS.lstore H12.here hx rfl (hb hby at_88) rfl (l' := #[.val (.long p1), .second, .val (.long p2), .second, .val (.long p3), .second, .val (.long p4), .second, .val (.int p5), .val (.long xa), .second, .val (.long ya), .second, .val (.long l1), .second, .val (.long u1), .second, .val (.long (p3 &&& (4294967295 : Int64))), .second, .val (.long (p4 &&& (4294967295 : Int64))), .second, .val (.long (lowF (p3 &&& (4294967295 : Int64)) (p4 &&& (4294967295 : Int64)))), .second, .val (.long (highF (p3 &&& (4294967295 : Int64)) (p4 &&& (4294967295 : Int64)))), .second, .unset, .unset, .unset, .unset, .unset, .unset, .unset, .unset]) rfl k_) ?_
        show Go _ _ _ _ (T12.setTop (mkF m 90 #[.val (.long p1), .second, .val (.long p2), .second, .val (.long p3), .second, .val (.long p4), .second, .val (.int p5), .val (.long xa), .second, .val (.long ya), .second, .val (.long l1), .second, .val (.long u1), .second, .val (.long (p3 &&& (4294967295 : Int64))), .second, .val (.long (p4 &&& (4294967295 : Int64))), .second, .val (.long (lowF (p3 &&& (4294967295 : Int64)) (p4 &&& (4294967295 : Int64)))), .second, .val (.long (highF (p3 &&& (4294967295 : Int64)) (p4 &&& (4294967295 : Int64)))), .second, .unset, .unset, .unset, .unset, .unset, .unset, .unset, .unset] []))
        exact J90 T12 xa ya l1 u1 (p3 &&& (4294967295 : Int64)) (p4 &&& (4294967295 : Int64)) (lowF (p3 &&& (4294967295 : Int64)) (p4 &&& (4294967295 : Int64))) (highF (p3 &&& (4294967295 : Int64)) (p4 &&& (4294967295 : Int64))) H12 (own_pre _ _ q1) (own_pre _ _ (own_lh _ _ (own_mask p3) (own_mask p4)))
      · refine Go.via (fun t_ k_ => XS.ifNo Hj.here hx rfl (hb hby at_56) rfl ((if0 _ _).trans (feq hc56).1) k_) ?_
        show Go _ _ _ _ (Tj.setTop (mkF m 59 #[.val (.long p1), .second, .val (.long p2), .second, .val (.long p3), .second, .val (.long p4), .second, .val (.int p5), .val (.long xa), .second, .val (.long ya), .second, .val (.long l1), .second, .val (.long u1), .second, .val (.long (p3 &&& (4294967295 : Int64))), .second, .unset, .unset, .unset, .unset, .unset, .unset, .unset, .unset, .unset, .unset, .unset, .unset, .unset, .unset] []))
        refine Go.via (fun t_ k_ => XS.lload Hj.here hx rfl (hb hby at_59) rfl k_) ?_
        show Go _ _ _ _ (Tj.setTop (mkF m 61 #[.val (.long p1), .second, .val (.long p2), .second, .val (.long p3), .second, .val (.long p4), .second, .val (.int p5), .val (.long xa), .second, .val (.long ya), .second, .val (.long l1), .second, .val (.long u1), .second, .val (.long (p3 &&& (4294967295 : Int64))), .second, .unset, .unset, .unset, .unset, .unset, .unset, .unset, .unset, .unset, .unset, .unset, .unset, .unset, .unset] [(.long u1)]))
        refine Go.via (fun t_ k_ => XS.goto Hj.here hx rfl (pc0 := 61) (pc' := 70) rfl (hb hby at_61) (by decide) (by decide) k_) ?_
        show Go _ _ _ _ (Tj.setTop (mkF m 70 #[.val (.long p1), .second, .val (.long p2), .second, .val (.long p3), .second, .val (.long p4), .second, .val (.int p5), .val (.long xa), .second, .val (.long ya), .second, .val (.long l1), .second, .val (.long u1), .second, .val (.long (p3 &&& (4294967295 : Int64))), .second, .unset, .unset, .unset, .unset, .unset, .unset, .unset, .unset, .unset, .unset, .unset, .unset, .unset, .unset] [(.long u1)]))
        refine Go.via (fun t_ k_ => XS.lstore Hj.here hx rfl (hb hby at_70) rfl (l' := #[.val (.long p1), .second, .val (.long p2), .second, .val (.long p3), .second, .val (.long p4), .second, .val (.int p5), .val (.long xa), .second, .val (.long ya), .second, .val (.long l1), .second, .val (.long u1), .second, .val (.long (p3 &&& (4294967295 : Int64))), .second, .val (.long u1), .second, .unset, .unset, .unset, .unset, .unset, .unset, .unset, .unset, .unset, .unset, .unset, .unset]) rfl k_) ?_
        show Go _ _ _ _ (Tj.setTop (mkF m 72 #[.val (.long p1), .second, .val (.long p2), .second, .val (.long p3), .second, .val (.long p4), .second, .val (.int p5), .val (.long xa), .second, .val (.long ya), .second, .val (.long l1), .second, .val (.long u1), .second, .val (.long (p3 &&& (4294967295 : Int64))), .second, .val (.long u1), .second, .unset, .unset, .unset, .unset, .unset, .unset, .unset, .unset, .unset, .unset, .unset, .unset] []))
        refine Go.via (fun t_ k_ => XS.lload Hj.here hx rfl (hb hby at_72) rfl k_) ?_
        show Go _ _ _ _ (Tj.setTop (mkF m 74 #[.val (.long p1), .second, .val (.long p2), .second, .val (.long p3), .second, .val (.long p4), .second, .val (.int p5), .val (.long xa), .second, .val (.long ya), .second, .val (.long l1), .second, .val (.long u1), .second, .val (.long (p3 &&& (4294967295 : Int64))), .second, .val (.long u1), .second, .unset, .unset, .unset, .unset, .unset, .unset, .unset, .unset, .unset, .unset, .unset, .unset] [(.long (p3 &&& (4294967295 : Int64)))]))
        refine Go.via (fun t_ k_ => XS.lload Hj.here hx rfl (hb hby at_74) rfl k_) ?_
        show Go _ _ _ _ (Tj.setTop (mkF m 76 #[.val (.long p1), .second, .val (.long p2), .second, .val (.long p3), .second, .val (.long p4), .second, .val (.int p5), .val (.long xa), .second, .val (.long ya), .second, .val (.long l1), .second, .val (.long u1), .second, .val (.long (p3 &&& (4294967295 : Int64))), .second, .val (.long u1), .second, .unset, .unset, .unset, .unset, .unset, .unset, .unset, .unset, .unset, .unset, .unset, .unset] [(.long u1), (.long (p3 &&& (4294967295 : Int64)))]))
        refine own_callS Hj hx hZ (y := (⟨"com/example/tidy_balancer/tidybalancer/model/BundleRangeEqualsPinLaw", "lowOf", "(JJ)J"⟩ : MethodName)) hown (hw _ (List.mem_of_getElem? (i := 1) rfl)) (hw _ (List.mem_of_getElem? (i := 2) rfl)) (hw _ (List.mem_of_getElem? (i := 3) rfl)) (hw _ (List.mem_of_getElem? (i := 4) rfl)) (by decide) (rmLow l Z a0 hw (p3 &&& (4294967295 : Int64)) u1 h0 n0) (g := (mkF m 76 #[.val (.long p1), .second, .val (.long p2), .second, .val (.long p3), .second, .val (.long p4), .second, .val (.int p5), .val (.long xa), .second, .val (.long ya), .second, .val (.long l1), .second, .val (.long u1), .second, .val (.long (p3 &&& (4294967295 : Int64))), .second, .val (.long u1), .second, .unset, .unset, .unset, .unset, .unset, .unset, .unset, .unset, .unset, .unset, .unset, .unset] [(.long u1), (.long (p3 &&& (4294967295 : Int64)))])) rfl (by rw [hml]; rfl) (argsL := [(.long (p3 &&& (4294967295 : Int64))), (.long u1)]) (rest := []) (lenOf pd_0 rfl) rfl 0 (Nat.le_of_eq rfl) (hb hby at_76) (by decide) (by decide) (by decide) (by decide) ?_
        rintro _ T13 _ ⟨rfl, rfl⟩ H13
        show Go _ _ _ _ (T13.setTop (mkF m 79 #[.val (.long p1), .second, .val (.long p2), .second, .val (.long p3), .second, .val (.long p4), .second, .val (.int p5), .val (.long xa), .second, .val (.long ya), .second, .val (.long l1), .second, .val (.long u1), .second, .val (.long (p3 &&& (4294967295 : Int64))), .second, .val (.long u1), .second, .unset, .unset, .unset, .unset, .unset, .unset, .unset, .unset, .unset, .unset, .unset, .unset] [(.long (lowF (p3 &&& (4294967295 : Int64)) u1))]))
        refine Go.via (fun t_ k_ => XS.lstore H13.here hx rfl (hb hby at_79) rfl (l' := #[.val (.long p1), .second, .val (.long p2), .second, .val (.long p3), .second, .val (.long p4), .second, .val (.int p5), .val (.long xa), .second, .val (.long ya), .second, .val (.long l1), .second, .val (.long u1), .second, .val (.long (p3 &&& (4294967295 : Int64))), .second, .val (.long u1), .second, .val (.long (lowF (p3 &&& (4294967295 : Int64)) u1)), .second, .unset, .unset, .unset, .unset, .unset, .unset, .unset, .unset, .unset, .unset]) rfl k_) ?_
        show Go _ _ _ _ (T13.setTop (mkF m 81 #[.val (.long p1), .second, .val (.long p2), .second, .val (.long p3), .second, .val (.long p4), .second, .val (.int p5), .val (.long xa), .second, .val (.long ya), .second, .val (.long l1), .second, .val (.long u1), .second, .val (.long (p3 &&& (4294967295 : Int64))), .second, .val (.long u1), .second, .val (.long (lowF (p3 &&& (4294967295 : Int64)) u1)), .second, .unset, .unset, .unset, .unset, .unset, .unset, .unset, .unset, .unset, .unset] []))
        refine Go.via (fun t_ k_ => XS.lload H13.here hx rfl (hb hby at_81) rfl k_) ?_
        show Go _ _ _ _ (T13.setTop (mkF m 83 #[.val (.long p1), .second, .val (.long p2), .second, .val (.long p3), .second, .val (.long p4), .second, .val (.int p5), .val (.long xa), .second, .val (.long ya), .second, .val (.long l1), .second, .val (.long u1), .second, .val (.long (p3 &&& (4294967295 : Int64))), .second, .val (.long u1), .second, .val (.long (lowF (p3 &&& (4294967295 : Int64)) u1)), .second, .unset, .unset, .unset, .unset, .unset, .unset, .unset, .unset, .unset, .unset] [(.long (p3 &&& (4294967295 : Int64)))]))
        refine Go.via (fun t_ k_ => XS.lload H13.here hx rfl (hb hby at_83) rfl k_) ?_
        show Go _ _ _ _ (T13.setTop (mkF m 85 #[.val (.long p1), .second, .val (.long p2), .second, .val (.long p3), .second, .val (.long p4), .second, .val (.int p5), .val (.long xa), .second, .val (.long ya), .second, .val (.long l1), .second, .val (.long u1), .second, .val (.long (p3 &&& (4294967295 : Int64))), .second, .val (.long u1), .second, .val (.long (lowF (p3 &&& (4294967295 : Int64)) u1)), .second, .unset, .unset, .unset, .unset, .unset, .unset, .unset, .unset, .unset, .unset] [(.long u1), (.long (p3 &&& (4294967295 : Int64)))]))
        refine own_callS H13 hx hZ (y := (⟨"com/example/tidy_balancer/tidybalancer/model/BundleRangeEqualsPinLaw", "highOf", "(JJ)J"⟩ : MethodName)) hown (hw _ (List.mem_of_getElem? (i := 9) rfl)) (hw _ (List.mem_of_getElem? (i := 10) rfl)) (hw _ (List.mem_of_getElem? (i := 3) rfl)) (hw _ (List.mem_of_getElem? (i := 11) rfl)) (by decide) (rmHigh l Z a0 hw (p3 &&& (4294967295 : Int64)) u1 h0 n0) (g := (mkF m 85 #[.val (.long p1), .second, .val (.long p2), .second, .val (.long p3), .second, .val (.long p4), .second, .val (.int p5), .val (.long xa), .second, .val (.long ya), .second, .val (.long l1), .second, .val (.long u1), .second, .val (.long (p3 &&& (4294967295 : Int64))), .second, .val (.long u1), .second, .val (.long (lowF (p3 &&& (4294967295 : Int64)) u1)), .second, .unset, .unset, .unset, .unset, .unset, .unset, .unset, .unset, .unset, .unset] [(.long u1), (.long (p3 &&& (4294967295 : Int64)))])) rfl (by rw [hml]; rfl) (argsL := [(.long (p3 &&& (4294967295 : Int64))), (.long u1)]) (rest := []) (lenOf pd_0 rfl) rfl 0 (Nat.le_of_eq rfl) (hb hby at_85) (by decide) (by decide) (by decide) (by decide) ?_
        rintro _ T14 _ ⟨rfl, rfl⟩ H14
        show Go _ _ _ _ (T14.setTop (mkF m 88 #[.val (.long p1), .second, .val (.long p2), .second, .val (.long p3), .second, .val (.long p4), .second, .val (.int p5), .val (.long xa), .second, .val (.long ya), .second, .val (.long l1), .second, .val (.long u1), .second, .val (.long (p3 &&& (4294967295 : Int64))), .second, .val (.long u1), .second, .val (.long (lowF (p3 &&& (4294967295 : Int64)) u1)), .second, .unset, .unset, .unset, .unset, .unset, .unset, .unset, .unset, .unset, .unset] [(.long (highF (p3 &&& (4294967295 : Int64)) u1))]))
        refine Go.via (fun t_ k_ => XS.lstore H14.here hx rfl (hb hby at_88) rfl (l' := #[.val (.long p1), .second, .val (.long p2), .second, .val (.long p3), .second, .val (.long p4), .second, .val (.int p5), .val (.long xa), .second, .val (.long ya), .second, .val (.long l1), .second, .val (.long u1), .second, .val (.long (p3 &&& (4294967295 : Int64))), .second, .val (.long u1), .second, .val (.long (lowF (p3 &&& (4294967295 : Int64)) u1)), .second, .val (.long (highF (p3 &&& (4294967295 : Int64)) u1)), .second, .unset, .unset, .unset, .unset, .unset, .unset, .unset, .unset]) rfl k_) ?_
        show Go _ _ _ _ (T14.setTop (mkF m 90 #[.val (.long p1), .second, .val (.long p2), .second, .val (.long p3), .second, .val (.long p4), .second, .val (.int p5), .val (.long xa), .second, .val (.long ya), .second, .val (.long l1), .second, .val (.long u1), .second, .val (.long (p3 &&& (4294967295 : Int64))), .second, .val (.long u1), .second, .val (.long (lowF (p3 &&& (4294967295 : Int64)) u1)), .second, .val (.long (highF (p3 &&& (4294967295 : Int64)) u1)), .second, .unset, .unset, .unset, .unset, .unset, .unset, .unset, .unset] []))
        exact J90 T14 xa ya l1 u1 (p3 &&& (4294967295 : Int64)) u1 (lowF (p3 &&& (4294967295 : Int64)) u1) (highF (p3 &&& (4294967295 : Int64)) u1) H14 (own_pre _ _ q1) (own_pre _ _ (own_lh _ _ (own_mask p3) (own_rg _ _ q1).2))
    · refine Go.via (fun t_ k_ => XS.ifNo Hj.here hx rfl (hb hby at_36) rfl ((if0 _ _).trans (feq hc36).1) k_) ?_
      show Go _ _ _ _ (Tj.setTop (mkF m 39 #[.val (.long p1), .second, .val (.long p2), .second, .val (.long p3), .second, .val (.long p4), .second, .val (.int p5), .val (.long xa), .second, .val (.long ya), .second, .val (.long l1), .second, .val (.long u1), .second, .unset, .unset, .unset, .unset, .unset, .unset, .unset, .unset, .unset, .unset, .unset, .unset, .unset, .unset, .unset, .unset] []))
      refine Go.via (fun t_ k_ => XS.lload Hj.here hx rfl (hb hby at_39) rfl k_) ?_
      show Go _ _ _ _ (Tj.setTop (mkF m 41 #[.val (.long p1), .second, .val (.long p2), .second, .val (.long p3), .second, .val (.long p4), .second, .val (.int p5), .val (.long xa), .second, .val (.long ya), .second, .val (.long l1), .second, .val (.long u1), .second, .unset, .unset, .unset, .unset, .unset, .unset, .unset, .unset, .unset, .unset, .unset, .unset, .unset, .unset, .unset, .unset] [(.long l1)]))
      refine Go.via (fun t_ k_ => XS.goto Hj.here hx rfl (pc0 := 41) (pc' := 50) rfl (hb hby at_41) (by decide) (by decide) k_) ?_
      show Go _ _ _ _ (Tj.setTop (mkF m 50 #[.val (.long p1), .second, .val (.long p2), .second, .val (.long p3), .second, .val (.long p4), .second, .val (.int p5), .val (.long xa), .second, .val (.long ya), .second, .val (.long l1), .second, .val (.long u1), .second, .unset, .unset, .unset, .unset, .unset, .unset, .unset, .unset, .unset, .unset, .unset, .unset, .unset, .unset, .unset, .unset] [(.long l1)]))
      refine Go.via (fun t_ k_ => XS.lstore Hj.here hx rfl (hb hby at_50) rfl (l' := #[.val (.long p1), .second, .val (.long p2), .second, .val (.long p3), .second, .val (.long p4), .second, .val (.int p5), .val (.long xa), .second, .val (.long ya), .second, .val (.long l1), .second, .val (.long u1), .second, .val (.long l1), .second, .unset, .unset, .unset, .unset, .unset, .unset, .unset, .unset, .unset, .unset, .unset, .unset, .unset, .unset]) rfl k_) ?_
      show Go _ _ _ _ (Tj.setTop (mkF m 52 #[.val (.long p1), .second, .val (.long p2), .second, .val (.long p3), .second, .val (.long p4), .second, .val (.int p5), .val (.long xa), .second, .val (.long ya), .second, .val (.long l1), .second, .val (.long u1), .second, .val (.long l1), .second, .unset, .unset, .unset, .unset, .unset, .unset, .unset, .unset, .unset, .unset, .unset, .unset, .unset, .unset] []))
      refine Go.via (fun t_ k_ => XS.iload Hj.here hx rfl (hb hby at_52) rfl k_) ?_
      show Go _ _ _ _ (Tj.setTop (mkF m 54 #[.val (.long p1), .second, .val (.long p2), .second, .val (.long p3), .second, .val (.long p4), .second, .val (.int p5), .val (.long xa), .second, .val (.long ya), .second, .val (.long l1), .second, .val (.long u1), .second, .val (.long l1), .second, .unset, .unset, .unset, .unset, .unset, .unset, .unset, .unset, .unset, .unset, .unset, .unset, .unset, .unset] [(.int p5)]))
      refine Go.via (fun t_ k_ => XS.iconst Hj.here hx rfl (hb hby at_54) k_) ?_
      show Go _ _ _ _ (Tj.setTop (mkF m 55 #[.val (.long p1), .second, .val (.long p2), .second, .val (.long p3), .second, .val (.long p4), .second, .val (.int p5), .val (.long xa), .second, .val (.long ya), .second, .val (.long l1), .second, .val (.long u1), .second, .val (.long l1), .second, .unset, .unset, .unset, .unset, .unset, .unset, .unset, .unset, .unset, .unset, .unset, .unset, .unset, .unset] [(.int (2 : Int32)), (.int p5)]))
      refine Go.via (fun t_ k_ => XS.iand Hj.here hx rfl (hb hby at_55) rfl k_) ?_
      show Go _ _ _ _ (Tj.setTop (mkF m 56 #[.val (.long p1), .second, .val (.long p2), .second, .val (.long p3), .second, .val (.long p4), .second, .val (.int p5), .val (.long xa), .second, .val (.long ya), .second, .val (.long l1), .second, .val (.long u1), .second, .val (.long l1), .second, .unset, .unset, .unset, .unset, .unset, .unset, .unset, .unset, .unset, .unset, .unset, .unset, .unset, .unset] [(.int (p5 &&& (2 : Int32)))]))
      by_cases hc56 : (p5 &&& (2 : Int32)) = (0 : Int32)
      · refine Go.via (fun t_ k_ => XS.ifYes Hj.here hx rfl (pc0 := 56) (pc' := 64) rfl (hb hby at_56) rfl ((if0 _ _).trans (teq hc56).1) (by decide) (by decide) k_) ?_
        show Go _ _ _ _ (Tj.setTop (mkF m 64 #[.val (.long p1), .second, .val (.long p2), .second, .val (.long p3), .second, .val (.long p4), .second, .val (.int p5), .val (.long xa), .second, .val (.long ya), .second, .val (.long l1), .second, .val (.long u1), .second, .val (.long l1), .second, .unset, .unset, .unset, .unset, .unset, .unset, .unset, .unset, .unset, .unset, .unset, .unset, .unset, .unset] []))
        refine Go.via (fun t_ k_ => XS.lload Hj.here hx rfl (hb hby at_64) rfl k_) ?_
        show Go _ _ _ _ (Tj.setTop (mkF m 66 #[.val (.long p1), .second, .val (.long p2), .second, .val (.long p3), .second, .val (.long p4), .second, .val (.int p5), .val (.long xa), .second, .val (.long ya), .second, .val (.long l1), .second, .val (.long u1), .second, .val (.long l1), .second, .unset, .unset, .unset, .unset, .unset, .unset, .unset, .unset, .unset, .unset, .unset, .unset, .unset, .unset] [(.long p4)]))
        refine own_ldcL Hj hx hZ hown (hw _ (List.mem_of_getElem? (i := 0) rfl)) (g := (mkF m 66 #[.val (.long p1), .second, .val (.long p2), .second, .val (.long p3), .second, .val (.long p4), .second, .val (.int p5), .val (.long xa), .second, .val (.long ya), .second, .val (.long l1), .second, .val (.long u1), .second, .val (.long l1), .second, .unset, .unset, .unset, .unset, .unset, .unset, .unset, .unset, .unset, .unset, .unset, .unset, .unset, .unset] [(.long p4)])) rfl (hb hby at_66) ?_
        show Go _ _ _ _ (Tj.setTop (mkF m 69 #[.val (.long p1), .second, .val (.long p2), .second, .val (.long p3), .second, .val (.long p4), .second, .val (.int p5), .val (.long xa), .second, .val (.long ya), .second, .val (.long l1), .second, .val (.long u1), .second, .val (.long l1), .second, .unset, .unset, .unset, .unset, .unset, .unset, .unset, .unset, .unset, .unset, .unset, .unset, .unset, .unset] [(.long (4294967295 : Int64)), (.long p4)]))
        refine Go.via (fun t_ k_ => XS.land Hj.here hx rfl (hb hby at_69) rfl k_) ?_
        show Go _ _ _ _ (Tj.setTop (mkF m 70 #[.val (.long p1), .second, .val (.long p2), .second, .val (.long p3), .second, .val (.long p4), .second, .val (.int p5), .val (.long xa), .second, .val (.long ya), .second, .val (.long l1), .second, .val (.long u1), .second, .val (.long l1), .second, .unset, .unset, .unset, .unset, .unset, .unset, .unset, .unset, .unset, .unset, .unset, .unset, .unset, .unset] [(.long (p4 &&& (4294967295 : Int64)))]))
        refine Go.via (fun t_ k_ => XS.lstore Hj.here hx rfl (hb hby at_70) rfl (l' := #[.val (.long p1), .second, .val (.long p2), .second, .val (.long p3), .second, .val (.long p4), .second, .val (.int p5), .val (.long xa), .second, .val (.long ya), .second, .val (.long l1), .second, .val (.long u1), .second, .val (.long l1), .second, .val (.long (p4 &&& (4294967295 : Int64))), .second, .unset, .unset, .unset, .unset, .unset, .unset, .unset, .unset, .unset, .unset, .unset, .unset]) rfl k_) ?_
        show Go _ _ _ _ (Tj.setTop (mkF m 72 #[.val (.long p1), .second, .val (.long p2), .second, .val (.long p3), .second, .val (.long p4), .second, .val (.int p5), .val (.long xa), .second, .val (.long ya), .second, .val (.long l1), .second, .val (.long u1), .second, .val (.long l1), .second, .val (.long (p4 &&& (4294967295 : Int64))), .second, .unset, .unset, .unset, .unset, .unset, .unset, .unset, .unset, .unset, .unset, .unset, .unset] []))
        refine Go.via (fun t_ k_ => XS.lload Hj.here hx rfl (hb hby at_72) rfl k_) ?_
        show Go _ _ _ _ (Tj.setTop (mkF m 74 #[.val (.long p1), .second, .val (.long p2), .second, .val (.long p3), .second, .val (.long p4), .second, .val (.int p5), .val (.long xa), .second, .val (.long ya), .second, .val (.long l1), .second, .val (.long u1), .second, .val (.long l1), .second, .val (.long (p4 &&& (4294967295 : Int64))), .second, .unset, .unset, .unset, .unset, .unset, .unset, .unset, .unset, .unset, .unset, .unset, .unset] [(.long l1)]))
        refine Go.via (fun t_ k_ => XS.lload Hj.here hx rfl (hb hby at_74) rfl k_) ?_
        show Go _ _ _ _ (Tj.setTop (mkF m 76 #[.val (.long p1), .second, .val (.long p2), .second, .val (.long p3), .second, .val (.long p4), .second, .val (.int p5), .val (.long xa), .second, .val (.long ya), .second, .val (.long l1), .second, .val (.long u1), .second, .val (.long l1), .second, .val (.long (p4 &&& (4294967295 : Int64))), .second, .unset, .unset, .unset, .unset, .unset, .unset, .unset, .unset, .unset, .unset, .unset, .unset] [(.long (p4 &&& (4294967295 : Int64))), (.long l1)]))
        refine own_callS Hj hx hZ (y := (⟨"com/example/tidy_balancer/tidybalancer/model/BundleRangeEqualsPinLaw", "lowOf", "(JJ)J"⟩ : MethodName)) hown (hw _ (List.mem_of_getElem? (i := 1) rfl)) (hw _ (List.mem_of_getElem? (i := 2) rfl)) (hw _ (List.mem_of_getElem? (i := 3) rfl)) (hw _ (List.mem_of_getElem? (i := 4) rfl)) (by decide) (rmLow l Z a0 hw l1 (p4 &&& (4294967295 : Int64)) h0 n0) (g := (mkF m 76 #[.val (.long p1), .second, .val (.long p2), .second, .val (.long p3), .second, .val (.long p4), .second, .val (.int p5), .val (.long xa), .second, .val (.long ya), .second, .val (.long l1), .second, .val (.long u1), .second, .val (.long l1), .second, .val (.long (p4 &&& (4294967295 : Int64))), .second, .unset, .unset, .unset, .unset, .unset, .unset, .unset, .unset, .unset, .unset, .unset, .unset] [(.long (p4 &&& (4294967295 : Int64))), (.long l1)])) rfl (by rw [hml]; rfl) (argsL := [(.long l1), (.long (p4 &&& (4294967295 : Int64)))]) (rest := []) (lenOf pd_0 rfl) rfl 0 (Nat.le_of_eq rfl) (hb hby at_76) (by decide) (by decide) (by decide) (by decide) ?_
        rintro _ T15 _ ⟨rfl, rfl⟩ H15
        show Go _ _ _ _ (T15.setTop (mkF m 79 #[.val (.long p1), .second, .val (.long p2), .second, .val (.long p3), .second, .val (.long p4), .second, .val (.int p5), .val (.long xa), .second, .val (.long ya), .second, .val (.long l1), .second, .val (.long u1), .second, .val (.long l1), .second, .val (.long (p4 &&& (4294967295 : Int64))), .second, .unset, .unset, .unset, .unset, .unset, .unset, .unset, .unset, .unset, .unset, .unset, .unset] [(.long (lowF l1 (p4 &&& (4294967295 : Int64))))]))
        refine Go.via (fun t_ k_ => XS.lstore H15.here hx rfl (hb hby at_79) rfl (l' := #[.val (.long p1), .second, .val (.long p2), .second, .val (.long p3), .second, .val (.long p4), .second, .val (.int p5), .val (.long xa), .second, .val (.long ya), .second, .val (.long l1), .second, .val (.long u1), .second, .val (.long l1), .second, .val (.long (p4 &&& (4294967295 : Int64))), .second, .val (.long (lowF l1 (p4 &&& (4294967295 : Int64)))), .second, .unset, .unset, .unset, .unset, .unset, .unset, .unset, .unset, .unset, .unset]) rfl k_) ?_
        show Go _ _ _ _ (T15.setTop (mkF m 81 #[.val (.long p1), .second, .val (.long p2), .second, .val (.long p3), .second, .val (.long p4), .second, .val (.int p5), .val (.long xa), .second, .val (.long ya), .second, .val (.long l1), .second, .val (.long u1), .second, .val (.long l1), .second, .val (.long (p4 &&& (4294967295 : Int64))), .second, .val (.long (lowF l1 (p4 &&& (4294967295 : Int64)))), .second, .unset, .unset, .unset, .unset, .unset, .unset, .unset, .unset, .unset, .unset] []))
        refine Go.via (fun t_ k_ => XS.lload H15.here hx rfl (hb hby at_81) rfl k_) ?_
        show Go _ _ _ _ (T15.setTop (mkF m 83 #[.val (.long p1), .second, .val (.long p2), .second, .val (.long p3), .second, .val (.long p4), .second, .val (.int p5), .val (.long xa), .second, .val (.long ya), .second, .val (.long l1), .second, .val (.long u1), .second, .val (.long l1), .second, .val (.long (p4 &&& (4294967295 : Int64))), .second, .val (.long (lowF l1 (p4 &&& (4294967295 : Int64)))), .second, .unset, .unset, .unset, .unset, .unset, .unset, .unset, .unset, .unset, .unset] [(.long l1)]))
        refine Go.via (fun t_ k_ => XS.lload H15.here hx rfl (hb hby at_83) rfl k_) ?_
        show Go _ _ _ _ (T15.setTop (mkF m 85 #[.val (.long p1), .second, .val (.long p2), .second, .val (.long p3), .second, .val (.long p4), .second, .val (.int p5), .val (.long xa), .second, .val (.long ya), .second, .val (.long l1), .second, .val (.long u1), .second, .val (.long l1), .second, .val (.long (p4 &&& (4294967295 : Int64))), .second, .val (.long (lowF l1 (p4 &&& (4294967295 : Int64)))), .second, .unset, .unset, .unset, .unset, .unset, .unset, .unset, .unset, .unset, .unset] [(.long (p4 &&& (4294967295 : Int64))), (.long l1)]))
        refine own_callS H15 hx hZ (y := (⟨"com/example/tidy_balancer/tidybalancer/model/BundleRangeEqualsPinLaw", "highOf", "(JJ)J"⟩ : MethodName)) hown (hw _ (List.mem_of_getElem? (i := 9) rfl)) (hw _ (List.mem_of_getElem? (i := 10) rfl)) (hw _ (List.mem_of_getElem? (i := 3) rfl)) (hw _ (List.mem_of_getElem? (i := 11) rfl)) (by decide) (rmHigh l Z a0 hw l1 (p4 &&& (4294967295 : Int64)) h0 n0) (g := (mkF m 85 #[.val (.long p1), .second, .val (.long p2), .second, .val (.long p3), .second, .val (.long p4), .second, .val (.int p5), .val (.long xa), .second, .val (.long ya), .second, .val (.long l1), .second, .val (.long u1), .second, .val (.long l1), .second, .val (.long (p4 &&& (4294967295 : Int64))), .second, .val (.long (lowF l1 (p4 &&& (4294967295 : Int64)))), .second, .unset, .unset, .unset, .unset, .unset, .unset, .unset, .unset, .unset, .unset] [(.long (p4 &&& (4294967295 : Int64))), (.long l1)])) rfl (by rw [hml]; rfl) (argsL := [(.long l1), (.long (p4 &&& (4294967295 : Int64)))]) (rest := []) (lenOf pd_0 rfl) rfl 0 (Nat.le_of_eq rfl) (hb hby at_85) (by decide) (by decide) (by decide) (by decide) ?_
        rintro _ T16 _ ⟨rfl, rfl⟩ H16
        show Go _ _ _ _ (T16.setTop (mkF m 88 #[.val (.long p1), .second, .val (.long p2), .second, .val (.long p3), .second, .val (.long p4), .second, .val (.int p5), .val (.long xa), .second, .val (.long ya), .second, .val (.long l1), .second, .val (.long u1), .second, .val (.long l1), .second, .val (.long (p4 &&& (4294967295 : Int64))), .second, .val (.long (lowF l1 (p4 &&& (4294967295 : Int64)))), .second, .unset, .unset, .unset, .unset, .unset, .unset, .unset, .unset, .unset, .unset] [(.long (highF l1 (p4 &&& (4294967295 : Int64))))]))
        refine Go.via (fun t_ k_ => XS.lstore H16.here hx rfl (hb hby at_88) rfl (l' := #[.val (.long p1), .second, .val (.long p2), .second, .val (.long p3), .second, .val (.long p4), .second, .val (.int p5), .val (.long xa), .second, .val (.long ya), .second, .val (.long l1), .second, .val (.long u1), .second, .val (.long l1), .second, .val (.long (p4 &&& (4294967295 : Int64))), .second, .val (.long (lowF l1 (p4 &&& (4294967295 : Int64)))), .second, .val (.long (highF l1 (p4 &&& (4294967295 : Int64)))), .second, .unset, .unset, .unset, .unset, .unset, .unset, .unset, .unset]) rfl k_) ?_
        show Go _ _ _ _ (T16.setTop (mkF m 90 #[.val (.long p1), .second, .val (.long p2), .second, .val (.long p3), .second, .val (.long p4), .second, .val (.int p5), .val (.long xa), .second, .val (.long ya), .second, .val (.long l1), .second, .val (.long u1), .second, .val (.long l1), .second, .val (.long (p4 &&& (4294967295 : Int64))), .second, .val (.long (lowF l1 (p4 &&& (4294967295 : Int64)))), .second, .val (.long (highF l1 (p4 &&& (4294967295 : Int64)))), .second, .unset, .unset, .unset, .unset, .unset, .unset, .unset, .unset] []))
        exact J90 T16 xa ya l1 u1 l1 (p4 &&& (4294967295 : Int64)) (lowF l1 (p4 &&& (4294967295 : Int64))) (highF l1 (p4 &&& (4294967295 : Int64))) H16 (own_pre _ _ q1) (own_pre _ _ (own_lh _ _ (own_rg _ _ q1).1 (own_mask p4)))
      · refine Go.via (fun t_ k_ => XS.ifNo Hj.here hx rfl (hb hby at_56) rfl ((if0 _ _).trans (feq hc56).1) k_) ?_
        show Go _ _ _ _ (Tj.setTop (mkF m 59 #[.val (.long p1), .second, .val (.long p2), .second, .val (.long p3), .second, .val (.long p4), .second, .val (.int p5), .val (.long xa), .second, .val (.long ya), .second, .val (.long l1), .second, .val (.long u1), .second, .val (.long l1), .second, .unset, .unset, .unset, .unset, .unset, .unset, .unset, .unset, .unset, .unset, .unset, .unset, .unset, .unset] []))
        refine Go.via (fun t_ k_ => XS.lload Hj.here hx rfl (hb hby at_59) rfl k_) ?_
        show Go _ _ _ _ (Tj.setTop (mkF m 61 #[.val (.long p1), .second, .val (.long p2), .second, .val (.long p3), .second, .val (.long p4), .second, .val (.int p5), .val (.long xa), .second, .val (.long ya), .second, .val (.long l1), .second, .val (.long u1), .second, .val (.long l1), .second, .unset, .unset, .unset, .unset, .unset, .unset, .unset, .unset, .unset, .unset, .unset, .unset, .unset, .unset] [(.long u1)]))
        refine Go.via (fun t_ k_ => XS.goto Hj.here hx rfl (pc0 := 61) (pc' := 70) rfl (hb hby at_61) (by decide) (by decide) k_) ?_
        show Go _ _ _ _ (Tj.setTop (mkF m 70 #[.val (.long p1), .second, .val (.long p2), .second, .val (.long p3), .second, .val (.long p4), .second, .val (.int p5), .val (.long xa), .second, .val (.long ya), .second, .val (.long l1), .second, .val (.long u1), .second, .val (.long l1), .second, .unset, .unset, .unset, .unset, .unset, .unset, .unset, .unset, .unset, .unset, .unset, .unset, .unset, .unset] [(.long u1)]))
        refine Go.via (fun t_ k_ => XS.lstore Hj.here hx rfl (hb hby at_70) rfl (l' := #[.val (.long p1), .second, .val (.long p2), .second, .val (.long p3), .second, .val (.long p4), .second, .val (.int p5), .val (.long xa), .second, .val (.long ya), .second, .val (.long l1), .second, .val (.long u1), .second, .val (.long l1), .second, .val (.long u1), .second, .unset, .unset, .unset, .unset, .unset, .unset, .unset, .unset, .unset, .unset, .unset, .unset]) rfl k_) ?_
        show Go _ _ _ _ (Tj.setTop (mkF m 72 #[.val (.long p1), .second, .val (.long p2), .second, .val (.long p3), .second, .val (.long p4), .second, .val (.int p5), .val (.long xa), .second, .val (.long ya), .second, .val (.long l1), .second, .val (.long u1), .second, .val (.long l1), .second, .val (.long u1), .second, .unset, .unset, .unset, .unset, .unset, .unset, .unset, .unset, .unset, .unset, .unset, .unset] []))
        refine Go.via (fun t_ k_ => XS.lload Hj.here hx rfl (hb hby at_72) rfl k_) ?_
        show Go _ _ _ _ (Tj.setTop (mkF m 74 #[.val (.long p1), .second, .val (.long p2), .second, .val (.long p3), .second, .val (.long p4), .second, .val (.int p5), .val (.long xa), .second, .val (.long ya), .second, .val (.long l1), .second, .val (.long u1), .second, .val (.long l1), .second, .val (.long u1), .second, .unset, .unset, .unset, .unset, .unset, .unset, .unset, .unset, .unset, .unset, .unset, .unset] [(.long l1)]))
        refine Go.via (fun t_ k_ => XS.lload Hj.here hx rfl (hb hby at_74) rfl k_) ?_
        show Go _ _ _ _ (Tj.setTop (mkF m 76 #[.val (.long p1), .second, .val (.long p2), .second, .val (.long p3), .second, .val (.long p4), .second, .val (.int p5), .val (.long xa), .second, .val (.long ya), .second, .val (.long l1), .second, .val (.long u1), .second, .val (.long l1), .second, .val (.long u1), .second, .unset, .unset, .unset, .unset, .unset, .unset, .unset, .unset, .unset, .unset, .unset, .unset] [(.long u1), (.long l1)]))
        refine own_callS Hj hx hZ (y := (⟨"com/example/tidy_balancer/tidybalancer/model/BundleRangeEqualsPinLaw", "lowOf", "(JJ)J"⟩ : MethodName)) hown (hw _ (List.mem_of_getElem? (i := 1) rfl)) (hw _ (List.mem_of_getElem? (i := 2) rfl)) (hw _ (List.mem_of_getElem? (i := 3) rfl)) (hw _ (List.mem_of_getElem? (i := 4) rfl)) (by decide) (rmLow l Z a0 hw l1 u1 h0 n0) (g := (mkF m 76 #[.val (.long p1), .second, .val (.long p2), .second, .val (.long p3), .second, .val (.long p4), .second, .val (.int p5), .val (.long xa), .second, .val (.long ya), .second, .val (.long l1), .second, .val (.long u1), .second, .val (.long l1), .second, .val (.long u1), .second, .unset, .unset, .unset, .unset, .unset, .unset, .unset, .unset, .unset, .unset, .unset, .unset] [(.long u1), (.long l1)])) rfl (by rw [hml]; rfl) (argsL := [(.long l1), (.long u1)]) (rest := []) (lenOf pd_0 rfl) rfl 0 (Nat.le_of_eq rfl) (hb hby at_76) (by decide) (by decide) (by decide) (by decide) ?_
        rintro _ T17 _ ⟨rfl, rfl⟩ H17
        show Go _ _ _ _ (T17.setTop (mkF m 79 #[.val (.long p1), .second, .val (.long p2), .second, .val (.long p3), .second, .val (.long p4), .second, .val (.int p5), .val (.long xa), .second, .val (.long ya), .second, .val (.long l1), .second, .val (.long u1), .second, .val (.long l1), .second, .val (.long u1), .second, .unset, .unset, .unset, .unset, .unset, .unset, .unset, .unset, .unset, .unset, .unset, .unset] [(.long (lowF l1 u1))]))
        refine Go.via (fun t_ k_ => XS.lstore H17.here hx rfl (hb hby at_79) rfl (l' := #[.val (.long p1), .second, .val (.long p2), .second, .val (.long p3), .second, .val (.long p4), .second, .val (.int p5), .val (.long xa), .second, .val (.long ya), .second, .val (.long l1), .second, .val (.long u1), .second, .val (.long l1), .second, .val (.long u1), .second, .val (.long (lowF l1 u1)), .second, .unset, .unset, .unset, .unset, .unset, .unset, .unset, .unset, .unset, .unset]) rfl k_) ?_
        show Go _ _ _ _ (T17.setTop (mkF m 81 #[.val (.long p1), .second, .val (.long p2), .second, .val (.long p3), .second, .val (.long p4), .second, .val (.int p5), .val (.long xa), .second, .val (.long ya), .second, .val (.long l1), .second, .val (.long u1), .second, .val (.long l1), .second, .val (.long u1), .second, .val (.long (lowF l1 u1)), .second, .unset, .unset, .unset, .unset, .unset, .unset, .unset, .unset, .unset, .unset] []))
        refine Go.via (fun t_ k_ => XS.lload H17.here hx rfl (hb hby at_81) rfl k_) ?_
        show Go _ _ _ _ (T17.setTop (mkF m 83 #[.val (.long p1), .second, .val (.long p2), .second, .val (.long p3), .second, .val (.long p4), .second, .val (.int p5), .val (.long xa), .second, .val (.long ya), .second, .val (.long l1), .second, .val (.long u1), .second, .val (.long l1), .second, .val (.long u1), .second, .val (.long (lowF l1 u1)), .second, .unset, .unset, .unset, .unset, .unset, .unset, .unset, .unset, .unset, .unset] [(.long l1)]))
        refine Go.via (fun t_ k_ => XS.lload H17.here hx rfl (hb hby at_83) rfl k_) ?_
        show Go _ _ _ _ (T17.setTop (mkF m 85 #[.val (.long p1), .second, .val (.long p2), .second, .val (.long p3), .second, .val (.long p4), .second, .val (.int p5), .val (.long xa), .second, .val (.long ya), .second, .val (.long l1), .second, .val (.long u1), .second, .val (.long l1), .second, .val (.long u1), .second, .val (.long (lowF l1 u1)), .second, .unset, .unset, .unset, .unset, .unset, .unset, .unset, .unset, .unset, .unset] [(.long u1), (.long l1)]))
        refine own_callS H17 hx hZ (y := (⟨"com/example/tidy_balancer/tidybalancer/model/BundleRangeEqualsPinLaw", "highOf", "(JJ)J"⟩ : MethodName)) hown (hw _ (List.mem_of_getElem? (i := 9) rfl)) (hw _ (List.mem_of_getElem? (i := 10) rfl)) (hw _ (List.mem_of_getElem? (i := 3) rfl)) (hw _ (List.mem_of_getElem? (i := 11) rfl)) (by decide) (rmHigh l Z a0 hw l1 u1 h0 n0) (g := (mkF m 85 #[.val (.long p1), .second, .val (.long p2), .second, .val (.long p3), .second, .val (.long p4), .second, .val (.int p5), .val (.long xa), .second, .val (.long ya), .second, .val (.long l1), .second, .val (.long u1), .second, .val (.long l1), .second, .val (.long u1), .second, .val (.long (lowF l1 u1)), .second, .unset, .unset, .unset, .unset, .unset, .unset, .unset, .unset, .unset, .unset] [(.long u1), (.long l1)])) rfl (by rw [hml]; rfl) (argsL := [(.long l1), (.long u1)]) (rest := []) (lenOf pd_0 rfl) rfl 0 (Nat.le_of_eq rfl) (hb hby at_85) (by decide) (by decide) (by decide) (by decide) ?_
        rintro _ T18 _ ⟨rfl, rfl⟩ H18
        show Go _ _ _ _ (T18.setTop (mkF m 88 #[.val (.long p1), .second, .val (.long p2), .second, .val (.long p3), .second, .val (.long p4), .second, .val (.int p5), .val (.long xa), .second, .val (.long ya), .second, .val (.long l1), .second, .val (.long u1), .second, .val (.long l1), .second, .val (.long u1), .second, .val (.long (lowF l1 u1)), .second, .unset, .unset, .unset, .unset, .unset, .unset, .unset, .unset, .unset, .unset] [(.long (highF l1 u1))]))
        refine Go.via (fun t_ k_ => XS.lstore H18.here hx rfl (hb hby at_88) rfl (l' := #[.val (.long p1), .second, .val (.long p2), .second, .val (.long p3), .second, .val (.long p4), .second, .val (.int p5), .val (.long xa), .second, .val (.long ya), .second, .val (.long l1), .second, .val (.long u1), .second, .val (.long l1), .second, .val (.long u1), .second, .val (.long (lowF l1 u1)), .second, .val (.long (highF l1 u1)), .second, .unset, .unset, .unset, .unset, .unset, .unset, .unset, .unset]) rfl k_) ?_
        show Go _ _ _ _ (T18.setTop (mkF m 90 #[.val (.long p1), .second, .val (.long p2), .second, .val (.long p3), .second, .val (.long p4), .second, .val (.int p5), .val (.long xa), .second, .val (.long ya), .second, .val (.long l1), .second, .val (.long u1), .second, .val (.long l1), .second, .val (.long u1), .second, .val (.long (lowF l1 u1)), .second, .val (.long (highF l1 u1)), .second, .unset, .unset, .unset, .unset, .unset, .unset, .unset, .unset] []))
        exact J90 T18 xa ya l1 u1 l1 u1 (lowF l1 u1) (highF l1 u1) H18 (own_pre _ _ q1) (own_pre _ _ (own_lh _ _ (own_rg _ _ q1).1 (own_rg _ _ q1).2))
  show Go _ _ _ _ (T0.setTop (mkF m 0 #[.val (.long p1), .second, .val (.long p2), .second, .val (.long p3), .second, .val (.long p4), .second, .val (.int p5), .unset, .unset, .unset, .unset, .unset, .unset, .unset, .unset, .unset, .unset, .unset, .unset, .unset, .unset, .unset, .unset, .unset, .unset, .unset, .unset, .unset, .unset, .unset, .unset] []))
  refine Go.via (fun t_ k_ => XS.lloadN H0.here hx rfl (hb hby at_0) rfl k_) ?_
  show Go _ _ _ _ (T0.setTop (mkF m 1 #[.val (.long p1), .second, .val (.long p2), .second, .val (.long p3), .second, .val (.long p4), .second, .val (.int p5), .unset, .unset, .unset, .unset, .unset, .unset, .unset, .unset, .unset, .unset, .unset, .unset, .unset, .unset, .unset, .unset, .unset, .unset, .unset, .unset, .unset, .unset, .unset, .unset] [(.long p1)]))
  refine own_ldcL H0 hx hZ hown (hw _ (List.mem_of_getElem? (i := 0) rfl)) (g := (mkF m 1 #[.val (.long p1), .second, .val (.long p2), .second, .val (.long p3), .second, .val (.long p4), .second, .val (.int p5), .unset, .unset, .unset, .unset, .unset, .unset, .unset, .unset, .unset, .unset, .unset, .unset, .unset, .unset, .unset, .unset, .unset, .unset, .unset, .unset, .unset, .unset, .unset, .unset] [(.long p1)])) rfl (hb hby at_1) ?_
  show Go _ _ _ _ (T0.setTop (mkF m 4 #[.val (.long p1), .second, .val (.long p2), .second, .val (.long p3), .second, .val (.long p4), .second, .val (.int p5), .unset, .unset, .unset, .unset, .unset, .unset, .unset, .unset, .unset, .unset, .unset, .unset, .unset, .unset, .unset, .unset, .unset, .unset, .unset, .unset, .unset, .unset, .unset, .unset] [(.long (4294967295 : Int64)), (.long p1)]))
  refine Go.via (fun t_ k_ => XS.land H0.here hx rfl (hb hby at_4) rfl k_) ?_
  show Go _ _ _ _ (T0.setTop (mkF m 5 #[.val (.long p1), .second, .val (.long p2), .second, .val (.long p3), .second, .val (.long p4), .second, .val (.int p5), .unset, .unset, .unset, .unset, .unset, .unset, .unset, .unset, .unset, .unset, .unset, .unset, .unset, .unset, .unset, .unset, .unset, .unset, .unset, .unset, .unset, .unset, .unset, .unset] [(.long (p1 &&& (4294967295 : Int64)))]))
  refine Go.via (fun t_ k_ => XS.lstore H0.here hx rfl (hb hby at_5) rfl (l' := #[.val (.long p1), .second, .val (.long p2), .second, .val (.long p3), .second, .val (.long p4), .second, .val (.int p5), .val (.long (p1 &&& (4294967295 : Int64))), .second, .unset, .unset, .unset, .unset, .unset, .unset, .unset, .unset, .unset, .unset, .unset, .unset, .unset, .unset, .unset, .unset, .unset, .unset, .unset, .unset, .unset, .unset]) rfl k_) ?_
  show Go _ _ _ _ (T0.setTop (mkF m 7 #[.val (.long p1), .second, .val (.long p2), .second, .val (.long p3), .second, .val (.long p4), .second, .val (.int p5), .val (.long (p1 &&& (4294967295 : Int64))), .second, .unset, .unset, .unset, .unset, .unset, .unset, .unset, .unset, .unset, .unset, .unset, .unset, .unset, .unset, .unset, .unset, .unset, .unset, .unset, .unset, .unset, .unset] []))
  refine Go.via (fun t_ k_ => XS.lloadN H0.here hx rfl (hb hby at_7) rfl k_) ?_
  show Go _ _ _ _ (T0.setTop (mkF m 8 #[.val (.long p1), .second, .val (.long p2), .second, .val (.long p3), .second, .val (.long p4), .second, .val (.int p5), .val (.long (p1 &&& (4294967295 : Int64))), .second, .unset, .unset, .unset, .unset, .unset, .unset, .unset, .unset, .unset, .unset, .unset, .unset, .unset, .unset, .unset, .unset, .unset, .unset, .unset, .unset, .unset, .unset] [(.long p2)]))
  refine own_ldcL H0 hx hZ hown (hw _ (List.mem_of_getElem? (i := 0) rfl)) (g := (mkF m 8 #[.val (.long p1), .second, .val (.long p2), .second, .val (.long p3), .second, .val (.long p4), .second, .val (.int p5), .val (.long (p1 &&& (4294967295 : Int64))), .second, .unset, .unset, .unset, .unset, .unset, .unset, .unset, .unset, .unset, .unset, .unset, .unset, .unset, .unset, .unset, .unset, .unset, .unset, .unset, .unset, .unset, .unset] [(.long p2)])) rfl (hb hby at_8) ?_
  show Go _ _ _ _ (T0.setTop (mkF m 11 #[.val (.long p1), .second, .val (.long p2), .second, .val (.long p3), .second, .val (.long p4), .second, .val (.int p5), .val (.long (p1 &&& (4294967295 : Int64))), .second, .unset, .unset, .unset, .unset, .unset, .unset, .unset, .unset, .unset, .unset, .unset, .unset, .unset, .unset, .unset, .unset, .unset, .unset, .unset, .unset, .unset, .unset] [(.long (4294967295 : Int64)), (.long p2)]))
  refine Go.via (fun t_ k_ => XS.land H0.here hx rfl (hb hby at_11) rfl k_) ?_
  show Go _ _ _ _ (T0.setTop (mkF m 12 #[.val (.long p1), .second, .val (.long p2), .second, .val (.long p3), .second, .val (.long p4), .second, .val (.int p5), .val (.long (p1 &&& (4294967295 : Int64))), .second, .unset, .unset, .unset, .unset, .unset, .unset, .unset, .unset, .unset, .unset, .unset, .unset, .unset, .unset, .unset, .unset, .unset, .unset, .unset, .unset, .unset, .unset] [(.long (p2 &&& (4294967295 : Int64)))]))
  refine Go.via (fun t_ k_ => XS.lstore H0.here hx rfl (hb hby at_12) rfl (l' := #[.val (.long p1), .second, .val (.long p2), .second, .val (.long p3), .second, .val (.long p4), .second, .val (.int p5), .val (.long (p1 &&& (4294967295 : Int64))), .second, .val (.long (p2 &&& (4294967295 : Int64))), .second, .unset, .unset, .unset, .unset, .unset, .unset, .unset, .unset, .unset, .unset, .unset, .unset, .unset, .unset, .unset, .unset, .unset, .unset, .unset, .unset]) rfl k_) ?_
  show Go _ _ _ _ (T0.setTop (mkF m 14 #[.val (.long p1), .second, .val (.long p2), .second, .val (.long p3), .second, .val (.long p4), .second, .val (.int p5), .val (.long (p1 &&& (4294967295 : Int64))), .second, .val (.long (p2 &&& (4294967295 : Int64))), .second, .unset, .unset, .unset, .unset, .unset, .unset, .unset, .unset, .unset, .unset, .unset, .unset, .unset, .unset, .unset, .unset, .unset, .unset, .unset, .unset] []))
  refine Go.via (fun t_ k_ => XS.lload H0.here hx rfl (hb hby at_14) rfl k_) ?_
  show Go _ _ _ _ (T0.setTop (mkF m 16 #[.val (.long p1), .second, .val (.long p2), .second, .val (.long p3), .second, .val (.long p4), .second, .val (.int p5), .val (.long (p1 &&& (4294967295 : Int64))), .second, .val (.long (p2 &&& (4294967295 : Int64))), .second, .unset, .unset, .unset, .unset, .unset, .unset, .unset, .unset, .unset, .unset, .unset, .unset, .unset, .unset, .unset, .unset, .unset, .unset, .unset, .unset] [(.long (p1 &&& (4294967295 : Int64)))]))
  refine Go.via (fun t_ k_ => XS.lload H0.here hx rfl (hb hby at_16) rfl k_) ?_
  show Go _ _ _ _ (T0.setTop (mkF m 18 #[.val (.long p1), .second, .val (.long p2), .second, .val (.long p3), .second, .val (.long p4), .second, .val (.int p5), .val (.long (p1 &&& (4294967295 : Int64))), .second, .val (.long (p2 &&& (4294967295 : Int64))), .second, .unset, .unset, .unset, .unset, .unset, .unset, .unset, .unset, .unset, .unset, .unset, .unset, .unset, .unset, .unset, .unset, .unset, .unset, .unset, .unset] [(.long (p2 &&& (4294967295 : Int64))), (.long (p1 &&& (4294967295 : Int64)))]))
  refine own_callS H0 hx hZ (y := (⟨"com/example/tidy_balancer/tidybalancer/model/BundleRangeEqualsPinLaw", "lowOf", "(JJ)J"⟩ : MethodName)) hown (hw _ (List.mem_of_getElem? (i := 1) rfl)) (hw _ (List.mem_of_getElem? (i := 2) rfl)) (hw _ (List.mem_of_getElem? (i := 3) rfl)) (hw _ (List.mem_of_getElem? (i := 4) rfl)) (by decide) (rmLow l Z a0 hw (p1 &&& (4294967295 : Int64)) (p2 &&& (4294967295 : Int64)) h0 n0) (g := (mkF m 18 #[.val (.long p1), .second, .val (.long p2), .second, .val (.long p3), .second, .val (.long p4), .second, .val (.int p5), .val (.long (p1 &&& (4294967295 : Int64))), .second, .val (.long (p2 &&& (4294967295 : Int64))), .second, .unset, .unset, .unset, .unset, .unset, .unset, .unset, .unset, .unset, .unset, .unset, .unset, .unset, .unset, .unset, .unset, .unset, .unset, .unset, .unset] [(.long (p2 &&& (4294967295 : Int64))), (.long (p1 &&& (4294967295 : Int64)))])) rfl (by rw [hml]; rfl) (argsL := [(.long (p1 &&& (4294967295 : Int64))), (.long (p2 &&& (4294967295 : Int64)))]) (rest := []) (lenOf pd_0 rfl) rfl 0 (Nat.le_of_eq rfl) (hb hby at_18) (by decide) (by decide) (by decide) (by decide) ?_
  rintro _ T19 _ ⟨rfl, rfl⟩ H19
  show Go _ _ _ _ (T19.setTop (mkF m 21 #[.val (.long p1), .second, .val (.long p2), .second, .val (.long p3), .second, .val (.long p4), .second, .val (.int p5), .val (.long (p1 &&& (4294967295 : Int64))), .second, .val (.long (p2 &&& (4294967295 : Int64))), .second, .unset, .unset, .unset, .unset, .unset, .unset, .unset, .unset, .unset, .unset, .unset, .unset, .unset, .unset, .unset, .unset, .unset, .unset, .unset, .unset] [(.long (lowF (p1 &&& (4294967295 : Int64)) (p2 &&& (4294967295 : Int64))))]))
  refine Go.via (fun t_ k_ => XS.lstore H19.here hx rfl (hb hby at_21) rfl (l' := #[.val (.long p1), .second, .val (.long p2), .second, .val (.long p3), .second, .val (.long p4), .second, .val (.int p5), .val (.long (p1 &&& (4294967295 : Int64))), .second, .val (.long (p2 &&& (4294967295 : Int64))), .second, .val (.long (lowF (p1 &&& (4294967295 : Int64)) (p2 &&& (4294967295 : Int64)))), .second, .unset, .unset, .unset, .unset, .unset, .unset, .unset, .unset, .unset, .unset, .unset, .unset, .unset, .unset, .unset, .unset, .unset, .unset]) rfl k_) ?_
  show Go _ _ _ _ (T19.setTop (mkF m 23 #[.val (.long p1), .second, .val (.long p2), .second, .val (.long p3), .second, .val (.long p4), .second, .val (.int p5), .val (.long (p1 &&& (4294967295 : Int64))), .second, .val (.long (p2 &&& (4294967295 : Int64))), .second, .val (.long (lowF (p1 &&& (4294967295 : Int64)) (p2 &&& (4294967295 : Int64)))), .second, .unset, .unset, .unset, .unset, .unset, .unset, .unset, .unset, .unset, .unset, .unset, .unset, .unset, .unset, .unset, .unset, .unset, .unset] []))
  refine Go.via (fun t_ k_ => XS.lload H19.here hx rfl (hb hby at_23) rfl k_) ?_
  show Go _ _ _ _ (T19.setTop (mkF m 25 #[.val (.long p1), .second, .val (.long p2), .second, .val (.long p3), .second, .val (.long p4), .second, .val (.int p5), .val (.long (p1 &&& (4294967295 : Int64))), .second, .val (.long (p2 &&& (4294967295 : Int64))), .second, .val (.long (lowF (p1 &&& (4294967295 : Int64)) (p2 &&& (4294967295 : Int64)))), .second, .unset, .unset, .unset, .unset, .unset, .unset, .unset, .unset, .unset, .unset, .unset, .unset, .unset, .unset, .unset, .unset, .unset, .unset] [(.long (p1 &&& (4294967295 : Int64)))]))
  refine Go.via (fun t_ k_ => XS.lload H19.here hx rfl (hb hby at_25) rfl k_) ?_
  show Go _ _ _ _ (T19.setTop (mkF m 27 #[.val (.long p1), .second, .val (.long p2), .second, .val (.long p3), .second, .val (.long p4), .second, .val (.int p5), .val (.long (p1 &&& (4294967295 : Int64))), .second, .val (.long (p2 &&& (4294967295 : Int64))), .second, .val (.long (lowF (p1 &&& (4294967295 : Int64)) (p2 &&& (4294967295 : Int64)))), .second, .unset, .unset, .unset, .unset, .unset, .unset, .unset, .unset, .unset, .unset, .unset, .unset, .unset, .unset, .unset, .unset, .unset, .unset] [(.long (p2 &&& (4294967295 : Int64))), (.long (p1 &&& (4294967295 : Int64)))]))
  refine own_callS H19 hx hZ (y := (⟨"com/example/tidy_balancer/tidybalancer/model/BundleRangeEqualsPinLaw", "highOf", "(JJ)J"⟩ : MethodName)) hown (hw _ (List.mem_of_getElem? (i := 9) rfl)) (hw _ (List.mem_of_getElem? (i := 10) rfl)) (hw _ (List.mem_of_getElem? (i := 3) rfl)) (hw _ (List.mem_of_getElem? (i := 11) rfl)) (by decide) (rmHigh l Z a0 hw (p1 &&& (4294967295 : Int64)) (p2 &&& (4294967295 : Int64)) h0 n0) (g := (mkF m 27 #[.val (.long p1), .second, .val (.long p2), .second, .val (.long p3), .second, .val (.long p4), .second, .val (.int p5), .val (.long (p1 &&& (4294967295 : Int64))), .second, .val (.long (p2 &&& (4294967295 : Int64))), .second, .val (.long (lowF (p1 &&& (4294967295 : Int64)) (p2 &&& (4294967295 : Int64)))), .second, .unset, .unset, .unset, .unset, .unset, .unset, .unset, .unset, .unset, .unset, .unset, .unset, .unset, .unset, .unset, .unset, .unset, .unset] [(.long (p2 &&& (4294967295 : Int64))), (.long (p1 &&& (4294967295 : Int64)))])) rfl (by rw [hml]; rfl) (argsL := [(.long (p1 &&& (4294967295 : Int64))), (.long (p2 &&& (4294967295 : Int64)))]) (rest := []) (lenOf pd_0 rfl) rfl 0 (Nat.le_of_eq rfl) (hb hby at_27) (by decide) (by decide) (by decide) (by decide) ?_
  rintro _ T20 _ ⟨rfl, rfl⟩ H20
  show Go _ _ _ _ (T20.setTop (mkF m 30 #[.val (.long p1), .second, .val (.long p2), .second, .val (.long p3), .second, .val (.long p4), .second, .val (.int p5), .val (.long (p1 &&& (4294967295 : Int64))), .second, .val (.long (p2 &&& (4294967295 : Int64))), .second, .val (.long (lowF (p1 &&& (4294967295 : Int64)) (p2 &&& (4294967295 : Int64)))), .second, .unset, .unset, .unset, .unset, .unset, .unset, .unset, .unset, .unset, .unset, .unset, .unset, .unset, .unset, .unset, .unset, .unset, .unset] [(.long (highF (p1 &&& (4294967295 : Int64)) (p2 &&& (4294967295 : Int64))))]))
  refine Go.via (fun t_ k_ => XS.lstore H20.here hx rfl (hb hby at_30) rfl (l' := #[.val (.long p1), .second, .val (.long p2), .second, .val (.long p3), .second, .val (.long p4), .second, .val (.int p5), .val (.long (p1 &&& (4294967295 : Int64))), .second, .val (.long (p2 &&& (4294967295 : Int64))), .second, .val (.long (lowF (p1 &&& (4294967295 : Int64)) (p2 &&& (4294967295 : Int64)))), .second, .val (.long (highF (p1 &&& (4294967295 : Int64)) (p2 &&& (4294967295 : Int64)))), .second, .unset, .unset, .unset, .unset, .unset, .unset, .unset, .unset, .unset, .unset, .unset, .unset, .unset, .unset, .unset, .unset]) rfl k_) ?_
  show Go _ _ _ _ (T20.setTop (mkF m 32 #[.val (.long p1), .second, .val (.long p2), .second, .val (.long p3), .second, .val (.long p4), .second, .val (.int p5), .val (.long (p1 &&& (4294967295 : Int64))), .second, .val (.long (p2 &&& (4294967295 : Int64))), .second, .val (.long (lowF (p1 &&& (4294967295 : Int64)) (p2 &&& (4294967295 : Int64)))), .second, .val (.long (highF (p1 &&& (4294967295 : Int64)) (p2 &&& (4294967295 : Int64)))), .second, .unset, .unset, .unset, .unset, .unset, .unset, .unset, .unset, .unset, .unset, .unset, .unset, .unset, .unset, .unset, .unset] []))
  exact J32 T20 _ _ _ _ H20 (own_lh _ _ (own_mask p1) (own_mask p2))
set_option maxRecDepth 65536 in
set_option maxHeartbeats 40000000 in
theorem comes_1 {Post : Tables → Env → Array Value → State → Outcome → State → Prop} (hpost : ∀ tb e args s v u, (limb_1_1.after args s (.returned v) u = true ∧ limb_1_2.after args s (.returned v) u = true ∧ True) → FrameEnd s (.returned v) u (Jvm.fieldLocs frame_1_writes args s ++ Jvm.arrayLocs frame_1_arrays args s ++ Jvm.staticLocs frame_1_statics s) 16 128 → Post tb e args s (.returned v) u) :
    ArmFor flags0 classFile x code maxLocals ret World_1 tables_1 room_1 Calls_1 rest_1 Pre_1 Post := by
  intro l hfl _ _ p e ha hc hk s m args below hf hA hF happ hP
  obtain ⟨hcalls, hrest, hpre⟩ := hP
  obtain ⟨-, -, -, hnamed, -, -, -, hat⟩ := (Spec.applies_iff hf).mp happ
  obtain ⟨hg, hn⟩ := and_e (Cond.before_iff.mp (show (Jvm.Cond.and given_1 narrow_1).before args s = true from hpre))
  obtain ⟨g0, g1⟩ := and_e hg
  obtain ⟨i0, r0⟩ := and_e g1
  obtain ⟨i1, r1⟩ := and_e r0
  obtain ⟨i2, r2⟩ := and_e r1
  obtain ⟨i3, r3⟩ := and_e r2
  obtain ⟨w0, w1, w2, w3, w4, rfl⟩ : ∃ w0 w1 w2 w3 w4 : Value, args = #[w0, w1, w2, w3, w4] := by
    have hs : args.size = 5 := by simpa [Cond.value, given_1] using g0
    obtain ⟨L⟩ := args
    match L, hs with
    | [w0, w1, w2, w3, w4], _ => exact ⟨w0, w1, w2, w3, w4, rfl⟩
  have hw := fun d (hd : d ∈ tables_1) => atoms_spec (ws := Jvm.Cond.code x code maxLocals ret :: tables_1) hat d (List.mem_cons_of_mem _ hd)
  have hfit : Fit s := fun {y c} hc i hi => by
    obtain ⟨ha, rfl⟩ := Array.getElem?_eq_some_iff.mp hc
    have q := List.all_eq_true.mp ((Array.all_eq_true_iff_forall_mem.mp hF) _ (Array.getElem_mem ha)) i (List.mem_range.mpr hi)
    simpa [Array.getElem?_eq_getElem hi] using q
  obtain ⟨v0, e0⟩ := isL_v i0
  obtain rfl : w0 = (.long v0) := Option.some.inj e0
  obtain ⟨v1, e1⟩ := isL_v i1
  obtain rfl : w1 = (.long v1) := Option.some.inj e1
  obtain ⟨v2, e2⟩ := isL_v i2
  obtain rfl : w2 = (.long v2) := Option.some.inj e2
  obtain ⟨v3, e3⟩ := isL_v i3
  obtain rfl : w3 = (.long v3) := Option.some.inj e3
  obtain ⟨v4, e4⟩ := is_v r3
  obtain rfl : w4 = (.int v4) := Option.some.inj e4
  have hsets := (atoms_of jdkStatics_1 (show (jdkStatics_1.foldr Jvm.Cond.and restOwn_1).before _ s = true from hrest)).1
  obtain ⟨ca, eca⟩ := arr_v (Cond.before_iff.mp (hsets _ (List.mem_of_getElem? (i := 2) rfl)))
  have SC := Sta.start eca (Or.inl (hsets _ (List.mem_of_getElem? (i := 1) rfl)))
  obtain ⟨cl, AC⟩ := Arr.start eca (Cond.before_iff.mp (hsets _ (List.mem_of_getElem? (i := 2) rfl)))
  have hs : cl.slots.size = 256 := own_len256 eca AC (hsets _ (List.mem_of_getElem? (i := 4) rfl))
  have hall : ∀ j, j < 256 → ∃ b, cl.slots[j]? = some (.ref b) ∧ Exa s s.heap b "java/lang/Long" := own_elem (fun _ => eca) AC (hsets _ (List.mem_of_getElem? (i := 5) rfl)) hs
  obtain ⟨n, o, h1, h2, h3, _, L, rfl, ⟨rfl, N⟩, hq⟩ := rm0 l s _ hw v0 v1 v2 v3 v4 ca cl s.heap s.heap.size (Nat.le_refl _) (Old.start s) SC AC hs hall tables_1 p e ha hc hk s m _ below hf ((Spec.applies_iff_loose hf).mp happ).1 ⟨rfl, State.Warmed39.refl s, rfl⟩ trivial
  refine ⟨n, _, h1, h2, h3, hpost _ _ _ _ _ _ ⟨Cond.after_iff.mpr rfl, Cond.after_iff.mpr (eq_i res_at (Term.int_eval (1)) rfl), trivial⟩ ⟨hq.1, hq.2.1, (hq.2.2.sift fun y hy => Or.inr (N y hy)).mono (by decide) (by decide)⟩⟩
theorem main_1_1 : Claimed_1_1 := comes_1 fun _ _ _ _ _ _ h hF => ⟨h.1, hF⟩
theorem main_1_2 : Claimed_1_2 := comes_1 fun _ _ _ _ _ _ h hF => ⟨h.2.1, hF⟩
end Jvm.Pilot.@@N@@
namespace Jvm.Pilot.@@N@@
open Jvm Jvm.ClassFile Sem Op Lib Jvm.Free Jvm.Stand Jvm.Pilot.@@N@@.Jvm.D
/-! MADE BY PROGRAM (witnessworld.py) out of the Statement's table words and the real class files: 17 classes; the members and pool entries that the words name. The judged class is class 1, her method 3. -/
namespace start1
open Jvm.ClassFile
def u (s : String) : CpInfo := .utf8 (stringToUtf16 s)
/-- a pool by its gaps: so many unusable entries, then the entry; so many at the end -/
def gap : Nat → List CpInfo → List CpInfo
  | 0, r => r
  | n + 1, r => .unusable :: gap n r
def poolList (es : List (Nat × CpInfo)) (last : Nat) : List CpInfo := es.foldr (fun e r => gap e.1 (e.2 :: r)) (gap last [])
def pool (es : List (Nat × CpInfo)) (last : Nat) : Array CpInfo := ⟨poolList es last⟩
def fileOf (pool : Array CpInfo) (this : Nat) (attrs : Array Attribute := #[]) (ms : Array MethodInfo := #[]) (fl : Nat := 33) (sup : Nat := 0) (ifs : Array Nat := #[]) (fds : Array FieldInfo := #[]) : ClassFile where
  minorVersion := 0
  majorVersion := 65
  constantPool := pool
  accessFlags := fl
  thisClass := this
  superClass := sup
  interfaces := ifs
  fields := fds
  methods := ms
  attributes := attrs
def plain (name : String) (sup : Option ClassId) : Class where
  name := name
  kind := .ordinary
  loader := none
  accessFlags := 33
  super := sup
  interfaces := #[]
  cf := none
  fields := #[]
  methods := #[]
  instanceTypes := #[]
  staticTypes := #[]
  resolved := #[]
  callSites := []
  init := .initialized
  statics := none
  mirror := none

def pool0 : Array CpInfo := pool [(5, u "<init>"), (0, u "()V"), (1, .class_ 10), (1, u "java/lang/Object")] 113

def k0c0 : Code := { maxStack := 0, maxLocals := 1, code := object_method_1_code, exceptionTable := #[], attributes := #[] }
def k0m0 : Method := { name := "<init>", desc := "()V", sig := { parameters := [], returnType := none }, accessFlags := 1, code := some k0c0 }
/-- java/lang/Object -/
def k0 : Class := { plain "java/lang/Object" none with
  accessFlags := 33
  interfaces := #[]
  cf := some (fileOf pool0 8 #[] #[{ accessFlags := 1, nameIndex := 5, descriptorIndex := 6, attributes := #[] }] 33 0 #[] #[])
  fields := #[]
  methods := #[k0m0]
  instanceTypes := #[]
  staticTypes := #[]
  resolved := Array.replicate 124 none
  statics := none }

def pool1 : Array CpInfo := pool [(2, .class_ 4), (1, u "java/lang/Object"), (0, u "<init>"), (0, u "()V"), (0, .class_ 8), (0, u "com/example/tidy_balancer/tidybalancer/model/BundleRangeEqualsPinLaw"), (0, .long 4294967295), (1, .methodref 12 13), (0, .class_ 14), (0, .nameAndType 15 16), (0, u "java/lang/Math"), (0, u "min"), (0, u "(JJ)J"), (0, .methodref 12 18), (0, .nameAndType 19 16), (0, u "max"), (0, .methodref 7 21), (0, .nameAndType 22 16), (0, u "lowOf"), (0, .methodref 7 24), (0, .nameAndType 25 16), (0, u "highOf"), (0, .class_ 27), (0, u "com/example/tidy_balancer/tidybalancer/model/BundleRange"), (0, .methodref 26 29), (0, .nameAndType 5 30), (0, u "(JJ)V"), (0, .methodref 26 32), (0, .nameAndType 33 34), (0, u "equals"), (0, u "(Ljava/lang/Object;)Z"), (0, .methodref 36 37), (0, .class_ 38), (0, .nameAndType 39 40), (0, u "java/lang/Long"), (0, u "valueOf"), (0, u "(J)Ljava/lang/Long;"), (0, u "MASK"), (0, u "J"), (4, u "law"), (0, u "(JJJJI)Z")] 2

def k1m0 : Method := { name := "<init>", desc := "()V", sig := { parameters := [], returnType := none }, accessFlags := 1, code := none }
def k1c1 : Code := { maxStack := 4, maxLocals := 4, code := method_2_code, exceptionTable := #[], attributes := #[] }
def k1m1 : Method := { name := "lowOf", desc := "(JJ)J", sig := { parameters := [.long, .long], returnType := some .long }, accessFlags := 10, code := some k1c1 }
def k1c2 : Code := { maxStack := 4, maxLocals := 4, code := method_3_code, exceptionTable := #[], attributes := #[] }
def k1m2 : Method := { name := "highOf", desc := "(JJ)J", sig := { parameters := [.long, .long], returnType := some .long }, accessFlags := 10, code := some k1c2 }
def k1c3 : Code := { maxStack := 6, maxLocals := 33, code := code, exceptionTable := #[], attributes := #[] }
def k1m3 : Method := { name := "law", desc := "(JJJJI)Z", sig := { parameters := [.long, .long, .long, .long, .int], returnType := some .boolean }, accessFlags := 9, code := some k1c3 }
/-- com/example/tidy_balancer/tidybalancer/model/BundleRangeEqualsPinLaw -/
def k1 : Class := { plain "com/example/tidy_balancer/tidybalancer/model/BundleRangeEqualsPinLaw" (some 0) with
  accessFlags := 49
  interfaces := #[]
  cf := some (fileOf pool1 7 #[] #[{ accessFlags := 1, nameIndex := 5, descriptorIndex := 6, attributes := #[] }, { accessFlags := 10, nameIndex := 22, descriptorIndex := 16, attributes := #[] }, { accessFlags := 10, nameIndex := 25, descriptorIndex := 16, attributes := #[] }, { accessFlags := 9, nameIndex := 47, descriptorIndex := 48, attributes := #[] }] 49 2 #[] #[{ accessFlags := 26, nameIndex := 41, descriptorIndex := 42, attributes := #[] }])
  fields := #[{ name := "MASK", type := .long, accessFlags := 26, slot := 0, constantValue := 0 }]
  methods := #[k1m0, k1m1, k1m2, k1m3]
  instanceTypes := #[]
  staticTypes := #[.long]
  resolved := Array.replicate 51 none
  statics := none }

def pool2 : Array CpInfo := pool [(1, .class_ 2), (0, u "java/lang/Math"), (1, .class_ 6), (1, u "java/lang/Object"), (0, u "<init>"), (0, u "()V"), (89, .class_ 100), (1, u "java/lang/Math$RandomNumberGeneratorHolder"), (20, u "(JJ)J"), (50, u "negativeZeroFloatBits"), (0, u "J"), (2, u "negativeZeroDoubleBits"), (21, u "max"), (2, u "min"), (43, u "$assertionsDisabled"), (0, u "Z"), (91, u "twoToTheDoubleScaleDown"), (0, u "D"), (4, u "twoToTheDoubleScaleUp"), (9, u "E"), (3, u "PI"), (2, u "TAU"), (2, u "DEGREES_TO_RADIANS"), (0, u "RADIANS_TO_DEGREES")] 94

def k2m0 : Method := { name := "<init>", desc := "()V", sig := { parameters := [], returnType := none }, accessFlags := 2, code := none }
def k2c1 : Code := { maxStack := 4, maxLocals := 4, code := jdk_29_method_66_code, exceptionTable := #[], attributes := #[] }
def k2m1 : Method := { name := "max", desc := "(JJ)J", sig := { parameters := [.long, .long], returnType := some .long }, accessFlags := 9, code := some k2c1 }
def k2c2 : Code := { maxStack := 4, maxLocals := 4, code := jdk_29_method_70_code, exceptionTable := #[], attributes := #[] }
def k2m2 : Method := { name := "min", desc := "(JJ)J", sig := { parameters := [.long, .long], returnType := some .long }, accessFlags := 9, code := some k2c2 }
/-- java/lang/Math -/
def k2 : Class := { plain "java/lang/Math" (some 0) with
  accessFlags := 49
  interfaces := #[]
  cf := some (fileOf pool2 1 #[.nestMembers #[98]] #[{ accessFlags := 2, nameIndex := 7, descriptorIndex := 8, attributes := #[] }, { accessFlags := 9, nameIndex := 198, descriptorIndex := 121, attributes := #[] }, { accessFlags := 9, nameIndex := 201, descriptorIndex := 121, attributes := #[] }] 49 4 #[] #[{ accessFlags := 25, nameIndex := 354, descriptorIndex := 339, attributes := #[] }, { accessFlags := 25, nameIndex := 358, descriptorIndex := 339, attributes := #[] }, { accessFlags := 25, nameIndex := 361, descriptorIndex := 339, attributes := #[] }, { accessFlags := 26, nameIndex := 364, descriptorIndex := 339, attributes := #[] }, { accessFlags := 26, nameIndex := 365, descriptorIndex := 339, attributes := #[] }, { accessFlags := 26, nameIndex := 172, descriptorIndex := 173, attributes := #[] }, { accessFlags := 26, nameIndex := 176, descriptorIndex := 173, attributes := #[] }, { accessFlags := 8, nameIndex := 344, descriptorIndex := 339, attributes := #[] }, { accessFlags := 8, nameIndex := 338, descriptorIndex := 339, attributes := #[] }, { accessFlags := 4120, nameIndex := 245, descriptorIndex := 246, attributes := #[] }])
  fields := #[{ name := "E", type := .double, accessFlags := 25, slot := 0, constantValue := 0 }, { name := "PI", type := .double, accessFlags := 25, slot := 1, constantValue := 0 }, { name := "TAU", type := .double, accessFlags := 25, slot := 2, constantValue := 0 }, { name := "DEGREES_TO_RADIANS", type := .double, accessFlags := 26, slot := 3, constantValue := 0 }, { name := "RADIANS_TO_DEGREES", type := .double, accessFlags := 26, slot := 4, constantValue := 0 }, { name := "negativeZeroFloatBits", type := .long, accessFlags := 26, slot := 5, constantValue := 0 }, { name := "negativeZeroDoubleBits", type := .long, accessFlags := 26, slot := 6, constantValue := 0 }, { name := "twoToTheDoubleScaleUp", type := .double, accessFlags := 8, slot := 7, constantValue := 0 }, { name := "twoToTheDoubleScaleDown", type := .double, accessFlags := 8, slot := 8, constantValue := 0 }, { name := "$assertionsDisabled", type := .boolean, accessFlags := 4120, slot := 9, constantValue := 0 }]
  methods := #[k2m0, k2m1, k2m2]
  instanceTypes := #[]
  staticTypes := #[.double, .double, .double, .double, .double, .long, .long, .double, .double, .boolean]
  resolved := Array.replicate 460 none
  statics := none }

def pool3 : Array CpInfo := pool [(1, .methodref 2 3), (0, .class_ 4), (0, .nameAndType 5 6), (0, u "java/lang/Object"), (0, u "<init>"), (0, u "()V"), (2, .long 4294967295), (16, .fieldref 27 28), (0, .class_ 29), (0, .nameAndType 30 31), (0, u "com/example/tidy_balancer/tidybalancer/model/BundleRange"), (0, u "lower"), (0, u "J"), (0, .fieldref 27 33), (0, .nameAndType 34 31), (0, u "upper"), (23, u "(JJ)V"), (14, u "SEPARATOR"), (0, u "C"), (9, u "equals"), (0, u "(Ljava/lang/Object;)Z")] 24

def k3c0 : Code := { maxStack := 5, maxLocals := 5, code := prog_29_method_1_code, exceptionTable := #[], attributes := #[] }
def k3m0 : Method := { name := "<init>", desc := "(JJ)V", sig := { parameters := [.long, .long], returnType := none }, accessFlags := 1, code := some k3c0 }
def k3c1 : Code := { maxStack := 4, maxLocals := 3, code := prog_29_method_6_code, exceptionTable := #[], attributes := #[] }
def k3m1 : Method := { name := "equals", desc := "(Ljava/lang/Object;)Z", sig := { parameters := [(.object "java/lang/Object")], returnType := some .boolean }, accessFlags := 1, code := some k3c1 }
/-- com/example/tidy_balancer/tidybalancer/model/BundleRange -/
def k3 : Class := { plain "com/example/tidy_balancer/tidybalancer/model/BundleRange" (some 0) with
  accessFlags := 49
  interfaces := #[]
  cf := some (fileOf pool3 27 #[] #[{ accessFlags := 1, nameIndex := 5, descriptorIndex := 58, attributes := #[] }, { accessFlags := 1, nameIndex := 84, descriptorIndex := 85, attributes := #[] }] 49 2 #[] #[{ accessFlags := 26, nameIndex := 73, descriptorIndex := 74, attributes := #[] }, { accessFlags := 18, nameIndex := 30, descriptorIndex := 31, attributes := #[] }, { accessFlags := 18, nameIndex := 34, descriptorIndex := 31, attributes := #[] }])
  fields := #[{ name := "SEPARATOR", type := .char, accessFlags := 26, slot := 0, constantValue := 0 }, { name := "lower", type := .long, accessFlags := 18, slot := 0, constantValue := 0 }, { name := "upper", type := .long, accessFlags := 18, slot := 1, constantValue := 0 }]
  methods := #[k3m0, k3m1]
  instanceTypes := #[.long, .long]
  staticTypes := #[.char]
  resolved := Array.replicate 110 none
  statics := none }

def pool4 : Array CpInfo := pool [(1, .class_ 2), (0, u "java/io/Serializable"), (0, .class_ 4), (0, u "java/lang/Object")] 2

/-- java/io/Serializable -/
def k4 : Class := { plain "java/io/Serializable" (some 0) with
  accessFlags := 1537
  interfaces := #[]
  cf := some (fileOf pool4 1 #[] #[] 1537 3 #[] #[])
  fields := #[]
  methods := #[]
  instanceTypes := #[]
  staticTypes := #[]
  resolved := Array.replicate 7 none
  statics := none }

def pool5 : Array CpInfo := pool [(1, .methodref 2 3), (0, .class_ 4), (0, .nameAndType 5 6), (0, u "java/lang/Object"), (0, u "<init>"), (0, u "()V"), (1, .class_ 10), (1, u "java/lang/Number"), (2, .class_ 14), (0, u "java/io/Serializable"), (0, u "serialVersionUID"), (0, u "J")] 20

def k5c0 : Code := { maxStack := 1, maxLocals := 1, code := jdk_18_method_1_code, exceptionTable := #[], attributes := #[] }
def k5m0 : Method := { name := "<init>", desc := "()V", sig := { parameters := [], returnType := none }, accessFlags := 1, code := some k5c0 }
/-- java/lang/Number -/
def k5 : Class := { plain "java/lang/Number" (some 0) with
  accessFlags := 1057
  interfaces := #[4]
  cf := some (fileOf pool5 8 #[] #[{ accessFlags := 1, nameIndex := 5, descriptorIndex := 6, attributes := #[] }] 1057 2 #[13] #[{ accessFlags := 26, nameIndex := 15, descriptorIndex := 16, attributes := #[] }])
  fields := #[{ name := "serialVersionUID", type := .long, accessFlags := 26, slot := 0, constantValue := 0 }]
  methods := #[k5m0]
  instanceTypes := #[]
  staticTypes := #[.long]
  resolved := Array.replicate 37 none
  statics := none }

def pool6 : Array CpInfo := pool [(1, .class_ 2), (0, u "java/lang/Comparable"), (0, .class_ 4), (0, u "java/lang/Object")] 7

/-- java/lang/Comparable -/
def k6 : Class := { plain "java/lang/Comparable" (some 0) with
  accessFlags := 1537
  interfaces := #[]
  cf := some (fileOf pool6 1 #[] #[] 1537 3 #[] #[])
  fields := #[]
  methods := #[]
  instanceTypes := #[]
  staticTypes := #[]
  resolved := Array.replicate 12 none
  statics := none }

def pool7 : Array CpInfo := pool [(1, .class_ 2), (0, u "java/lang/constant/Constable"), (0, .class_ 4), (0, u "java/lang/Object")] 6

/-- java/lang/constant/Constable -/
def k7 : Class := { plain "java/lang/constant/Constable" (some 0) with
  accessFlags := 1537
  interfaces := #[]
  cf := some (fileOf pool7 1 #[] #[] 1537 3 #[] #[])
  fields := #[]
  methods := #[]
  instanceTypes := #[]
  staticTypes := #[]
  resolved := Array.replicate 11 none
  statics := none }

def pool8 : Array CpInfo := pool [(1, .class_ 2), (0, u "java/lang/constant/ConstantDesc"), (0, .class_ 4), (0, u "java/lang/Object")] 32

/-- java/lang/constant/ConstantDesc -/
def k8 : Class := { plain "java/lang/constant/ConstantDesc" (some 0) with
  accessFlags := 1537
  interfaces := #[]
  cf := some (fileOf pool8 1 #[] #[] 1537 3 #[] #[])
  fields := #[]
  methods := #[]
  instanceTypes := #[]
  staticTypes := #[]
  resolved := Array.replicate 37 none
  statics := none }

def pool9 : Array CpInfo := pool [(1, .class_ 2), (0, u "java/lang/Long"), (55, .nameAndType 59 60), (0, u "<init>"), (0, u "()V"), (24, u "valueOf"), (143, u "(J)Ljava/lang/Long;"), (0, .long 18446744073709551488), (1, .long 127), (1, .fieldref 235 236), (0, .class_ 237), (0, .nameAndType 238 239), (0, u "java/lang/Long$LongCache"), (0, u "cache"), (0, u "[Ljava/lang/Long;"), (0, .methodref 1 241), (0, .nameAndType 59 242), (0, u "(J)V"), (27, .methodref 271 58), (0, .class_ 272), (0, u "java/lang/Number"), (0, .fieldref 1 274), (0, .nameAndType 275 276), (0, u "value"), (0, u "J"), (84, u "TYPE"), (0, u "Ljava/lang/Class;"), (0, .class_ 364), (0, u "java/lang/Comparable"), (0, .class_ 366), (0, u "java/lang/constant/Constable"), (0, .class_ 368), (0, u "java/lang/constant/ConstantDesc"), (0, u "MIN_VALUE"), (1, u "MAX_VALUE"), (4, u "SIZE"), (0, u "I"), (1, u "BYTES"), (1, u "serialVersionUID")] 142

def k9c0 : Code := { maxStack := 4, maxLocals := 3, code := jdk_35_method_24_code, exceptionTable := #[], attributes := #[] }
def k9m0 : Method := { name := "valueOf", desc := "(J)Ljava/lang/Long;", sig := { parameters := [.long], returnType := some (.object "java/lang/Long") }, accessFlags := 9, code := some k9c0 }
def k9c1 : Code := { maxStack := 3, maxLocals := 3, code := jdk_35_method_26_code, exceptionTable := #[], attributes := #[] }
def k9m1 : Method := { name := "<init>", desc := "(J)V", sig := { parameters := [.long], returnType := none }, accessFlags := 1, code := some k9c1 }
/-- java/lang/Long -/
def k9 : Class := { plain "java/lang/Long" (some 5) with
  accessFlags := 49
  interfaces := #[6, 7, 8]
  cf := some (fileOf pool9 1 #[.nestMembers #[235]] #[{ accessFlags := 9, nameIndex := 85, descriptorIndex := 229, attributes := #[] }, { accessFlags := 1, nameIndex := 59, descriptorIndex := 242, attributes := #[] }] 49 271 #[363, 365, 367] #[{ accessFlags := 25, nameIndex := 369, descriptorIndex := 276, attributes := #[] }, { accessFlags := 25, nameIndex := 371, descriptorIndex := 276, attributes := #[] }, { accessFlags := 25, nameIndex := 361, descriptorIndex := 362, attributes := #[] }, { accessFlags := 18, nameIndex := 275, descriptorIndex := 276, attributes := #[] }, { accessFlags := 25, nameIndex := 376, descriptorIndex := 377, attributes := #[] }, { accessFlags := 25, nameIndex := 379, descriptorIndex := 377, attributes := #[] }, { accessFlags := 26, nameIndex := 381, descriptorIndex := 276, attributes := #[] }])
  fields := #[{ name := "MIN_VALUE", type := .long, accessFlags := 25, slot := 0, constantValue := 0 }, { name := "MAX_VALUE", type := .long, accessFlags := 25, slot := 1, constantValue := 0 }, { name := "TYPE", type := (.object "java/lang/Class"), accessFlags := 25, slot := 2, constantValue := 0 }, { name := "value", type := .long, accessFlags := 18, slot := 0, constantValue := 0 }, { name := "SIZE", type := .int, accessFlags := 25, slot := 3, constantValue := 0 }, { name := "BYTES", type := .int, accessFlags := 25, slot := 4, constantValue := 0 }, { name := "serialVersionUID", type := .long, accessFlags := 26, slot := 5, constantValue := 0 }]
  methods := #[k9m0, k9m1]
  instanceTypes := #[.long]
  staticTypes := #[.long, .long, (.object "java/lang/Class"), .int, .int, .long]
  resolved := Array.replicate 524 none
  statics := none }

def pool10 : Array CpInfo := pool [(2, .class_ 4), (1, u "java/lang/Object"), (0, u "<init>"), (0, u "()V"), (0, .class_ 8), (0, u "java/lang/Long"), (7, .class_ 18), (1, u "java/lang/Long$LongCache"), (0, u "$assertionsDisabled"), (0, u "Z"), (8, u "archivedCache"), (0, u "[Ljava/lang/Long;"), (7, u "cache")] 24

def k10m0 : Method := { name := "<init>", desc := "()V", sig := { parameters := [], returnType := none }, accessFlags := 2, code := none }
/-- java/lang/Long$LongCache -/
def k10 : Class := { plain "java/lang/Long$LongCache" (some 0) with
  accessFlags := 48
  interfaces := #[]
  cf := some (fileOf pool10 16 #[.nestHost 7] #[{ accessFlags := 2, nameIndex := 5, descriptorIndex := 6, attributes := #[] }] 48 2 #[] #[{ accessFlags := 24, nameIndex := 38, descriptorIndex := 30, attributes := #[] }, { accessFlags := 8, nameIndex := 29, descriptorIndex := 30, attributes := #[] }, { accessFlags := 4120, nameIndex := 19, descriptorIndex := 20, attributes := #[] }])
  fields := #[{ name := "cache", type := (.array (.object "java/lang/Long")), accessFlags := 24, slot := 0, constantValue := 0 }, { name := "archivedCache", type := (.array (.object "java/lang/Long")), accessFlags := 8, slot := 1, constantValue := 0 }, { name := "$assertionsDisabled", type := .boolean, accessFlags := 4120, slot := 2, constantValue := 0 }]
  methods := #[k10m0]
  instanceTypes := #[]
  staticTypes := #[(.array (.object "java/lang/Long")), (.array (.object "java/lang/Long")), .boolean]
  resolved := Array.replicate 63 none
  statics := some 0 }

def pool11 : Array CpInfo := pool [(1, u "java/lang/Cloneable"), (0, .class_ 1), (0, u "java/lang/Object"), (0, .class_ 3)] 3

/-- java/lang/Cloneable -/
def k11 : Class := { plain "java/lang/Cloneable" (some 0) with
  accessFlags := 1537
  interfaces := #[]
  cf := some (fileOf pool11 2 #[] #[] 1537 4 #[] #[])
  fields := #[]
  methods := #[]
  instanceTypes := #[]
  staticTypes := #[]
  resolved := Array.replicate 8 none
  statics := none }

/-- the primitive byte -/
def k12 : Class := { plain "byte" none with kind := .primitive 'B', accessFlags := 0x411 }
/-- [B -/
def k13 : Class := { plain "[B" (some 0) with kind := .array 12 .byte, interfaces := #[11, 4], accessFlags := 1041 }

/-- the primitive int -/
def k14 : Class := { plain "int" none with kind := .primitive 'I', accessFlags := 0x411 }
/-- [I -/
def k15 : Class := { plain "[I" (some 0) with kind := .array 14 .int, interfaces := #[11, 4], accessFlags := 1041 }

/-- [Ljava/lang/Long; -/
def k16 : Class := { plain "[Ljava/lang/Long;" (some 0) with kind := .array 9 (.object "java/lang/Long"), interfaces := #[11, 4], accessFlags := 1041 }

def heap : Heap := #[{ cls := 10, slots := #[.ref 1, .null, .int 0], vm := .statics 10 },
  { cls := 16, slots := #[.ref 2, .ref 3, .ref 4, .ref 5, .ref 6, .ref 7, .ref 8, .ref 9, .ref 10, .ref 11, .ref 12, .ref 13, .ref 14, .ref 15, .ref 16, .ref 17, .ref 18, .ref 19, .ref 20, .ref 21, .ref 22, .ref 23, .ref 24, .ref 25, .ref 26, .ref 27, .ref 28, .ref 29, .ref 30, .ref 31, .ref 32, .ref 33, .ref 34, .ref 35, .ref 36, .ref 37, .ref 38, .ref 39, .ref 40, .ref 41, .ref 42, .ref 43, .ref 44, .ref 45, .ref 46, .ref 47, .ref 48, .ref 49, .ref 50, .ref 51, .ref 52, .ref 53, .ref 54, .ref 55, .ref 56, .ref 57, .ref 58, .ref 59, .ref 60, .ref 61, .ref 62, .ref 63, .ref 64, .ref 65, .ref 66, .ref 67, .ref 68, .ref 69, .ref 70, .ref 71, .ref 72, .ref 73, .ref 74, .ref 75, .ref 76, .ref 77, .ref 78, .ref 79, .ref 80, .ref 81, .ref 82, .ref 83, .ref 84, .ref 85, .ref 86, .ref 87, .ref 88, .ref 89, .ref 90, .ref 91, .ref 92, .ref 93, .ref 94, .ref 95, .ref 96, .ref 97, .ref 98, .ref 99, .ref 100, .ref 101, .ref 102, .ref 103, .ref 104, .ref 105, .ref 106, .ref 107, .ref 108, .ref 109, .ref 110, .ref 111, .ref 112, .ref 113, .ref 114, .ref 115, .ref 116, .ref 117, .ref 118, .ref 119, .ref 120, .ref 121, .ref 122, .ref 123, .ref 124, .ref 125, .ref 126, .ref 127, .ref 128, .ref 129, .ref 130, .ref 131, .ref 132, .ref 133, .ref 134, .ref 135, .ref 136, .ref 137, .ref 138, .ref 139, .ref 140, .ref 141, .ref 142, .ref 143, .ref 144, .ref 145, .ref 146, .ref 147, .ref 148, .ref 149, .ref 150, .ref 151, .ref 152, .ref 153, .ref 154, .ref 155, .ref 156, .ref 157, .ref 158, .ref 159, .ref 160, .ref 161, .ref 162, .ref 163, .ref 164, .ref 165, .ref 166, .ref 167, .ref 168, .ref 169, .ref 170, .ref 171, .ref 172, .ref 173, .ref 174, .ref 175, .ref 176, .ref 177, .ref 178, .ref 179, .ref 180, .ref 181, .ref 182, .ref 183, .ref 184, .ref 185, .ref 186, .ref 187, .ref 188, .ref 189, .ref 190, .ref 191, .ref 192, .ref 193, .ref 194, .ref 195, .ref 196, .ref 197, .ref 198, .ref 199, .ref 200, .ref 201, .ref 202, .ref 203, .ref 204, .ref 205, .ref 206, .ref 207, .ref 208, .ref 209, .ref 210, .ref 211, .ref 212, .ref 213, .ref 214, .ref 215, .ref 216, .ref 217, .ref 218, .ref 219, .ref 220, .ref 221, .ref 222, .ref 223, .ref 224, .ref 225, .ref 226, .ref 227, .ref 228, .ref 229, .ref 230, .ref 231, .ref 232, .ref 233, .ref 234, .ref 235, .ref 236, .ref 237, .ref 238, .ref 239, .ref 240, .ref 241, .ref 242, .ref 243, .ref 244, .ref 245, .ref 246, .ref 247, .ref 248, .ref 249, .ref 250, .ref 251, .ref 252, .ref 253, .ref 254, .ref 255, .ref 256, .ref 257], vm := .none },
  { cls := 9, slots := #[.long (-128)], vm := .none },
  { cls := 9, slots := #[.long (-127)], vm := .none },
  { cls := 9, slots := #[.long (-126)], vm := .none },
  { cls := 9, slots := #[.long (-125)], vm := .none },
  { cls := 9, slots := #[.long (-124)], vm := .none },
  { cls := 9, slots := #[.long (-123)], vm := .none },
  { cls := 9, slots := #[.long (-122)], vm := .none },
  { cls := 9, slots := #[.long (-121)], vm := .none },
  { cls := 9, slots := #[.long (-120)], vm := .none },
  { cls := 9, slots := #[.long (-119)], vm := .none },
  { cls := 9, slots := #[.long (-118)], vm := .none },
  { cls := 9, slots := #[.long (-117)], vm := .none },
  { cls := 9, slots := #[.long (-116)], vm := .none },
  { cls := 9, slots := #[.long (-115)], vm := .none },
  { cls := 9, slots := #[.long (-114)], vm := .none },
  { cls := 9, slots := #[.long (-113)], vm := .none },
  { cls := 9, slots := #[.long (-112)], vm := .none },
  { cls := 9, slots := #[.long (-111)], vm := .none },
  { cls := 9, slots := #[.long (-110)], vm := .none },
  { cls := 9, slots := #[.long (-109)], vm := .none },
  { cls := 9, slots := #[.long (-108)], vm := .none },
  { cls := 9, slots := #[.long (-107)], vm := .none },
  { cls := 9, slots := #[.long (-106)], vm := .none },
  { cls := 9, slots := #[.long (-105)], vm := .none },
  { cls := 9, slots := #[.long (-104)], vm := .none },
  { cls := 9, slots := #[.long (-103)], vm := .none },
  { cls := 9, slots := #[.long (-102)], vm := .none },
  { cls := 9, slots := #[.long (-101)], vm := .none },
  { cls := 9, slots := #[.long (-100)], vm := .none },
  { cls := 9, slots := #[.long (-99)], vm := .none },
  { cls := 9, slots := #[.long (-98)], vm := .none },
  { cls := 9, slots := #[.long (-97)], vm := .none },
  { cls := 9, slots := #[.long (-96)], vm := .none },
  { cls := 9, slots := #[.long (-95)], vm := .none },
  { cls := 9, slots := #[.long (-94)], vm := .none },
  { cls := 9, slots := #[.long (-93)], vm := .none },
  { cls := 9, slots := #[.long (-92)], vm := .none },
  { cls := 9, slots := #[.long (-91)], vm := .none },
  { cls := 9, slots := #[.long (-90)], vm := .none },
  { cls := 9, slots := #[.long (-89)], vm := .none },
  { cls := 9, slots := #[.long (-88)], vm := .none },
  { cls := 9, slots := #[.long (-87)], vm := .none },
  { cls := 9, slots := #[.long (-86)], vm := .none },
  { cls := 9, slots := #[.long (-85)], vm := .none },
  { cls := 9, slots := #[.long (-84)], vm := .none },
  { cls := 9, slots := #[.long (-83)], vm := .none },
  { cls := 9, slots := #[.long (-82)], vm := .none },
  { cls := 9, slots := #[.long (-81)], vm := .none },
  { cls := 9, slots := #[.long (-80)], vm := .none },
  { cls := 9, slots := #[.long (-79)], vm := .none },
  { cls := 9, slots := #[.long (-78)], vm := .none },
  { cls := 9, slots := #[.long (-77)], vm := .none },
  { cls := 9, slots := #[.long (-76)], vm := .none },
  { cls := 9, slots := #[.long (-75)], vm := .none },
  { cls := 9, slots := #[.long (-74)], vm := .none },
  { cls := 9, slots := #[.long (-73)], vm := .none },
  { cls := 9, slots := #[.long (-72)], vm := .none },
  { cls := 9, slots := #[.long (-71)], vm := .none },
  { cls := 9, slots := #[.long (-70)], vm := .none },
  { cls := 9, slots := #[.long (-69)], vm := .none },
  { cls := 9, slots := #[.long (-68)], vm := .none },
  { cls := 9, slots := #[.long (-67)], vm := .none },
  { cls := 9, slots := #[.long (-66)], vm := .none },
  { cls := 9, slots := #[.long (-65)], vm := .none },
  { cls := 9, slots := #[.long (-64)], vm := .none },
  { cls := 9, slots := #[.long (-63)], vm := .none },
  { cls := 9, slots := #[.long (-62)], vm := .none },
  { cls := 9, slots := #[.long (-61)], vm := .none },
  { cls := 9, slots := #[.long (-60)], vm := .none },
  { cls := 9, slots := #[.long (-59)], vm := .none },
  { cls := 9, slots := #[.long (-58)], vm := .none },
  { cls := 9, slots := #[.long (-57)], vm := .none },
  { cls := 9, slots := #[.long (-56)], vm := .none },
  { cls := 9, slots := #[.long (-55)], vm := .none },
  { cls := 9, slots := #[.long (-54)], vm := .none },
  { cls := 9, slots := #[.long (-53)], vm := .none },
  { cls := 9, slots := #[.long (-52)], vm := .none },
  { cls := 9, slots := #[.long (-51)], vm := .none },
  { cls := 9, slots := #[.long (-50)], vm := .none },
  { cls := 9, slots := #[.long (-49)], vm := .none },
  { cls := 9, slots := #[.long (-48)], vm := .none },
  { cls := 9, slots := #[.long (-47)], vm := .none },
  { cls := 9, slots := #[.long (-46)], vm := .none },
  { cls := 9, slots := #[.long (-45)], vm := .none },
  { cls := 9, slots := #[.long (-44)], vm := .none },
  { cls := 9, slots := #[.long (-43)], vm := .none },
  { cls := 9, slots := #[.long (-42)], vm := .none },
  { cls := 9, slots := #[.long (-41)], vm := .none },
  { cls := 9, slots := #[.long (-40)], vm := .none },
  { cls := 9, slots := #[.long (-39)], vm := .none },
  { cls := 9, slots := #[.long (-38)], vm := .none },
  { cls := 9, slots := #[.long (-37)], vm := .none },
  { cls := 9, slots := #[.long (-36)], vm := .none },
  { cls := 9, slots := #[.long (-35)], vm := .none },
  { cls := 9, slots := #[.long (-34)], vm := .none },
  { cls := 9, slots := #[.long (-33)], vm := .none },
  { cls := 9, slots := #[.long (-32)], vm := .none },
  { cls := 9, slots := #[.long (-31)], vm := .none },
  { cls := 9, slots := #[.long (-30)], vm := .none },
  { cls := 9, slots := #[.long (-29)], vm := .none },
  { cls := 9, slots := #[.long (-28)], vm := .none },
  { cls := 9, slots := #[.long (-27)], vm := .none },
  { cls := 9, slots := #[.long (-26)], vm := .none },
  { cls := 9, slots := #[.long (-25)], vm := .none },
  { cls := 9, slots := #[.long (-24)], vm := .none },
  { cls := 9, slots := #[.long (-23)], vm := .none },
  { cls := 9, slots := #[.long (-22)], vm := .none },
  { cls := 9, slots := #[.long (-21)], vm := .none },
  { cls := 9, slots := #[.long (-20)], vm := .none },
  { cls := 9, slots := #[.long (-19)], vm := .none },
  { cls := 9, slots := #[.long (-18)], vm := .none },
  { cls := 9, slots := #[.long (-17)], vm := .none },
  { cls := 9, slots := #[.long (-16)], vm := .none },
  { cls := 9, slots := #[.long (-15)], vm := .none },
  { cls := 9, slots := #[.long (-14)], vm := .none },
  { cls := 9, slots := #[.long (-13)], vm := .none },
  { cls := 9, slots := #[.long (-12)], vm := .none },
  { cls := 9, slots := #[.long (-11)], vm := .none },
  { cls := 9, slots := #[.long (-10)], vm := .none },
  { cls := 9, slots := #[.long (-9)], vm := .none },
  { cls := 9, slots := #[.long (-8)], vm := .none },
  { cls := 9, slots := #[.long (-7)], vm := .none },
  { cls := 9, slots := #[.long (-6)], vm := .none },
  { cls := 9, slots := #[.long (-5)], vm := .none },
  { cls := 9, slots := #[.long (-4)], vm := .none },
  { cls := 9, slots := #[.long (-3)], vm := .none },
  { cls := 9, slots := #[.long (-2)], vm := .none },
  { cls := 9, slots := #[.long (-1)], vm := .none },
  { cls := 9, slots := #[.long (0)], vm := .none },
  { cls := 9, slots := #[.long (1)], vm := .none },
  { cls := 9, slots := #[.long (2)], vm := .none },
  { cls := 9, slots := #[.long (3)], vm := .none },
  { cls := 9, slots := #[.long (4)], vm := .none },
  { cls := 9, slots := #[.long (5)], vm := .none },
  { cls := 9, slots := #[.long (6)], vm := .none },
  { cls := 9, slots := #[.long (7)], vm := .none },
  { cls := 9, slots := #[.long (8)], vm := .none },
  { cls := 9, slots := #[.long (9)], vm := .none },
  { cls := 9, slots := #[.long (10)], vm := .none },
  { cls := 9, slots := #[.long (11)], vm := .none },
  { cls := 9, slots := #[.long (12)], vm := .none },
  { cls := 9, slots := #[.long (13)], vm := .none },
  { cls := 9, slots := #[.long (14)], vm := .none },
  { cls := 9, slots := #[.long (15)], vm := .none },
  { cls := 9, slots := #[.long (16)], vm := .none },
  { cls := 9, slots := #[.long (17)], vm := .none },
  { cls := 9, slots := #[.long (18)], vm := .none },
  { cls := 9, slots := #[.long (19)], vm := .none },
  { cls := 9, slots := #[.long (20)], vm := .none },
  { cls := 9, slots := #[.long (21)], vm := .none },
  { cls := 9, slots := #[.long (22)], vm := .none },
  { cls := 9, slots := #[.long (23)], vm := .none },
  { cls := 9, slots := #[.long (24)], vm := .none },
  { cls := 9, slots := #[.long (25)], vm := .none },
  { cls := 9, slots := #[.long (26)], vm := .none },
  { cls := 9, slots := #[.long (27)], vm := .none },
  { cls := 9, slots := #[.long (28)], vm := .none },
  { cls := 9, slots := #[.long (29)], vm := .none },
  { cls := 9, slots := #[.long (30)], vm := .none },
  { cls := 9, slots := #[.long (31)], vm := .none },
  { cls := 9, slots := #[.long (32)], vm := .none },
  { cls := 9, slots := #[.long (33)], vm := .none },
  { cls := 9, slots := #[.long (34)], vm := .none },
  { cls := 9, slots := #[.long (35)], vm := .none },
  { cls := 9, slots := #[.long (36)], vm := .none },
  { cls := 9, slots := #[.long (37)], vm := .none },
  { cls := 9, slots := #[.long (38)], vm := .none },
  { cls := 9, slots := #[.long (39)], vm := .none },
  { cls := 9, slots := #[.long (40)], vm := .none },
  { cls := 9, slots := #[.long (41)], vm := .none },
  { cls := 9, slots := #[.long (42)], vm := .none },
  { cls := 9, slots := #[.long (43)], vm := .none },
  { cls := 9, slots := #[.long (44)], vm := .none },
  { cls := 9, slots := #[.long (45)], vm := .none },
  { cls := 9, slots := #[.long (46)], vm := .none },
  { cls := 9, slots := #[.long (47)], vm := .none },
  { cls := 9, slots := #[.long (48)], vm := .none },
  { cls := 9, slots := #[.long (49)], vm := .none },
  { cls := 9, slots := #[.long (50)], vm := .none },
  { cls := 9, slots := #[.long (51)], vm := .none },
  { cls := 9, slots := #[.long (52)], vm := .none },
  { cls := 9, slots := #[.long (53)], vm := .none },
  { cls := 9, slots := #[.long (54)], vm := .none },
  { cls := 9, slots := #[.long (55)], vm := .none },
  { cls := 9, slots := #[.long (56)], vm := .none },
  { cls := 9, slots := #[.long (57)], vm := .none },
  { cls := 9, slots := #[.long (58)], vm := .none },
  { cls := 9, slots := #[.long (59)], vm := .none },
  { cls := 9, slots := #[.long (60)], vm := .none },
  { cls := 9, slots := #[.long (61)], vm := .none },
  { cls := 9, slots := #[.long (62)], vm := .none },
  { cls := 9, slots := #[.long (63)], vm := .none },
  { cls := 9, slots := #[.long (64)], vm := .none },
  { cls := 9, slots := #[.long (65)], vm := .none },
  { cls := 9, slots := #[.long (66)], vm := .none },
  { cls := 9, slots := #[.long (67)], vm := .none },
  { cls := 9, slots := #[.long (68)], vm := .none },
  { cls := 9, slots := #[.long (69)], vm := .none },
  { cls := 9, slots := #[.long (70)], vm := .none },
  { cls := 9, slots := #[.long (71)], vm := .none },
  { cls := 9, slots := #[.long (72)], vm := .none },
  { cls := 9, slots := #[.long (73)], vm := .none },
  { cls := 9, slots := #[.long (74)], vm := .none },
  { cls := 9, slots := #[.long (75)], vm := .none },
  { cls := 9, slots := #[.long (76)], vm := .none },
  { cls := 9, slots := #[.long (77)], vm := .none },
  { cls := 9, slots := #[.long (78)], vm := .none },
  { cls := 9, slots := #[.long (79)], vm := .none },
  { cls := 9, slots := #[.long (80)], vm := .none },
  { cls := 9, slots := #[.long (81)], vm := .none },
  { cls := 9, slots := #[.long (82)], vm := .none },
  { cls := 9, slots := #[.long (83)], vm := .none },
  { cls := 9, slots := #[.long (84)], vm := .none },
  { cls := 9, slots := #[.long (85)], vm := .none },
  { cls := 9, slots := #[.long (86)], vm := .none },
  { cls := 9, slots := #[.long (87)], vm := .none },
  { cls := 9, slots := #[.long (88)], vm := .none },
  { cls := 9, slots := #[.long (89)], vm := .none },
  { cls := 9, slots := #[.long (90)], vm := .none },
  { cls := 9, slots := #[.long (91)], vm := .none },
  { cls := 9, slots := #[.long (92)], vm := .none },
  { cls := 9, slots := #[.long (93)], vm := .none },
  { cls := 9, slots := #[.long (94)], vm := .none },
  { cls := 9, slots := #[.long (95)], vm := .none },
  { cls := 9, slots := #[.long (96)], vm := .none },
  { cls := 9, slots := #[.long (97)], vm := .none },
  { cls := 9, slots := #[.long (98)], vm := .none },
  { cls := 9, slots := #[.long (99)], vm := .none },
  { cls := 9, slots := #[.long (100)], vm := .none },
  { cls := 9, slots := #[.long (101)], vm := .none },
  { cls := 9, slots := #[.long (102)], vm := .none },
  { cls := 9, slots := #[.long (103)], vm := .none },
  { cls := 9, slots := #[.long (104)], vm := .none },
  { cls := 9, slots := #[.long (105)], vm := .none },
  { cls := 9, slots := #[.long (106)], vm := .none },
  { cls := 9, slots := #[.long (107)], vm := .none },
  { cls := 9, slots := #[.long (108)], vm := .none },
  { cls := 9, slots := #[.long (109)], vm := .none },
  { cls := 9, slots := #[.long (110)], vm := .none },
  { cls := 9, slots := #[.long (111)], vm := .none },
  { cls := 9, slots := #[.long (112)], vm := .none },
  { cls := 9, slots := #[.long (113)], vm := .none },
  { cls := 9, slots := #[.long (114)], vm := .none },
  { cls := 9, slots := #[.long (115)], vm := .none },
  { cls := 9, slots := #[.long (116)], vm := .none },
  { cls := 9, slots := #[.long (117)], vm := .none },
  { cls := 9, slots := #[.long (118)], vm := .none },
  { cls := 9, slots := #[.long (119)], vm := .none },
  { cls := 9, slots := #[.long (120)], vm := .none },
  { cls := 9, slots := #[.long (121)], vm := .none },
  { cls := 9, slots := #[.long (122)], vm := .none },
  { cls := 9, slots := #[.long (123)], vm := .none },
  { cls := 9, slots := #[.long (124)], vm := .none },
  { cls := 9, slots := #[.long (125)], vm := .none },
  { cls := 9, slots := #[.long (126)], vm := .none },
  { cls := 9, slots := #[.long (127)], vm := .none }]
def classes : Array Class := #[k0, k1, k2, k3, k4, k5, k6, k7, k8, k9, k10, k11, k12, k13, k14, k15, k16]
def interned : List (Array UInt16 × Addr) := []
def slotsUsed : Nat := 515
def theMethod : MethodId := ⟨1, 3⟩
def args0 : Array Value := #[.long 5, .long 300, .long 7, .long 9, .int 0]
def aboutOver (below : List Frame) : State where
  vm := { classes := classes, interned := interned.toArray }
  heap := heap
  slotsUsed := slotsUsed
  threads := #[{ frames := .invoking theMethod args0 :: below }]
def below0 : List Frame := [.native { method := ⟨0, 0⟩, args := #[] }]
def about1 : State := aboutOver below0
def p0 : Program := .bare "" "" ""
def e0 : Env := launch0.env 0 0 0
theorem w_frames : about1.frames = Frame.invoking theMethod args0 :: below0 := rfl
set_option maxRecDepth 65536 in
theorem w_args : argsFit about1.vm theMethod args0 = true := by decide +kernel
set_option maxRecDepth 65536 in
theorem w_heap : heapFits about1 = true := by decide +kernel
set_option maxRecDepth 65536 in
theorem w_runnable : about1.curStatus? = some .runnable := by decide +kernel
set_option maxRecDepth 65536 in
theorem w_alone : about1.alone = true := by decide +kernel
set_option maxRecDepth 65536 in
theorem w_named : about1.methodNamed? x = some theMethod := by decide +kernel
set_option maxRecDepth 65536 in
theorem w_hears : about1.hears theMethod below0 = true := by decide +kernel
set_option maxRecDepth 65536 in
theorem w_ripe : about1.ripe theMethod args0 below0 = true := by decide +kernel
theorem w_running : about1.status = .running := rfl
set_option maxRecDepth 65536 in
theorem w_room : about1.hasRoom e0.platform room_1 = true :=
  launch0.hasRoom_least _ room_1 (by decide +kernel) (by decide +kernel) (by decide +kernel) (by decide +kernel) (by decide +kernel) (by decide +kernel)
theorem allAtoms_all (ts : List Jvm.Cond) (a : Array Jvm.Value) (st : Jvm.State) : (allAtoms ts).before a st = ts.all (fun c => c.before a st) := by
  induction ts with
  | nil => rfl
  | cons c t ih =>
    show (Jvm.Cond.and c (allAtoms t)).before a st = _
    rw [Jvm.Cond.before_and, ih, List.all_cons]
def words1 : List Jvm.Cond := Jvm.Cond.code x code maxLocals ret :: tables_1
/-- a 'code' word, met by the world's own term for the bytes: nothing is compared byte by byte -/
theorem code_word {y : MethodName} {bytes : ByteArray} {mx : Nat} {rt : Option FieldType} {a : Array Value} {s : State} {m : MethodId} {meth : Method} {c : Code} (h1 : s.methodNamed? y = some m) (h2 : s.vm.method? m = some meth) (h3 : meth.code = some c) (h4 : c.code = bytes)
    (h5 : (c.maxLocals == mx && c.exceptionTable.isEmpty && decide (c.maxStack ≤ mostOperands) && decide (meth.sig.returnType = rt) && !meth.locks && decide (parseMethodDescriptor y.desc = some meth.sig)) = true) : (Jvm.Cond.code y bytes mx rt).before a s = true := by
  simp only [Bool.and_eq_true, beq_iff_eq, Bool.not_eq_true', decide_eq_true_eq] at h5
  obtain ⟨⟨⟨⟨⟨g1, g2⟩, g3⟩, g4⟩, g5⟩, g6⟩ := h5
  simp [Cond.before, Cond.holds, Cond.value, h1, h2, h3, h4, g1, g2, g3, g4, g5, g6]
def isCode : Jvm.Cond → Bool
  | .code _ _ _ _ => true
  | _ => false
theorem all_split {L : List Jvm.Cond} {P : Jvm.Cond → Bool} (h1 : L.all (fun c => isCode c || P c) = true) (h2 : ∀ c ∈ L.filter isCode, P c = true) : L.all P = true := by
  refine List.all_eq_true.mpr fun c hc => ?_
  have h := List.all_eq_true.mp h1 c hc
  rcases Bool.eq_false_or_eq_true (isCode c) with hi | hi
  · exact h2 c (List.mem_filter.mpr ⟨hc, hi⟩)
  · simpa [hi] using h
set_option maxRecDepth 65536 in
theorem w_c0 : (Jvm.Cond.code x code maxLocals ret).before args0 about1 = true := code_word (m := ⟨1, 3⟩) (meth := k1m3) (c := k1c3) (by decide +kernel) rfl rfl rfl (by decide +kernel)
set_option maxRecDepth 65536 in
theorem w_c1 : (Jvm.Cond.code ({ cls := "com/example/tidy_balancer/tidybalancer/model/BundleRangeEqualsPinLaw", name := "lowOf", desc := "(JJ)J" } : Jvm.MethodName) method_2_code (4 : Nat) (Option.some Jvm.ClassFile.FieldType.long)).before args0 about1 = true := code_word (m := ⟨1, 1⟩) (meth := k1m1) (c := k1c1) (by decide +kernel) rfl rfl rfl (by decide +kernel)
set_option maxRecDepth 65536 in
theorem w_c2 : (Jvm.Cond.code ({ cls := "java/lang/Math", name := "min", desc := "(JJ)J" } : Jvm.MethodName) jdk_29_method_70_code (4 : Nat) (Option.some Jvm.ClassFile.FieldType.long)).before args0 about1 = true := code_word (m := ⟨2, 2⟩) (meth := k2m2) (c := k2c2) (by decide +kernel) rfl rfl rfl (by decide +kernel)
set_option maxRecDepth 65536 in
theorem w_c3 : (Jvm.Cond.code ({ cls := "com/example/tidy_balancer/tidybalancer/model/BundleRangeEqualsPinLaw", name := "highOf", desc := "(JJ)J" } : Jvm.MethodName) method_3_code (4 : Nat) (Option.some Jvm.ClassFile.FieldType.long)).before args0 about1 = true := code_word (m := ⟨1, 2⟩) (meth := k1m2) (c := k1c2) (by decide +kernel) rfl rfl rfl (by decide +kernel)
set_option maxRecDepth 65536 in
theorem w_c4 : (Jvm.Cond.code ({ cls := "java/lang/Math", name := "max", desc := "(JJ)J" } : Jvm.MethodName) jdk_29_method_66_code (4 : Nat) (Option.some Jvm.ClassFile.FieldType.long)).before args0 about1 = true := code_word (m := ⟨2, 1⟩) (meth := k2m1) (c := k2c1) (by decide +kernel) rfl rfl rfl (by decide +kernel)
set_option maxRecDepth 65536 in
theorem w_c5 : (Jvm.Cond.code ({ cls := "com/example/tidy_balancer/tidybalancer/model/BundleRange", name := "<init>", desc := "(JJ)V" } : Jvm.MethodName) prog_29_method_1_code (5 : Nat) (Option.none : Option Jvm.ClassFile.FieldType)).before args0 about1 = true := code_word (m := ⟨3, 0⟩) (meth := k3m0) (c := k3c0) (by decide +kernel) rfl rfl rfl (by decide +kernel)
set_option maxRecDepth 65536 in
theorem w_c6 : (Jvm.Cond.code ({ cls := "java/lang/Object", name := "<init>", desc := "()V" } : Jvm.MethodName) object_method_1_code (1 : Nat) (Option.none : Option Jvm.ClassFile.FieldType)).before args0 about1 = true := code_word (m := ⟨0, 0⟩) (meth := k0m0) (c := k0c0) (by decide +kernel) rfl rfl rfl (by decide +kernel)
set_option maxRecDepth 65536 in
theorem w_c7 : (Jvm.Cond.code ({ cls := "com/example/tidy_balancer/tidybalancer/model/BundleRange", name := "equals", desc := "(Ljava/lang/Object;)Z" } : Jvm.MethodName) prog_29_method_6_code (3 : Nat) (Option.some Jvm.ClassFile.FieldType.boolean)).before args0 about1 = true := code_word (m := ⟨3, 1⟩) (meth := k3m1) (c := k3c1) (by decide +kernel) rfl rfl rfl (by decide +kernel)
set_option maxRecDepth 65536 in
theorem w_c8 : (Jvm.Cond.code ({ cls := "java/lang/Long", name := "valueOf", desc := "(J)Ljava/lang/Long;" } : Jvm.MethodName) jdk_35_method_24_code (3 : Nat) (Option.some (Jvm.ClassFile.FieldType.object "java/lang/Long"))).before args0 about1 = true := code_word (m := ⟨9, 0⟩) (meth := k9m0) (c := k9c0) (by decide +kernel) rfl rfl rfl (by decide +kernel)
set_option maxRecDepth 65536 in
theorem w_c9 : (Jvm.Cond.code ({ cls := "java/lang/Long", name := "<init>", desc := "(J)V" } : Jvm.MethodName) jdk_35_method_26_code (3 : Nat) (Option.none : Option Jvm.ClassFile.FieldType)).before args0 about1 = true := code_word (m := ⟨9, 1⟩) (meth := k9m1) (c := k9c1) (by decide +kernel) rfl rfl rfl (by decide +kernel)
set_option maxRecDepth 65536 in
theorem w_c10 : (Jvm.Cond.code ({ cls := "java/lang/Number", name := "<init>", desc := "()V" } : Jvm.MethodName) jdk_18_method_1_code (1 : Nat) (Option.none : Option Jvm.ClassFile.FieldType)).before args0 about1 = true := code_word (m := ⟨5, 0⟩) (meth := k5m0) (c := k5c0) (by decide +kernel) rfl rfl rfl (by decide +kernel)
def codes1 : List Jvm.Cond := [Jvm.Cond.code x code maxLocals ret, Jvm.Cond.code ({ cls := "com/example/tidy_balancer/tidybalancer/model/BundleRangeEqualsPinLaw", name := "lowOf", desc := "(JJ)J" } : Jvm.MethodName) method_2_code (4 : Nat) (Option.some Jvm.ClassFile.FieldType.long), Jvm.Cond.code ({ cls := "java/lang/Math", name := "min", desc := "(JJ)J" } : Jvm.MethodName) jdk_29_method_70_code (4 : Nat) (Option.some Jvm.ClassFile.FieldType.long), Jvm.Cond.code ({ cls := "com/example/tidy_balancer/tidybalancer/model/BundleRangeEqualsPinLaw", name := "highOf", desc := "(JJ)J" } : Jvm.MethodName) method_3_code (4 : Nat) (Option.some Jvm.ClassFile.FieldType.long), Jvm.Cond.code ({ cls := "java/lang/Math", name := "max", desc := "(JJ)J" } : Jvm.MethodName) jdk_29_method_66_code (4 : Nat) (Option.some Jvm.ClassFile.FieldType.long), Jvm.Cond.code ({ cls := "com/example/tidy_balancer/tidybalancer/model/BundleRange", name := "<init>", desc := "(JJ)V" } : Jvm.MethodName) prog_29_method_1_code (5 : Nat) (Option.none : Option Jvm.ClassFile.FieldType), Jvm.Cond.code ({ cls := "java/lang/Object", name := "<init>", desc := "()V" } : Jvm.MethodName) object_method_1_code (1 : Nat) (Option.none : Option Jvm.ClassFile.FieldType), Jvm.Cond.code ({ cls := "com/example/tidy_balancer/tidybalancer/model/BundleRange", name := "equals", desc := "(Ljava/lang/Object;)Z" } : Jvm.MethodName) prog_29_method_6_code (3 : Nat) (Option.some Jvm.ClassFile.FieldType.boolean), Jvm.Cond.code ({ cls := "java/lang/Long", name := "valueOf", desc := "(J)Ljava/lang/Long;" } : Jvm.MethodName) jdk_35_method_24_code (3 : Nat) (Option.some (Jvm.ClassFile.FieldType.object "java/lang/Long")), Jvm.Cond.code ({ cls := "java/lang/Long", name := "<init>", desc := "(J)V" } : Jvm.MethodName) jdk_35_method_26_code (3 : Nat) (Option.none : Option Jvm.ClassFile.FieldType), Jvm.Cond.code ({ cls := "java/lang/Number", name := "<init>", desc := "()V" } : Jvm.MethodName) jdk_18_method_1_code (1 : Nat) (Option.none : Option Jvm.ClassFile.FieldType)]
set_option maxRecDepth 65536 in
theorem codes_eq : words1.filter isCode = codes1 := rfl
theorem w_codes : ∀ c ∈ words1.filter isCode, c.before args0 about1 = true := by
  rw [codes_eq]
  intro c hc
  simp only [codes1, List.mem_cons, List.not_mem_nil, or_false] at hc
  rcases hc with rfl | rfl | rfl | rfl | rfl | rfl | rfl | rfl | rfl | rfl | rfl
  · exact w_c0
  · exact w_c1
  · exact w_c2
  · exact w_c3
  · exact w_c4
  · exact w_c5
  · exact w_c6
  · exact w_c7
  · exact w_c8
  · exact w_c9
  · exact w_c10
set_option maxRecDepth 65536 in
theorem w_t1 : (words1.take 24).all (fun c => isCode c || c.before args0 about1) = true := by decide +kernel
set_option maxRecDepth 65536 in
theorem w_t2 : ((words1.drop 24).take 24).all (fun c => isCode c || c.before args0 about1) = true := by decide +kernel
set_option maxRecDepth 65536 in
theorem w_t3 : ((words1.drop 24).drop 24).all (fun c => isCode c || c.before args0 about1) = true := by decide +kernel
theorem w_tables : (allAtoms (Jvm.Cond.code x code maxLocals ret :: tables_1)).before args0 about1 = true := by
  rw [allAtoms_all]
  show words1.all (fun c => c.before args0 about1) = true
  refine all_split ?_ w_codes
  rw [← List.take_append_drop 24 words1, List.all_append, w_t1, ← List.take_append_drop 24 (words1.drop 24), List.all_append, w_t2, w_t3]
  rfl
set_option maxRecDepth 65536 in
theorem w_rest : rest_1_c.before args0 about1 = true := by decide +kernel
set_option maxRecDepth 65536 in
theorem w_case : (Jvm.Cond.and given_1 narrow_1).before args0 about1 = true := by decide +kernel
theorem w_applies : (headSpec (Jvm.Cond.code x code maxLocals ret :: tables_1) room_1).applies x e0.platform about1 = true :=
  (Spec.applies_iff w_frames).mpr ⟨w_running, w_runnable, w_alone, w_named, w_hears, w_ripe, w_room, w_tables⟩
theorem atStart : AtStart classFile x code maxLocals ret World_1 tables_1 room_1 Calls_1 rest_1 Pre_1 launch0 p0 e0 about1 theMethod args0 below0 :=
  ⟨lists_1, trivial, launch0.admits_env _ _ _, launch0.least_env, fairChoices_fair.cas, fairChoices_fair.clock, w_frames, w_args, w_heap, w_applies, trivial, w_rest, w_case⟩
end start1
theorem witness_1 : WitnessClaimed_1 := ⟨start1.p0, start1.e0, start1.about1, start1.theMethod, start1.args0, start1.below0, start1.atStart⟩
end Jvm.Pilot.@@N@@
