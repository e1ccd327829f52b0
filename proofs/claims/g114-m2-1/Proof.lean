import JvmDerived
import JvmDerived.Pilot.@@N@@Statement
import JvmDerived.Pilot.@@N@@Code
set_option linter.unusedVariables false
set_option linter.unusedSimpArgs false
namespace Jvm.Pilot.@@N@@
open Jvm Jvm.ClassFile Sem Op Lib Jvm.Free Jvm.Stand Jvm.LawKit Jvm.RoadKit Bundle Jvm.Pilot.@@N@@.Jvm.D
/-! THE WALK IN CONTINUATION FORM. Here: the run stands in T, its heap is h, nothing old was written. Go: from the state F the run ends as Q says. CM: a callee's contract. -/
def Here (p : Program) (l : Launch) (e : Env) (R : Room) (s : State) (m : MethodId) (args : Array Value) (below : List Frame) (meth : Method) (c : Code) (n0 : Nat) (T : State) (h : Heap) (k n : Nat) : Prop :=
  ∃ locs, Stand p l e R s m args below meth c T locs k n ∧ T.heap = h ∧ Fr n0 locs
def Fini (below : List Frame) (s : State) (n0 : Nat) (Q : Option Value → Heap → Prop) (K N : Nat) (t : State) (o : Outcome) : Prop :=
  t.status = .running ∧ Ended t below o ∧ ∃ v L, o = .returned v ∧ (Q v t.heap ∧ Fr n0 L) ∧ FrameEnd s o t L K N
def Go (p : Program) (e : Env) (below : List Frame) (Φ : State → Outcome → Prop) (F : State) : Prop :=
  ∃ t o, Steps p.tables e below F t ∧ Φ t o
def CM (l : Launch) (Z : State) (y : MethodName) (code : ByteArray) (maxL : Nat) (ret : Option FieldType) (R : Room) (as : Array Value) (h0 : Heap) (n0 : Nat) (Q : Option Value → Heap → Prop) : Prop :=
  ∀ ws, MetFree l y (head1 (Jvm.Cond.code y code maxL ret :: ws) R) (fun a U => a = as ∧ Z.Warmed39 U.vm ∧ U.heap = h0) (fun _ _ _ _ _ => True) (fun _ U o U' => ∃ v L, o = .returned v ∧ (Q v U'.heap ∧ Fr n0 L) ∧ FrameEnd U o U' L R.cells R.slots)
section Own
variable {p : Program} {l : Launch} {e : Env} {R : Room} {s : State} {m : MethodId} {args : Array Value} {below : List Frame} {meth : Method} {c : Code} {T : State} {h : Heap} {k n n0 K N : Nat} {Q : Option Value → Heap → Prop} {Z : State} {a0 : Array Value} {Φ : State → Outcome → Prop}
theorem Here.here (H : Here p l e R s m args below meth c n0 T h k n) : At T m c below := by obtain ⟨_, X, _, _⟩ := H; exact X.here
theorem Here.stand (H : Here p l e R s m args below meth c n0 T h k n) : ∃ locs, Stand p l e R s m args below meth c T locs k n ∧ T.heap = h ∧ Fr n0 locs := H
theorem Go.via {F F' : State} (st : ∀ t, Steps p.tables e below F' t → Steps p.tables e below F t) (g : Go p e below Φ F') : Go p e below Φ F := by
  obtain ⟨t, o, h1, r⟩ := g; exact ⟨t, o, st t h1, r⟩
theorem own_enter {y : MethodName} {code : ByteArray} {maxL : Nat} {ret : Option FieldType} {as : Array Value} {h0 : Heap} (hpl : plainFor y = true)
    (body : ∀ (p : Program) (e : Env) (s : State) (m : MethodId) (below : List Frame) (meth : Method) (c : Code) (T : State), p.tables.exec = Jvm.exec → c.code = code → c.maxLocals = maxL → s.vm.findClass y.cls = some m.cls → meth.name = y.name → Z.Warmed39 s.vm → meth.sig.returnType = ret → meth.locks = false → Here p l e R s m as below meth c n0 T h0 0 0 → Go p e below (Fini below s n0 Q R.cells R.slots) (T.setTop (entryFrame m as maxL))) :
    CM l Z y code maxL ret R as h0 n0 Q := by
  intro ws
  refine MetFree.of_bodySF hpl hisR ?_
  intro p e s m args below meth c s₁ Bd hml0 hP hK
  obtain ⟨rfl, hZ, hh⟩ := hP
  exact body p e s m below meth c s₁ Bd.exec Bd.bytes hml0 (findClass_of_methodNamed Bd.named) (name_of_methodNamed Bd.named Bd.method).1 hZ Bd.returns Bd.notSynchronized ⟨[], Stand.of_body Bd, by rw [← hh, Bd.state]; rfl, Fr.nil n0⟩
theorem Here.leave (H : Here p l e R s m args below meth c n0 T h k n) (hlk : meth.locks = false) {v : Option Value} (hv : meth.sig.returnType = none → v = none) (hQ : Q v h) (hk : k ≤ K) (hn : n ≤ N) {F : State}
    (st : ∀ fs, (∀ (f : JFrame) (acts : List Action), f.method = m → f.locked = none → f.entered = [] → (doReturn e (T.setTop f) acts v).1 = T.setFrames fs) → Steps p.tables e below F (T.setFrames fs)) : Go p e below (Fini below s n0 Q K N) F := by
  obtain ⟨locs, X, rfl, F0⟩ := H
  obtain ⟨fs, hr, hrun, hended, hW, hsame⟩ := X.leave (v := v) hv hlk
  exact ⟨_, _, st fs hr, hrun, hended, v, locs, rfl, ⟨hQ, F0⟩, ⟨_, rfl⟩, hW, hsame.mono hk hn⟩
theorem own_retV (H : Here p l e R s m args below meth c n0 T h k n) (hx : p.tables.exec = Jvm.exec) (hlk : meth.locks = false) (hret : meth.sig.returnType = none) {pc : Nat} {Ls : Array Slot} (hd : decode c.code pc = .ok (.return_, 1)) (hQ : Q none h) (hk : k ≤ K) (hn : n ≤ N) :
    Go p e below (Fini below s n0 Q K N) (T.setTop (mkF m pc Ls [])) := by
  obtain ⟨locs, X, r1, r2⟩ := H.stand
  exact H.leave hlk (fun _ => rfl) hQ hk hn fun fs hr => X.returnOut hx hret hd hr
theorem own_retI (H : Here p l e R s m args below meth c n0 T h k n) (hx : p.tables.exec = Jvm.exec) (hlk : meth.locks = false) (hret : meth.sig.returnType = some .int) {pc : Nat} {Ls : Array Slot} {z : Int32} {rest : List Value} (hd : decode c.code pc = .ok (.ireturn, 1)) (hQ : Q (some (.int z)) h) (hk : k ≤ K) (hn : n ≤ N) :
    Go p e below (Fini below s n0 Q K N) (T.setTop (mkF m pc Ls (.int z :: rest))) := by
  obtain ⟨locs, X, r1, r2⟩ := H.stand
  exact H.leave hlk (fun q => by rw [hret] at q; cases q) hQ hk hn fun fs hr => retOut X hx hret rfl (Or.inl ⟨rfl, Or.inl rfl, z, rfl⟩) hd hr
theorem own_retN (H : Here p l e R s m args below meth c n0 T h k n) (hx : p.tables.exec = Jvm.exec) (hlk : meth.locks = false) {t : FieldType} (ht : t = .boolean ∨ t = .byte ∨ t = .char ∨ t = .short) (hret : meth.sig.returnType = some t) {pc : Nat} {Ls : Array Slot} {z : Int32} {rest : List Value} (hd : decode c.code pc = .ok (.ireturn, 1)) (hQ : Q (some (.int (nar t z))) h) (hk : k ≤ K) (hn : n ≤ N) :
    Go p e below (Fini below s n0 Q K N) (T.setTop (mkF m pc Ls (.int z :: rest))) := by
  obtain ⟨locs, X, r1, r2⟩ := H.stand
  exact H.leave hlk (fun q => by rw [hret] at q; cases q) hQ hk hn fun fs hr => retN X hx hret ht hd hr
theorem own_retL (H : Here p l e R s m args below meth c n0 T h k n) (hx : p.tables.exec = Jvm.exec) (hlk : meth.locks = false) (hret : meth.sig.returnType = some .long) {pc : Nat} {Ls : Array Slot} {z : Int64} {rest : List Value} (hd : decode c.code pc = .ok (.lreturn, 1)) (hQ : Q (some (.long z)) h) (hk : k ≤ K) (hn : n ≤ N) :
    Go p e below (Fini below s n0 Q K N) (T.setTop (mkF m pc Ls (.long z :: rest))) := by
  obtain ⟨locs, X, r1, r2⟩ := H.stand
  exact H.leave hlk (fun q => by rw [hret] at q; cases q) hQ hk hn fun fs hr => retOut X hx hret rfl (Or.inr (Or.inl ⟨rfl, rfl, z, rfl⟩)) hd hr
theorem own_retA (H : Here p l e R s m args below meth c n0 T h k n) (hx : p.tables.exec = Jvm.exec) (hlk : meth.locks = false) {t : FieldType} (ht : t.isReference = true) (hret : meth.sig.returnType = some t) {pc : Nat} {Ls : Array Slot} {w : Value} {rest : List Value} (hn' : narrow t w = w) (hw : w.isRef = true) (hd : decode c.code pc = .ok (.areturn, 1)) (hQ : Q (some w) h) (hk : k ≤ K) (hn : n ≤ N) :
    Go p e below (Fini below s n0 Q K N) (T.setTop (mkF m pc Ls (w :: rest))) := by
  obtain ⟨locs, X, r1, r2⟩ := H.stand
  exact H.leave hlk (fun q => by rw [hret] at q; cases q) hQ hk hn fun fs hr => retOut X hx hret hn' (Or.inr (Or.inr (Or.inr (Or.inr ⟨rfl, ht, hw⟩)))) hd hr
/-! calls -/
theorem own_callS (H : Here p l e R s m args below meth c n0 T h k n) (hx : p.tables.exec = Jvm.exec) (hZ : Z.Warmed39 s.vm) {own : String} {index : Nat} {y : MethodName} {bytes : ByteArray} {maxL : Nat} {ret : Option FieldType} {rm : Room} {argsL rest : List Value} {Q' : Option Value → Heap → Prop}
    (hown : s.vm.findClass own = some m.cls) (w1 : (Jvm.Cond.methodLink own index y).before a0 Z = true) (w2 : (Jvm.Cond.static y).before a0 Z = true) (w3 : (Jvm.Cond.initialized y.cls).before a0 Z = true) (w4 : (Jvm.Cond.code y bytes maxL ret).before a0 Z = true)
    (hy : y.cls ≠ "java/lang/invoke/MethodHandle" ∧ y.cls ≠ "java/lang/invoke/VarHandle") (hM : CM l Z y bytes maxL ret rm argsL.toArray h n0 Q')
    {g : JFrame} (hg : g.method = m) (hsize : g.locals.size = c.maxLocals) (hlen : ∀ sig, parseMethodDescriptor y.desc = some sig → argsL.length = sig.parameters.length)
    (hstack : g.stack = argsL.reverse ++ rest) (W : Nat) (hW : 2 * g.monitorRoom + (rest.map fun v => v.category).sum ≤ W) (hd : decode c.code g.pc = .ok (.invokestatic index, 3))
    (hf : rm.frames + 1 ≤ R.frames) (hl : W + (maxL + 11) + rm.locals ≤ R.locals) (hc : k + rm.cells ≤ R.cells) (hs : n + rm.slots ≤ R.slots)
    (next : ∀ v T' h', Q' v h' → Here p l e R s m args below meth c n0 T' h' (k + rm.cells) (n + rm.slots) → Go p e below Φ (T'.setTop { g with pc := g.pc + 3, stack := v.toList ++ rest })) :
    Go p e below Φ (T.setTop g) := by
  obtain ⟨locs, X, rfl, F⟩ := H
  obtain ⟨v, _, ⟨T3, L3, k3, n3⟩, -, X3, ⟨Lc3, hQ3, l3, y3, z3⟩, st3⟩ := Jvm.LawKit.callS X hx (y := y) hown (mvT hZ w1) (mvT hZ w2) (mvT hZ w3) (mvT hZ w4) hy (backOf (W := W) (Q := fun v h L => Q' v h ∧ Fr n0 L) (hM []) hZ w4 w3 hf hl) (g := g) hg hsize (argsL := argsL) (rest := rest) hlen hstack hW hd (fun _ _ => ⟨rfl, rfl, hc, hs⟩)
  dsimp only [Pt.U, Pt.locs, Pt.cells, Pt.slots] at X3 l3 y3 z3 st3 hQ3
  subst l3 y3 z3
  exact Go.via st3 (next v T3 T3.heap hQ3.1 ⟨_, X3, rfl, F.app hQ3.2⟩)
theorem own_callI (H : Here p l e R s m args below meth c n0 T h k n) (hx : p.tables.exec = Jvm.exec) (hZ : Z.Warmed39 s.vm) {own : String} {index : Nat} {y : MethodName} {bytes : ByteArray} {maxL : Nat} {rm : Room} {a : Addr} {argsL rest : List Value} {Q' : Option Value → Heap → Prop}
    (hy1 : y.name = "<init>") (hown : s.vm.findClass own = some m.cls) (w1 : (Jvm.Cond.methodLink own index y).before a0 Z = true) (w2 : (Jvm.Cond.instanceMethod y).before a0 Z = true) (w3 : (Jvm.Cond.initialized y.cls).before a0 Z = true) (w4 : (Jvm.Cond.code y bytes maxL none).before a0 Z = true)
    (hy : y.cls ≠ "java/lang/invoke/MethodHandle" ∧ y.cls ≠ "java/lang/invoke/VarHandle") (hM : CM l Z y bytes maxL none rm (Value.ref a :: argsL).toArray h n0 Q')
    {g : JFrame} (hg : g.method = m) (hsize : g.locals.size = c.maxLocals) (hlen : ∀ sig, parseMethodDescriptor y.desc = some sig → argsL.length = sig.parameters.length)
    (hstack : g.stack = argsL.reverse ++ .ref a :: rest) (W : Nat) (hW : 2 * g.monitorRoom + (rest.map fun v => v.category).sum ≤ W) (hd : decode c.code g.pc = .ok (.invokespecial index, 3))
    (hf : rm.frames + 1 ≤ R.frames) (hl : W + (maxL + 11) + rm.locals ≤ R.locals) (hc : k + rm.cells ≤ R.cells) (hs : n + rm.slots ≤ R.slots)
    (next : ∀ v T' h', Q' v h' → Here p l e R s m args below meth c n0 T' h' (k + rm.cells) (n + rm.slots) → Go p e below Φ (T'.setTop { g with pc := g.pc + 3, stack := v.toList ++ rest })) :
    Go p e below Φ (T.setTop g) := by
  obtain ⟨locs, X, rfl, F⟩ := H
  obtain ⟨v, _, ⟨T3, L3, k3, n3⟩, -, X3, ⟨Lc3, hQ3, l3, y3, z3⟩, st3⟩ := X.specialBack hx (y := y) hy1 hown (mvT hZ w1) (mvT hZ w2) (mvT hZ w4) hy (backOf (W := W) (Q := fun v h L => Q' v h ∧ Fr n0 L) (hM []) hZ w4 w3 hf hl) (g := g) hg hsize (Steps.refl _) (a := a) (argsL := argsL) (rest := rest) hlen hstack hW hd (fun _ _ => ⟨rfl, rfl, hc, hs⟩)
  dsimp only [Pt.U, Pt.locs, Pt.cells, Pt.slots] at X3 l3 y3 z3 st3 hQ3
  subst l3 y3 z3
  exact Go.via (fun t q => st3.trans q) (next v T3 T3.heap hQ3.1 ⟨_, X3, rfl, F.app hQ3.2⟩)
theorem own_callV (H : Here p l e R s m args below meth c n0 T h k n) (hx : p.tables.exec = Jvm.exec) (hZ : Z.Warmed39 s.vm) {own C : String} {index : Nat} {y : MethodName} {bytes : ByteArray} {maxL : Nat} {ret : Option FieldType} {rm : Room} {a : Addr} {argsL rest : List Value} {Q' : Option Value → Heap → Prop}
    (hown : s.vm.findClass own = some m.cls) (w1 : (Jvm.Cond.methodLink own index y).before a0 Z = true) (w2 : (Jvm.Cond.declares y).before a0 Z = true) (w3 : (Jvm.Cond.selects C y y).before a0 Z = true) (w4 : (Jvm.Cond.instanceMethod y).before a0 Z = true) (w5 : (Jvm.Cond.initialized y.cls).before a0 Z = true) (w6 : (Jvm.Cond.code y bytes maxL ret).before a0 Z = true)
    (hy : y.cls ≠ "java/lang/invoke/MethodHandle" ∧ y.cls ≠ "java/lang/invoke/VarHandle") (hE : Exa Z h a C) (hM : CM l Z y bytes maxL ret rm (Value.ref a :: argsL).toArray h n0 Q')
    {g : JFrame} (hg : g.method = m) (hsize : g.locals.size = c.maxLocals) (hlen : ∀ sig, parseMethodDescriptor y.desc = some sig → argsL.length = sig.parameters.length)
    (hstack : g.stack = argsL.reverse ++ .ref a :: rest) (W : Nat) (hW : 2 * g.monitorRoom + (rest.map fun v => v.category).sum ≤ W) (hd : decode c.code g.pc = .ok (.invokevirtual index, 3))
    (hf : rm.frames + 1 ≤ R.frames) (hl : W + (maxL + 11) + rm.locals ≤ R.locals) (hc : k + rm.cells ≤ R.cells) (hs : n + rm.slots ≤ R.slots)
    (next : ∀ v T' h', Q' v h' → Here p l e R s m args below meth c n0 T' h' (k + rm.cells) (n + rm.slots) → Go p e below Φ (T'.setTop { g with pc := g.pc + 3, stack := v.toList ++ rest })) :
    Go p e below Φ (T.setTop g) := by
  obtain ⟨locs, X, rfl, F⟩ := H
  obtain ⟨cq, kq, qa, qb, qc⟩ := isOf hZ rfl hE
  obtain ⟨v, _, ⟨T3, L3, k3, n3⟩, -, X3, ⟨Lc3, hQ3, l3, y3, z3⟩, st3⟩ := X.virtualBack hx (y := y) (z := y) hown (mvT hZ w1) (mvT hZ w2) (notFace_of_selects (args := #[]) (mvT hZ w3)) (mvT hZ w3) (mvT hZ w4) hy (backOf (W := W) (Q := fun v h L => Q' v h ∧ Fr n0 L) (hM []) hZ w6 w5 hf hl) qa qc (g := g) hg hsize (Steps.refl _) (argsL := argsL) (rest := rest) hlen hstack hW hd (fun _ _ => ⟨rfl, rfl, hc, hs⟩)
  dsimp only [Pt.U, Pt.locs, Pt.cells, Pt.slots] at X3 l3 y3 z3 st3 hQ3
  subst l3 y3 z3
  exact Go.via (fun t q => st3.trans q) (next v T3 T3.heap hQ3.1 ⟨_, X3, rfl, F.app hQ3.2⟩)
theorem own_initO (H : Here p l e R s m args below meth c n0 T h k n) (hx : p.tables.exec = Jvm.exec) (hZ : Z.Warmed39 s.vm) {own : String} {idx : Nat} (hown : s.vm.findClass own = some m.cls) (w1 : (Jvm.Cond.methodLink own idx Lib.objectInit).before a0 Z = true) (w2 : (Jvm.Cond.instanceMethod Lib.objectInit).before a0 Z = true)
    (w3 : (Jvm.Cond.code Lib.objectInit object_method_1_code 1 none).before a0 Z = true) {g : JFrame} (hg : g.method = m) (hsize : g.locals.size = c.maxLocals) {a : Addr} {rest : List Value} (hs : g.stack = .ref a :: rest) (hd : decode c.code g.pc = .ok (.invokespecial idx, 3))
    (hf : 1 ≤ R.frames) (W : Nat) (hW : 2 * g.monitorRoom + (rest.map fun v => v.category).sum ≤ W) (hl : W + 12 ≤ R.locals)
    (next : ∀ T', Here p l e R s m args below meth c n0 T' h k n → Go p e below Φ (T'.setTop { g with pc := g.pc + 3, stack := rest })) : Go p e below Φ (T.setTop g) := by
  obtain ⟨locs, X, r1, r2⟩ := H.stand
  obtain ⟨T', X', e', st⟩ := initO X hx hZ hown w1 w2 w3 r1 hg hsize hs hd hf hW hl
  exact Go.via st (next T' ⟨_, X', e', r2⟩)
/-! fields, objects -/
theorem own_getF (H : Here p l e R s m args below meth c n0 T h k n) (hx : p.tables.exec = Jvm.exec) (hZ : Z.Warmed39 s.vm) {own O nm d : String} {index : Nat} (hown : s.vm.findClass own = some m.cls) (w : (Jvm.Cond.fieldLink own index O nm d).before a0 Z = true)
    {a : Addr} {v : Value} (F : Fld Z h a O nm d v) {g : JFrame} (hg : g.method = m) {rest : List Value} (hs : g.stack = .ref a :: rest) (hd : decode c.code g.pc = .ok (.getfield index, 3))
    (next : ∀ T', Here p l e R s m args below meth c n0 T' h k n → Go p e below Φ (T'.setTop { g with pc := g.pc + 3, stack := v :: rest })) : Go p e below Φ (T.setTop g) := by
  obtain ⟨locs, X, r1, r2⟩ := H.stand
  obtain ⟨T', X', e', st⟩ := getF X hx hZ hown (host := "") (Or.inl w) Via.refl r1 F hg hs hd
  exact Go.via st (next T' ⟨_, X', e', r2⟩)
theorem own_putF (H : Here p l e R s m args below meth c n0 T h k n) (hx : p.tables.exec = Jvm.exec) (hZ : Z.Warmed39 s.vm) {own O nm d C : String} {index kk : Nat} {ty : FieldType} (hown : s.vm.findClass own = some m.cls) (w : (Jvm.Cond.fieldLink own index O nm d).before a0 Z = true)
    {a : Addr} {v old : Value} (F : Fld Z h a O nm d old) (E : Exa Z h a C) (L : (Jvm.Cond.lays C O nm d).before a0 Z = true ∨ ((Jvm.Cond.laysFinal C O nm d).before a0 Z = true ∧ own = O ∧ meth.name = "<init>")) (wi : (Jvm.Cond.instantiable C kk).before a0 Z = true) (ha : n0 ≤ a)
    (hty : parseFieldDescriptor d = some ty) (hn : narrow ty v = v) (hf : fits ty v = true) {g : JFrame} (hg : g.method = m) {rest : List Value} (hs : g.stack = v :: .ref a :: rest) (hd : decode c.code g.pc = .ok (.putfield index, 3))
    (next : ∀ T' h', Wr h h' a (Jvm.RoadKit.slotOf Z O nm d) v → Here p l e R s m args below meth c n0 T' h' k n → Go p e below Φ (T'.setTop { g with pc := g.pc + 3, stack := rest })) : Go p e below Φ (T.setTop g) := by
  obtain ⟨locs, X, r1, r2⟩ := H.stand
  obtain ⟨T', h', X', e', W, st⟩ := putF X hx hZ hown (host := "") (Or.inl w) Via.refl r1 F E L wi hty hn hf hg hs hd
  exact Go.via st (next T' h' W ⟨_, X', e', Fr.snoc X' r2 ha⟩)
theorem own_putFN (H : Here p l e R s m args below meth c n0 T h k n) (hx : p.tables.exec = Jvm.exec) (hZ : Z.Warmed39 s.vm) {own O nm d C : String} {index kk : Nat} {ty : FieldType} (hown : s.vm.findClass own = some m.cls) (w : (Jvm.Cond.fieldLink own index O nm d).before a0 Z = true)
    {a : Addr} {v v' old : Value} (F : Fld Z h a O nm d old) (E : Exa Z h a C) (L : (Jvm.Cond.lays C O nm d).before a0 Z = true ∨ ((Jvm.Cond.laysFinal C O nm d).before a0 Z = true ∧ own = O ∧ meth.name = "<init>")) (wi : (Jvm.Cond.instantiable C kk).before a0 Z = true) (ha : n0 ≤ a)
    (hty : parseFieldDescriptor d = some ty) (hn : narrow ty v = v') (hf : fits ty v' = true) {g : JFrame} (hg : g.method = m) {rest : List Value} (hs : g.stack = v :: .ref a :: rest) (hd : decode c.code g.pc = .ok (.putfield index, 3))
    (next : ∀ T' h', Wr h h' a (Jvm.RoadKit.slotOf Z O nm d) v' → Here p l e R s m args below meth c n0 T' h' k n → Go p e below Φ (T'.setTop { g with pc := g.pc + 3, stack := rest })) : Go p e below Φ (T.setTop g) := by
  obtain ⟨locs, X, r1, r2⟩ := H.stand
  obtain ⟨T', h', X', e', W, st⟩ := putFN X hx hZ hown w Via.refl r1 F E L wi hty hn hf hg hs hd
  exact Go.via st (next T' h' W ⟨_, X', e', Fr.snoc X' r2 ha⟩)
theorem own_newO (H : Here p l e R s m args below meth c n0 T h k n) (hx : p.tables.exec = Jvm.exec) (hZ : Z.Warmed39 s.vm) {own C : String} {index sl : Nat} (hown : s.vm.findClass own = some m.cls) (w : (Jvm.Cond.classLink own index C).before a0 Z = true) (wi : (Jvm.Cond.instantiable C sl).before a0 Z = true) (wz : (Jvm.Cond.initialized C).before a0 Z = true)
    {g : JFrame} (hg : g.method = m) (hd : decode c.code g.pc = .ok (.new index, 3)) (hc : k + 1 ≤ R.cells) (hl : n + sl ≤ R.slots)
    (next : ∀ T' h' a, a = h.size → Ext h h' → Exa Z h' a C → (∀ {O nm d : String} {ty : FieldType}, Laid Z a0 C O nm d → parseFieldDescriptor d = some ty → Fld Z h' a O nm d (defaultValue ty)) → Here p l e R s m args below meth c n0 T' h' (k + 1) (n + sl) → Go p e below Φ (T'.setTop { g with pc := g.pc + 3, stack := .ref a :: g.stack })) : Go p e below Φ (T.setTop g) := by
  obtain ⟨locs, X, r1, r2⟩ := H.stand
  obtain ⟨T', h', X', e', E, A, D, -, st⟩ := newO X hx hZ hown w wi wz r1 hg hd hc hl
  exact Go.via st (next T' h' _ rfl E A D ⟨_, X', e', r2⟩)
/-! arrays -/
theorem own_newP (H : Here p l e R s m args below meth c n0 T h k n) (hx : p.tables.exec = Jvm.exec) (hZ : Z.Warmed39 s.vm) {aty : ArrayType} (w : (Jvm.Cond.arrayClass (newarray.typeOf aty)).before a0 Z = true) {g : JFrame} (hg : g.method = m) (hd : decode c.code g.pc = .ok (.newarray aty, 2)) {z : Int32} {rest : List Value} (hs : g.stack = .int z :: rest)
    (hn : ¬ z < 0) (cap : Nat) (hcap : z.toNatClampNeg ≤ cap) (hb : cap * 8 ≤ 536870912) (hc : k + 1 ≤ R.cells) (hl : n + cap ≤ R.slots)
    (next : ∀ T' h' a cA, a = h.size → Ext h h' → Arr Z h' a (newA cA (newarray.typeOf aty) z) (newarray.typeOf aty) → Here p l e R s m args below meth c n0 T' h' (k + 1) (n + cap) → Go p e below Φ (T'.setTop { g with pc := g.pc + 2, stack := .ref a :: rest })) : Go p e below Φ (T.setTop g) := by
  obtain ⟨locs, X, r1, r2⟩ := H.stand
  obtain ⟨T', h', cA, X', e', E, A, st⟩ := newP X hx hZ w r1 hg hd hs hn hcap hb hc hl
  exact Go.via st (next T' h' _ cA rfl E A ⟨_, X', e', r2⟩)
theorem own_stI (H : Here p l e R s m args below meth c n0 T h k n) (hx : p.tables.exec = Jvm.exec) (hZ : Z.Warmed39 s.vm) {a : Addr} {cl : Cell} (A : Arr Z h a cl .int) {j x : Int32} (hj : ¬ (j < 0 ∨ cl.slots.size ≤ j.toNatClampNeg)) (ha : n0 ≤ a) {g : JFrame} (hg : g.method = m) {rest : List Value} (hs : g.stack = .int x :: .int j :: .ref a :: rest) (hd : decode c.code g.pc = .ok (.iastore, 1))
    (next : ∀ T' h', Wr h h' a j.toNatClampNeg (.int x) → Here p l e R s m args below meth c n0 T' h' k n → Go p e below Φ (T'.setTop { g with pc := g.pc + 1, stack := rest })) : Go p e below Φ (T.setTop g) := by
  obtain ⟨locs, X, r1, r2⟩ := H.stand
  obtain ⟨T', h', X', e', W, st⟩ := stI X hx hZ r1 A hj hg hs hd
  exact Go.via st (next T' h' W ⟨_, X', e', Fr.snoc X' r2 ha⟩)
theorem own_stB (H : Here p l e R s m args below meth c n0 T h k n) (hx : p.tables.exec = Jvm.exec) (hZ : Z.Warmed39 s.vm) {a : Addr} {cl : Cell} (A : Arr Z h a cl .byte) {j x : Int32} (hj : ¬ (j < 0 ∨ cl.slots.size ≤ j.toNatClampNeg)) (ha : n0 ≤ a) {g : JFrame} (hg : g.method = m) {rest : List Value} (hs : g.stack = .int x :: .int j :: .ref a :: rest) (hd : decode c.code g.pc = .ok (.bastore, 1))
    (next : ∀ T' h', Wr h h' a j.toNatClampNeg (.int (nar .byte x)) → Here p l e R s m args below meth c n0 T' h' k n → Go p e below Φ (T'.setTop { g with pc := g.pc + 1, stack := rest })) : Go p e below Φ (T.setTop g) := by
  obtain ⟨locs, X, r1, r2⟩ := H.stand
  obtain ⟨T', h', X', e', W, st⟩ := stB X hx hZ r1 A hj hg hs hd
  exact Go.via st (next T' h' W ⟨_, X', e', Fr.snoc X' r2 ha⟩)
theorem own_len (H : Here p l e R s m args below meth c n0 T h k n) (hx : p.tables.exec = Jvm.exec) (hZ : Z.Warmed39 s.vm) {a : Addr} {cl : Cell} {ty : FieldType} (A : Arr Z h a cl ty) {g : JFrame} (hg : g.method = m) {rest : List Value} (hs : g.stack = .ref a :: rest) (hd : decode c.code g.pc = .ok (.arraylength, 1))
    (next : Go p e below Φ (T.setTop { g with pc := g.pc + 1, stack := .int cl.slots.size.toInt32 :: rest })) : Go p e below Φ (T.setTop g) := by
  obtain ⟨locs, X, r1, r2⟩ := H.stand
  exact Go.via (fun t q => X.arraylength hx (by rw [r1]; exact A.1) (State.isArrayOf_alike hZ.alike A.2.1) hg hs hd t q) next
theorem own_ldI (H : Here p l e R s m args below meth c n0 T h k n) (hx : p.tables.exec = Jvm.exec) (hZ : Z.Warmed39 s.vm) {a : Addr} {cl : Cell} (A : Arr Z h a cl .int) {j : Int32} {v : Value} (hj : ¬ (j < 0 ∨ cl.slots.size ≤ j.toNatClampNeg)) (hv : cl.slots[j.toNatClampNeg]? = some v) {g : JFrame} (hg : g.method = m) {rest : List Value} (hs : g.stack = .int j :: .ref a :: rest) (hd : decode c.code g.pc = .ok (.iaload, 1))
    (next : Go p e below Φ (T.setTop { g with pc := g.pc + 1, stack := v :: rest })) : Go p e below Φ (T.setTop g) := by
  obtain ⟨locs, X, r1, r2⟩ := H.stand
  exact Go.via (fun t q => X.iaload hx (by rw [r1]; exact A.1) (State.isArrayOf_alike hZ.alike A.2.1) A.2.2 hj hv hg hs hd t q) next
theorem own_ldB (H : Here p l e R s m args below meth c n0 T h k n) (hx : p.tables.exec = Jvm.exec) (hZ : Z.Warmed39 s.vm) {a : Addr} {cl : Cell} (A : Arr Z h a cl .byte) {j : Int32} {v : Value} (hj : ¬ (j < 0 ∨ cl.slots.size ≤ j.toNatClampNeg)) (hv : cl.slots[j.toNatClampNeg]? = some v) {g : JFrame} (hg : g.method = m) {rest : List Value} (hs : g.stack = .int j :: .ref a :: rest) (hd : decode c.code g.pc = .ok (.baload, 1))
    (next : Go p e below Φ (T.setTop { g with pc := g.pc + 1, stack := v :: rest })) : Go p e below Φ (T.setTop g) := by
  obtain ⟨locs, X, r1, r2⟩ := H.stand
  exact Go.via (fun t q => X.baloadBytes hx (by rw [r1]; exact A.1) (State.isArrayOf_alike hZ.alike A.2.1) A.2.2 hj hv hg hs hd t q) next
/-! arrays of ints by a function of the place -/
def upd (B : Nat → Int32) (j : Nat) (v : Int32) : Nat → Int32 := fun i => if i = j then v else B i
theorem upd_hit {B : Nat → Int32} {j : Nat} {v : Int32} : upd B j v j = v := if_pos rfl
theorem upd_miss {B : Nat → Int32} {i j : Nat} {v : Int32} (q : i ≠ j) : upd B j v i = B i := if_neg q
def Ab (Z : State) (h : Heap) (a : Addr) (ty : FieldType) (n : Nat) (B : Nat → Int32) : Prop := ∃ c : Cell, Arr Z h a c ty ∧ c.slots.size = n ∧ ∀ i, i < n → c.slots[i]? = some (.int (B i))
theorem Ab.lt {a : Addr} {ty : FieldType} {B : Nat → Int32} (F : Ab Z h a ty n B) : a < h.size := by obtain ⟨c, A, -⟩ := F; exact A.lt
theorem Ab.ext {h' : Heap} {a : Addr} {ty : FieldType} {B : Nat → Int32} (F : Ab Z h a ty n B) (E : Ext h h') : Ab Z h' a ty n B := by obtain ⟨c, A, r⟩ := F; exact ⟨c, A.ext E, r⟩
theorem Ab.other {h' : Heap} {a b : Addr} {sl : Nat} {v : Value} {ty : FieldType} {B : Nat → Int32} (F : Ab Z h b ty n B) (W : Wr h h' a sl v) (q : b ≠ a) : Ab Z h' b ty n B := by obtain ⟨c, A, r⟩ := F; exact ⟨c, A.other W q, r⟩
theorem Ab.keep {h' : Heap} {a : Addr} {ws : List Addr} {ty : FieldType} {B : Nat → Int32} (F : Ab Z h a ty n B) (Kp : Keep h h' ws) (q : a ∉ ws) : Ab Z h' a ty n B := by obtain ⟨c, A, r⟩ := F; exact ⟨c, ⟨Kp.2.1 a c A.1 q, A.2⟩, r⟩
theorem Ab.set {h' : Heap} {a : Addr} {j : Nat} {v : Int32} {ty : FieldType} {B : Nat → Int32} (F : Ab Z h a ty n B) (W : Wr h h' a j (.int v)) : Ab Z h' a ty n (upd B j v) := by
  obtain ⟨c, A, S, G⟩ := F
  obtain ⟨c', q1, -, -, q4, -, q6, q7⟩ := wr_at W A.1
  obtain ⟨rfl, q8, -⟩ := q7 rfl
  refine ⟨_, A.same W, q4.trans S, fun i hi => ?_⟩
  by_cases q : i = j
  · subst q; rw [q8, upd_hit]
  · rw [q6 i q, G i hi, upd_miss q]
theorem Ab.new {a : Addr} {ty : FieldType} {kk : ClassId} {z : Int32} (A : Arr Z h a (newA kk ty z) ty) (hz : z.toNatClampNeg = n) (hd : defaultValue ty = .int 0) : Ab Z h a ty n (fun _ => 0) := by
  refine ⟨_, A, (sz_new _ _ _).trans hz, fun i hi => ?_⟩
  have hz' : z.toNatClampNeg < 2 ^ 31 := by
    by_cases q : z < 0
    · have : z.toNatClampNeg ≤ 0 := by rw [Int32.lt_iff_toInt_lt] at q; have e0 : (0 : Int32).toInt = 0 := rfl; have : z.toNatClampNeg = z.toInt.toNat := rfl; omega
      omega
    · exact (back32 q).2
  have e1 : i.toInt32.toNatClampNeg = i := by
    have q := idx_in (i := i) (n := i + 1) (Nat.lt_succ_self i) (by omega)
    have q2 : i.toInt32.toInt = i := len_toInt (by omega)
    have := nat_of (j := i.toInt32) (fun z => q (Or.inl z))
    omega
  have q0 : ¬ (i.toInt32 < 0 ∨ z.toNatClampNeg ≤ i.toInt32.toNatClampNeg) := by
    rw [hz, e1]
    intro q
    rcases q with q | q
    · have q3 : i.toInt32.toInt = i := len_toInt (by omega)
      rw [Int32.lt_iff_toInt_lt, q3] at q
      have e0 : (0 : Int32).toInt = 0 := rfl
      omega
    · omega
  have g := get_new (cA := kk) (ty := ty) (n := z) (k := i.toInt32) q0
  rw [e1] at g
  rw [g, hd]
theorem own_idx {J : Int32} {j : Nat} (e : J.toInt = (j : Int)) : ¬ J < 0 ∧ J.toNatClampNeg = j := by
  have h0 : ¬ J < 0 := by rw [Int32.lt_iff_toInt_lt]; have e0 : (0 : Int32).toInt = 0 := rfl; omega
  have := nat_of h0
  exact ⟨h0, by omega⟩
theorem own_in {c : Cell} {J : Int32} {j N' : Nat} (e : J.toInt = (j : Int)) (S : c.slots.size = N') (hj : j < N') : ¬ (J < 0 ∨ c.slots.size ≤ J.toNatClampNeg) := by
  obtain ⟨q1, q2⟩ := own_idx e
  rw [q2, S]; intro q; rcases q with q | q
  · exact q1 q
  · omega
theorem own_newA (H : Here p l e R s m args below meth c n0 T h k n) (hx : p.tables.exec = Jvm.exec) (hZ : Z.Warmed39 s.vm) {aty : ArrayType} (w : (Jvm.Cond.arrayClass (newarray.typeOf aty)).before a0 Z = true) {g : JFrame} (hg : g.method = m) (hd : decode c.code g.pc = .ok (.newarray aty, 2)) {z : Int32} {rest : List Value} (hs : g.stack = .int z :: rest)
    (hn : ¬ z < 0) (N' : Nat) (hz : z.toNatClampNeg = N') (hdv : defaultValue (newarray.typeOf aty) = .int 0) (cap : Nat) (hcap : N' ≤ cap) (hb : cap * 8 ≤ 536870912) (hc : k + 1 ≤ R.cells) (hl : n + cap ≤ R.slots)
    (next : ∀ T' h' a, a = h.size → Ext h h' → Ab Z h' a (newarray.typeOf aty) N' (fun _ => 0) → Here p l e R s m args below meth c n0 T' h' (k + 1) (n + cap) → Go p e below Φ (T'.setTop { g with pc := g.pc + 2, stack := .ref a :: rest })) : Go p e below Φ (T.setTop g) :=
  own_newP H hx hZ w hg hd hs hn cap (by rw [hz]; exact hcap) hb hc hl fun T' h' a cA q1 q2 q3 q4 => next T' h' a q1 q2 (Ab.new q3 hz hdv) q4
theorem own_stIA (H : Here p l e R s m args below meth c n0 T h k n) (hx : p.tables.exec = Jvm.exec) (hZ : Z.Warmed39 s.vm) {a : Addr} {N' : Nat} {B : Nat → Int32} (A : Ab Z h a .int N' B) {J x : Int32} {j : Nat} (ej : J.toInt = (j : Int)) (hj : j < N') (ha : n0 ≤ a) {g : JFrame} (hg : g.method = m) {rest : List Value} (hs : g.stack = .int x :: .int J :: .ref a :: rest) (hd : decode c.code g.pc = .ok (.iastore, 1))
    (next : ∀ T' h', Wr h h' a j (.int x) → Ab Z h' a .int N' (upd B j x) → Here p l e R s m args below meth c n0 T' h' k n → Go p e below Φ (T'.setTop { g with pc := g.pc + 1, stack := rest })) : Go p e below Φ (T.setTop g) := by
  have A' := A
  obtain ⟨cl, A0, S, G⟩ := A
  refine own_stI H hx hZ A0 (own_in ej S hj) ha hg hs hd fun T' h' W H' => ?_
  rw [(own_idx ej).2] at W
  exact next T' h' W (A'.set W) H'
theorem own_stBA (H : Here p l e R s m args below meth c n0 T h k n) (hx : p.tables.exec = Jvm.exec) (hZ : Z.Warmed39 s.vm) {a : Addr} {N' : Nat} {B : Nat → Int32} (A : Ab Z h a .byte N' B) {J x : Int32} {j : Nat} (ej : J.toInt = (j : Int)) (hj : j < N') (ha : n0 ≤ a) {g : JFrame} (hg : g.method = m) {rest : List Value} (hs : g.stack = .int x :: .int J :: .ref a :: rest) (hd : decode c.code g.pc = .ok (.bastore, 1))
    (next : ∀ T' h', Wr h h' a j (.int (nar .byte x)) → Ab Z h' a .byte N' (upd B j (nar .byte x)) → Here p l e R s m args below meth c n0 T' h' k n → Go p e below Φ (T'.setTop { g with pc := g.pc + 1, stack := rest })) : Go p e below Φ (T.setTop g) := by
  have A' := A
  obtain ⟨cl, A0, S, G⟩ := A
  refine own_stB H hx hZ A0 (own_in ej S hj) ha hg hs hd fun T' h' W H' => ?_
  rw [(own_idx ej).2] at W
  exact next T' h' W (A'.set W) H'
theorem own_ldIA (H : Here p l e R s m args below meth c n0 T h k n) (hx : p.tables.exec = Jvm.exec) (hZ : Z.Warmed39 s.vm) {a : Addr} {N' : Nat} {B : Nat → Int32} (A : Ab Z h a .int N' B) {J : Int32} {j : Nat} (ej : J.toInt = (j : Int)) (hj : j < N') {g : JFrame} (hg : g.method = m) {rest : List Value} (hs : g.stack = .int J :: .ref a :: rest) (hd : decode c.code g.pc = .ok (.iaload, 1))
    (next : Go p e below Φ (T.setTop { g with pc := g.pc + 1, stack := .int (B j) :: rest })) : Go p e below Φ (T.setTop g) := by
  obtain ⟨cl, A0, S, G⟩ := A
  exact own_ldI H hx hZ A0 (own_in ej S hj) (by rw [(own_idx ej).2]; exact G j hj) hg hs hd next
theorem own_ldBA (H : Here p l e R s m args below meth c n0 T h k n) (hx : p.tables.exec = Jvm.exec) (hZ : Z.Warmed39 s.vm) {a : Addr} {N' : Nat} {B : Nat → Int32} (A : Ab Z h a .byte N' B) {J : Int32} {j : Nat} (ej : J.toInt = (j : Int)) (hj : j < N') {g : JFrame} (hg : g.method = m) {rest : List Value} (hs : g.stack = .int J :: .ref a :: rest) (hd : decode c.code g.pc = .ok (.baload, 1))
    (next : Go p e below Φ (T.setTop { g with pc := g.pc + 1, stack := .int (B j) :: rest })) : Go p e below Φ (T.setTop g) := by
  obtain ⟨cl, A0, S, G⟩ := A
  exact own_ldB H hx hZ A0 (own_in ej S hj) (by rw [(own_idx ej).2]; exact G j hj) hg hs hd next
theorem own_lenA (H : Here p l e R s m args below meth c n0 T h k n) (hx : p.tables.exec = Jvm.exec) (hZ : Z.Warmed39 s.vm) {a : Addr} {N' : Nat} {B : Nat → Int32} {ty : FieldType} (A : Ab Z h a ty N' B) {z : Int32} (hz : N'.toInt32 = z) {g : JFrame} (hg : g.method = m) {rest : List Value} (hs : g.stack = .ref a :: rest) (hd : decode c.code g.pc = .ok (.arraylength, 1))
    (next : Go p e below Φ (T.setTop { g with pc := g.pc + 1, stack := .int z :: rest })) : Go p e below Φ (T.setTop g) := by
  obtain ⟨cl, A0, S, G⟩ := A
  subst S; subst hz
  exact own_len H hx hZ A0 hg hs hd next
/-! instanceof, checkcast, statics, references in arrays -/
theorem own_instY (H : Here p l e R s m args below meth c n0 T h k n) (hx : p.tables.exec = Jvm.exec) (hZ : Z.Warmed39 s.vm) {own C : String} {index : Nat} (hown : s.vm.findClass own = some m.cls) (w : (Jvm.Cond.classLink own index C).before a0 Z = true) {a : Addr} (F : Ins Z h a C true)
    {g : JFrame} (hg : g.method = m) {rest : List Value} (hs : g.stack = .ref a :: rest) (hd : decode c.code g.pc = .ok (.instanceof index, 3))
    (next : ∀ T', Here p l e R s m args below meth c n0 T' h k n → Go p e below Φ (T'.setTop { g with pc := g.pc + 3, stack := .int 1 :: rest })) : Go p e below Φ (T.setTop g) := by
  obtain ⟨locs, X, r1, r2⟩ := H.stand
  obtain ⟨T', X', e', st⟩ := instY X hx hZ hown w r1 F hg hs hd
  exact Go.via st (next T' ⟨_, X', e', r2⟩)
theorem own_instNo (H : Here p l e R s m args below meth c n0 T h k n) (hx : p.tables.exec = Jvm.exec) (hZ : Z.Warmed39 s.vm) {own C D : String} {index : Nat} (hown : s.vm.findClass own = some m.cls) (w : (Jvm.Cond.classLink own index C).before a0 Z = true) {a : Addr} (E : Exa Z h a D) (F : ∃ c t, Z.vm.findClass D = some c ∧ Z.vm.findClass C = some t ∧ Z.vm.assignable c t = false)
    {g : JFrame} (hg : g.method = m) {rest : List Value} (hs : g.stack = .ref a :: rest) (hd : decode c.code g.pc = .ok (.instanceof index, 3))
    (next : ∀ T', Here p l e R s m args below meth c n0 T' h k n → Go p e below Φ (T'.setTop { g with pc := g.pc + 3, stack := .int 0 :: rest })) : Go p e below Φ (T.setTop g) := by
  obtain ⟨locs, X, r1, r2⟩ := H.stand
  obtain ⟨T', X', e', st⟩ := instNo X hx hZ hown w r1 E F hg hs hd
  exact Go.via st (next T' ⟨_, X', e', r2⟩)
theorem own_instNull (H : Here p l e R s m args below meth c n0 T h k n) (hx : p.tables.exec = Jvm.exec) {index : Nat} {g : JFrame} (hg : g.method = m) {rest : List Value} (hs : g.stack = .null :: rest) (hd : decode c.code g.pc = .ok (.instanceof index, 3))
    (next : Go p e below Φ (T.setTop { g with pc := g.pc + 3, stack := .int 0 :: rest })) : Go p e below Φ (T.setTop g) := by
  obtain ⟨locs, X, r1, r2⟩ := H.stand
  exact Go.via (X.instanceofNull hx hg hs hd) next
theorem own_castY (H : Here p l e R s m args below meth c n0 T h k n) (hx : p.tables.exec = Jvm.exec) (hZ : Z.Warmed39 s.vm) {own C : String} {index : Nat} (hown : s.vm.findClass own = some m.cls) (w : (Jvm.Cond.classLink own index C).before a0 Z = true) {a : Addr} (F : Ins Z h a C true)
    {g : JFrame} (hg : g.method = m) {rest : List Value} (hs : g.stack = .ref a :: rest) (hd : decode c.code g.pc = .ok (.checkcast index, 3))
    (next : ∀ T', Here p l e R s m args below meth c n0 T' h k n → Go p e below Φ (T'.setTop { g with pc := g.pc + 3 })) : Go p e below Φ (T.setTop g) := by
  obtain ⟨locs, X, r1, r2⟩ := H.stand
  obtain ⟨T', X', e', st⟩ := castY X hx hZ hown w r1 F hg hs hd
  exact Go.via st (next T' ⟨_, X', e', r2⟩)
theorem own_getS (H : Here p l e R s m args below meth c n0 T h k n) (hx : p.tables.exec = Jvm.exec) (hZ : Z.Warmed39 s.vm) {own O nm d : String} {index : Nat} (hown : s.vm.findClass own = some m.cls) (w : (Jvm.Cond.fieldLink own index O nm d).before a0 Z = true) {v : Value} (F : Sta Z h O nm d v)
    {g : JFrame} (hg : g.method = m) (hd : decode c.code g.pc = .ok (.getstatic index, 3))
    (next : ∀ T', Here p l e R s m args below meth c n0 T' h k n → Go p e below Φ (T'.setTop { g with pc := g.pc + 3, stack := v :: g.stack })) : Go p e below Φ (T.setTop g) := by
  obtain ⟨locs, X, r1, r2⟩ := H.stand
  obtain ⟨T', X', e', st⟩ := getS (host := "") X hx hZ hown w Via.refl r1 F hg hd
  exact Go.via st (next T' ⟨_, X', e', r2⟩)
theorem own_ldR (H : Here p l e R s m args below meth c n0 T h k n) (hx : p.tables.exec = Jvm.exec) (hZ : Z.Warmed39 s.vm) {a : Addr} {cl : Cell} {ty : FieldType} (A : Arr Z h a cl ty) (hty : ty.isReference = true) {J : Int32} {j : Nat} {v : Value} (ej : J.toInt = (j : Int)) (hj : j < cl.slots.size) (hv : cl.slots[j]? = some v) {g : JFrame} (hg : g.method = m) {rest : List Value} (hs : g.stack = .int J :: .ref a :: rest) (hd : decode c.code g.pc = .ok (.aaload, 1))
    (next : Go p e below Φ (T.setTop { g with pc := g.pc + 1, stack := v :: rest })) : Go p e below Φ (T.setTop g) := by
  obtain ⟨locs, X, r1, r2⟩ := H.stand
  exact Go.via (fun t q => X.aaload hx (by rw [r1]; exact A.1) (State.isArrayOf_alike hZ.alike A.2.1) hty A.2.2 (own_in ej rfl hj) (by rw [(own_idx ej).2]; exact hv) hg hs hd t q) next
/-! constants -/
theorem own_ldcI (H : Here p l e R s m args below meth c n0 T h k n) (hx : p.tables.exec = Jvm.exec) (hZ : Z.Warmed39 s.vm) {own : String} {index : Nat} {v : Int32} (hown : s.vm.findClass own = some m.cls) (w : (Jvm.Cond.constant own index v).before a0 Z = true) {g : JFrame} (hg : g.method = m) (hd : decode c.code g.pc = .ok (.ldc index, 2))
    (next : Go p e below Φ (T.setTop { g with pc := g.pc + 2, stack := .int v :: g.stack })) : Go p e below Φ (T.setTop g) := by
  obtain ⟨locs, X, r1, r2⟩ := H.stand
  exact Go.via (X.ldcInt hx hown (mvT hZ w) hg hd) next
theorem own_ldcL (H : Here p l e R s m args below meth c n0 T h k n) (hx : p.tables.exec = Jvm.exec) (hZ : Z.Warmed39 s.vm) {own : String} {index : Nat} {v : Int64} (hown : s.vm.findClass own = some m.cls) (w : (Jvm.Cond.constantLong own index v).before a0 Z = true) {g : JFrame} (hg : g.method = m) (hd : decode c.code g.pc = .ok (.ldc2_w index, 3))
    (next : Go p e below Φ (T.setTop { g with pc := g.pc + 3, stack := .long v :: g.stack })) : Go p e below Φ (T.setTop g) := by
  obtain ⟨locs, X, r1, r2⟩ := H.stand
  exact Go.via (X.ldc2Long hx hown (mvT hZ w) hg hd) next
/-! comparisons of longs -/
theorem own_llt {x y : Int64} (q : x < y) : ifCond.holds .lt (lcmpW x y) = true ∧ ifCond.holds .ge (lcmpW x y) = false := by
  have := (lw_lt x y).mpr q; rw [if0, if0]; exact ⟨(tlt this).1, (tlt this).2.1⟩
theorem own_nlt {x y : Int64} (q : ¬ x < y) : ifCond.holds .lt (lcmpW x y) = false ∧ ifCond.holds .ge (lcmpW x y) = true := by
  have : ¬ lcmpW x y < 0 := fun z => q ((lw_lt x y).mp z); rw [if0, if0]; exact ⟨(flt this).1, (flt this).2.1⟩
theorem own_lgt {x y : Int64} (q : y < x) : ifCond.holds .gt (lcmpW x y) = true ∧ ifCond.holds .le (lcmpW x y) = false := by
  have := (lw_gt x y).mpr q; rw [if0, if0]; exact ⟨(tlt this).2.2.1, (tlt this).2.2.2⟩
theorem own_ngt {x y : Int64} (q : ¬ y < x) : ifCond.holds .gt (lcmpW x y) = false ∧ ifCond.holds .le (lcmpW x y) = true := by
  have : ¬ 0 < lcmpW x y := fun z => q ((lw_gt x y).mp z); rw [if0, if0]; exact ⟨(flt this).2.2.1, (flt this).2.2.2⟩
theorem own_leq {x y : Int64} (q : x = y) : ifCond.holds .eq (lcmpW x y) = true ∧ ifCond.holds .ne (lcmpW x y) = false := by
  have := (lw_eq x y).mpr q; rw [if0, if0]; exact ⟨(teq this).1, (teq this).2⟩
theorem own_neq {x y : Int64} (q : ¬ x = y) : ifCond.holds .eq (lcmpW x y) = false ∧ ifCond.holds .ne (lcmpW x y) = true := by
  have : ¬ lcmpW x y = 0 := fun z => q ((lw_eq x y).mp z); rw [if0, if0]; exact ⟨(feq this).1, (feq this).2⟩
end Own
/-! LITERALS: a walk that may intern. The Stand is over the start with re-based tables; Lb keeps the books. -/
def FiniW (below : List Frame) (s : State) (n0 : Nat) (Q : Option Value → Heap → Prop) (K N : Nat) (t : State) (o : Outcome) : Prop :=
  t.status = .running ∧ Ended t below o ∧ ∃ v L, o = .returned v ∧ (Q v t.heap ∧ Fr n0 L) ∧ ReturnedEndW s o t L K N
def Lb (Z s : State) (vm0 : Vm) (h : Heap) (Ts : List String) : Prop := (∃ k0, s.Since vm0 k0 ∧ k0 ≤ h.size) ∧ IB Z vm0 Ts
section OwnS
variable {p : Program} {l : Launch} {e : Env} {R : Room} {s : State} {m : MethodId} {args : Array Value} {below : List Frame} {meth : Method} {c : Code} {T : State} {h : Heap} {k n n0 K N : Nat} {Q : Option Value → Heap → Prop} {Z : State} {a0 : Array Value} {Φ : State → Outcome → Prop} {vm0 : Vm} {Ts : List String}
theorem Lb.grow {h' : Heap} (B : Lb Z s vm0 h Ts) (q : h.size ≤ h'.size) : Lb Z s vm0 h' Ts := by
  obtain ⟨⟨k0, b1, b2⟩, b3⟩ := B; exact ⟨⟨k0, b1, Nat.le_trans b2 q⟩, b3⟩
theorem own_enterW {y : MethodName} {code : ByteArray} {maxL : Nat} {ret : Option FieldType} {as : Array Value} {h0 : Heap} {ws : List Jvm.Cond} (hpl : plainFor y = true) (hn0 : n0 = Z.heap.size) (hh0 : h0 = Z.heap)
    (body : ∀ (p : Program) (e : Env) (m : MethodId) (below : List Frame) (meth : Method) (c : Code) (T : State), p.tables.exec = Jvm.exec → c.code = code → c.maxLocals = maxL → (Z.setVm Z.vm).vm.findClass y.cls = some m.cls → meth.name = y.name → Z.Warmed39 (Z.setVm Z.vm).vm → meth.sig.returnType = ret → meth.locks = false → Here p l e R (Z.setVm Z.vm) m as below meth c n0 T h0 0 0 → Lb Z Z Z.vm h0 [] → Go p e below (FiniW below Z n0 Q R.cells R.slots) (T.setTop (entryFrame m as maxL))) :
    MetFree l y (head1 (Jvm.Cond.code y code maxL ret :: ws) R) (fun a U => a = as ∧ U = Z) (fun _ _ _ _ _ => True) (fun _ U o U' => ∃ v L, o = .returned v ∧ (Q v U'.heap ∧ Fr n0 L) ∧ ReturnedEndW U o U' L R.cells R.slots) := by
  refine MetFree.of_bodySF hpl hisR ?_
  intro p e s m args below meth c s₁ Bd hml0 hP hK
  obtain ⟨rfl, rfl⟩ := hP
  subst hn0 hh0
  exact body p e m below meth c s₁ Bd.exec Bd.bytes hml0 (findClass_of_methodNamed Bd.named) (name_of_methodNamed Bd.named Bd.method).1 (State.Warmed39.refl _) Bd.returns Bd.notSynchronized ⟨[], Stand.of_body Bd, by rw [Bd.state]; rfl, Fr.nil _⟩ ⟨⟨_, (State.WarmedH.refl _).since _, Nat.le_refl _⟩, IB.start⟩
theorem own_retNW (H : Here p l e R (s.setVm vm0) m args below meth c n0 T h k n) (LB : Lb Z s vm0 h Ts) (hx : p.tables.exec = Jvm.exec) (hlk : meth.locks = false) {t : FieldType} (ht : t = .boolean ∨ t = .byte ∨ t = .char ∨ t = .short) (hret : meth.sig.returnType = some t) {pc : Nat} {Ls : Array Slot} {z : Int32} {rest : List Value} (hd : decode c.code pc = .ok (.ireturn, 1)) (hQ : Q (some (.int (nar t z))) h) (hk : k ≤ K) (hn : n ≤ N) :
    Go p e below (FiniW below s n0 Q K N) (T.setTop (mkF m pc Ls (.int z :: rest))) := by
  obtain ⟨locs, X, rfl, F0⟩ := H
  obtain ⟨⟨k0, b1, b2⟩, b3⟩ := LB
  obtain ⟨fs, hr, hrun, hended, q1, q2, q3, q4⟩ := X.leaveW (v := some (.int (nar t z))) b1 b2 (fun q => by rw [hret] at q; cases q) hlk
  exact ⟨_, _, retN X hx hret ht hd hr, hrun, hended, _, locs, rfl, ⟨hQ, F0⟩, q1, q2, q3, q4.mono hk hn⟩
theorem own_Arv {a : Addr} {kk : ClassId} {z : Int32} {bs : List Int32} (F : Arv Z h a kk .byte z (bs.map Value.int) (.int 0)) (hz : z.toNatClampNeg = bs.length) : Ab Z h a .byte bs.length (fun j => bs.getD j 0) := by
  obtain ⟨cl, A, -, S, -, G, -⟩ := F
  refine ⟨cl, A, S.trans hz, fun i hi => ?_⟩
  rw [G i (by rw [S, hz]; exact hi)]
  congr 1
  show _ = Value.int (bs.getD i 0)
  rw [List.getD_eq_getElem?_getD, List.getElem?_map, List.getD_eq_getElem?_getD]
  cases bs[i]? <;> rfl
theorem own_ldcS (H : Here p l e R (Z.setVm vm0) m args below meth c n0 T h k n) (LB : Lb Z Z vm0 h Ts) (hn0 : n0 = Z.heap.size) (hx : p.tables.exec = Jvm.exec) (hZ : Z.Warmed39 (Z.setVm vm0).vm) {own text : String} {index : Nat} (hown : (Z.setVm vm0).vm.findClass own = some m.cls) (w : (Jvm.Cond.stringLink own index text).before a0 Z = true) (wS : ∀ a ∈ Bundle.stringAtoms, a.before a0 Z = true)
    (hnot : text ∉ Ts) (hh : Jvm.Lit.constHeld Z own index) (hcw : Jvm.Lit.compactW.before a0 Z = true) (bs : List Int32) (z : Int32) (ht : (∀ c ∈ text.toList, c.toNat < 256) ∧ text.toList.map (fun c => Value.int (Jvm.Lit.byteI c.toNat.toUInt16)) = bs.map Value.int) (hz : ¬ z < 0) (hl : z.toNatClampNeg = bs.length)
    {g : JFrame} (hg : g.method = m) (hd : decode c.code g.pc = .ok (.ldc index, 2)) (nn : Nat) (hn : 4 * text.toList.length ≤ nn) (hbig : nn ≤ 536870912) (hc : k + 2 ≤ R.cells) (hl' : n + (nn + 4) ≤ R.slots)
    (next : ∀ a b T' h', Ext h h' → Exa Z h' a "java/lang/String" → Fld Z h' a "java/lang/String" "coder" "B" (.int 0) → Fld Z h' a "java/lang/String" "value" "[B" (.ref b) → Ab Z h' b .byte bs.length (fun j => bs.getD j 0) → Lb Z Z T'.vm h' (text :: Ts) → Z.Warmed39 (Z.setVm T'.vm).vm → (Z.setVm T'.vm).vm.findClass own = some m.cls → Here p l e R (Z.setVm T'.vm) m args below meth c n0 T' h' (k + 2) (n + (nn + 4)) → Go p e below Φ (T'.setTop { g with pc := g.pc + 2, stack := .ref a :: g.stack })) : Go p e below Φ (T.setTop g) := by
  obtain ⟨locs, X, r1, r2⟩ := H.stand
  obtain ⟨⟨k0, b1, b2⟩, b3⟩ := LB
  obtain ⟨a, T', h', k1, b, kk, X', e', E, s1, s2, hZ', hown', E', C', V', K', -, -, I', st⟩ := ldcSV X hx hZ hown w wS r1 b1 b2 (hn0 ▸ r2) (fun _ _ q => q) b3 hnot hh hcw ht hz (by rw [hl, List.length_map]) hg hd hn hbig hc hl'
  exact Go.via st (next a b T' h' E E' C' V' (own_Arv K' hl) ⟨⟨k1, s1, s2⟩, I'⟩ hZ' hown' ⟨_, X', e', r2⟩)
end OwnS
/-! WIDE CONTRACTS: callees that load literals whose text doesn't matter -/
def Lw (s : State) (vm0 : Vm) (h : Heap) : Prop := ∃ k0, s.Since vm0 k0 ∧ k0 ≤ h.size
def CMW (l : Launch) (Z : State) (y : MethodName) (code : ByteArray) (maxL : Nat) (ret : Option FieldType) (R : Room) (as : Array Value) (h0 : Heap) (n0 : Nat) (Q : Option Value → Heap → Prop) : Prop :=
  ∀ ws, MetFree l y (head1 (Jvm.Cond.code y code maxL ret :: ws) R) (fun a U => a = as ∧ Z.Warmed39 U.vm ∧ U.heap = h0) (fun _ _ _ _ _ => True) (fun _ U o U' => ∃ v L, o = .returned v ∧ (Q v U'.heap ∧ Fr n0 L) ∧ ReturnedEndW U o U' L R.cells R.slots)
section OwnW
variable {p : Program} {l : Launch} {e : Env} {R : Room} {s : State} {m : MethodId} {args : Array Value} {below : List Frame} {meth : Method} {c : Code} {T : State} {h : Heap} {k n n0 K N : Nat} {Q : Option Value → Heap → Prop} {Z : State} {a0 : Array Value} {Φ : State → Outcome → Prop} {vm0 : Vm}
theorem Lw.grow {h' : Heap} (B : Lw s vm0 h) (q : h.size ≤ h'.size) : Lw s vm0 h' := by obtain ⟨k0, b1, b2⟩ := B; exact ⟨k0, b1, Nat.le_trans b2 q⟩
theorem own_enterC {y : MethodName} {code : ByteArray} {maxL : Nat} {ret : Option FieldType} {as : Array Value} {h0 : Heap} (hpl : plainFor y = true)
    (body : ∀ (p : Program) (e : Env) (s : State) (m : MethodId) (below : List Frame) (meth : Method) (c : Code) (T : State), p.tables.exec = Jvm.exec → c.code = code → c.maxLocals = maxL → (s.setVm s.vm).vm.findClass y.cls = some m.cls → meth.name = y.name → Z.Warmed39 (s.setVm s.vm).vm → meth.sig.returnType = ret → meth.locks = false → Here p l e R (s.setVm s.vm) m as below meth c n0 T h0 0 0 → Lw s s.vm h0 → Go p e below (FiniW below s n0 Q R.cells R.slots) (T.setTop (entryFrame m as maxL))) :
    CMW l Z y code maxL ret R as h0 n0 Q := by
  intro ws
  refine MetFree.of_bodySF hpl hisR ?_
  intro p e s m args below meth c s₁ Bd hml0 hP hK
  obtain ⟨rfl, hZ, hh⟩ := hP
  exact body p e s m below meth c s₁ Bd.exec Bd.bytes hml0 (findClass_of_methodNamed Bd.named) (name_of_methodNamed Bd.named Bd.method).1 hZ Bd.returns Bd.notSynchronized ⟨[], Stand.of_body Bd, by rw [← hh, Bd.state]; rfl, Fr.nil _⟩ ⟨h0.size, (State.WarmedH.refl _).since _, Nat.le_refl _⟩
theorem own_retVC (H : Here p l e R (s.setVm vm0) m args below meth c n0 T h k n) (LB : Lw s vm0 h) (hx : p.tables.exec = Jvm.exec) (hlk : meth.locks = false) (hret : meth.sig.returnType = none) {pc : Nat} {Ls : Array Slot} (hd : decode c.code pc = .ok (.return_, 1)) (hQ : Q none h) (hk : k ≤ K) (hn : n ≤ N) :
    Go p e below (FiniW below s n0 Q K N) (T.setTop (mkF m pc Ls [])) := by
  obtain ⟨locs, X, rfl, F0⟩ := H
  obtain ⟨k0, b1, b2⟩ := LB
  obtain ⟨fs, hr, hrun, hended, q1, q2, q3, q4⟩ := X.leaveW (v := none) b1 b2 (fun _ => rfl) hlk
  exact ⟨_, _, X.returnOut hx hret hd hr, hrun, hended, _, locs, rfl, ⟨hQ, F0⟩, q1, q2, q3, q4.mono hk hn⟩
theorem own_retNC (H : Here p l e R (s.setVm vm0) m args below meth c n0 T h k n) (LB : Lw s vm0 h) (hx : p.tables.exec = Jvm.exec) (hlk : meth.locks = false) {t : FieldType} (ht : t = .boolean ∨ t = .byte ∨ t = .char ∨ t = .short) (hret : meth.sig.returnType = some t) {pc : Nat} {Ls : Array Slot} {z : Int32} {rest : List Value} (hd : decode c.code pc = .ok (.ireturn, 1)) (hQ : Q (some (.int (nar t z))) h) (hk : k ≤ K) (hn : n ≤ N) :
    Go p e below (FiniW below s n0 Q K N) (T.setTop (mkF m pc Ls (.int z :: rest))) := by
  obtain ⟨locs, X, rfl, F0⟩ := H
  obtain ⟨k0, b1, b2⟩ := LB
  obtain ⟨fs, hr, hrun, hended, q1, q2, q3, q4⟩ := X.leaveW (v := some (.int (nar t z))) b1 b2 (fun q => by rw [hret] at q; cases q) hlk
  exact ⟨_, _, retN X hx hret ht hd hr, hrun, hended, _, locs, rfl, ⟨hQ, F0⟩, q1, q2, q3, q4.mono hk hn⟩
theorem own_ldcC (H : Here p l e R (s.setVm vm0) m args below meth c n0 T h k n) (LB : Lw s vm0 h) (hx : p.tables.exec = Jvm.exec) (hZ : Z.Warmed39 (s.setVm vm0).vm) {own text : String} {index : Nat} (hown : (s.setVm vm0).vm.findClass own = some m.cls) (w : (Jvm.Cond.stringLink own index text).before a0 Z = true) (wS : ∀ a ∈ Bundle.stringAtoms, a.before a0 Z = true)
    {g : JFrame} (hg : g.method = m) (hd : decode c.code g.pc = .ok (.ldc index, 2)) (nn : Nat) (hn : 4 * text.toList.length ≤ nn) (hbig : nn ≤ 536870912) (hc : k + 2 ≤ R.cells) (hl' : n + (nn + 4) ≤ R.slots)
    (next : ∀ a T' h', Ext h h' → Lw s T'.vm h' → Z.Warmed39 (s.setVm T'.vm).vm → (s.setVm T'.vm).vm.findClass own = some m.cls → Here p l e R (s.setVm T'.vm) m args below meth c n0 T' h' (k + 2) (n + (nn + 4)) → Go p e below Φ (T'.setTop { g with pc := g.pc + 2, stack := .ref a :: g.stack })) : Go p e below Φ (T.setTop g) := by
  obtain ⟨locs, X, r1, r2⟩ := H.stand
  obtain ⟨k0, b1, b2⟩ := LB
  obtain ⟨a, T', h', k1, X', e', E, s1, s2, hZ', hown', st⟩ := ldcS X hx hZ hown w wS r1 b1 b2 hg hd hn hbig hc hl'
  exact Go.via st (next a T' h' E ⟨k1, s1, s2⟩ hZ' hown' ⟨_, X', e', r2⟩)
theorem own_callIC (H : Here p l e R (s.setVm vm0) m args below meth c n0 T h k n) (LB : Lw s vm0 h) (hx : p.tables.exec = Jvm.exec) (hZ : Z.Warmed39 (s.setVm vm0).vm) {own : String} {index : Nat} {y : MethodName} {bytes : ByteArray} {maxL : Nat} {rm : Room} {a : Addr} {argsL rest : List Value} {Q' : Option Value → Heap → Prop}
    (hy1 : y.name = "<init>") (hown : (s.setVm vm0).vm.findClass own = some m.cls) (w1 : (Jvm.Cond.methodLink own index y).before a0 Z = true) (w2 : (Jvm.Cond.instanceMethod y).before a0 Z = true) (w3 : (Jvm.Cond.initialized y.cls).before a0 Z = true) (w4 : (Jvm.Cond.code y bytes maxL none).before a0 Z = true)
    (hy : y.cls ≠ "java/lang/invoke/MethodHandle" ∧ y.cls ≠ "java/lang/invoke/VarHandle") (hM : CMW l Z y bytes maxL none rm (Value.ref a :: argsL).toArray h n0 Q')
    {g : JFrame} (hg : g.method = m) (hsize : g.locals.size = c.maxLocals) (hlen : ∀ sig, parseMethodDescriptor y.desc = some sig → argsL.length = sig.parameters.length)
    (hstack : g.stack = argsL.reverse ++ .ref a :: rest) (W : Nat) (hW : 2 * g.monitorRoom + (rest.map fun v => v.category).sum ≤ W) (hd : decode c.code g.pc = .ok (.invokespecial index, 3))
    (hf : rm.frames + 1 ≤ R.frames) (hl : W + (maxL + 11) + rm.locals ≤ R.locals) (hc : k + rm.cells ≤ R.cells) (hs : n + rm.slots ≤ R.slots)
    (next : ∀ v T' h', Q' v h' → Lw s T'.vm h' → Z.Warmed39 (s.setVm T'.vm).vm → (s.setVm T'.vm).vm.findClass own = some m.cls → Here p l e R (s.setVm T'.vm) m args below meth c n0 T' h' (k + rm.cells) (n + rm.slots) → Go p e below Φ (T'.setTop { g with pc := g.pc + 3, stack := v.toList ++ rest })) :
    Go p e below Φ (T.setTop g) := by
  obtain ⟨locs, X, rfl, F⟩ := H
  obtain ⟨k0, b1, b2⟩ := LB
  obtain ⟨v, _, ⟨T3, L3, k3, n3⟩, -, X3, hS3, hg3, ⟨Lc3, hQ3, l3, y3, z3⟩, st3⟩ := X.specialBackS hx (y := y) hy1 hown (mvT hZ w1) (mvT hZ w2) (mvT hZ w4) hy (backOfS (W := W) (Q := fun v h L => Q' v h ∧ Fr n0 L) (hM []) hZ w4 w3 hf hl) (g := g) hg hsize (Steps.refl _) (a := a) (argsL := argsL) (rest := rest) hlen hstack hW hd (fun _ _ => ⟨rfl, rfl, hc, hs⟩)
  dsimp only [Pt.U, Pt.locs, Pt.cells, Pt.slots] at X3 l3 y3 z3 st3 hQ3 hS3 hg3
  subst l3 y3 z3
  have hS4 := foldS b1 b2 hS3 hg3
  exact Go.via (fun t q => st3.trans q) (next v T3 T3.heap hQ3.1 ⟨_, hS4, Nat.le_refl _⟩ (State.Warmed39.trans (t := s.setVm vm0) hZ hS3.1) (by rw [show (s.setVm T3.vm).vm = T3.vm from rfl, hS3.1.alike.findClass]; exact hown) ⟨_, X3, rfl, F.app hQ3.2⟩)
/-! arrays of references by a function of the place -/
def updV (W : Nat → Value) (j : Nat) (v : Value) : Nat → Value := fun i => if i = j then v else W i
theorem updV_hit {W : Nat → Value} {j : Nat} {v : Value} : updV W j v j = v := if_pos rfl
theorem updV_miss {W : Nat → Value} {i j : Nat} {v : Value} (q : i ≠ j) : updV W j v i = W i := if_neg q
def Av (Z : State) (h : Heap) (a : Addr) (ty : FieldType) (n : Nat) (cA : ClassId) (W : Nat → Value) : Prop := ∃ c : Cell, Arr Z h a c ty ∧ c.cls = cA ∧ c.slots.size = n ∧ ∀ i, i < n → c.slots[i]? = some (W i)
theorem Av.lt {a : Addr} {ty : FieldType} {cA : ClassId} {W : Nat → Value} (F : Av Z h a ty n cA W) : a < h.size := by obtain ⟨c, A, -⟩ := F; exact A.lt
theorem Av.ext {h' : Heap} {a : Addr} {ty : FieldType} {cA : ClassId} {W : Nat → Value} (F : Av Z h a ty n cA W) (E : Ext h h') : Av Z h' a ty n cA W := by obtain ⟨c, A, r⟩ := F; exact ⟨c, A.ext E, r⟩
theorem Av.other {h' : Heap} {a b : Addr} {sl : Nat} {v : Value} {ty : FieldType} {cA : ClassId} {W : Nat → Value} (F : Av Z h b ty n cA W) (Wh : Wr h h' a sl v) (q : b ≠ a) : Av Z h' b ty n cA W := by obtain ⟨c, A, r⟩ := F; exact ⟨c, A.other Wh q, r⟩
theorem Av.keep {h' : Heap} {a : Addr} {ws : List Addr} {ty : FieldType} {cA : ClassId} {W : Nat → Value} (F : Av Z h a ty n cA W) (Kp : Keep h h' ws) (q : a ∉ ws) : Av Z h' a ty n cA W := by obtain ⟨c, A, r⟩ := F; exact ⟨c, ⟨Kp.2.1 a c A.1 q, A.2⟩, r⟩
theorem Av.congr {a : Addr} {ty : FieldType} {cA : ClassId} {W W' : Nat → Value} (F : Av Z h a ty n cA W) (q : ∀ i, i < n → W i = W' i) : Av Z h a ty n cA W' := by obtain ⟨c, A, r1, r2, r3⟩ := F; exact ⟨c, A, r1, r2, fun i hi => by rw [← q i hi]; exact r3 i hi⟩
theorem Av.set {h' : Heap} {a : Addr} {j : Nat} {v : Value} {ty : FieldType} {cA : ClassId} {W : Nat → Value} (F : Av Z h a ty n cA W) (Wh : Wr h h' a j v) : Av Z h' a ty n cA (updV W j v) := by
  obtain ⟨c, A, r, S, G⟩ := F
  obtain ⟨c', q1, q2, -, q4, -, q6, q7⟩ := wr_at Wh A.1
  obtain ⟨rfl, q8, -⟩ := q7 rfl
  refine ⟨_, A.same Wh, q2.trans r, q4.trans S, fun i hi => ?_⟩
  by_cases q : i = j
  · subst q; rw [q8, updV_hit]
  · rw [q6 i q, G i hi, updV_miss q]
theorem Av.new {a : Addr} {ty : FieldType} {kk : ClassId} {z : Int32} (A : Arr Z h a (newA kk ty z) ty) (hz : z.toInt = (n : Int)) (hd : defaultValue ty = .null) : Av Z h a ty n kk (fun _ => .null) := by
  obtain ⟨q1, q2⟩ := own_idx hz
  refine ⟨_, A, rfl, (sz_new _ _ _).trans q2, fun i hi => ?_⟩
  have hz' := (back32 q1).2
  have e1 : i.toInt32.toInt = i := len_toInt (by omega)
  obtain ⟨q3, q4⟩ := own_idx e1
  have g := get_new (cA := kk) (ty := ty) (n := z) (k := i.toInt32) (by rw [q2, q4]; exact fun q => q.elim q3 (fun q => absurd q (by omega)))
  rw [q4] at g
  rw [g, hd]
theorem own_newR (H : Here p l e R s m args below meth c n0 T h k n) (hx : p.tables.exec = Jvm.exec) (hZ : Z.Warmed39 s.vm) {own C ad : String} {index : Nat} (hown : s.vm.findClass own = some m.cls) (w1 : (Jvm.Cond.classLink own index C).before a0 Z = true) (w2 : (Jvm.Cond.arrayOver (.object C)).before a0 Z = true) (had : "[" ++ (FieldType.object C).toString = ad)
    {g : JFrame} (hg : g.method = m) (hd : decode c.code g.pc = .ok (.anewarray index, 3)) {z : Int32} {rest : List Value} (hs : g.stack = .int z :: rest) {N' : Nat} (hz : z.toInt = (N' : Int)) (cap : Nat) (hcap : N' ≤ cap) (hb : cap * 8 ≤ 536870912) (hc : k + 1 ≤ R.cells) (hl : n + cap ≤ R.slots)
    (next : ∀ T' h' a cA, a = h.size → Ext h h' → Av Z h' a (.object C) N' cA (fun _ => .null) → Exa Z h' a ad → Ovr Z cA C → Here p l e R s m args below meth c n0 T' h' (k + 1) (n + cap) → Go p e below Φ (T'.setTop { g with pc := g.pc + 3, stack := .ref a :: rest })) : Go p e below Φ (T.setTop g) := by
  obtain ⟨locs, X, r1, r2⟩ := H.stand
  obtain ⟨q1, q2⟩ := own_idx hz
  obtain ⟨T', h', cA, X', e', E, A, Ex, O, st⟩ := newRE X hx hZ hown w1 w2 r1 hg hd hs q1 (by rw [q2]; exact hcap) hb hc hl had
  exact Go.via st (next T' h' _ cA rfl E (Av.new A hz rfl) Ex O ⟨_, X', e', r2⟩)
theorem own_newRA (H : Here p l e R s m args below meth c n0 T h k n) (hx : p.tables.exec = Jvm.exec) (hZ : Z.Warmed39 s.vm) {own C ad : String} {ty : FieldType} {index : Nat} (hown : s.vm.findClass own = some m.cls) (hC : (FieldType.array ty).toString = C) (w1 : (Jvm.Cond.classLink own index C).before a0 Z = true) (w2 : (Jvm.Cond.arrayOver (.array ty)).before a0 Z = true) (had : "[" ++ C = ad)
    {g : JFrame} (hg : g.method = m) (hd : decode c.code g.pc = .ok (.anewarray index, 3)) {z : Int32} {rest : List Value} (hs : g.stack = .int z :: rest) {N' : Nat} (hz : z.toInt = (N' : Int)) (cap : Nat) (hcap : N' ≤ cap) (hb : cap * 8 ≤ 536870912) (hc : k + 1 ≤ R.cells) (hl : n + cap ≤ R.slots)
    (next : ∀ T' h' a cA, a = h.size → Ext h h' → Av Z h' a (.array ty) N' cA (fun _ => .null) → OvrA Z cA ty C → Here p l e R s m args below meth c n0 T' h' (k + 1) (n + cap) → Go p e below Φ (T'.setTop { g with pc := g.pc + 3, stack := .ref a :: rest })) : Go p e below Φ (T.setTop g) := by
  obtain ⟨locs, X, r1, r2⟩ := H.stand
  obtain ⟨q1, q2⟩ := own_idx hz
  obtain ⟨T', h', cA, X', e', E, A, -, O, st⟩ := newRA X hx hZ hown hC w1 w2 r1 hg hd hs q1 (by rw [q2]; exact hcap) hb hc hl had
  exact Go.via st (next T' h' _ cA rfl E (Av.new A hz rfl) O ⟨_, X', e', r2⟩)
theorem own_stRA (H : Here p l e R s m args below meth c n0 T h k n) (hx : p.tables.exec = Jvm.exec) (hZ : Z.Warmed39 s.vm) {a : Addr} {ty : FieldType} {N' : Nat} {cA : ClassId} {W : Nat → Value} (A : Av Z h a ty N' cA W) (hty : ty.isReference = true) {J : Int32} {j : Nat} {v : Value} (F : ∀ cl, Arr Z h a cl ty → cl.cls = cA → Sto Z h a v) (ej : J.toInt = (j : Int)) (hj : j < N') (ha : n0 ≤ a) {g : JFrame} (hg : g.method = m) {rest : List Value} (hs : g.stack = v :: .int J :: .ref a :: rest) (hd : decode c.code g.pc = .ok (.aastore, 1))
    (next : ∀ T' h', Wr h h' a j v → Av Z h' a ty N' cA (updV W j v) → Here p l e R s m args below meth c n0 T' h' k n → Go p e below Φ (T'.setTop { g with pc := g.pc + 1, stack := rest })) : Go p e below Φ (T.setTop g) := by
  have A' := A
  obtain ⟨cl, A0, r, S, G⟩ := A
  obtain ⟨locs, X, r1, r2⟩ := H.stand
  obtain ⟨T', h', X', e', Wh, st⟩ := stR X hx hZ r1 A0 (own_in ej S hj) hty (F cl A0 r) hg hs hd
  have Wh' := Wh
  rw [(own_idx ej).2] at Wh'
  exact Go.via st (next T' h' Wh' (A'.set Wh') ⟨_, X', e', Fr.snoc X' r2 ha⟩)
theorem own_ldRA (H : Here p l e R s m args below meth c n0 T h k n) (hx : p.tables.exec = Jvm.exec) (hZ : Z.Warmed39 s.vm) {a : Addr} {ty : FieldType} {N' : Nat} {cA : ClassId} {W : Nat → Value} (A : Av Z h a ty N' cA W) (hty : ty.isReference = true) {J : Int32} {j : Nat} (ej : J.toInt = (j : Int)) (hj : j < N') {v : Value} (hv : W j = v) {g : JFrame} (hg : g.method = m) {rest : List Value} (hs : g.stack = .int J :: .ref a :: rest) (hd : decode c.code g.pc = .ok (.aaload, 1))
    (next : Go p e below Φ (T.setTop { g with pc := g.pc + 1, stack := v :: rest })) : Go p e below Φ (T.setTop g) := by
  obtain ⟨cl, A0, r, S, G⟩ := A
  exact own_ldR H hx hZ A0 hty ej (by rw [S]; exact hj) (by rw [← hv]; exact G j hj) hg hs hd next
theorem own_lenV (H : Here p l e R s m args below meth c n0 T h k n) (hx : p.tables.exec = Jvm.exec) (hZ : Z.Warmed39 s.vm) {a : Addr} {ty : FieldType} {N' : Nat} {cA : ClassId} {W : Nat → Value} (A : Av Z h a ty N' cA W) {z : Int32} (hz : N'.toInt32 = z) {g : JFrame} (hg : g.method = m) {rest : List Value} (hs : g.stack = .ref a :: rest) (hd : decode c.code g.pc = .ok (.arraylength, 1))
    (next : Go p e below Φ (T.setTop { g with pc := g.pc + 1, stack := .int z :: rest })) : Go p e below Φ (T.setTop g) := by
  obtain ⟨cl, A0, r, S, G⟩ := A
  subst S; subst hz
  exact own_len H hx hZ A0 hg hs hd next
end OwnW
def mkP (P : Nat → Nat → Bool) (b t : Nat) (q : Bool) : Nat → Nat → Bool := fun b' i => (q && decide (b' = b) && decide (i = t)) || P b' i
def cnd (cnt bits t : Int32) : Bool := decide (t < cnt) && !decide (((bits >>> (t &&& 31)) &&& (1 : Int32)) = 0)
theorem mkP_false (P : Nat → Nat → Bool) (b t : Nat) : mkP P b t false = P := by funext b' i; simp [mkP]
def anyB (p : Nat → Bool) : Nat → Nat → Bool
  | 0, _ => false
  | k + 1, i => p i || anyB p k (i + 1)
def RejAt (Z : State) (h : Heap) (n0 : Nat) (o ta ba : Addr) (tt : Nat → Addr) (cc : Nat → Nat) (f : Addr) (P : Nat → Nat → Bool) : Prop :=
  Exa Z h o "com/example/perekaz/perekaz/Rejections" ∧ Fld Z h o "com/example/perekaz/perekaz/Rejections" "transactions" "[[Lcom/example/perekaz/perekaz/Finding;" (.ref ta) ∧ Fld Z h o "com/example/perekaz/perekaz/Rejections" "blocks" "[Lcom/example/perekaz/perekaz/Finding;" (.ref ba) ∧ (∃ kT, Av Z h ta (.array (.object "com/example/perekaz/perekaz/Finding")) 2 kT (fun b => .ref (tt b))) ∧
  (∀ b, b < 2 → ∃ kb, Av Z h (tt b) (.object "com/example/perekaz/perekaz/Finding") (cc b) kb (fun i => if P b i = true then .ref f else .null) ∧ Ovr Z kb "com/example/perekaz/perekaz/Finding") ∧ (∃ kb Wb, Av Z h ba (.object "com/example/perekaz/perekaz/Finding") 2 kb Wb ∧ Ovr Z kb "com/example/perekaz/perekaz/Finding") ∧
  tt 0 ≠ tt 1 ∧ (∀ b, b < 2 → tt b ≠ ta ∧ tt b ≠ ba ∧ tt b ≠ o ∧ n0 ≤ tt b) ∧ ba ≠ ta ∧ ba ≠ o ∧ n0 ≤ ba
theorem RejAt.keep0 {Z : State} {h h' : Heap} {n0 : Nat} {o ta ba f : Addr} {tt : Nat → Addr} {cc : Nat → Nat} {P : Nat → Nat → Bool} (A : RejAt Z h n0 o ta ba tt cc f P) (K : Keep h h' []) : RejAt Z h' n0 o ta ba tt cc f P := by
  obtain ⟨a1, a2, a3, ⟨kT, a4⟩, a5, ⟨kb, Wb, a6, a6'⟩, r⟩ := A
  exact ⟨a1.keep K, a2.keep K nin0, a3.keep K nin0, ⟨kT, a4.keep K nin0⟩, fun b hb => by obtain ⟨k, q1, q2⟩ := a5 b hb; exact ⟨k, q1.keep K nin0, q2⟩, ⟨kb, Wb, a6.keep K nin0, a6'⟩, r⟩
theorem RejAt.blk {Z : State} {h h' : Heap} {n0 : Nat} {o ta ba f : Addr} {tt : Nat → Addr} {cc : Nat → Nat} {P : Nat → Nat → Bool} {j : Nat} {v : Value} (A : RejAt Z h n0 o ta ba tt cc f P) (W : Wr h h' ba j v) : RejAt Z h' n0 o ta ba tt cc f P := by
  obtain ⟨a1, a2, a3, ⟨kT, a4⟩, a5, ⟨kb, Wb, a6, a6'⟩, r1, r2, r3, r4, r5⟩ := A
  exact ⟨a1.wr W, a2.other W (Or.inl (Ne.symm r4)), a3.other W (Or.inl (Ne.symm r4)), ⟨kT, a4.other W (Ne.symm r3)⟩, fun b hb => by obtain ⟨k, q1, q2⟩ := a5 b hb; exact ⟨k, q1.other W (r2 b hb).2.1, q2⟩, ⟨kb, _, a6.set W, a6'⟩, r1, r2, r3, r4, r5⟩
theorem own_tne {tt : Nat → Addr} (h : tt 0 ≠ tt 1) {b b' : Nat} (hb : b < 2) (hb' : b' < 2) (q : b' ≠ b) : tt b' ≠ tt b := by
  have e1 : b = 0 ∨ b = 1 := by omega
  have e2 : b' = 0 ∨ b' = 1 := by omega
  rcases e1 with rfl | rfl <;> rcases e2 with rfl | rfl <;> first | exact absurd rfl q | exact h | exact Ne.symm h
theorem RejAt.set {Z : State} {h h' : Heap} {n0 : Nat} {o ta ba f : Addr} {tt : Nat → Addr} {cc : Nat → Nat} {P : Nat → Nat → Bool} {b t : Nat} (hb : b < 2) (A : RejAt Z h n0 o ta ba tt cc f P) (W : Wr h h' (tt b) t (.ref f)) : RejAt Z h' n0 o ta ba tt cc f (mkP P b t true) := by
  obtain ⟨a1, a2, a3, ⟨kT, a4⟩, a5, ⟨kb, Wb, a6, a6'⟩, r1, r2, r3, r4, r5⟩ := A
  have q := r2 b hb
  refine ⟨a1.wr W, a2.other W (Or.inl (Ne.symm q.2.2.1)), a3.other W (Or.inl (Ne.symm q.2.2.1)), ⟨kT, a4.other W (Ne.symm q.1)⟩, fun b' hb' => ?_, ⟨kb, Wb, a6.other W (Ne.symm q.2.1), a6'⟩, r1, r2, r3, r4, r5⟩
  obtain ⟨k, q1, q2⟩ := a5 b' hb'
  by_cases e : b' = b
  · subst e
    refine ⟨k, (q1.set W).congr (fun i _ => ?_), q2⟩
    by_cases ei : i = t
    · subst ei; rw [updV_hit]; simp [mkP]
    · rw [updV_miss ei]; simp [mkP, ei]
  · refine ⟨k, (q1.other W (own_tne r1 hb hb' e)).congr (fun i _ => ?_), q2⟩
    simp [mkP, e]
theorem own_rej {Z : State} {h : Heap} {n0 : Nat} {o ta ba t0 t1 : Addr} {cc : Nat → Nat} {kT k0 k1 kb : ClassId} {W Wb : Nat → Value} (a1 : Exa Z h o "com/example/perekaz/perekaz/Rejections") (a2 : Fld Z h o "com/example/perekaz/perekaz/Rejections" "transactions" "[[Lcom/example/perekaz/perekaz/Finding;" (.ref ta)) (a3 : Fld Z h o "com/example/perekaz/perekaz/Rejections" "blocks" "[Lcom/example/perekaz/perekaz/Finding;" (.ref ba)) (a4 : Av Z h ta (.array (.object "com/example/perekaz/perekaz/Finding")) 2 kT W) (w0 : W 0 = .ref t0) (w1 : W 1 = .ref t1)
    (b0 : Av Z h t0 (.object "com/example/perekaz/perekaz/Finding") (cc 0) k0 (fun _ => .null)) (o0 : Ovr Z k0 "com/example/perekaz/perekaz/Finding") (b1 : Av Z h t1 (.object "com/example/perekaz/perekaz/Finding") (cc 1) k1 (fun _ => .null)) (o1 : Ovr Z k1 "com/example/perekaz/perekaz/Finding") (bb : Av Z h ba (.object "com/example/perekaz/perekaz/Finding") 2 kb Wb) (ob : Ovr Z kb "com/example/perekaz/perekaz/Finding")
    (n1 : t0 ≠ t1) (n2 : t0 ≠ ta ∧ t0 ≠ ba ∧ t0 ≠ o ∧ n0 ≤ t0) (n3 : t1 ≠ ta ∧ t1 ≠ ba ∧ t1 ≠ o ∧ n0 ≤ t1) (n4 : ba ≠ ta) (n5 : ba ≠ o) (n6 : n0 ≤ ba) : ∀ f, RejAt Z h n0 o ta ba (fun b => if b = 0 then t0 else t1) cc f (fun _ _ => false) := by
  intro f
  refine ⟨a1, a2, a3, ⟨kT, a4.congr (fun i hi => ?_)⟩, fun b hb => ?_, ⟨kb, Wb, bb, ob⟩, n1, fun b hb => ?_, n4, n5, n6⟩
  · have e : i = 0 ∨ i = 1 := by omega
    rcases e with rfl | rfl
    · exact w0
    · exact w1
  · have e : b = 0 ∨ b = 1 := by omega
    rcases e with rfl | rfl
    · exact ⟨k0, b0.congr (fun i _ => rfl), o0⟩
    · exact ⟨k1, b1.congr (fun i _ => rfl), o1⟩
  · have e : b = 0 ∨ b = 1 := by omega
    rcases e with rfl | rfl
    · exact n2
    · exact n3
theorem own_next {J : Int32} {j : Nat} (e : J.toInt = (j : Int)) (h : j < 1000) : (J + 1).toInt = ((j + 1 : Nat) : Int) := by
  have c1 := c_iadd J 1
  have r := rng32 (J + 1)
  have e1 : (1 : Int32).toInt = 1 := by decide
  omega
theorem own_lti {c d : Int32} {n m : Nat} (hc : c.toInt = (n : Int)) (hd : d.toInt = (m : Int)) : c < d ↔ n < m := by
  rw [Int32.lt_iff_toInt_lt, hc, hd]; omega
theorem own_of {c : Int32} {n : Nat} (hc : c.toInt = (n : Int)) (hn : n < 65536) : c = Int32.ofNat n := by
  apply Int32.toInt_inj.mp; rw [hc, Int32.toInt_ofNat_of_lt (by omega)]
theorem own_m3 (x : Int32) : ∃ d : Nat, (x &&& (3 : Int32)).toInt = (d : Int) ∧ d < 4 := by
  have e := c_mask x 3 2 (by decide) (by decide)
  exact ⟨(x &&& 3).toInt.toNat, by omega, by omega⟩
theorem own_m7 (x : Int32) : ∃ d : Nat, (x &&& (7 : Int32)).toInt = (d : Int) ∧ d < 8 := by
  have e := c_mask x 7 3 (by decide) (by decide)
  exact ⟨(x &&& 7).toInt.toNat, by omega, by omega⟩
theorem own_m1 (x : Int32) : ∃ d : Nat, (x &&& (1 : Int32)).toInt = (d : Int) ∧ d < 2 := by
  have e := c_mask x 1 1 (by decide) (by decide)
  exact ⟨(x &&& 1).toInt.toNat, by omega, by omega⟩
theorem own_fin {c r : Int32} {cn rn : Nat} (hc : c.toInt = (cn : Int)) (hcn : cn < 4) (hr : r.toInt = (rn : Int)) (hrn : rn < 8) (p : Nat → Bool) (hp : ∀ i, p i = ((cnd c r 2 && decide (i = 2)) || ((cnd c r 1 && decide (i = 1)) || ((cnd c r 0 && decide (i = 0)) || false)))) : (if anyB p cn 0 = true then (1 : Int32) else 0) = if (r &&& (((1 : Int32) <<< (c &&& 31)) - (1 : Int32))) = 0 then 0 else 1 := by
  have hp' : p = fun i => ((cnd c r 2 && decide (i = 2)) || ((cnd c r 1 && decide (i = 1)) || ((cnd c r 0 && decide (i = 0)) || false))) := funext hp
  have q : ∀ (c : Fin 4) (r : Fin 8), (if anyB (fun i => ((cnd (Int32.ofNat c.1) (Int32.ofNat r.1) 2 && decide (i = 2)) || ((cnd (Int32.ofNat c.1) (Int32.ofNat r.1) 1 && decide (i = 1)) || ((cnd (Int32.ofNat c.1) (Int32.ofNat r.1) 0 && decide (i = 0)) || false)))) c.1 0 = true then (1 : Int32) else 0) = if (Int32.ofNat r.1 &&& (((1 : Int32) <<< (Int32.ofNat c.1 &&& 31)) - (1 : Int32))) = 0 then 0 else 1 := by decide +kernel
  rw [hp', own_of hc (by omega), own_of hr (by omega)]
  exact q ⟨cn, hcn⟩ ⟨rn, hrn⟩
theorem nar0 : nar .boolean 0 = 0 := rfl
theorem nar1 : nar .boolean 1 = 1 := rfl
theorem d1_0 : decode prog_182_method_1_code 0 = .ok (.aload_n 0, 1) := by decide +kernel
theorem d1_1 : decode prog_182_method_1_code 1 = .ok (.invokespecial 1, 3) := by decide +kernel
theorem d1_4 : decode prog_182_method_1_code 4 = .ok (.aload_n 0, 1) := by decide +kernel
theorem d1_5 : decode prog_182_method_1_code 5 = .ok (.iconst 1, 1) := by decide +kernel
theorem d1_6 : decode prog_182_method_1_code 6 = .ok (.putfield 7, 3) := by decide +kernel
theorem d1_9 : decode prog_182_method_1_code 9 = .ok (.aload_n 0, 1) := by decide +kernel
theorem d1_10 : decode prog_182_method_1_code 10 = .ok (.aload_n 1, 1) := by decide +kernel
theorem d1_11 : decode prog_182_method_1_code 11 = .ok (.arraylength, 1) := by decide +kernel
theorem d1_12 : decode prog_182_method_1_code 12 = .ok (.anewarray 13, 3) := by decide +kernel
theorem d1_15 : decode prog_182_method_1_code 15 = .ok (.putfield 15, 3) := by decide +kernel
theorem d1_18 : decode prog_182_method_1_code 18 = .ok (.aload_n 0, 1) := by decide +kernel
theorem d1_19 : decode prog_182_method_1_code 19 = .ok (.aload_n 1, 1) := by decide +kernel
theorem d1_20 : decode prog_182_method_1_code 20 = .ok (.arraylength, 1) := by decide +kernel
theorem d1_21 : decode prog_182_method_1_code 21 = .ok (.anewarray 19, 3) := by decide +kernel
theorem d1_24 : decode prog_182_method_1_code 24 = .ok (.putfield 20, 3) := by decide +kernel
theorem d1_27 : decode prog_182_method_1_code 27 = .ok (.iconst 0, 1) := by decide +kernel
theorem d1_28 : decode prog_182_method_1_code 28 = .ok (.istore_n 2, 1) := by decide +kernel
theorem d1_29 : decode prog_182_method_1_code 29 = .ok (.iload_n 2, 1) := by decide +kernel
theorem d1_30 : decode prog_182_method_1_code 30 = .ok (.aload_n 1, 1) := by decide +kernel
theorem d1_31 : decode prog_182_method_1_code 31 = .ok (.arraylength, 1) := by decide +kernel
theorem d1_32 : decode prog_182_method_1_code 32 = .ok (.if_icmp .ge 21, 3) := by decide +kernel
theorem d1_35 : decode prog_182_method_1_code 35 = .ok (.aload_n 0, 1) := by decide +kernel
theorem d1_36 : decode prog_182_method_1_code 36 = .ok (.getfield 20, 3) := by decide +kernel
theorem d1_39 : decode prog_182_method_1_code 39 = .ok (.iload_n 2, 1) := by decide +kernel
theorem d1_40 : decode prog_182_method_1_code 40 = .ok (.aload_n 1, 1) := by decide +kernel
theorem d1_41 : decode prog_182_method_1_code 41 = .ok (.iload_n 2, 1) := by decide +kernel
theorem d1_42 : decode prog_182_method_1_code 42 = .ok (.iaload, 1) := by decide +kernel
theorem d1_43 : decode prog_182_method_1_code 43 = .ok (.anewarray 13, 3) := by decide +kernel
theorem d1_46 : decode prog_182_method_1_code 46 = .ok (.aastore, 1) := by decide +kernel
theorem d1_47 : decode prog_182_method_1_code 47 = .ok (.iinc 2 1, 3) := by decide +kernel
theorem d1_50 : decode prog_182_method_1_code 50 = .ok (.goto (-21), 3) := by decide +kernel
theorem d1_53 : decode prog_182_method_1_code 53 = .ok (.return_, 1) := by decide +kernel
theorem ef_rmRej (m : MethodId) (x0 : Addr) (x1 : Addr) : entryFrame m #[(.ref x0), (.ref x1)] 3 = mkF m 0 #[.val (.ref x0), .val (.ref x1), .unset] [] := by first | (simp [entryFrame, mkF, argsToLocals, Value.category]; done) | rfl
set_option maxRecDepth 65536 in
set_option maxHeartbeats 40000000 in
theorem rmRej (l : Launch) (Z : State) (a0 : Array Value) (hw : ∀ d ∈ tables_1, d.before a0 Z = true) (a ca : Addr) (B : Nat → Int32) (cc : Nat → Nat) (h0 : Heap) (n0 : Nat) (E : Exa Z h0 a "com/example/perekaz/perekaz/Rejections") (Fa : Fld Z h0 a "com/example/perekaz/perekaz/Rejections" "answered" "Z" (.int (0 : Int32))) (Fb : Fld Z h0 a "com/example/perekaz/perekaz/Rejections" "blocks" "[Lcom/example/perekaz/perekaz/Finding;" .null) (Ft : Fld Z h0 a "com/example/perekaz/perekaz/Rejections" "transactions" "[[Lcom/example/perekaz/perekaz/Finding;" .null) (g : n0 ≤ a) (Z0 : n0 ≤ h0.size) (AB : Ab Z h0 ca .int 2 B) (nca : ca ≠ a) (q0 : (B 0).toInt = (cc 0 : Int)) (q1 : (B 1).toInt = (cc 1 : Int)) (l0 : cc 0 < 4) (l1 : cc 1 < 4) :
    CM l Z (⟨"com/example/perekaz/perekaz/Rejections", "<init>", "([I)V"⟩ : MethodName) prog_182_method_1_code 3 none ({ frames := 1, cells := 4, slots := 10, locals := 12 } : Room) #[(.ref a), (.ref ca)] h0 n0 (fun v h => v = none ∧ Keep h0 h [a] ∧ ∃ ta ba tt, ∀ f, RejAt Z h n0 a ta ba tt cc f (fun _ _ => false)) := by
  refine own_enter (by decide +kernel) ?_
  intro p e s m below meth c T0 hx hby hml hown hnm hZ hret hlk H0
  replace hown : s.vm.findClass "com/example/perekaz/perekaz/Rejections" = some m.cls := hown
  replace hret : meth.sig.returnType = none := hret
  refine Go.via (fun t_ k_ => castTop (ef_rmRej m a ca) k_) ?_
  show Go _ _ _ _ (T0.setTop (mkF m 0 #[.val (.ref a), .val (.ref ca), .unset] []))
  refine Go.via (fun t_ k_ => XS.aloadN H0.here hx rfl (hb hby d1_0) rfl rfl k_) ?_
  show Go _ _ _ _ (T0.setTop (mkF m 1 #[.val (.ref a), .val (.ref ca), .unset] [(.ref a)]))
  refine own_initO H0 hx hZ hown (hw _ (List.mem_of_getElem? (i := 7) rfl)) (hw _ (List.mem_of_getElem? (i := 8) rfl)) (hw _ (List.mem_of_getElem? (i := 9) rfl)) (g := (mkF m 1 #[.val (.ref a), .val (.ref ca), .unset] [(.ref a)])) rfl (by rw [hml]; rfl) rfl (hb hby d1_1) (by decide) 0 (Nat.le_of_eq rfl) (by decide) ?_
  intro T1 H1
  show Go _ _ _ _ (T1.setTop (mkF m 4 #[.val (.ref a), .val (.ref ca), .unset] []))
  refine Go.via (fun t_ k_ => XS.aloadN H1.here hx rfl (hb hby d1_4) rfl rfl k_) ?_
  show Go _ _ _ _ (T1.setTop (mkF m 5 #[.val (.ref a), .val (.ref ca), .unset] [(.ref a)]))
  refine Go.via (fun t_ k_ => XS.iconst H1.here hx rfl (hb hby d1_5) k_) ?_
  show Go _ _ _ _ (T1.setTop (mkF m 6 #[.val (.ref a), .val (.ref ca), .unset] [(.int (1 : Int32)), (.ref a)]))
  refine own_putFN H1 hx hZ hown (hw _ (List.mem_of_getElem? (i := 10) rfl)) Fa E (Or.inl (hw _ (List.mem_of_getElem? (i := 11) rfl))) (hw _ (List.mem_of_getElem? (i := 2) rfl)) g (ty := .boolean) (v' := .int (nar .boolean (1 : Int32))) (by decide) rfl (fits_nar_bool _) (g := (mkF m 6 #[.val (.ref a), .val (.ref ca), .unset] [(.int (1 : Int32)), (.ref a)])) rfl rfl (hb hby d1_6) ?_
  intro T2 h2 W2 H2
  have F2_answered := Fa.same W2
  have sz2 : n0 ≤ h2.size := Nat.le_trans Z0 (Keep.of_wr W2).1
  have K2 := ((Keep.refl h0 [a])).wr W2 (Or.inl (List.mem_of_getElem? (i := 0) rfl))
  show Go _ _ _ _ (T2.setTop (mkF m 9 #[.val (.ref a), .val (.ref ca), .unset] []))
  refine Go.via (fun t_ k_ => XS.aloadN H2.here hx rfl (hb hby d1_9) rfl rfl k_) ?_
  show Go _ _ _ _ (T2.setTop (mkF m 10 #[.val (.ref a), .val (.ref ca), .unset] [(.ref a)]))
  refine Go.via (fun t_ k_ => XS.aloadN H2.here hx rfl (hb hby d1_10) rfl rfl k_) ?_
  show Go _ _ _ _ (T2.setTop (mkF m 11 #[.val (.ref a), .val (.ref ca), .unset] [(.ref ca), (.ref a)]))
  refine own_lenA H2 hx hZ (AB.other W2 nca) (z := (2 : Int32)) (by decide) (g := (mkF m 11 #[.val (.ref a), .val (.ref ca), .unset] [(.ref ca), (.ref a)])) rfl rfl (hb hby d1_11) ?_
  show Go _ _ _ _ (T2.setTop (mkF m 12 #[.val (.ref a), .val (.ref ca), .unset] [(.int (2 : Int32)), (.ref a)]))
  refine own_newR H2 hx hZ hown (C := "com/example/perekaz/perekaz/Finding") (ad := "[Lcom/example/perekaz/perekaz/Finding;") (hw _ (List.mem_of_getElem? (i := 12) rfl)) (hw _ (List.mem_of_getElem? (i := 13) rfl)) (by decide) (g := (mkF m 12 #[.val (.ref a), .val (.ref ca), .unset] [(.int (2 : Int32)), (.ref a)])) rfl (hb hby d1_12) rfl (N' := 2) (by decide) 2 (by decide) (by decide) (by decide) (by decide) ?_
  intro T3 h3 a3 k3 ga3 E3 O3 Ex3 Ov3 H3
  have ne_a_a3 : a ≠ a3 := by rw [ga3]; exact Nat.ne_of_lt (E.wr W2).lt
  have ne_ca_a3 : ca ≠ a3 := by rw [ga3]; exact Nat.ne_of_lt (AB.other W2 nca).lt
  have g_a3 : n0 ≤ a3 := by rw [ga3]; exact sz2
  have sz3 : n0 ≤ h3.size := Nat.le_trans sz2 E3.1
  have kin_a3 : h0.size ≤ a3 := by rw [ga3]; exact (K2).1
  have K3 := (K2).ext E3
  show Go _ _ _ _ (T3.setTop (mkF m 15 #[.val (.ref a), .val (.ref ca), .unset] [(.ref a3), (.ref a)]))
  refine own_putF H3 hx hZ hown (hw _ (List.mem_of_getElem? (i := 14) rfl)) ((Fb.other W2 (Or.inr (slot_ne (Or.inr (hw _ (List.mem_of_getElem? (i := 15) rfl))) (Or.inl (hw _ (List.mem_of_getElem? (i := 11) rfl))) (by decide) (t := (.array (.object "com/example/perekaz/perekaz/Finding"))) (t' := .boolean) (by decide) (by decide)))).ext E3) ((E.wr W2).ext E3) (Or.inr ⟨(hw _ (List.mem_of_getElem? (i := 15) rfl)), rfl, hnm⟩) (hw _ (List.mem_of_getElem? (i := 2) rfl)) g (ty := (.array (.object "com/example/perekaz/perekaz/Finding"))) (by decide) rfl rfl (g := (mkF m 15 #[.val (.ref a), .val (.ref ca), .unset] [(.ref a3), (.ref a)])) rfl rfl (hb hby d1_15) ?_
  intro T4 h4 W4 H4
  have F4_blocks := ((Fb.other W2 (Or.inr (slot_ne (Or.inr (hw _ (List.mem_of_getElem? (i := 15) rfl))) (Or.inl (hw _ (List.mem_of_getElem? (i := 11) rfl))) (by decide) (t := (.array (.object "com/example/perekaz/perekaz/Finding"))) (t' := .boolean) (by decide) (by decide)))).ext E3).same W4
  have sz4 : n0 ≤ h4.size := Nat.le_trans sz3 (Keep.of_wr W4).1
  have K4 := (K3).wr W4 (Or.inl (List.mem_of_getElem? (i := 0) rfl))
  show Go _ _ _ _ (T4.setTop (mkF m 18 #[.val (.ref a), .val (.ref ca), .unset] []))
  refine Go.via (fun t_ k_ => XS.aloadN H4.here hx rfl (hb hby d1_18) rfl rfl k_) ?_
  show Go _ _ _ _ (T4.setTop (mkF m 19 #[.val (.ref a), .val (.ref ca), .unset] [(.ref a)]))
  refine Go.via (fun t_ k_ => XS.aloadN H4.here hx rfl (hb hby d1_19) rfl rfl k_) ?_
  show Go _ _ _ _ (T4.setTop (mkF m 20 #[.val (.ref a), .val (.ref ca), .unset] [(.ref ca), (.ref a)]))
  refine own_lenA H4 hx hZ (((AB.other W2 nca).ext E3).other W4 nca) (z := (2 : Int32)) (by decide) (g := (mkF m 20 #[.val (.ref a), .val (.ref ca), .unset] [(.ref ca), (.ref a)])) rfl rfl (hb hby d1_20) ?_
  show Go _ _ _ _ (T4.setTop (mkF m 21 #[.val (.ref a), .val (.ref ca), .unset] [(.int (2 : Int32)), (.ref a)]))
  refine own_newRA H4 hx hZ hown (ty := (.object "com/example/perekaz/perekaz/Finding")) (C := "[Lcom/example/perekaz/perekaz/Finding;") (ad := "[[Lcom/example/perekaz/perekaz/Finding;") (by decide) (hw _ (List.mem_of_getElem? (i := 16) rfl)) (hw _ (List.mem_of_getElem? (i := 17) rfl)) (by decide) (g := (mkF m 21 #[.val (.ref a), .val (.ref ca), .unset] [(.int (2 : Int32)), (.ref a)])) rfl (hb hby d1_21) rfl (N' := 2) (by decide) 2 (by decide) (by decide) (by decide) (by decide) ?_
  intro T5 h5 a5 k5 ga5 E5 O5 Ov5 H5
  have ne_a_a5 : a ≠ a5 := by rw [ga5]; exact Nat.ne_of_lt (((E.wr W2).ext E3).wr W4).lt
  have ne_ca_a5 : ca ≠ a5 := by rw [ga5]; exact Nat.ne_of_lt (((AB.other W2 nca).ext E3).other W4 nca).lt
  have ne_a3_a5 : a3 ≠ a5 := by rw [ga5]; exact Nat.ne_of_lt (O3.other W4 (Ne.symm ne_a_a3)).lt
  have g_a5 : n0 ≤ a5 := by rw [ga5]; exact sz4
  have sz5 : n0 ≤ h5.size := Nat.le_trans sz4 E5.1
  have kin_a5 : h0.size ≤ a5 := by rw [ga5]; exact (K4).1
  have K5 := (K4).ext E5
  show Go _ _ _ _ (T5.setTop (mkF m 24 #[.val (.ref a), .val (.ref ca), .unset] [(.ref a5), (.ref a)]))
  refine own_putF H5 hx hZ hown (hw _ (List.mem_of_getElem? (i := 18) rfl)) ((((Ft.other W2 (Or.inr (slot_ne (Or.inr (hw _ (List.mem_of_getElem? (i := 19) rfl))) (Or.inl (hw _ (List.mem_of_getElem? (i := 11) rfl))) (by decide) (t := (.array (.array (.object "com/example/perekaz/perekaz/Finding")))) (t' := .boolean) (by decide) (by decide)))).ext E3).other W4 (Or.inr (slot_ne (Or.inr (hw _ (List.mem_of_getElem? (i := 19) rfl))) (Or.inr (hw _ (List.mem_of_getElem? (i := 15) rfl))) (by decide) (t := (.array (.array (.object "com/example/perekaz/perekaz/Finding")))) (t' := (.array (.object "com/example/perekaz/perekaz/Finding"))) (by decide) (by decide)))).ext E5) ((((E.wr W2).ext E3).wr W4).ext E5) (Or.inr ⟨(hw _ (List.mem_of_getElem? (i := 19) rfl)), rfl, hnm⟩) (hw _ (List.mem_of_getElem? (i := 2) rfl)) g (ty := (.array (.array (.object "com/example/perekaz/perekaz/Finding")))) (by decide) rfl rfl (g := (mkF m 24 #[.val (.ref a), .val (.ref ca), .unset] [(.ref a5), (.ref a)])) rfl rfl (hb hby d1_24) ?_
  intro T6 h6 W6 H6
  have F6_transactions := ((((Ft.other W2 (Or.inr (slot_ne (Or.inr (hw _ (List.mem_of_getElem? (i := 19) rfl))) (Or.inl (hw _ (List.mem_of_getElem? (i := 11) rfl))) (by decide) (t := (.array (.array (.object "com/example/perekaz/perekaz/Finding")))) (t' := .boolean) (by decide) (by decide)))).ext E3).other W4 (Or.inr (slot_ne (Or.inr (hw _ (List.mem_of_getElem? (i := 19) rfl))) (Or.inr (hw _ (List.mem_of_getElem? (i := 15) rfl))) (by decide) (t := (.array (.array (.object "com/example/perekaz/perekaz/Finding")))) (t' := (.array (.object "com/example/perekaz/perekaz/Finding"))) (by decide) (by decide)))).ext E5).same W6
  have sz6 : n0 ≤ h6.size := Nat.le_trans sz5 (Keep.of_wr W6).1
  have K6 := (K5).wr W6 (Or.inl (List.mem_of_getElem? (i := 0) rfl))
  show Go _ _ _ _ (T6.setTop (mkF m 27 #[.val (.ref a), .val (.ref ca), .unset] []))
  refine Go.via (fun t_ k_ => XS.iconst H6.here hx rfl (hb hby d1_27) k_) ?_
  show Go _ _ _ _ (T6.setTop (mkF m 28 #[.val (.ref a), .val (.ref ca), .unset] [(.int (0 : Int32))]))
  refine Go.via (fun t_ k_ => XS.istoreN H6.here hx rfl (hb hby d1_28) rfl (l' := #[.val (.ref a), .val (.ref ca), .val (.int (0 : Int32))]) rfl k_) ?_
  show Go _ _ _ _ (T6.setTop (mkF m 29 #[.val (.ref a), .val (.ref ca), .val (.int (0 : Int32))] []))
  refine Go.via (fun t_ k_ => XS.iloadN H6.here hx rfl (hb hby d1_29) rfl k_) ?_
  show Go _ _ _ _ (T6.setTop (mkF m 30 #[.val (.ref a), .val (.ref ca), .val (.int (0 : Int32))] [(.int (0 : Int32))]))
  refine Go.via (fun t_ k_ => XS.aloadN H6.here hx rfl (hb hby d1_30) rfl rfl k_) ?_
  show Go _ _ _ _ (T6.setTop (mkF m 31 #[.val (.ref a), .val (.ref ca), .val (.int (0 : Int32))] [(.ref ca), (.int (0 : Int32))]))
  refine own_lenA H6 hx hZ (((((AB.other W2 nca).ext E3).other W4 nca).ext E5).other W6 nca) (z := (2 : Int32)) (by decide) (g := (mkF m 31 #[.val (.ref a), .val (.ref ca), .val (.int (0 : Int32))] [(.ref ca), (.int (0 : Int32))])) rfl rfl (hb hby d1_31) ?_
  show Go _ _ _ _ (T6.setTop (mkF m 32 #[.val (.ref a), .val (.ref ca), .val (.int (0 : Int32))] [(.int (2 : Int32)), (.int (0 : Int32))]))
  refine Go.via (fun t_ k_ => XS.icmpNo H6.here hx rfl (hb hby d1_32) rfl ((tlt (show (0 : Int32) < (2 : Int32) from (by decide))).2.1) k_) ?_
  show Go _ _ _ _ (T6.setTop (mkF m 35 #[.val (.ref a), .val (.ref ca), .val (.int (0 : Int32))] []))
  refine Go.via (fun t_ k_ => XS.aloadN H6.here hx rfl (hb hby d1_35) rfl rfl k_) ?_
  show Go _ _ _ _ (T6.setTop (mkF m 36 #[.val (.ref a), .val (.ref ca), .val (.int (0 : Int32))] [(.ref a)]))
  refine own_getF H6 hx hZ hown (hw _ (List.mem_of_getElem? (i := 18) rfl)) F6_transactions (g := (mkF m 36 #[.val (.ref a), .val (.ref ca), .val (.int (0 : Int32))] [(.ref a)])) rfl rfl (hb hby d1_36) ?_
  intro T7 H7
  show Go _ _ _ _ (T7.setTop (mkF m 39 #[.val (.ref a), .val (.ref ca), .val (.int (0 : Int32))] [(.ref a5)]))
  refine Go.via (fun t_ k_ => XS.iloadN H7.here hx rfl (hb hby d1_39) rfl k_) ?_
  show Go _ _ _ _ (T7.setTop (mkF m 40 #[.val (.ref a), .val (.ref ca), .val (.int (0 : Int32))] [(.int (0 : Int32)), (.ref a5)]))
  refine Go.via (fun t_ k_ => XS.aloadN H7.here hx rfl (hb hby d1_40) rfl rfl k_) ?_
  show Go _ _ _ _ (T7.setTop (mkF m 41 #[.val (.ref a), .val (.ref ca), .val (.int (0 : Int32))] [(.ref ca), (.int (0 : Int32)), (.ref a5)]))
  refine Go.via (fun t_ k_ => XS.iloadN H7.here hx rfl (hb hby d1_41) rfl k_) ?_
  show Go _ _ _ _ (T7.setTop (mkF m 42 #[.val (.ref a), .val (.ref ca), .val (.int (0 : Int32))] [(.int (0 : Int32)), (.ref ca), (.int (0 : Int32)), (.ref a5)]))
  refine own_ldIA H7 hx hZ (((((AB.other W2 nca).ext E3).other W4 nca).ext E5).other W6 nca) (j := 0) (by decide) (by decide) (g := (mkF m 42 #[.val (.ref a), .val (.ref ca), .val (.int (0 : Int32))] [(.int (0 : Int32)), (.ref ca), (.int (0 : Int32)), (.ref a5)])) rfl rfl (hb hby d1_42) ?_
  show Go _ _ _ _ (T7.setTop (mkF m 43 #[.val (.ref a), .val (.ref ca), .val (.int (0 : Int32))] [(.int (B 0)), (.int (0 : Int32)), (.ref a5)]))
  refine own_newR H7 hx hZ hown (C := "com/example/perekaz/perekaz/Finding") (ad := "[Lcom/example/perekaz/perekaz/Finding;") (hw _ (List.mem_of_getElem? (i := 12) rfl)) (hw _ (List.mem_of_getElem? (i := 13) rfl)) (by decide) (g := (mkF m 43 #[.val (.ref a), .val (.ref ca), .val (.int (0 : Int32))] [(.int (B 0)), (.int (0 : Int32)), (.ref a5)])) rfl (hb hby d1_43) rfl (N' := (cc 0)) q0 3 (by omega) (by decide) (by decide) (by decide) ?_
  intro T8 h8 a8 k8 ga8 E8 O8 Ex8 Ov8 H8
  have ne_a_a8 : a ≠ a8 := by rw [ga8]; exact Nat.ne_of_lt (((((E.wr W2).ext E3).wr W4).ext E5).wr W6).lt
  have ne_ca_a8 : ca ≠ a8 := by rw [ga8]; exact Nat.ne_of_lt (((((AB.other W2 nca).ext E3).other W4 nca).ext E5).other W6 nca).lt
  have ne_a3_a8 : a3 ≠ a8 := by rw [ga8]; exact Nat.ne_of_lt (((O3.other W4 (Ne.symm ne_a_a3)).ext E5).other W6 (Ne.symm ne_a_a3)).lt
  have ne_a5_a8 : a5 ≠ a8 := by rw [ga8]; exact Nat.ne_of_lt (O5.other W6 (Ne.symm ne_a_a5)).lt
  have g_a8 : n0 ≤ a8 := by rw [ga8]; exact sz6
  have sz8 : n0 ≤ h8.size := Nat.le_trans sz6 E8.1
  have kin_a8 : h0.size ≤ a8 := by rw [ga8]; exact (K6).1
  have K8 := (K6).ext E8
  show Go _ _ _ _ (T8.setTop (mkF m 46 #[.val (.ref a), .val (.ref ca), .val (.int (0 : Int32))] [(.ref a8), (.int (0 : Int32)), (.ref a5)]))
  refine own_stRA H8 hx hZ ((O5.other W6 (Ne.symm ne_a_a5)).ext E8) rfl (fun cl_ A_ r_ => Sto.ofVA A_ r_ Ov5 (Ins.self Ex8)) (j := 0) (by decide) (by decide) g_a5 (g := (mkF m 46 #[.val (.ref a), .val (.ref ca), .val (.int (0 : Int32))] [(.ref a8), (.int (0 : Int32)), (.ref a5)])) rfl rfl (hb hby d1_46) ?_
  intro T9 h9 W9 O9 H9
  have sz9 : n0 ≤ h9.size := Nat.le_trans sz8 (Keep.of_wr W9).1
  have K9 := (K8).wr W9 (Or.inr kin_a5)
  show Go _ _ _ _ (T9.setTop (mkF m 47 #[.val (.ref a), .val (.ref ca), .val (.int (0 : Int32))] []))
  refine Go.via (fun t_ k_ => XS.iinc H9.here hx rfl (hb hby d1_47) rfl (l' := #[.val (.ref a), .val (.ref ca), .val (.int (1 : Int32))]) rfl k_) ?_
  show Go _ _ _ _ (T9.setTop (mkF m 50 #[.val (.ref a), .val (.ref ca), .val (.int (1 : Int32))] []))
  refine Go.via (fun t_ k_ => XS.goto H9.here hx rfl (pc0 := 50) (pc' := 29) rfl (hb hby d1_50) (by decide) (by decide) k_) ?_
  show Go _ _ _ _ (T9.setTop (mkF m 29 #[.val (.ref a), .val (.ref ca), .val (.int (1 : Int32))] []))
  refine Go.via (fun t_ k_ => XS.iloadN H9.here hx rfl (hb hby d1_29) rfl k_) ?_
  show Go _ _ _ _ (T9.setTop (mkF m 30 #[.val (.ref a), .val (.ref ca), .val (.int (1 : Int32))] [(.int (1 : Int32))]))
  refine Go.via (fun t_ k_ => XS.aloadN H9.here hx rfl (hb hby d1_30) rfl rfl k_) ?_
  show Go _ _ _ _ (T9.setTop (mkF m 31 #[.val (.ref a), .val (.ref ca), .val (.int (1 : Int32))] [(.ref ca), (.int (1 : Int32))]))
  refine own_lenA H9 hx hZ (((((((AB.other W2 nca).ext E3).other W4 nca).ext E5).other W6 nca).ext E8).other W9 ne_ca_a5) (z := (2 : Int32)) (by decide) (g := (mkF m 31 #[.val (.ref a), .val (.ref ca), .val (.int (1 : Int32))] [(.ref ca), (.int (1 : Int32))])) rfl rfl (hb hby d1_31) ?_
  show Go _ _ _ _ (T9.setTop (mkF m 32 #[.val (.ref a), .val (.ref ca), .val (.int (1 : Int32))] [(.int (2 : Int32)), (.int (1 : Int32))]))
  refine Go.via (fun t_ k_ => XS.icmpNo H9.here hx rfl (hb hby d1_32) rfl ((tlt (show (1 : Int32) < (2 : Int32) from (by decide))).2.1) k_) ?_
  show Go _ _ _ _ (T9.setTop (mkF m 35 #[.val (.ref a), .val (.ref ca), .val (.int (1 : Int32))] []))
  refine Go.via (fun t_ k_ => XS.aloadN H9.here hx rfl (hb hby d1_35) rfl rfl k_) ?_
  show Go _ _ _ _ (T9.setTop (mkF m 36 #[.val (.ref a), .val (.ref ca), .val (.int (1 : Int32))] [(.ref a)]))
  refine own_getF H9 hx hZ hown (hw _ (List.mem_of_getElem? (i := 18) rfl)) ((F6_transactions.ext E8).other W9 (Or.inl ne_a_a5)) (g := (mkF m 36 #[.val (.ref a), .val (.ref ca), .val (.int (1 : Int32))] [(.ref a)])) rfl rfl (hb hby d1_36) ?_
  intro T10 H10
  show Go _ _ _ _ (T10.setTop (mkF m 39 #[.val (.ref a), .val (.ref ca), .val (.int (1 : Int32))] [(.ref a5)]))
  refine Go.via (fun t_ k_ => XS.iloadN H10.here hx rfl (hb hby d1_39) rfl k_) ?_
  show Go _ _ _ _ (T10.setTop (mkF m 40 #[.val (.ref a), .val (.ref ca), .val (.int (1 : Int32))] [(.int (1 : Int32)), (.ref a5)]))
  refine Go.via (fun t_ k_ => XS.aloadN H10.here hx rfl (hb hby d1_40) rfl rfl k_) ?_
  show Go _ _ _ _ (T10.setTop (mkF m 41 #[.val (.ref a), .val (.ref ca), .val (.int (1 : Int32))] [(.ref ca), (.int (1 : Int32)), (.ref a5)]))
  refine Go.via (fun t_ k_ => XS.iloadN H10.here hx rfl (hb hby d1_41) rfl k_) ?_
  show Go _ _ _ _ (T10.setTop (mkF m 42 #[.val (.ref a), .val (.ref ca), .val (.int (1 : Int32))] [(.int (1 : Int32)), (.ref ca), (.int (1 : Int32)), (.ref a5)]))
  refine own_ldIA H10 hx hZ (((((((AB.other W2 nca).ext E3).other W4 nca).ext E5).other W6 nca).ext E8).other W9 ne_ca_a5) (j := 1) (by decide) (by decide) (g := (mkF m 42 #[.val (.ref a), .val (.ref ca), .val (.int (1 : Int32))] [(.int (1 : Int32)), (.ref ca), (.int (1 : Int32)), (.ref a5)])) rfl rfl (hb hby d1_42) ?_
  show Go _ _ _ _ (T10.setTop (mkF m 43 #[.val (.ref a), .val (.ref ca), .val (.int (1 : Int32))] [(.int (B 1)), (.int (1 : Int32)), (.ref a5)]))
  refine own_newR H10 hx hZ hown (C := "com/example/perekaz/perekaz/Finding") (ad := "[Lcom/example/perekaz/perekaz/Finding;") (hw _ (List.mem_of_getElem? (i := 12) rfl)) (hw _ (List.mem_of_getElem? (i := 13) rfl)) (by decide) (g := (mkF m 43 #[.val (.ref a), .val (.ref ca), .val (.int (1 : Int32))] [(.int (B 1)), (.int (1 : Int32)), (.ref a5)])) rfl (hb hby d1_43) rfl (N' := (cc 1)) q1 3 (by omega) (by decide) (by decide) (by decide) ?_
  intro T11 h11 a11 k11 ga11 E11 O11 Ex11 Ov11 H11
  have ne_a_a11 : a ≠ a11 := by rw [ga11]; exact Nat.ne_of_lt (((((((E.wr W2).ext E3).wr W4).ext E5).wr W6).ext E8).wr W9).lt
  have ne_ca_a11 : ca ≠ a11 := by rw [ga11]; exact Nat.ne_of_lt (((((((AB.other W2 nca).ext E3).other W4 nca).ext E5).other W6 nca).ext E8).other W9 ne_ca_a5).lt
  have ne_a3_a11 : a3 ≠ a11 := by rw [ga11]; exact Nat.ne_of_lt (((((O3.other W4 (Ne.symm ne_a_a3)).ext E5).other W6 (Ne.symm ne_a_a3)).ext E8).other W9 ne_a3_a5).lt
  have ne_a5_a11 : a5 ≠ a11 := by rw [ga11]; exact Nat.ne_of_lt O9.lt
  have ne_a8_a11 : a8 ≠ a11 := by rw [ga11]; exact Nat.ne_of_lt (O8.other W9 (Ne.symm ne_a5_a8)).lt
  have g_a11 : n0 ≤ a11 := by rw [ga11]; exact sz9
  have sz11 : n0 ≤ h11.size := Nat.le_trans sz9 E11.1
  have kin_a11 : h0.size ≤ a11 := by rw [ga11]; exact (K9).1
  have K11 := (K9).ext E11
  show Go _ _ _ _ (T11.setTop (mkF m 46 #[.val (.ref a), .val (.ref ca), .val (.int (1 : Int32))] [(.ref a11), (.int (1 : Int32)), (.ref a5)]))
  refine own_stRA H11 hx hZ (O9.ext E11) rfl (fun cl_ A_ r_ => Sto.ofVA A_ r_ Ov5 (Ins.self Ex11)) (j := 1) (by decide) (by decide) g_a5 (g := (mkF m 46 #[.val (.ref a), .val (.ref ca), .val (.int (1 : Int32))] [(.ref a11), (.int (1 : Int32)), (.ref a5)])) rfl rfl (hb hby d1_46) ?_
  intro T12 h12 W12 O12 H12
  have sz12 : n0 ≤ h12.size := Nat.le_trans sz11 (Keep.of_wr W12).1
  have K12 := (K11).wr W12 (Or.inr kin_a5)
  show Go _ _ _ _ (T12.setTop (mkF m 47 #[.val (.ref a), .val (.ref ca), .val (.int (1 : Int32))] []))
  refine Go.via (fun t_ k_ => XS.iinc H12.here hx rfl (hb hby d1_47) rfl (l' := #[.val (.ref a), .val (.ref ca), .val (.int (2 : Int32))]) rfl k_) ?_
  show Go _ _ _ _ (T12.setTop (mkF m 50 #[.val (.ref a), .val (.ref ca), .val (.int (2 : Int32))] []))
  refine Go.via (fun t_ k_ => XS.goto H12.here hx rfl (pc0 := 50) (pc' := 29) rfl (hb hby d1_50) (by decide) (by decide) k_) ?_
  show Go _ _ _ _ (T12.setTop (mkF m 29 #[.val (.ref a), .val (.ref ca), .val (.int (2 : Int32))] []))
  refine Go.via (fun t_ k_ => XS.iloadN H12.here hx rfl (hb hby d1_29) rfl k_) ?_
  show Go _ _ _ _ (T12.setTop (mkF m 30 #[.val (.ref a), .val (.ref ca), .val (.int (2 : Int32))] [(.int (2 : Int32))]))
  refine Go.via (fun t_ k_ => XS.aloadN H12.here hx rfl (hb hby d1_30) rfl rfl k_) ?_
  show Go _ _ _ _ (T12.setTop (mkF m 31 #[.val (.ref a), .val (.ref ca), .val (.int (2 : Int32))] [(.ref ca), (.int (2 : Int32))]))
  refine own_lenA H12 hx hZ (((((((((AB.other W2 nca).ext E3).other W4 nca).ext E5).other W6 nca).ext E8).other W9 ne_ca_a5).ext E11).other W12 ne_ca_a5) (z := (2 : Int32)) (by decide) (g := (mkF m 31 #[.val (.ref a), .val (.ref ca), .val (.int (2 : Int32))] [(.ref ca), (.int (2 : Int32))])) rfl rfl (hb hby d1_31) ?_
  show Go _ _ _ _ (T12.setTop (mkF m 32 #[.val (.ref a), .val (.ref ca), .val (.int (2 : Int32))] [(.int (2 : Int32)), (.int (2 : Int32))]))
  refine Go.via (fun t_ k_ => XS.icmpYes H12.here hx rfl (pc0 := 32) (pc' := 53) rfl (hb hby d1_32) rfl ((flt (show ¬ ((2 : Int32) < (2 : Int32)) from (by decide))).2.1) (by decide) (by decide) k_) ?_
  show Go _ _ _ _ (T12.setTop (mkF m 53 #[.val (.ref a), .val (.ref ca), .val (.int (2 : Int32))] []))
  exact own_retV H12 hx hlk hret (hb hby d1_53) ⟨rfl, K12, _, _, _, own_rej (((((((((E.wr W2).ext E3).wr W4).ext E5).wr W6).ext E8).wr W9).ext E11).wr W12) ((((F6_transactions.ext E8).other W9 (Or.inl ne_a_a5)).ext E11).other W12 (Or.inl ne_a_a5)) ((((((F4_blocks.ext E5).other W6 (Or.inr (slot_ne (Or.inr (hw _ (List.mem_of_getElem? (i := 15) rfl))) (Or.inr (hw _ (List.mem_of_getElem? (i := 19) rfl))) (by decide) (t := (.array (.object "com/example/perekaz/perekaz/Finding"))) (t' := (.array (.array (.object "com/example/perekaz/perekaz/Finding")))) (by decide) (by decide)))).ext E8).other W9 (Or.inl ne_a_a5)).ext E11).other W12 (Or.inl ne_a_a5)) O12 rfl rfl (((O8.other W9 (Ne.symm ne_a5_a8)).ext E11).other W12 (Ne.symm ne_a5_a8)) Ov8 (O11.other W12 (Ne.symm ne_a5_a11)) Ov11 (((((((O3.other W4 (Ne.symm ne_a_a3)).ext E5).other W6 (Ne.symm ne_a_a3)).ext E8).other W9 ne_a3_a5).ext E11).other W12 ne_a3_a5) Ov3 ne_a8_a11 ⟨(Ne.symm ne_a5_a8), (Ne.symm ne_a3_a8), (Ne.symm ne_a_a8), g_a8⟩ ⟨(Ne.symm ne_a5_a11), (Ne.symm ne_a3_a11), (Ne.symm ne_a_a11), g_a11⟩ ne_a3_a5 (Ne.symm ne_a_a3) g_a3⟩ (by decide) (by decide)
theorem d4_0 : decode jdk_30_method_1_code 0 = .ok (.aload_n 0, 1) := by decide +kernel
theorem d4_1 : decode jdk_30_method_1_code 1 = .ok (.invokespecial 1, 3) := by decide +kernel
theorem d4_4 : decode jdk_30_method_1_code 4 = .ok (.return_, 1) := by decide +kernel
theorem ef_rmRec (m : MethodId) (x0 : Addr) : entryFrame m #[(.ref x0)] 1 = mkF m 0 #[.val (.ref x0)] [] := by first | (simp [entryFrame, mkF, argsToLocals, Value.category]; done) | rfl
set_option maxRecDepth 65536 in
set_option maxHeartbeats 40000000 in
theorem rmRec (l : Launch) (Z : State) (a0 : Array Value) (hw : ∀ d ∈ tables_1, d.before a0 Z = true) (a : Addr) (h0 : Heap) (n0 : Nat)  :
    CM l Z (⟨"java/lang/Record", "<init>", "()V"⟩ : MethodName) jdk_30_method_1_code 1 none ({ frames := 1, cells := 0, slots := 0, locals := 12 } : Room) #[(.ref a)] h0 n0 (fun v h => v = none ∧ h0 = h) := by
  refine own_enter (by decide +kernel) ?_
  intro p e s m below meth c T0 hx hby hml hown hnm hZ hret hlk H0
  replace hown : s.vm.findClass "java/lang/Record" = some m.cls := hown
  replace hret : meth.sig.returnType = none := hret
  refine Go.via (fun t_ k_ => castTop (ef_rmRec m a) k_) ?_
  show Go _ _ _ _ (T0.setTop (mkF m 0 #[.val (.ref a)] []))
  refine Go.via (fun t_ k_ => XS.aloadN H0.here hx rfl (hb hby d4_0) rfl rfl k_) ?_
  show Go _ _ _ _ (T0.setTop (mkF m 1 #[.val (.ref a)] [(.ref a)]))
  refine own_initO H0 hx hZ hown (hw _ (List.mem_of_getElem? (i := 45) rfl)) (hw _ (List.mem_of_getElem? (i := 8) rfl)) (hw _ (List.mem_of_getElem? (i := 9) rfl)) (g := (mkF m 1 #[.val (.ref a)] [(.ref a)])) rfl (by rw [hml]; rfl) rfl (hb hby d4_1) (by decide) 0 (Nat.le_of_eq rfl) (by decide) ?_
  intro T1 H1
  show Go _ _ _ _ (T1.setTop (mkF m 4 #[.val (.ref a)] []))
  exact own_retV H1 hx hlk hret (hb hby d4_4) ⟨rfl, rfl⟩ (by decide) (by decide)
theorem d5_0 : decode jdk_31_method_11_code 0 = .ok (.aload_n 0, 1) := by decide +kernel
theorem d5_1 : decode jdk_31_method_11_code 1 = .ok (.ifnonnull 12, 3) := by decide +kernel
theorem d5_4 : decode jdk_31_method_11_code 4 = .ok (.new 84, 3) := by decide +kernel
theorem d5_7 : decode jdk_31_method_11_code 7 = .ok (.dup, 1) := by decide +kernel
theorem d5_8 : decode jdk_31_method_11_code 8 = .ok (.aload_n 1, 1) := by decide +kernel
theorem d5_9 : decode jdk_31_method_11_code 9 = .ok (.invokespecial 87, 3) := by decide +kernel
theorem d5_12 : decode jdk_31_method_11_code 12 = .ok (.athrow, 1) := by decide +kernel
theorem d5_13 : decode jdk_31_method_11_code 13 = .ok (.aload_n 0, 1) := by decide +kernel
theorem d5_14 : decode jdk_31_method_11_code 14 = .ok (.areturn, 1) := by decide +kernel
theorem ef_rmRN (m : MethodId) (x0 : Addr) (x1 : Addr) : entryFrame m #[(.ref x0), (.ref x1)] 2 = mkF m 0 #[.val (.ref x0), .val (.ref x1)] [] := by first | (simp [entryFrame, mkF, argsToLocals, Value.category]; done) | rfl
set_option maxRecDepth 65536 in
set_option maxHeartbeats 40000000 in
theorem rmRN (l : Launch) (Z : State) (a0 : Array Value) (hw : ∀ d ∈ tables_1, d.before a0 Z = true) (a b : Addr) (h0 : Heap) (n0 : Nat)  :
    CM l Z (⟨"java/util/Objects", "requireNonNull", "(Ljava/lang/Object;Ljava/lang/String;)Ljava/lang/Object;"⟩ : MethodName) jdk_31_method_11_code 2 (some (.object "java/lang/Object")) ({ frames := 0, cells := 0, slots := 0, locals := 0 } : Room) #[(.ref a), (.ref b)] h0 n0 (fun v h => v = some (.ref a) ∧ h0 = h) := by
  refine own_enter (by decide +kernel) ?_
  intro p e s m below meth c T0 hx hby hml hown hnm hZ hret hlk H0
  replace hown : s.vm.findClass "java/util/Objects" = some m.cls := hown
  replace hret : meth.sig.returnType = some (.object "java/lang/Object") := hret
  refine Go.via (fun t_ k_ => castTop (ef_rmRN m a b) k_) ?_
  show Go _ _ _ _ (T0.setTop (mkF m 0 #[.val (.ref a), .val (.ref b)] []))
  refine Go.via (fun t_ k_ => XS.aloadN H0.here hx rfl (hb hby d5_0) rfl rfl k_) ?_
  show Go _ _ _ _ (T0.setTop (mkF m 1 #[.val (.ref a), .val (.ref b)] [(.ref a)]))
  refine Go.via (fun t_ k_ => XS.ifnonnullYes H0.here hx rfl (pc0 := 1) (pc' := 13) rfl (hb hby d5_1) rfl (by decide) (by decide) k_) ?_
  show Go _ _ _ _ (T0.setTop (mkF m 13 #[.val (.ref a), .val (.ref b)] []))
  refine Go.via (fun t_ k_ => XS.aloadN H0.here hx rfl (hb hby d5_13) rfl rfl k_) ?_
  show Go _ _ _ _ (T0.setTop (mkF m 14 #[.val (.ref a), .val (.ref b)] [(.ref a)]))
  exact own_retA H0 hx hlk rfl hret rfl rfl (hb hby d5_14) ⟨rfl, rfl⟩ (by decide) (by decide)
theorem d3_0 : decode prog_55_method_1_code 0 = .ok (.aload_n 0, 1) := by decide +kernel
theorem d3_1 : decode prog_55_method_1_code 1 = .ok (.invokespecial 1, 3) := by decide +kernel
theorem d3_4 : decode prog_55_method_1_code 4 = .ok (.aload_n 1, 1) := by decide +kernel
theorem d3_5 : decode prog_55_method_1_code 5 = .ok (.ldc 7, 2) := by decide +kernel
theorem d3_7 : decode prog_55_method_1_code 7 = .ok (.invokestatic 9, 3) := by decide +kernel
theorem d3_10 : decode prog_55_method_1_code 10 = .ok (.pop, 1) := by decide +kernel
theorem d3_11 : decode prog_55_method_1_code 11 = .ok (.aload_n 2, 1) := by decide +kernel
theorem d3_12 : decode prog_55_method_1_code 12 = .ok (.ldc 15, 2) := by decide +kernel
theorem d3_14 : decode prog_55_method_1_code 14 = .ok (.invokestatic 9, 3) := by decide +kernel
theorem d3_17 : decode prog_55_method_1_code 17 = .ok (.pop, 1) := by decide +kernel
theorem d3_18 : decode prog_55_method_1_code 18 = .ok (.aload_n 3, 1) := by decide +kernel
theorem d3_19 : decode prog_55_method_1_code 19 = .ok (.ldc 17, 2) := by decide +kernel
theorem d3_21 : decode prog_55_method_1_code 21 = .ok (.invokestatic 9, 3) := by decide +kernel
theorem d3_24 : decode prog_55_method_1_code 24 = .ok (.pop, 1) := by decide +kernel
theorem d3_25 : decode prog_55_method_1_code 25 = .ok (.aload 4, 2) := by decide +kernel
theorem d3_27 : decode prog_55_method_1_code 27 = .ok (.ldc 19, 2) := by decide +kernel
theorem d3_29 : decode prog_55_method_1_code 29 = .ok (.invokestatic 9, 3) := by decide +kernel
theorem d3_32 : decode prog_55_method_1_code 32 = .ok (.pop, 1) := by decide +kernel
theorem d3_33 : decode prog_55_method_1_code 33 = .ok (.aload 5, 2) := by decide +kernel
theorem d3_35 : decode prog_55_method_1_code 35 = .ok (.ldc 21, 2) := by decide +kernel
theorem d3_37 : decode prog_55_method_1_code 37 = .ok (.invokestatic 9, 3) := by decide +kernel
theorem d3_40 : decode prog_55_method_1_code 40 = .ok (.pop, 1) := by decide +kernel
theorem d3_41 : decode prog_55_method_1_code 41 = .ok (.aload_n 0, 1) := by decide +kernel
theorem d3_42 : decode prog_55_method_1_code 42 = .ok (.aload_n 1, 1) := by decide +kernel
theorem d3_43 : decode prog_55_method_1_code 43 = .ok (.putfield 23, 3) := by decide +kernel
theorem d3_46 : decode prog_55_method_1_code 46 = .ok (.aload_n 0, 1) := by decide +kernel
theorem d3_47 : decode prog_55_method_1_code 47 = .ok (.aload_n 2, 1) := by decide +kernel
theorem d3_48 : decode prog_55_method_1_code 48 = .ok (.putfield 28, 3) := by decide +kernel
theorem d3_51 : decode prog_55_method_1_code 51 = .ok (.aload_n 0, 1) := by decide +kernel
theorem d3_52 : decode prog_55_method_1_code 52 = .ok (.aload_n 3, 1) := by decide +kernel
theorem d3_53 : decode prog_55_method_1_code 53 = .ok (.putfield 31, 3) := by decide +kernel
theorem d3_56 : decode prog_55_method_1_code 56 = .ok (.aload_n 0, 1) := by decide +kernel
theorem d3_57 : decode prog_55_method_1_code 57 = .ok (.aload 4, 2) := by decide +kernel
theorem d3_59 : decode prog_55_method_1_code 59 = .ok (.putfield 33, 3) := by decide +kernel
theorem d3_62 : decode prog_55_method_1_code 62 = .ok (.aload_n 0, 1) := by decide +kernel
theorem d3_63 : decode prog_55_method_1_code 63 = .ok (.aload 5, 2) := by decide +kernel
theorem d3_65 : decode prog_55_method_1_code 65 = .ok (.putfield 35, 3) := by decide +kernel
theorem d3_68 : decode prog_55_method_1_code 68 = .ok (.return_, 1) := by decide +kernel
theorem ef_rmFI (m : MethodId) (x0 : Addr) (x1 : Addr) (x2 : Addr) (x3 : Addr) (x4 : Addr) (x5 : Addr) : entryFrame m #[(.ref x0), (.ref x1), (.ref x2), (.ref x3), (.ref x4), (.ref x5)] 6 = mkF m 0 #[.val (.ref x0), .val (.ref x1), .val (.ref x2), .val (.ref x3), .val (.ref x4), .val (.ref x5)] [] := by first | (simp [entryFrame, mkF, argsToLocals, Value.category]; done) | rfl
theorem pd_0 : parseMethodDescriptor "()V" = some ⟨[], none⟩ := by decide +kernel
theorem pd_1 : parseMethodDescriptor "(Ljava/lang/Object;Ljava/lang/String;)Ljava/lang/Object;" = some ⟨[(.object "java/lang/Object"), (.object "java/lang/String")], some (.object "java/lang/Object")⟩ := by decide +kernel
set_option maxRecDepth 65536 in
set_option maxHeartbeats 40000000 in
theorem rmFI (l : Launch) (Z : State) (a0 : Array Value) (hw : ∀ d ∈ tables_1, d.before a0 Z = true) (a b1 b2 b3 b4 b5 : Addr) (h0 : Heap) (n0 : Nat) (wS : ∀ a ∈ Bundle.stringAtoms, a.before a0 Z = true) (E : Exa Z h0 a "com/example/perekaz/perekaz/Finding") (F_level : Fld Z h0 a "com/example/perekaz/perekaz/Finding" "level" "Lcom/example/perekaz/perekaz/Level;" .null) (F_ref : Fld Z h0 a "com/example/perekaz/perekaz/Finding" "ref" "Ljava/lang/String;" .null) (F_isoCode : Fld Z h0 a "com/example/perekaz/perekaz/Finding" "isoCode" "Ljava/lang/String;" .null) (F_errorCode : Fld Z h0 a "com/example/perekaz/perekaz/Finding" "errorCode" "Ljava/lang/String;" .null) (F_description : Fld Z h0 a "com/example/perekaz/perekaz/Finding" "description" "Ljava/lang/String;" .null) (g : n0 ≤ a) :
    CMW l Z (⟨"com/example/perekaz/perekaz/Finding", "<init>", "(Lcom/example/perekaz/perekaz/Level;Ljava/lang/String;Ljava/lang/String;Ljava/lang/String;Ljava/lang/String;)V"⟩ : MethodName) prog_55_method_1_code 6 none ({ frames := 2, cells := 10, slots := 160, locals := 24 } : Room) #[(.ref a), (.ref b1), (.ref b2), (.ref b3), (.ref b4), (.ref b5)] h0 n0 (fun v h => v = none ∧ Keep h0 h [a] ∧ Exa Z h a "com/example/perekaz/perekaz/Finding") := by
  refine own_enterC (by decide +kernel) ?_
  intro p e s m below meth c T0 hx hby hml hown hnm hZ hret hlk H0 LB
  replace hown : (s.setVm s.vm).vm.findClass "com/example/perekaz/perekaz/Finding" = some m.cls := hown
  replace hret : meth.sig.returnType = none := hret
  refine Go.via (fun t_ k_ => castTop (ef_rmFI m a b1 b2 b3 b4 b5) k_) ?_
  show Go _ _ _ _ (T0.setTop (mkF m 0 #[.val (.ref a), .val (.ref b1), .val (.ref b2), .val (.ref b3), .val (.ref b4), .val (.ref b5)] []))
  refine Go.via (fun t_ k_ => XS.aloadN H0.here hx rfl (hb hby d3_0) rfl rfl k_) ?_
  show Go _ _ _ _ (T0.setTop (mkF m 1 #[.val (.ref a), .val (.ref b1), .val (.ref b2), .val (.ref b3), .val (.ref b4), .val (.ref b5)] [(.ref a)]))
  refine own_callI H0 hx hZ (y := (⟨"java/lang/Record", "<init>", "()V"⟩ : MethodName)) (a := a) rfl hown (hw _ (List.mem_of_getElem? (i := 40) rfl)) (hw _ (List.mem_of_getElem? (i := 41) rfl)) (hw _ (List.mem_of_getElem? (i := 43) rfl)) (hw _ (List.mem_of_getElem? (i := 44) rfl)) (by decide) (rmRec l Z a0 hw a h0 n0) (g := (mkF m 1 #[.val (.ref a), .val (.ref b1), .val (.ref b2), .val (.ref b3), .val (.ref b4), .val (.ref b5)] [(.ref a)])) rfl (by rw [hml]; rfl) (argsL := []) (rest := []) (lenOf pd_0 rfl) rfl 0 (Nat.le_of_eq rfl) (hb hby d3_1) (by decide) (by decide) (by decide) (by decide) ?_
  rintro _ T1 _ ⟨rfl, rfl⟩ H1
  show Go _ _ _ _ (T1.setTop (mkF m 4 #[.val (.ref a), .val (.ref b1), .val (.ref b2), .val (.ref b3), .val (.ref b4), .val (.ref b5)] []))
  refine Go.via (fun t_ k_ => XS.aloadN H1.here hx rfl (hb hby d3_4) rfl rfl k_) ?_
  show Go _ _ _ _ (T1.setTop (mkF m 5 #[.val (.ref a), .val (.ref b1), .val (.ref b2), .val (.ref b3), .val (.ref b4), .val (.ref b5)] [(.ref b1)]))
  refine own_ldcC H1 LB hx hZ hown (hw _ (List.mem_of_getElem? (i := 46) rfl)) wS (g := (mkF m 5 #[.val (.ref a), .val (.ref b1), .val (.ref b2), .val (.ref b3), .val (.ref b4), .val (.ref b5)] [(.ref b1)])) rfl (hb hby d3_5) 20 (by decide) (by decide) (by decide) (by decide) ?_
  intro a2 T2 h2 E2 LB2 hZ hown H2
  show Go _ _ _ _ (T2.setTop (mkF m 7 #[.val (.ref a), .val (.ref b1), .val (.ref b2), .val (.ref b3), .val (.ref b4), .val (.ref b5)] [(.ref a2), (.ref b1)]))
  refine own_callS H2 hx hZ (y := (⟨"java/util/Objects", "requireNonNull", "(Ljava/lang/Object;Ljava/lang/String;)Ljava/lang/Object;"⟩ : MethodName)) hown (hw _ (List.mem_of_getElem? (i := 47) rfl)) (hw _ (List.mem_of_getElem? (i := 48) rfl)) (hw _ (List.mem_of_getElem? (i := 49) rfl)) (hw _ (List.mem_of_getElem? (i := 50) rfl)) (by decide) (rmRN l Z a0 hw b1 a2 h2 n0) (g := (mkF m 7 #[.val (.ref a), .val (.ref b1), .val (.ref b2), .val (.ref b3), .val (.ref b4), .val (.ref b5)] [(.ref a2), (.ref b1)])) rfl (by rw [hml]; rfl) (argsL := [(.ref b1), (.ref a2)]) (rest := []) (lenOf pd_1 rfl) rfl 0 (Nat.le_of_eq rfl) (hb hby d3_7) (by decide) (by decide) (by decide) (by decide) ?_
  rintro _ T3 _ ⟨rfl, rfl⟩ H3
  show Go _ _ _ _ (T3.setTop (mkF m 10 #[.val (.ref a), .val (.ref b1), .val (.ref b2), .val (.ref b3), .val (.ref b4), .val (.ref b5)] [(.ref b1)]))
  refine Go.via (fun t_ k_ => XS.pop H3.here hx rfl (hb hby d3_10) rfl rfl k_) ?_
  show Go _ _ _ _ (T3.setTop (mkF m 11 #[.val (.ref a), .val (.ref b1), .val (.ref b2), .val (.ref b3), .val (.ref b4), .val (.ref b5)] []))
  refine Go.via (fun t_ k_ => XS.aloadN H3.here hx rfl (hb hby d3_11) rfl rfl k_) ?_
  show Go _ _ _ _ (T3.setTop (mkF m 12 #[.val (.ref a), .val (.ref b1), .val (.ref b2), .val (.ref b3), .val (.ref b4), .val (.ref b5)] [(.ref b2)]))
  refine own_ldcC H3 LB2 hx hZ hown (hw _ (List.mem_of_getElem? (i := 51) rfl)) wS (g := (mkF m 12 #[.val (.ref a), .val (.ref b1), .val (.ref b2), .val (.ref b3), .val (.ref b4), .val (.ref b5)] [(.ref b2)])) rfl (hb hby d3_12) 12 (by decide) (by decide) (by decide) (by decide) ?_
  intro a4 T4 h4 E4 LB4 hZ hown H4
  show Go _ _ _ _ (T4.setTop (mkF m 14 #[.val (.ref a), .val (.ref b1), .val (.ref b2), .val (.ref b3), .val (.ref b4), .val (.ref b5)] [(.ref a4), (.ref b2)]))
  refine own_callS H4 hx hZ (y := (⟨"java/util/Objects", "requireNonNull", "(Ljava/lang/Object;Ljava/lang/String;)Ljava/lang/Object;"⟩ : MethodName)) hown (hw _ (List.mem_of_getElem? (i := 47) rfl)) (hw _ (List.mem_of_getElem? (i := 48) rfl)) (hw _ (List.mem_of_getElem? (i := 49) rfl)) (hw _ (List.mem_of_getElem? (i := 50) rfl)) (by decide) (rmRN l Z a0 hw b2 a4 h4 n0) (g := (mkF m 14 #[.val (.ref a), .val (.ref b1), .val (.ref b2), .val (.ref b3), .val (.ref b4), .val (.ref b5)] [(.ref a4), (.ref b2)])) rfl (by rw [hml]; rfl) (argsL := [(.ref b2), (.ref a4)]) (rest := []) (lenOf pd_1 rfl) rfl 0 (Nat.le_of_eq rfl) (hb hby d3_14) (by decide) (by decide) (by decide) (by decide) ?_
  rintro _ T5 _ ⟨rfl, rfl⟩ H5
  show Go _ _ _ _ (T5.setTop (mkF m 17 #[.val (.ref a), .val (.ref b1), .val (.ref b2), .val (.ref b3), .val (.ref b4), .val (.ref b5)] [(.ref b2)]))
  refine Go.via (fun t_ k_ => XS.pop H5.here hx rfl (hb hby d3_17) rfl rfl k_) ?_
  show Go _ _ _ _ (T5.setTop (mkF m 18 #[.val (.ref a), .val (.ref b1), .val (.ref b2), .val (.ref b3), .val (.ref b4), .val (.ref b5)] []))
  refine Go.via (fun t_ k_ => XS.aloadN H5.here hx rfl (hb hby d3_18) rfl rfl k_) ?_
  show Go _ _ _ _ (T5.setTop (mkF m 19 #[.val (.ref a), .val (.ref b1), .val (.ref b2), .val (.ref b3), .val (.ref b4), .val (.ref b5)] [(.ref b3)]))
  refine own_ldcC H5 LB4 hx hZ hown (hw _ (List.mem_of_getElem? (i := 52) rfl)) wS (g := (mkF m 19 #[.val (.ref a), .val (.ref b1), .val (.ref b2), .val (.ref b3), .val (.ref b4), .val (.ref b5)] [(.ref b3)])) rfl (hb hby d3_19) 28 (by decide) (by decide) (by decide) (by decide) ?_
  intro a6 T6 h6 E6 LB6 hZ hown H6
  show Go _ _ _ _ (T6.setTop (mkF m 21 #[.val (.ref a), .val (.ref b1), .val (.ref b2), .val (.ref b3), .val (.ref b4), .val (.ref b5)] [(.ref a6), (.ref b3)]))
  refine own_callS H6 hx hZ (y := (⟨"java/util/Objects", "requireNonNull", "(Ljava/lang/Object;Ljava/lang/String;)Ljava/lang/Object;"⟩ : MethodName)) hown (hw _ (List.mem_of_getElem? (i := 47) rfl)) (hw _ (List.mem_of_getElem? (i := 48) rfl)) (hw _ (List.mem_of_getElem? (i := 49) rfl)) (hw _ (List.mem_of_getElem? (i := 50) rfl)) (by decide) (rmRN l Z a0 hw b3 a6 h6 n0) (g := (mkF m 21 #[.val (.ref a), .val (.ref b1), .val (.ref b2), .val (.ref b3), .val (.ref b4), .val (.ref b5)] [(.ref a6), (.ref b3)])) rfl (by rw [hml]; rfl) (argsL := [(.ref b3), (.ref a6)]) (rest := []) (lenOf pd_1 rfl) rfl 0 (Nat.le_of_eq rfl) (hb hby d3_21) (by decide) (by decide) (by decide) (by decide) ?_
  rintro _ T7 _ ⟨rfl, rfl⟩ H7
  show Go _ _ _ _ (T7.setTop (mkF m 24 #[.val (.ref a), .val (.ref b1), .val (.ref b2), .val (.ref b3), .val (.ref b4), .val (.ref b5)] [(.ref b3)]))
  refine Go.via (fun t_ k_ => XS.pop H7.here hx rfl (hb hby d3_24) rfl rfl k_) ?_
  show Go _ _ _ _ (T7.setTop (mkF m 25 #[.val (.ref a), .val (.ref b1), .val (.ref b2), .val (.ref b3), .val (.ref b4), .val (.ref b5)] []))
  refine Go.via (fun t_ k_ => XS.aload H7.here hx rfl (hb hby d3_25) rfl rfl k_) ?_
  show Go _ _ _ _ (T7.setTop (mkF m 27 #[.val (.ref a), .val (.ref b1), .val (.ref b2), .val (.ref b3), .val (.ref b4), .val (.ref b5)] [(.ref b4)]))
  refine own_ldcC H7 LB6 hx hZ hown (hw _ (List.mem_of_getElem? (i := 53) rfl)) wS (g := (mkF m 27 #[.val (.ref a), .val (.ref b1), .val (.ref b2), .val (.ref b3), .val (.ref b4), .val (.ref b5)] [(.ref b4)])) rfl (hb hby d3_27) 36 (by decide) (by decide) (by decide) (by decide) ?_
  intro a8 T8 h8 E8 LB8 hZ hown H8
  show Go _ _ _ _ (T8.setTop (mkF m 29 #[.val (.ref a), .val (.ref b1), .val (.ref b2), .val (.ref b3), .val (.ref b4), .val (.ref b5)] [(.ref a8), (.ref b4)]))
  refine own_callS H8 hx hZ (y := (⟨"java/util/Objects", "requireNonNull", "(Ljava/lang/Object;Ljava/lang/String;)Ljava/lang/Object;"⟩ : MethodName)) hown (hw _ (List.mem_of_getElem? (i := 47) rfl)) (hw _ (List.mem_of_getElem? (i := 48) rfl)) (hw _ (List.mem_of_getElem? (i := 49) rfl)) (hw _ (List.mem_of_getElem? (i := 50) rfl)) (by decide) (rmRN l Z a0 hw b4 a8 h8 n0) (g := (mkF m 29 #[.val (.ref a), .val (.ref b1), .val (.ref b2), .val (.ref b3), .val (.ref b4), .val (.ref b5)] [(.ref a8), (.ref b4)])) rfl (by rw [hml]; rfl) (argsL := [(.ref b4), (.ref a8)]) (rest := []) (lenOf pd_1 rfl) rfl 0 (Nat.le_of_eq rfl) (hb hby d3_29) (by decide) (by decide) (by decide) (by decide) ?_
  rintro _ T9 _ ⟨rfl, rfl⟩ H9
  show Go _ _ _ _ (T9.setTop (mkF m 32 #[.val (.ref a), .val (.ref b1), .val (.ref b2), .val (.ref b3), .val (.ref b4), .val (.ref b5)] [(.ref b4)]))
  refine Go.via (fun t_ k_ => XS.pop H9.here hx rfl (hb hby d3_32) rfl rfl k_) ?_
  show Go _ _ _ _ (T9.setTop (mkF m 33 #[.val (.ref a), .val (.ref b1), .val (.ref b2), .val (.ref b3), .val (.ref b4), .val (.ref b5)] []))
  refine Go.via (fun t_ k_ => XS.aload H9.here hx rfl (hb hby d3_33) rfl rfl k_) ?_
  show Go _ _ _ _ (T9.setTop (mkF m 35 #[.val (.ref a), .val (.ref b1), .val (.ref b2), .val (.ref b3), .val (.ref b4), .val (.ref b5)] [(.ref b5)]))
  refine own_ldcC H9 LB8 hx hZ hown (hw _ (List.mem_of_getElem? (i := 54) rfl)) wS (g := (mkF m 35 #[.val (.ref a), .val (.ref b1), .val (.ref b2), .val (.ref b3), .val (.ref b4), .val (.ref b5)] [(.ref b5)])) rfl (hb hby d3_35) 44 (by decide) (by decide) (by decide) (by decide) ?_
  intro a10 T10 h10 E10 LB10 hZ hown H10
  show Go _ _ _ _ (T10.setTop (mkF m 37 #[.val (.ref a), .val (.ref b1), .val (.ref b2), .val (.ref b3), .val (.ref b4), .val (.ref b5)] [(.ref a10), (.ref b5)]))
  refine own_callS H10 hx hZ (y := (⟨"java/util/Objects", "requireNonNull", "(Ljava/lang/Object;Ljava/lang/String;)Ljava/lang/Object;"⟩ : MethodName)) hown (hw _ (List.mem_of_getElem? (i := 47) rfl)) (hw _ (List.mem_of_getElem? (i := 48) rfl)) (hw _ (List.mem_of_getElem? (i := 49) rfl)) (hw _ (List.mem_of_getElem? (i := 50) rfl)) (by decide) (rmRN l Z a0 hw b5 a10 h10 n0) (g := (mkF m 37 #[.val (.ref a), .val (.ref b1), .val (.ref b2), .val (.ref b3), .val (.ref b4), .val (.ref b5)] [(.ref a10), (.ref b5)])) rfl (by rw [hml]; rfl) (argsL := [(.ref b5), (.ref a10)]) (rest := []) (lenOf pd_1 rfl) rfl 0 (Nat.le_of_eq rfl) (hb hby d3_37) (by decide) (by decide) (by decide) (by decide) ?_
  rintro _ T11 _ ⟨rfl, rfl⟩ H11
  show Go _ _ _ _ (T11.setTop (mkF m 40 #[.val (.ref a), .val (.ref b1), .val (.ref b2), .val (.ref b3), .val (.ref b4), .val (.ref b5)] [(.ref b5)]))
  refine Go.via (fun t_ k_ => XS.pop H11.here hx rfl (hb hby d3_40) rfl rfl k_) ?_
  show Go _ _ _ _ (T11.setTop (mkF m 41 #[.val (.ref a), .val (.ref b1), .val (.ref b2), .val (.ref b3), .val (.ref b4), .val (.ref b5)] []))
  refine Go.via (fun t_ k_ => XS.aloadN H11.here hx rfl (hb hby d3_41) rfl rfl k_) ?_
  show Go _ _ _ _ (T11.setTop (mkF m 42 #[.val (.ref a), .val (.ref b1), .val (.ref b2), .val (.ref b3), .val (.ref b4), .val (.ref b5)] [(.ref a)]))
  refine Go.via (fun t_ k_ => XS.aloadN H11.here hx rfl (hb hby d3_42) rfl rfl k_) ?_
  show Go _ _ _ _ (T11.setTop (mkF m 43 #[.val (.ref a), .val (.ref b1), .val (.ref b2), .val (.ref b3), .val (.ref b4), .val (.ref b5)] [(.ref b1), (.ref a)]))
  refine own_putF H11 hx hZ hown (hw _ (List.mem_of_getElem? (i := 55) rfl)) (((((F_level.ext E2).ext E4).ext E6).ext E8).ext E10) (((((E.ext E2).ext E4).ext E6).ext E8).ext E10) (Or.inr ⟨(hw _ (List.mem_of_getElem? (i := 56) rfl)), rfl, hnm⟩) (hw _ (List.mem_of_getElem? (i := 22) rfl)) g (ty := (.object "com/example/perekaz/perekaz/Level")) (by decide) rfl rfl (g := (mkF m 43 #[.val (.ref a), .val (.ref b1), .val (.ref b2), .val (.ref b3), .val (.ref b4), .val (.ref b5)] [(.ref b1), (.ref a)])) rfl rfl (hb hby d3_43) ?_
  intro T12 h12 W12 H12
  have F12_level := (((((F_level.ext E2).ext E4).ext E6).ext E8).ext E10).same W12
  have K12 := (((((((Keep.refl h0 [a]).ext E2).ext E4).ext E6).ext E8).ext E10)).wr W12 (Or.inl (List.mem_of_getElem? (i := 0) rfl))
  show Go _ _ _ _ (T12.setTop (mkF m 46 #[.val (.ref a), .val (.ref b1), .val (.ref b2), .val (.ref b3), .val (.ref b4), .val (.ref b5)] []))
  refine Go.via (fun t_ k_ => XS.aloadN H12.here hx rfl (hb hby d3_46) rfl rfl k_) ?_
  show Go _ _ _ _ (T12.setTop (mkF m 47 #[.val (.ref a), .val (.ref b1), .val (.ref b2), .val (.ref b3), .val (.ref b4), .val (.ref b5)] [(.ref a)]))
  refine Go.via (fun t_ k_ => XS.aloadN H12.here hx rfl (hb hby d3_47) rfl rfl k_) ?_
  show Go _ _ _ _ (T12.setTop (mkF m 48 #[.val (.ref a), .val (.ref b1), .val (.ref b2), .val (.ref b3), .val (.ref b4), .val (.ref b5)] [(.ref b2), (.ref a)]))
  refine own_putF H12 hx hZ hown (hw _ (List.mem_of_getElem? (i := 57) rfl)) ((((((F_ref.ext E2).ext E4).ext E6).ext E8).ext E10).other W12 (Or.inr (slot_ne (Or.inr (hw _ (List.mem_of_getElem? (i := 58) rfl))) (Or.inr (hw _ (List.mem_of_getElem? (i := 56) rfl))) (by decide) (t := (.object "java/lang/String")) (t' := (.object "com/example/perekaz/perekaz/Level")) (by decide) (by decide)))) ((((((E.ext E2).ext E4).ext E6).ext E8).ext E10).wr W12) (Or.inr ⟨(hw _ (List.mem_of_getElem? (i := 58) rfl)), rfl, hnm⟩) (hw _ (List.mem_of_getElem? (i := 22) rfl)) g (ty := (.object "java/lang/String")) (by decide) rfl rfl (g := (mkF m 48 #[.val (.ref a), .val (.ref b1), .val (.ref b2), .val (.ref b3), .val (.ref b4), .val (.ref b5)] [(.ref b2), (.ref a)])) rfl rfl (hb hby d3_48) ?_
  intro T13 h13 W13 H13
  have F13_ref := ((((((F_ref.ext E2).ext E4).ext E6).ext E8).ext E10).other W12 (Or.inr (slot_ne (Or.inr (hw _ (List.mem_of_getElem? (i := 58) rfl))) (Or.inr (hw _ (List.mem_of_getElem? (i := 56) rfl))) (by decide) (t := (.object "java/lang/String")) (t' := (.object "com/example/perekaz/perekaz/Level")) (by decide) (by decide)))).same W13
  have K13 := (K12).wr W13 (Or.inl (List.mem_of_getElem? (i := 0) rfl))
  show Go _ _ _ _ (T13.setTop (mkF m 51 #[.val (.ref a), .val (.ref b1), .val (.ref b2), .val (.ref b3), .val (.ref b4), .val (.ref b5)] []))
  refine Go.via (fun t_ k_ => XS.aloadN H13.here hx rfl (hb hby d3_51) rfl rfl k_) ?_
  show Go _ _ _ _ (T13.setTop (mkF m 52 #[.val (.ref a), .val (.ref b1), .val (.ref b2), .val (.ref b3), .val (.ref b4), .val (.ref b5)] [(.ref a)]))
  refine Go.via (fun t_ k_ => XS.aloadN H13.here hx rfl (hb hby d3_52) rfl rfl k_) ?_
  show Go _ _ _ _ (T13.setTop (mkF m 53 #[.val (.ref a), .val (.ref b1), .val (.ref b2), .val (.ref b3), .val (.ref b4), .val (.ref b5)] [(.ref b3), (.ref a)]))
  refine own_putF H13 hx hZ hown (hw _ (List.mem_of_getElem? (i := 59) rfl)) (((((((F_isoCode.ext E2).ext E4).ext E6).ext E8).ext E10).other W12 (Or.inr (slot_ne (Or.inr (hw _ (List.mem_of_getElem? (i := 60) rfl))) (Or.inr (hw _ (List.mem_of_getElem? (i := 56) rfl))) (by decide) (t := (.object "java/lang/String")) (t' := (.object "com/example/perekaz/perekaz/Level")) (by decide) (by decide)))).other W13 (Or.inr (slot_ne (Or.inr (hw _ (List.mem_of_getElem? (i := 60) rfl))) (Or.inr (hw _ (List.mem_of_getElem? (i := 58) rfl))) (by decide) (t := (.object "java/lang/String")) (t' := (.object "java/lang/String")) (by decide) (by decide)))) (((((((E.ext E2).ext E4).ext E6).ext E8).ext E10).wr W12).wr W13) (Or.inr ⟨(hw _ (List.mem_of_getElem? (i := 60) rfl)), rfl, hnm⟩) (hw _ (List.mem_of_getElem? (i := 22) rfl)) g (ty := (.object "java/lang/String")) (by decide) rfl rfl (g := (mkF m 53 #[.val (.ref a), .val (.ref b1), .val (.ref b2), .val (.ref b3), .val (.ref b4), .val (.ref b5)] [(.ref b3), (.ref a)])) rfl rfl (hb hby d3_53) ?_
  intro T14 h14 W14 H14
  have F14_isoCode := (((((((F_isoCode.ext E2).ext E4).ext E6).ext E8).ext E10).other W12 (Or.inr (slot_ne (Or.inr (hw _ (List.mem_of_getElem? (i := 60) rfl))) (Or.inr (hw _ (List.mem_of_getElem? (i := 56) rfl))) (by decide) (t := (.object "java/lang/String")) (t' := (.object "com/example/perekaz/perekaz/Level")) (by decide) (by decide)))).other W13 (Or.inr (slot_ne (Or.inr (hw _ (List.mem_of_getElem? (i := 60) rfl))) (Or.inr (hw _ (List.mem_of_getElem? (i := 58) rfl))) (by decide) (t := (.object "java/lang/String")) (t' := (.object "java/lang/String")) (by decide) (by decide)))).same W14
  have K14 := (K13).wr W14 (Or.inl (List.mem_of_getElem? (i := 0) rfl))
  show Go _ _ _ _ (T14.setTop (mkF m 56 #[.val (.ref a), .val (.ref b1), .val (.ref b2), .val (.ref b3), .val (.ref b4), .val (.ref b5)] []))
  refine Go.via (fun t_ k_ => XS.aloadN H14.here hx rfl (hb hby d3_56) rfl rfl k_) ?_
  show Go _ _ _ _ (T14.setTop (mkF m 57 #[.val (.ref a), .val (.ref b1), .val (.ref b2), .val (.ref b3), .val (.ref b4), .val (.ref b5)] [(.ref a)]))
  refine Go.via (fun t_ k_ => XS.aload H14.here hx rfl (hb hby d3_57) rfl rfl k_) ?_
  show Go _ _ _ _ (T14.setTop (mkF m 59 #[.val (.ref a), .val (.ref b1), .val (.ref b2), .val (.ref b3), .val (.ref b4), .val (.ref b5)] [(.ref b4), (.ref a)]))
  refine own_putF H14 hx hZ hown (hw _ (List.mem_of_getElem? (i := 61) rfl)) ((((((((F_errorCode.ext E2).ext E4).ext E6).ext E8).ext E10).other W12 (Or.inr (slot_ne (Or.inr (hw _ (List.mem_of_getElem? (i := 62) rfl))) (Or.inr (hw _ (List.mem_of_getElem? (i := 56) rfl))) (by decide) (t := (.object "java/lang/String")) (t' := (.object "com/example/perekaz/perekaz/Level")) (by decide) (by decide)))).other W13 (Or.inr (slot_ne (Or.inr (hw _ (List.mem_of_getElem? (i := 62) rfl))) (Or.inr (hw _ (List.mem_of_getElem? (i := 58) rfl))) (by decide) (t := (.object "java/lang/String")) (t' := (.object "java/lang/String")) (by decide) (by decide)))).other W14 (Or.inr (slot_ne (Or.inr (hw _ (List.mem_of_getElem? (i := 62) rfl))) (Or.inr (hw _ (List.mem_of_getElem? (i := 60) rfl))) (by decide) (t := (.object "java/lang/String")) (t' := (.object "java/lang/String")) (by decide) (by decide)))) ((((((((E.ext E2).ext E4).ext E6).ext E8).ext E10).wr W12).wr W13).wr W14) (Or.inr ⟨(hw _ (List.mem_of_getElem? (i := 62) rfl)), rfl, hnm⟩) (hw _ (List.mem_of_getElem? (i := 22) rfl)) g (ty := (.object "java/lang/String")) (by decide) rfl rfl (g := (mkF m 59 #[.val (.ref a), .val (.ref b1), .val (.ref b2), .val (.ref b3), .val (.ref b4), .val (.ref b5)] [(.ref b4), (.ref a)])) rfl rfl (hb hby d3_59) ?_
  intro T15 h15 W15 H15
  have F15_errorCode := ((((((((F_errorCode.ext E2).ext E4).ext E6).ext E8).ext E10).other W12 (Or.inr (slot_ne (Or.inr (hw _ (List.mem_of_getElem? (i := 62) rfl))) (Or.inr (hw _ (List.mem_of_getElem? (i := 56) rfl))) (by decide) (t := (.object "java/lang/String")) (t' := (.object "com/example/perekaz/perekaz/Level")) (by decide) (by decide)))).other W13 (Or.inr (slot_ne (Or.inr (hw _ (List.mem_of_getElem? (i := 62) rfl))) (Or.inr (hw _ (List.mem_of_getElem? (i := 58) rfl))) (by decide) (t := (.object "java/lang/String")) (t' := (.object "java/lang/String")) (by decide) (by decide)))).other W14 (Or.inr (slot_ne (Or.inr (hw _ (List.mem_of_getElem? (i := 62) rfl))) (Or.inr (hw _ (List.mem_of_getElem? (i := 60) rfl))) (by decide) (t := (.object "java/lang/String")) (t' := (.object "java/lang/String")) (by decide) (by decide)))).same W15
  have K15 := (K14).wr W15 (Or.inl (List.mem_of_getElem? (i := 0) rfl))
  show Go _ _ _ _ (T15.setTop (mkF m 62 #[.val (.ref a), .val (.ref b1), .val (.ref b2), .val (.ref b3), .val (.ref b4), .val (.ref b5)] []))
  refine Go.via (fun t_ k_ => XS.aloadN H15.here hx rfl (hb hby d3_62) rfl rfl k_) ?_
  show Go _ _ _ _ (T15.setTop (mkF m 63 #[.val (.ref a), .val (.ref b1), .val (.ref b2), .val (.ref b3), .val (.ref b4), .val (.ref b5)] [(.ref a)]))
  refine Go.via (fun t_ k_ => XS.aload H15.here hx rfl (hb hby d3_63) rfl rfl k_) ?_
  show Go _ _ _ _ (T15.setTop (mkF m 65 #[.val (.ref a), .val (.ref b1), .val (.ref b2), .val (.ref b3), .val (.ref b4), .val (.ref b5)] [(.ref b5), (.ref a)]))
  refine own_putF H15 hx hZ hown (hw _ (List.mem_of_getElem? (i := 63) rfl)) (((((((((F_description.ext E2).ext E4).ext E6).ext E8).ext E10).other W12 (Or.inr (slot_ne (Or.inr (hw _ (List.mem_of_getElem? (i := 64) rfl))) (Or.inr (hw _ (List.mem_of_getElem? (i := 56) rfl))) (by decide) (t := (.object "java/lang/String")) (t' := (.object "com/example/perekaz/perekaz/Level")) (by decide) (by decide)))).other W13 (Or.inr (slot_ne (Or.inr (hw _ (List.mem_of_getElem? (i := 64) rfl))) (Or.inr (hw _ (List.mem_of_getElem? (i := 58) rfl))) (by decide) (t := (.object "java/lang/String")) (t' := (.object "java/lang/String")) (by decide) (by decide)))).other W14 (Or.inr (slot_ne (Or.inr (hw _ (List.mem_of_getElem? (i := 64) rfl))) (Or.inr (hw _ (List.mem_of_getElem? (i := 60) rfl))) (by decide) (t := (.object "java/lang/String")) (t' := (.object "java/lang/String")) (by decide) (by decide)))).other W15 (Or.inr (slot_ne (Or.inr (hw _ (List.mem_of_getElem? (i := 64) rfl))) (Or.inr (hw _ (List.mem_of_getElem? (i := 62) rfl))) (by decide) (t := (.object "java/lang/String")) (t' := (.object "java/lang/String")) (by decide) (by decide)))) (((((((((E.ext E2).ext E4).ext E6).ext E8).ext E10).wr W12).wr W13).wr W14).wr W15) (Or.inr ⟨(hw _ (List.mem_of_getElem? (i := 64) rfl)), rfl, hnm⟩) (hw _ (List.mem_of_getElem? (i := 22) rfl)) g (ty := (.object "java/lang/String")) (by decide) rfl rfl (g := (mkF m 65 #[.val (.ref a), .val (.ref b1), .val (.ref b2), .val (.ref b3), .val (.ref b4), .val (.ref b5)] [(.ref b5), (.ref a)])) rfl rfl (hb hby d3_65) ?_
  intro T16 h16 W16 H16
  have F16_description := (((((((((F_description.ext E2).ext E4).ext E6).ext E8).ext E10).other W12 (Or.inr (slot_ne (Or.inr (hw _ (List.mem_of_getElem? (i := 64) rfl))) (Or.inr (hw _ (List.mem_of_getElem? (i := 56) rfl))) (by decide) (t := (.object "java/lang/String")) (t' := (.object "com/example/perekaz/perekaz/Level")) (by decide) (by decide)))).other W13 (Or.inr (slot_ne (Or.inr (hw _ (List.mem_of_getElem? (i := 64) rfl))) (Or.inr (hw _ (List.mem_of_getElem? (i := 58) rfl))) (by decide) (t := (.object "java/lang/String")) (t' := (.object "java/lang/String")) (by decide) (by decide)))).other W14 (Or.inr (slot_ne (Or.inr (hw _ (List.mem_of_getElem? (i := 64) rfl))) (Or.inr (hw _ (List.mem_of_getElem? (i := 60) rfl))) (by decide) (t := (.object "java/lang/String")) (t' := (.object "java/lang/String")) (by decide) (by decide)))).other W15 (Or.inr (slot_ne (Or.inr (hw _ (List.mem_of_getElem? (i := 64) rfl))) (Or.inr (hw _ (List.mem_of_getElem? (i := 62) rfl))) (by decide) (t := (.object "java/lang/String")) (t' := (.object "java/lang/String")) (by decide) (by decide)))).same W16
  have K16 := (K15).wr W16 (Or.inl (List.mem_of_getElem? (i := 0) rfl))
  show Go _ _ _ _ (T16.setTop (mkF m 68 #[.val (.ref a), .val (.ref b1), .val (.ref b2), .val (.ref b3), .val (.ref b4), .val (.ref b5)] []))
  exact own_retVC H16 (((((LB10.grow (Keep.of_wr W12).1).grow (Keep.of_wr W13).1).grow (Keep.of_wr W14).1).grow (Keep.of_wr W15).1).grow (Keep.of_wr W16).1) hx hlk hret (hb hby d3_68) ⟨rfl, K16, ((((((((((E.ext E2).ext E4).ext E6).ext E8).ext E10).wr W12).wr W13).wr W14).wr W15).wr W16)⟩ (by decide) (by decide)
theorem d7_0 : decode prog_182_method_4_code 0 = .ok (.aload_n 0, 1) := by decide +kernel
theorem d7_1 : decode prog_182_method_4_code 1 = .ok (.getfield 20, 3) := by decide +kernel
theorem d7_4 : decode prog_182_method_4_code 4 = .ok (.iload_n 1, 1) := by decide +kernel
theorem d7_5 : decode prog_182_method_4_code 5 = .ok (.aaload, 1) := by decide +kernel
theorem d7_6 : decode prog_182_method_4_code 6 = .ok (.iload_n 2, 1) := by decide +kernel
theorem d7_7 : decode prog_182_method_4_code 7 = .ok (.aload_n 3, 1) := by decide +kernel
theorem d7_8 : decode prog_182_method_4_code 8 = .ok (.aastore, 1) := by decide +kernel
theorem d7_9 : decode prog_182_method_4_code 9 = .ok (.return_, 1) := by decide +kernel
theorem ef_rmRT (m : MethodId) (x0 : Addr) (x1 : Int32) (x2 : Int32) (x3 : Addr) : entryFrame m #[(.ref x0), (.int x1), (.int x2), (.ref x3)] 4 = mkF m 0 #[.val (.ref x0), .val (.int x1), .val (.int x2), .val (.ref x3)] [] := by first | (simp [entryFrame, mkF, argsToLocals, Value.category]; done) | rfl
set_option maxRecDepth 65536 in
set_option maxHeartbeats 40000000 in
theorem rmRT (l : Launch) (Z : State) (a0 : Array Value) (hw : ∀ d ∈ tables_1, d.before a0 Z = true) (o ta ba f : Addr) (tt : Nat → Addr) (cc : Nat → Nat) (P : Nat → Nat → Bool) (bI tI : Int32) (b t : Nat) (h0 : Heap) (n0 : Nat) (RA : RejAt Z h0 n0 o ta ba tt cc f P) (Ef : Exa Z h0 f "com/example/perekaz/perekaz/Finding") (hbI : bI.toInt = (b : Int)) (hb2 : b < 2) (ht : tI.toInt = (t : Int)) (htc : t < cc b) :
    CM l Z (⟨"com/example/perekaz/perekaz/Rejections", "rejectTransaction", "(IILcom/example/perekaz/perekaz/Finding;)V"⟩ : MethodName) prog_182_method_4_code 4 none ({ frames := 0, cells := 0, slots := 0, locals := 0 } : Room) #[(.ref o), (.int bI), (.int tI), (.ref f)] h0 n0 (fun v h => v = none ∧ RejAt Z h n0 o ta ba tt cc f (mkP P b t true) ∧ Exa Z h f "com/example/perekaz/perekaz/Finding" ∧ h0.size ≤ h.size) := by
  refine own_enter (by decide +kernel) ?_
  intro p e s m below meth c T0 hx hby hml hown hnm hZ hret hlk H0
  replace hown : s.vm.findClass "com/example/perekaz/perekaz/Rejections" = some m.cls := hown
  replace hret : meth.sig.returnType = none := hret
  refine Go.via (fun t_ k_ => castTop (ef_rmRT m o bI tI f) k_) ?_
  have RA0 := RA
  obtain ⟨Eo, Fo, Fb, ⟨kT, AT⟩, AI, ⟨kB, WB, AB, OB⟩, r1, r2, r3, r4, r5⟩ := RA
  show Go _ _ _ _ (T0.setTop (mkF m 0 #[.val (.ref o), .val (.int bI), .val (.int tI), .val (.ref f)] []))
  refine Go.via (fun t_ k_ => XS.aloadN H0.here hx rfl (hb hby d7_0) rfl rfl k_) ?_
  show Go _ _ _ _ (T0.setTop (mkF m 1 #[.val (.ref o), .val (.int bI), .val (.int tI), .val (.ref f)] [(.ref o)]))
  refine own_getF H0 hx hZ hown (hw _ (List.mem_of_getElem? (i := 18) rfl)) Fo (g := (mkF m 1 #[.val (.ref o), .val (.int bI), .val (.int tI), .val (.ref f)] [(.ref o)])) rfl rfl (hb hby d7_1) ?_
  intro T1 H1
  show Go _ _ _ _ (T1.setTop (mkF m 4 #[.val (.ref o), .val (.int bI), .val (.int tI), .val (.ref f)] [(.ref ta)]))
  refine Go.via (fun t_ k_ => XS.iloadN H1.here hx rfl (hb hby d7_4) rfl k_) ?_
  show Go _ _ _ _ (T1.setTop (mkF m 5 #[.val (.ref o), .val (.int bI), .val (.int tI), .val (.ref f)] [(.int bI), (.ref ta)]))
  obtain ⟨k_, A_, O_⟩ := AI b hb2
  refine own_ldRA H1 hx hZ AT rfl (j := b) hbI hb2 (v := .ref (tt b)) rfl (g := (mkF m 5 #[.val (.ref o), .val (.int bI), .val (.int tI), .val (.ref f)] [(.int bI), (.ref ta)])) rfl rfl (hb hby d7_5) ?_
  show Go _ _ _ _ (T1.setTop (mkF m 6 #[.val (.ref o), .val (.int bI), .val (.int tI), .val (.ref f)] [(.ref (tt b))]))
  refine Go.via (fun t_ k_ => XS.iloadN H1.here hx rfl (hb hby d7_6) rfl k_) ?_
  show Go _ _ _ _ (T1.setTop (mkF m 7 #[.val (.ref o), .val (.int bI), .val (.int tI), .val (.ref f)] [(.int tI), (.ref (tt b))]))
  refine Go.via (fun t_ k_ => XS.aloadN H1.here hx rfl (hb hby d7_7) rfl rfl k_) ?_
  show Go _ _ _ _ (T1.setTop (mkF m 8 #[.val (.ref o), .val (.int bI), .val (.int tI), .val (.ref f)] [(.ref f), (.int tI), (.ref (tt b))]))
  refine own_stRA H1 hx hZ A_ rfl (fun cl_ A_ r_ => Sto.ofV A_ r_ O_ (Ins.self Ef)) (j := t) ht htc (r2 b hb2).2.2.2 (g := (mkF m 8 #[.val (.ref o), .val (.int bI), .val (.int tI), .val (.ref f)] [(.ref f), (.int tI), (.ref (tt b))])) rfl rfl (hb hby d7_8) ?_
  intro T2 h2 W2 O2 H2
  show Go _ _ _ _ (T2.setTop (mkF m 9 #[.val (.ref o), .val (.int bI), .val (.int tI), .val (.ref f)] []))
  exact own_retV H2 hx hlk hret (hb hby d7_9) ⟨rfl, RA0.set hb2 W2, (Ef.wr W2), (Keep.of_wr W2).1⟩ (by decide) (by decide)
theorem d9_0 : decode prog_182_method_3_code 0 = .ok (.aload_n 0, 1) := by decide +kernel
theorem d9_1 : decode prog_182_method_3_code 1 = .ok (.getfield 15, 3) := by decide +kernel
theorem d9_4 : decode prog_182_method_3_code 4 = .ok (.iload_n 1, 1) := by decide +kernel
theorem d9_5 : decode prog_182_method_3_code 5 = .ok (.aload_n 2, 1) := by decide +kernel
theorem d9_6 : decode prog_182_method_3_code 6 = .ok (.aastore, 1) := by decide +kernel
theorem d9_7 : decode prog_182_method_3_code 7 = .ok (.return_, 1) := by decide +kernel
theorem ef_rmRB (m : MethodId) (x0 : Addr) (x1 : Int32) (x2 : Addr) : entryFrame m #[(.ref x0), (.int x1), (.ref x2)] 3 = mkF m 0 #[.val (.ref x0), .val (.int x1), .val (.ref x2)] [] := by first | (simp [entryFrame, mkF, argsToLocals, Value.category]; done) | rfl
set_option maxRecDepth 65536 in
set_option maxHeartbeats 40000000 in
theorem rmRB (l : Launch) (Z : State) (a0 : Array Value) (hw : ∀ d ∈ tables_1, d.before a0 Z = true) (o ta ba f : Addr) (tt : Nat → Addr) (cc : Nat → Nat) (P : Nat → Nat → Bool) (bI : Int32) (b : Nat) (h0 : Heap) (n0 : Nat) (RA : RejAt Z h0 n0 o ta ba tt cc f P) (Ef : Exa Z h0 f "com/example/perekaz/perekaz/Finding") (hbI : bI.toInt = (b : Int)) (hb2 : b < 2) :
    CM l Z (⟨"com/example/perekaz/perekaz/Rejections", "rejectBlock", "(ILcom/example/perekaz/perekaz/Finding;)V"⟩ : MethodName) prog_182_method_3_code 3 none ({ frames := 0, cells := 0, slots := 0, locals := 0 } : Room) #[(.ref o), (.int bI), (.ref f)] h0 n0 (fun v h => v = none ∧ RejAt Z h n0 o ta ba tt cc f P ∧ Exa Z h f "com/example/perekaz/perekaz/Finding" ∧ h0.size ≤ h.size) := by
  refine own_enter (by decide +kernel) ?_
  intro p e s m below meth c T0 hx hby hml hown hnm hZ hret hlk H0
  replace hown : s.vm.findClass "com/example/perekaz/perekaz/Rejections" = some m.cls := hown
  replace hret : meth.sig.returnType = none := hret
  refine Go.via (fun t_ k_ => castTop (ef_rmRB m o bI f) k_) ?_
  have RA0 := RA
  obtain ⟨Eo, Fo, Fb, ⟨kT, AT⟩, AI, ⟨kB, WB, AB, OB⟩, r1, r2, r3, r4, r5⟩ := RA
  show Go _ _ _ _ (T0.setTop (mkF m 0 #[.val (.ref o), .val (.int bI), .val (.ref f)] []))
  refine Go.via (fun t_ k_ => XS.aloadN H0.here hx rfl (hb hby d9_0) rfl rfl k_) ?_
  show Go _ _ _ _ (T0.setTop (mkF m 1 #[.val (.ref o), .val (.int bI), .val (.ref f)] [(.ref o)]))
  refine own_getF H0 hx hZ hown (hw _ (List.mem_of_getElem? (i := 14) rfl)) Fb (g := (mkF m 1 #[.val (.ref o), .val (.int bI), .val (.ref f)] [(.ref o)])) rfl rfl (hb hby d9_1) ?_
  intro T1 H1
  show Go _ _ _ _ (T1.setTop (mkF m 4 #[.val (.ref o), .val (.int bI), .val (.ref f)] [(.ref ba)]))
  refine Go.via (fun t_ k_ => XS.iloadN H1.here hx rfl (hb hby d9_4) rfl k_) ?_
  show Go _ _ _ _ (T1.setTop (mkF m 5 #[.val (.ref o), .val (.int bI), .val (.ref f)] [(.int bI), (.ref ba)]))
  refine Go.via (fun t_ k_ => XS.aloadN H1.here hx rfl (hb hby d9_5) rfl rfl k_) ?_
  show Go _ _ _ _ (T1.setTop (mkF m 6 #[.val (.ref o), .val (.int bI), .val (.ref f)] [(.ref f), (.int bI), (.ref ba)]))
  refine own_stRA H1 hx hZ AB rfl (fun cl_ A_ r_ => Sto.ofV A_ r_ OB (Ins.self Ef)) (j := b) hbI hb2 r5 (g := (mkF m 6 #[.val (.ref o), .val (.int bI), .val (.ref f)] [(.ref f), (.int bI), (.ref ba)])) rfl rfl (hb hby d9_6) ?_
  intro T2 h2 W2 O2 H2
  show Go _ _ _ _ (T2.setTop (mkF m 7 #[.val (.ref o), .val (.int bI), .val (.ref f)] []))
  exact own_retV H2 hx hlk hret (hb hby d9_7) ⟨rfl, RA0.blk W2, (Ef.wr W2), (Keep.of_wr W2).1⟩ (by decide) (by decide)
theorem d6_0 : decode method_2_code 0 = .ok (.iload 4, 2) := by decide +kernel
theorem d6_2 : decode method_2_code 2 = .ok (.iload_n 2, 1) := by decide +kernel
theorem d6_3 : decode method_2_code 3 = .ok (.if_icmp .ge 21, 3) := by decide +kernel
theorem d6_6 : decode method_2_code 6 = .ok (.iload_n 3, 1) := by decide +kernel
theorem d6_7 : decode method_2_code 7 = .ok (.iload 4, 2) := by decide +kernel
theorem d6_9 : decode method_2_code 9 = .ok (.ishr, 1) := by decide +kernel
theorem d6_10 : decode method_2_code 10 = .ok (.iconst 1, 1) := by decide +kernel
theorem d6_11 : decode method_2_code 11 = .ok (.iand, 1) := by decide +kernel
theorem d6_12 : decode method_2_code 12 = .ok (.ifCond .eq 12, 3) := by decide +kernel
theorem d6_15 : decode method_2_code 15 = .ok (.aload_n 0, 1) := by decide +kernel
theorem d6_16 : decode method_2_code 16 = .ok (.iload_n 1, 1) := by decide +kernel
theorem d6_17 : decode method_2_code 17 = .ok (.iload 4, 2) := by decide +kernel
theorem d6_19 : decode method_2_code 19 = .ok (.aload 5, 2) := by decide +kernel
theorem d6_21 : decode method_2_code 21 = .ok (.invokevirtual 7, 3) := by decide +kernel
theorem d6_24 : decode method_2_code 24 = .ok (.return_, 1) := by decide +kernel
theorem ef_rmMk (m : MethodId) (x0 : Addr) (x1 : Int32) (x2 : Int32) (x3 : Int32) (x4 : Int32) (x5 : Addr) : entryFrame m #[(.ref x0), (.int x1), (.int x2), (.int x3), (.int x4), (.ref x5)] 6 = mkF m 0 #[.val (.ref x0), .val (.int x1), .val (.int x2), .val (.int x3), .val (.int x4), .val (.ref x5)] [] := by first | (simp [entryFrame, mkF, argsToLocals, Value.category]; done) | rfl
theorem pd_2 : parseMethodDescriptor "(IILcom/example/perekaz/perekaz/Finding;)V" = some ⟨[.int, .int, (.object "com/example/perekaz/perekaz/Finding")], none⟩ := by decide +kernel
set_option maxRecDepth 65536 in
set_option maxHeartbeats 40000000 in
theorem rmMk (l : Launch) (Z : State) (a0 : Array Value) (hw : ∀ d ∈ tables_1, d.before a0 Z = true) (o ta ba f : Addr) (tt : Nat → Addr) (cc : Nat → Nat) (P : Nat → Nat → Bool) (bI cnt bits tI : Int32) (b t : Nat) (h0 : Heap) (n0 : Nat) (RA : RejAt Z h0 n0 o ta ba tt cc f P) (Ef : Exa Z h0 f "com/example/perekaz/perekaz/Finding") (hbI : bI.toInt = (b : Int)) (hb2 : b < 2) (ht : tI.toInt = (t : Int)) (hcn : cnt.toInt = (cc b : Int)) :
    CM l Z (⟨"com/example/perekaz/perekaz/RejectionsAnyTransactionPinLaw", "mark", "(Lcom/example/perekaz/perekaz/Rejections;IIIILcom/example/perekaz/perekaz/Finding;)V"⟩ : MethodName) method_2_code 6 none ({ frames := 1, cells := 0, slots := 0, locals := 15 } : Room) #[(.ref o), (.int bI), (.int cnt), (.int bits), (.int tI), (.ref f)] h0 n0 (fun v h => v = none ∧ RejAt Z h n0 o ta ba tt cc f (mkP P b t (cnd cnt bits tI)) ∧ Exa Z h f "com/example/perekaz/perekaz/Finding" ∧ h0.size ≤ h.size) := by
  refine own_enter (by decide +kernel) ?_
  intro p e s m below meth c T0 hx hby hml hown hnm hZ hret hlk H0
  replace hown : s.vm.findClass "com/example/perekaz/perekaz/RejectionsAnyTransactionPinLaw" = some m.cls := hown
  replace hret : meth.sig.returnType = none := hret
  refine Go.via (fun t_ k_ => castTop (ef_rmMk m o bI cnt bits tI f) k_) ?_
  show Go _ _ _ _ (T0.setTop (mkF m 0 #[.val (.ref o), .val (.int bI), .val (.int cnt), .val (.int bits), .val (.int tI), .val (.ref f)] []))
  refine Go.via (fun t_ k_ => XS.iload H0.here hx rfl (hb hby d6_0) rfl k_) ?_
  show Go _ _ _ _ (T0.setTop (mkF m 2 #[.val (.ref o), .val (.int bI), .val (.int cnt), .val (.int bits), .val (.int tI), .val (.ref f)] [(.int tI)]))
  refine Go.via (fun t_ k_ => XS.iloadN H0.here hx rfl (hb hby d6_2) rfl k_) ?_
  show Go _ _ _ _ (T0.setTop (mkF m 3 #[.val (.ref o), .val (.int bI), .val (.int cnt), .val (.int bits), .val (.int tI), .val (.ref f)] [(.int cnt), (.int tI)]))
  by_cases hc3 : tI < cnt
  · refine Go.via (fun t_ k_ => XS.icmpNo H0.here hx rfl (hb hby d6_3) rfl ((tlt hc3).2.1) k_) ?_
    show Go _ _ _ _ (T0.setTop (mkF m 6 #[.val (.ref o), .val (.int bI), .val (.int cnt), .val (.int bits), .val (.int tI), .val (.ref f)] []))
    refine Go.via (fun t_ k_ => XS.iloadN H0.here hx rfl (hb hby d6_6) rfl k_) ?_
    show Go _ _ _ _ (T0.setTop (mkF m 7 #[.val (.ref o), .val (.int bI), .val (.int cnt), .val (.int bits), .val (.int tI), .val (.ref f)] [(.int bits)]))
    refine Go.via (fun t_ k_ => XS.iload H0.here hx rfl (hb hby d6_7) rfl k_) ?_
    show Go _ _ _ _ (T0.setTop (mkF m 9 #[.val (.ref o), .val (.int bI), .val (.int cnt), .val (.int bits), .val (.int tI), .val (.ref f)] [(.int tI), (.int bits)]))
    refine Go.via (fun t_ k_ => XS.ishr H0.here hx rfl (hb hby d6_9) rfl k_) ?_
    show Go _ _ _ _ (T0.setTop (mkF m 10 #[.val (.ref o), .val (.int bI), .val (.int cnt), .val (.int bits), .val (.int tI), .val (.ref f)] [(.int (bits >>> (tI &&& 31)))]))
    refine Go.via (fun t_ k_ => XS.iconst H0.here hx rfl (hb hby d6_10) k_) ?_
    show Go _ _ _ _ (T0.setTop (mkF m 11 #[.val (.ref o), .val (.int bI), .val (.int cnt), .val (.int bits), .val (.int tI), .val (.ref f)] [(.int (1 : Int32)), (.int (bits >>> (tI &&& 31)))]))
    refine Go.via (fun t_ k_ => XS.iand H0.here hx rfl (hb hby d6_11) rfl k_) ?_
    show Go _ _ _ _ (T0.setTop (mkF m 12 #[.val (.ref o), .val (.int bI), .val (.int cnt), .val (.int bits), .val (.int tI), .val (.ref f)] [(.int ((bits >>> (tI &&& 31)) &&& (1 : Int32)))]))
    by_cases hc12 : ((bits >>> (tI &&& 31)) &&& (1 : Int32)) = (0 : Int32)
    · refine Go.via (fun t_ k_ => XS.ifYes H0.here hx rfl (pc0 := 12) (pc' := 24) rfl (hb hby d6_12) rfl ((if0 _ _).trans (teq hc12).1) (by decide) (by decide) k_) ?_
      show Go _ _ _ _ (T0.setTop (mkF m 24 #[.val (.ref o), .val (.int bI), .val (.int cnt), .val (.int bits), .val (.int tI), .val (.ref f)] []))
      exact own_retV H0 hx hlk hret (hb hby d6_24) ⟨rfl, (by rw [show cnd cnt bits tI = false from by simp [cnd, eq_true hc3, eq_true hc12]]; rw [mkP_false]; exact RA), Ef, Nat.le_refl _⟩ (by decide) (by decide)
    · refine Go.via (fun t_ k_ => XS.ifNo H0.here hx rfl (hb hby d6_12) rfl ((if0 _ _).trans (feq hc12).1) k_) ?_
      show Go _ _ _ _ (T0.setTop (mkF m 15 #[.val (.ref o), .val (.int bI), .val (.int cnt), .val (.int bits), .val (.int tI), .val (.ref f)] []))
      refine Go.via (fun t_ k_ => XS.aloadN H0.here hx rfl (hb hby d6_15) rfl rfl k_) ?_
      show Go _ _ _ _ (T0.setTop (mkF m 16 #[.val (.ref o), .val (.int bI), .val (.int cnt), .val (.int bits), .val (.int tI), .val (.ref f)] [(.ref o)]))
      refine Go.via (fun t_ k_ => XS.iloadN H0.here hx rfl (hb hby d6_16) rfl k_) ?_
      show Go _ _ _ _ (T0.setTop (mkF m 17 #[.val (.ref o), .val (.int bI), .val (.int cnt), .val (.int bits), .val (.int tI), .val (.ref f)] [(.int bI), (.ref o)]))
      refine Go.via (fun t_ k_ => XS.iload H0.here hx rfl (hb hby d6_17) rfl k_) ?_
      show Go _ _ _ _ (T0.setTop (mkF m 19 #[.val (.ref o), .val (.int bI), .val (.int cnt), .val (.int bits), .val (.int tI), .val (.ref f)] [(.int tI), (.int bI), (.ref o)]))
      refine Go.via (fun t_ k_ => XS.aload H0.here hx rfl (hb hby d6_19) rfl rfl k_) ?_
      show Go _ _ _ _ (T0.setTop (mkF m 21 #[.val (.ref o), .val (.int bI), .val (.int cnt), .val (.int bits), .val (.int tI), .val (.ref f)] [(.ref f), (.int tI), (.int bI), (.ref o)]))
      refine own_callV H0 hx hZ (C := "com/example/perekaz/perekaz/Rejections") (y := (⟨"com/example/perekaz/perekaz/Rejections", "rejectTransaction", "(IILcom/example/perekaz/perekaz/Finding;)V"⟩ : MethodName)) (a := o) hown (hw _ (List.mem_of_getElem? (i := 69) rfl)) (hw _ (List.mem_of_getElem? (i := 70) rfl)) (hw _ (List.mem_of_getElem? (i := 72) rfl)) (hw _ (List.mem_of_getElem? (i := 71) rfl)) (hw _ (List.mem_of_getElem? (i := 3) rfl)) (hw _ (List.mem_of_getElem? (i := 73) rfl)) (by decide) RA.1 (rmRT l Z a0 hw o ta ba f tt cc P bI tI b t h0 n0 RA Ef hbI hb2 ht ((own_lti ht hcn).mp hc3)) (g := (mkF m 21 #[.val (.ref o), .val (.int bI), .val (.int cnt), .val (.int bits), .val (.int tI), .val (.ref f)] [(.ref f), (.int tI), (.int bI), (.ref o)])) rfl (by rw [hml]; rfl) (argsL := [(.int bI), (.int tI), (.ref f)]) (rest := []) (lenOf pd_2 rfl) rfl 0 (Nat.le_of_eq rfl) (hb hby d6_21) (by decide) (by decide) (by decide) (by decide) ?_
      rintro _ T1 h1 ⟨rfl, RA, Ef, hsz⟩ H1
      show Go _ _ _ _ (T1.setTop (mkF m 24 #[.val (.ref o), .val (.int bI), .val (.int cnt), .val (.int bits), .val (.int tI), .val (.ref f)] []))
      exact own_retV H1 hx hlk hret (hb hby d6_24) ⟨rfl, (by rw [show cnd cnt bits tI = true from by simp [cnd, eq_true hc3, eq_false hc12]]; exact RA), Ef, hsz⟩ (by decide) (by decide)
  · refine Go.via (fun t_ k_ => XS.icmpYes H0.here hx rfl (pc0 := 3) (pc' := 24) rfl (hb hby d6_3) rfl ((flt hc3).2.1) (by decide) (by decide) k_) ?_
    show Go _ _ _ _ (T0.setTop (mkF m 24 #[.val (.ref o), .val (.int bI), .val (.int cnt), .val (.int bits), .val (.int tI), .val (.ref f)] []))
    exact own_retV H0 hx hlk hret (hb hby d6_24) ⟨rfl, (by rw [show cnd cnt bits tI = false from by simp [cnd, eq_false hc3]]; rw [mkP_false]; exact RA), Ef, Nat.le_refl _⟩ (by decide) (by decide)
theorem d8_0 : decode prog_182_method_9_code 0 = .ok (.aload_n 0, 1) := by decide +kernel
theorem d8_1 : decode prog_182_method_9_code 1 = .ok (.getfield 20, 3) := by decide +kernel
theorem d8_4 : decode prog_182_method_9_code 4 = .ok (.iload_n 1, 1) := by decide +kernel
theorem d8_5 : decode prog_182_method_9_code 5 = .ok (.aaload, 1) := by decide +kernel
theorem d8_6 : decode prog_182_method_9_code 6 = .ok (.astore_n 2, 1) := by decide +kernel
theorem d8_7 : decode prog_182_method_9_code 7 = .ok (.aload_n 2, 1) := by decide +kernel
theorem d8_8 : decode prog_182_method_9_code 8 = .ok (.arraylength, 1) := by decide +kernel
theorem d8_9 : decode prog_182_method_9_code 9 = .ok (.istore_n 3, 1) := by decide +kernel
theorem d8_10 : decode prog_182_method_9_code 10 = .ok (.iconst 0, 1) := by decide +kernel
theorem d8_11 : decode prog_182_method_9_code 11 = .ok (.istore 4, 2) := by decide +kernel
theorem d8_13 : decode prog_182_method_9_code 13 = .ok (.iload 4, 2) := by decide +kernel
theorem d8_15 : decode prog_182_method_9_code 15 = .ok (.iload_n 3, 1) := by decide +kernel
theorem d8_16 : decode prog_182_method_9_code 16 = .ok (.if_icmp .ge 22, 3) := by decide +kernel
theorem d8_19 : decode prog_182_method_9_code 19 = .ok (.aload_n 2, 1) := by decide +kernel
theorem d8_20 : decode prog_182_method_9_code 20 = .ok (.iload 4, 2) := by decide +kernel
theorem d8_22 : decode prog_182_method_9_code 22 = .ok (.aaload, 1) := by decide +kernel
theorem d8_23 : decode prog_182_method_9_code 23 = .ok (.astore 5, 2) := by decide +kernel
theorem d8_25 : decode prog_182_method_9_code 25 = .ok (.aload 5, 2) := by decide +kernel
theorem d8_27 : decode prog_182_method_9_code 27 = .ok (.ifnull 5, 3) := by decide +kernel
theorem d8_30 : decode prog_182_method_9_code 30 = .ok (.iconst 1, 1) := by decide +kernel
theorem d8_31 : decode prog_182_method_9_code 31 = .ok (.ireturn, 1) := by decide +kernel
theorem d8_32 : decode prog_182_method_9_code 32 = .ok (.iinc 4 1, 3) := by decide +kernel
theorem d8_35 : decode prog_182_method_9_code 35 = .ok (.goto (-22), 3) := by decide +kernel
theorem d8_38 : decode prog_182_method_9_code 38 = .ok (.iconst 0, 1) := by decide +kernel
theorem d8_39 : decode prog_182_method_9_code 39 = .ok (.ireturn, 1) := by decide +kernel
theorem ef_rmAny (m : MethodId) (x0 : Addr) (x1 : Int32) : entryFrame m #[(.ref x0), (.int x1)] 6 = mkF m 0 #[.val (.ref x0), .val (.int x1), .unset, .unset, .unset, .unset] [] := by first | (simp [entryFrame, mkF, argsToLocals, Value.category]; done) | rfl
set_option maxRecDepth 65536 in
set_option maxHeartbeats 40000000 in
theorem rmAny (l : Launch) (Z : State) (a0 : Array Value) (hw : ∀ d ∈ tables_1, d.before a0 Z = true) (o ta ba f : Addr) (tt : Nat → Addr) (cc : Nat → Nat) (P : Nat → Nat → Bool) (bI : Int32) (b : Nat) (h0 : Heap) (n0 : Nat) (RA : RejAt Z h0 n0 o ta ba tt cc f P) (hbI : bI.toInt = (b : Int)) (hb2 : b < 2) (hcb : cc b < 1000) :
    CM l Z (⟨"com/example/perekaz/perekaz/Rejections", "anyTransaction", "(I)Z"⟩ : MethodName) prog_182_method_9_code 6 (some .boolean) ({ frames := 0, cells := 0, slots := 0, locals := 0 } : Room) #[(.ref o), (.int bI)] h0 n0 (fun v h => v = some (.int (if anyB (P b) (cc b) 0 = true then 1 else 0)) ∧ h0 = h) := by
  refine own_enter (by decide +kernel) ?_
  intro p e s m below meth c T0 hx hby hml hown hnm hZ hret hlk H0
  replace hown : s.vm.findClass "com/example/perekaz/perekaz/Rejections" = some m.cls := hown
  replace hret : meth.sig.returnType = some .boolean := hret
  refine Go.via (fun t_ k_ => castTop (ef_rmAny m o bI) k_) ?_
  have RA0 := RA
  obtain ⟨Eo, Fo, Fb, ⟨kT, AT⟩, AI, ⟨kB, WB, AB, OB⟩, r1, r2, r3, r4, r5⟩ := RA
  obtain ⟨k_, A_, O_⟩ := AI b hb2
  obtain ⟨z, hz, hz'⟩ : ∃ z : Int32, (cc b).toInt32 = z ∧ z.toInt = (cc b : Int) := ⟨_, rfl, len_toInt (by omega)⟩
  have loop : ∀ (k i : Nat) (I : Int32) (s5 : Slot) (Tj : State), I.toInt = (i : Int) → i + k = cc b → anyB (P b) k i = anyB (P b) (cc b) 0 → One s5 → Here p l e ({ frames := 0, cells := 0, slots := 0, locals := 0 } : Room) s m #[(.ref o), (.int bI)] below meth c n0 Tj h0 0 0 → Go p e below (Fini below s n0 (fun v h => v = some (.int (if anyB (P b) (cc b) 0 = true then 1 else 0)) ∧ h0 = h) ({ frames := 0, cells := 0, slots := 0, locals := 0 } : Room).cells ({ frames := 0, cells := 0, slots := 0, locals := 0 } : Room).slots) (Tj.setTop (mkF m 13 #[.val (.ref o), .val (.int bI), .val (.ref (tt b)), .val (.int z), .val (.int I), s5] [])) := by
    intro k
    induction k with
    | zero =>
      intro i I s5 Tj hI hk hA o5 Hj
      refine Go.via (fun t_ k_ => XS.iload Hj.here hx rfl (hb hby d8_13) rfl k_) ?_
      show Go _ _ _ _ (Tj.setTop (mkF m 15 #[.val (.ref o), .val (.int bI), .val (.ref (tt b)), .val (.int z), .val (.int I), s5] [(.int I)]))
      refine Go.via (fun t_ k_ => XS.iloadN Hj.here hx rfl (hb hby d8_15) rfl k_) ?_
      show Go _ _ _ _ (Tj.setTop (mkF m 16 #[.val (.ref o), .val (.int bI), .val (.ref (tt b)), .val (.int z), .val (.int I), s5] [(.int z), (.int I)]))
      refine Go.via (fun t_ k_ => XS.icmpYes Hj.here hx rfl (pc0 := 16) (pc' := 38) rfl (hb hby d8_16) rfl ((flt (show ¬ (I < z) from (fun q => absurd ((own_lti hI hz').mp q) (by omega)))).2.1) (by decide) (by decide) k_) ?_
      show Go _ _ _ _ (Tj.setTop (mkF m 38 #[.val (.ref o), .val (.int bI), .val (.ref (tt b)), .val (.int z), .val (.int I), s5] []))
      refine Go.via (fun t_ k_ => XS.iconst Hj.here hx rfl (hb hby d8_38) k_) ?_
      show Go _ _ _ _ (Tj.setTop (mkF m 39 #[.val (.ref o), .val (.int bI), .val (.ref (tt b)), .val (.int z), .val (.int I), s5] [(.int (0 : Int32))]))
      exact own_retN Hj hx hlk (by simp) hret (hb hby d8_39) ⟨by rw [← hA]; rfl, rfl⟩ (by decide) (by decide)
    | succ k ih =>
      intro i I s5 Tj hI hk hA o5 Hj
      rw [show anyB (P b) (k + 1) i = (P b i || anyB (P b) k (i + 1)) from rfl] at hA
      refine Go.via (fun t_ k_ => XS.iload Hj.here hx rfl (hb hby d8_13) rfl k_) ?_
      show Go _ _ _ _ (Tj.setTop (mkF m 15 #[.val (.ref o), .val (.int bI), .val (.ref (tt b)), .val (.int z), .val (.int I), s5] [(.int I)]))
      refine Go.via (fun t_ k_ => XS.iloadN Hj.here hx rfl (hb hby d8_15) rfl k_) ?_
      show Go _ _ _ _ (Tj.setTop (mkF m 16 #[.val (.ref o), .val (.int bI), .val (.ref (tt b)), .val (.int z), .val (.int I), s5] [(.int z), (.int I)]))
      refine Go.via (fun t_ k_ => XS.icmpNo Hj.here hx rfl (hb hby d8_16) rfl ((tlt (show I < z from ((own_lti hI hz').mpr (by omega)))).2.1) k_) ?_
      show Go _ _ _ _ (Tj.setTop (mkF m 19 #[.val (.ref o), .val (.int bI), .val (.ref (tt b)), .val (.int z), .val (.int I), s5] []))
      refine Go.via (fun t_ k_ => XS.aloadN Hj.here hx rfl (hb hby d8_19) rfl rfl k_) ?_
      show Go _ _ _ _ (Tj.setTop (mkF m 20 #[.val (.ref o), .val (.int bI), .val (.ref (tt b)), .val (.int z), .val (.int I), s5] [(.ref (tt b))]))
      refine Go.via (fun t_ k_ => XS.iload Hj.here hx rfl (hb hby d8_20) rfl k_) ?_
      show Go _ _ _ _ (Tj.setTop (mkF m 22 #[.val (.ref o), .val (.int bI), .val (.ref (tt b)), .val (.int z), .val (.int I), s5] [(.int I), (.ref (tt b))]))
      by_cases hp : P b i = true
      · refine own_ldRA Hj hx hZ A_ rfl (j := i) hI (by omega) (v := (.ref f)) (if_pos hp) (g := (mkF m 22 #[.val (.ref o), .val (.int bI), .val (.ref (tt b)), .val (.int z), .val (.int I), s5] [(.int I), (.ref (tt b))])) rfl rfl (hb hby d8_22) ?_
        show Go _ _ _ _ (Tj.setTop (mkF m 23 #[.val (.ref o), .val (.int bI), .val (.ref (tt b)), .val (.int z), .val (.int I), s5] [(.ref f)]))
        refine Go.via (fun t_ k_ => XS.astore Hj.here hx rfl (hb hby d8_23) rfl rfl (l' := #[.val (.ref o), .val (.int bI), .val (.ref (tt b)), .val (.int z), .val (.int I), .val (.ref f)]) (Jvm.Free.XS.store1 rfl o5 rfl) k_) ?_
        show Go _ _ _ _ (Tj.setTop (mkF m 25 #[.val (.ref o), .val (.int bI), .val (.ref (tt b)), .val (.int z), .val (.int I), .val (.ref f)] []))
        refine Go.via (fun t_ k_ => XS.aload Hj.here hx rfl (hb hby d8_25) rfl rfl k_) ?_
        show Go _ _ _ _ (Tj.setTop (mkF m 27 #[.val (.ref o), .val (.int bI), .val (.ref (tt b)), .val (.int z), .val (.int I), .val (.ref f)] [(.ref f)]))
        refine Go.via (fun t_ k_ => XS.ifnullNo Hj.here hx rfl (hb hby d8_27) rfl k_) ?_
        show Go _ _ _ _ (Tj.setTop (mkF m 30 #[.val (.ref o), .val (.int bI), .val (.ref (tt b)), .val (.int z), .val (.int I), .val (.ref f)] []))
        refine Go.via (fun t_ k_ => XS.iconst Hj.here hx rfl (hb hby d8_30) k_) ?_
        show Go _ _ _ _ (Tj.setTop (mkF m 31 #[.val (.ref o), .val (.int bI), .val (.ref (tt b)), .val (.int z), .val (.int I), .val (.ref f)] [(.int (1 : Int32))]))
        exact own_retN Hj hx hlk (by simp) hret (hb hby d8_31) ⟨by rw [← hA]; simp [hp, nar1], rfl⟩ (by decide) (by decide)
      · refine own_ldRA Hj hx hZ A_ rfl (j := i) hI (by omega) (v := .null) (if_neg hp) (g := (mkF m 22 #[.val (.ref o), .val (.int bI), .val (.ref (tt b)), .val (.int z), .val (.int I), s5] [(.int I), (.ref (tt b))])) rfl rfl (hb hby d8_22) ?_
        show Go _ _ _ _ (Tj.setTop (mkF m 23 #[.val (.ref o), .val (.int bI), .val (.ref (tt b)), .val (.int z), .val (.int I), s5] [.null]))
        refine Go.via (fun t_ k_ => XS.astore Hj.here hx rfl (hb hby d8_23) rfl rfl (l' := #[.val (.ref o), .val (.int bI), .val (.ref (tt b)), .val (.int z), .val (.int I), .val .null]) (Jvm.Free.XS.store1 rfl o5 rfl) k_) ?_
        show Go _ _ _ _ (Tj.setTop (mkF m 25 #[.val (.ref o), .val (.int bI), .val (.ref (tt b)), .val (.int z), .val (.int I), .val .null] []))
        refine Go.via (fun t_ k_ => XS.aload Hj.here hx rfl (hb hby d8_25) rfl rfl k_) ?_
        show Go _ _ _ _ (Tj.setTop (mkF m 27 #[.val (.ref o), .val (.int bI), .val (.ref (tt b)), .val (.int z), .val (.int I), .val .null] [.null]))
        refine Go.via (fun t_ k_ => XS.ifnullYes Hj.here hx rfl (pc0 := 27) (pc' := 32) rfl (hb hby d8_27) rfl (by decide) (by decide) k_) ?_
        show Go _ _ _ _ (Tj.setTop (mkF m 32 #[.val (.ref o), .val (.int bI), .val (.ref (tt b)), .val (.int z), .val (.int I), .val .null] []))
        refine Go.via (fun t_ k_ => XS.iinc Hj.here hx rfl (hb hby d8_32) rfl (l' := #[.val (.ref o), .val (.int bI), .val (.ref (tt b)), .val (.int z), .val (.int (I + (1 : Int32))), .val .null]) rfl k_) ?_
        show Go _ _ _ _ (Tj.setTop (mkF m 35 #[.val (.ref o), .val (.int bI), .val (.ref (tt b)), .val (.int z), .val (.int (I + (1 : Int32))), .val .null] []))
        refine Go.via (fun t_ k_ => XS.goto Hj.here hx rfl (pc0 := 35) (pc' := 13) rfl (hb hby d8_35) (by decide) (by decide) k_) ?_
        show Go _ _ _ _ (Tj.setTop (mkF m 13 #[.val (.ref o), .val (.int bI), .val (.ref (tt b)), .val (.int z), .val (.int (I + (1 : Int32))), .val .null] []))
        exact ih (i + 1) _ _ Tj (own_next hI (by omega)) (by omega) (by rw [← hA]; simp [hp]) (One.val rfl) Hj
  show Go _ _ _ _ (T0.setTop (mkF m 0 #[.val (.ref o), .val (.int bI), .unset, .unset, .unset, .unset] []))
  refine Go.via (fun t_ k_ => XS.aloadN H0.here hx rfl (hb hby d8_0) rfl rfl k_) ?_
  show Go _ _ _ _ (T0.setTop (mkF m 1 #[.val (.ref o), .val (.int bI), .unset, .unset, .unset, .unset] [(.ref o)]))
  refine own_getF H0 hx hZ hown (hw _ (List.mem_of_getElem? (i := 18) rfl)) Fo (g := (mkF m 1 #[.val (.ref o), .val (.int bI), .unset, .unset, .unset, .unset] [(.ref o)])) rfl rfl (hb hby d8_1) ?_
  intro T1 H1
  show Go _ _ _ _ (T1.setTop (mkF m 4 #[.val (.ref o), .val (.int bI), .unset, .unset, .unset, .unset] [(.ref ta)]))
  refine Go.via (fun t_ k_ => XS.iloadN H1.here hx rfl (hb hby d8_4) rfl k_) ?_
  show Go _ _ _ _ (T1.setTop (mkF m 5 #[.val (.ref o), .val (.int bI), .unset, .unset, .unset, .unset] [(.int bI), (.ref ta)]))
  refine own_ldRA H1 hx hZ AT rfl (j := b) hbI hb2 (v := .ref (tt b)) rfl (g := (mkF m 5 #[.val (.ref o), .val (.int bI), .unset, .unset, .unset, .unset] [(.int bI), (.ref ta)])) rfl rfl (hb hby d8_5) ?_
  show Go _ _ _ _ (T1.setTop (mkF m 6 #[.val (.ref o), .val (.int bI), .unset, .unset, .unset, .unset] [(.ref (tt b))]))
  refine Go.via (fun t_ k_ => XS.astoreN H1.here hx rfl (hb hby d8_6) rfl rfl (l' := #[.val (.ref o), .val (.int bI), .val (.ref (tt b)), .unset, .unset, .unset]) rfl k_) ?_
  show Go _ _ _ _ (T1.setTop (mkF m 7 #[.val (.ref o), .val (.int bI), .val (.ref (tt b)), .unset, .unset, .unset] []))
  refine Go.via (fun t_ k_ => XS.aloadN H1.here hx rfl (hb hby d8_7) rfl rfl k_) ?_
  show Go _ _ _ _ (T1.setTop (mkF m 8 #[.val (.ref o), .val (.int bI), .val (.ref (tt b)), .unset, .unset, .unset] [(.ref (tt b))]))
  refine own_lenV H1 hx hZ A_ (z := z) hz (g := (mkF m 8 #[.val (.ref o), .val (.int bI), .val (.ref (tt b)), .unset, .unset, .unset] [(.ref (tt b))])) rfl rfl (hb hby d8_8) ?_
  show Go _ _ _ _ (T1.setTop (mkF m 9 #[.val (.ref o), .val (.int bI), .val (.ref (tt b)), .unset, .unset, .unset] [(.int z)]))
  refine Go.via (fun t_ k_ => XS.istoreN H1.here hx rfl (hb hby d8_9) rfl (l' := #[.val (.ref o), .val (.int bI), .val (.ref (tt b)), .val (.int z), .unset, .unset]) rfl k_) ?_
  show Go _ _ _ _ (T1.setTop (mkF m 10 #[.val (.ref o), .val (.int bI), .val (.ref (tt b)), .val (.int z), .unset, .unset] []))
  refine Go.via (fun t_ k_ => XS.iconst H1.here hx rfl (hb hby d8_10) k_) ?_
  show Go _ _ _ _ (T1.setTop (mkF m 11 #[.val (.ref o), .val (.int bI), .val (.ref (tt b)), .val (.int z), .unset, .unset] [(.int (0 : Int32))]))
  refine Go.via (fun t_ k_ => XS.istore H1.here hx rfl (hb hby d8_11) rfl (l' := #[.val (.ref o), .val (.int bI), .val (.ref (tt b)), .val (.int z), .val (.int (0 : Int32)), .unset]) rfl k_) ?_
  show Go _ _ _ _ (T1.setTop (mkF m 13 #[.val (.ref o), .val (.int bI), .val (.ref (tt b)), .val (.int z), .val (.int (0 : Int32)), .unset] []))
  exact loop (cc b) 0 _ _ T1 (by decide) (by omega) rfl One.u H1
theorem pd_3 : parseMethodDescriptor "([I)V" = some ⟨[(.array .int)], none⟩ := by decide +kernel
theorem pd_4 : parseMethodDescriptor "(Lcom/example/perekaz/perekaz/Level;Ljava/lang/String;Ljava/lang/String;Ljava/lang/String;Ljava/lang/String;)V" = some ⟨[(.object "com/example/perekaz/perekaz/Level"), (.object "java/lang/String"), (.object "java/lang/String"), (.object "java/lang/String"), (.object "java/lang/String")], none⟩ := by decide +kernel
theorem pd_5 : parseMethodDescriptor "(Lcom/example/perekaz/perekaz/Rejections;IIIILcom/example/perekaz/perekaz/Finding;)V" = some ⟨[(.object "com/example/perekaz/perekaz/Rejections"), .int, .int, .int, .int, (.object "com/example/perekaz/perekaz/Finding")], none⟩ := by decide +kernel
theorem pd_6 : parseMethodDescriptor "(I)Z" = some ⟨[.int], some .boolean⟩ := by decide +kernel
theorem pd_7 : parseMethodDescriptor "(ILcom/example/perekaz/perekaz/Finding;)V" = some ⟨[.int, (.object "com/example/perekaz/perekaz/Finding")], none⟩ := by decide +kernel
theorem ef_rm0 (m : MethodId) (x0 : Int32) (x1 : Int32) (x2 : Int32) (x3 : Int32) (x4 : Int32) : entryFrame m #[(.int x0), (.int x1), (.int x2), (.int x3), (.int x4)] maxLocals = mkF m 0 #[.val (.int x0), .val (.int x1), .val (.int x2), .val (.int x3), .val (.int x4), .unset, .unset, .unset, .unset, .unset, .unset, .unset, .unset, .unset] [] := by first | (simp [entryFrame, mkF, argsToLocals, Value.category, maxLocals]; done) | rfl
set_option maxRecDepth 65536 in
set_option maxHeartbeats 40000000 in
theorem rm0 (l : Launch) (Z : State) (a0 : Array Value) (hw : ∀ d ∈ tables_1, d.before a0 Z = true) (p1 p2 p3 p4 p5 : Int32) (lv : Addr) (h0 : Heap) (n0 : Nat) (hn0 : n0 = Z.heap.size) (hh0 : h0 = Z.heap) (wS : ∀ a ∈ Bundle.stringAtoms, a.before a0 Z = true) (OL : Old Z n0 h0) (SL : Sta Z Z.heap "com/example/perekaz/perekaz/Level" "TRANSACTION" "Lcom/example/perekaz/perekaz/Level;" (.ref lv)) :
    ∀ ws, MetFree l x (head1 (Jvm.Cond.code x code maxLocals ret :: ws) room_1) (fun a U => a = #[(.int p1), (.int p2), (.int p3), (.int p4), (.int p5)] ∧ U = Z) (fun _ _ _ _ _ => True) (fun _ U o U' => ∃ v L, o = .returned v ∧ ((fun v h => v = some (.int (1 : Int32))) v U'.heap ∧ Fr n0 L) ∧ ReturnedEndW U o U' L room_1.cells room_1.slots) := by
  intro ws
  refine own_enterW (Q := (fun v h => v = some (.int (1 : Int32)))) (by decide +kernel) hn0 hh0 ?_
  intro p e m below meth c T0 hx hby hml hown hnm hZ hret hlk H0 LB
  replace hown : (Z.setVm Z.vm).vm.findClass "com/example/perekaz/perekaz/RejectionsAnyTransactionPinLaw" = some m.cls := hown
  replace hret : meth.sig.returnType = some .boolean := hret
  replace hml : c.maxLocals = 14 := hml
  refine Go.via (fun t_ k_ => castTop (ef_rm0 m p1 p2 p3 p4 p5) k_) ?_
  replace LB : Lw Z Z.vm h0 := LB.1
  have J22 : ∀ (Tj : State) (c0 c1 r0 r1 : Int32) (n0' n1' m0' m1' : Nat), Here p l e room_1 (Z.setVm Z.vm) m #[(.int p1), (.int p2), (.int p3), (.int p4), (.int p5)] below meth c n0 Tj h0 0 0 → (c0.toInt = (n0' : Int)) → (c1.toInt = (n1' : Int)) → (r0.toInt = (m0' : Int)) → (r1.toInt = (m1' : Int)) → (n0' < 4) → (n1' < 4) → (m0' < 8) → (m1' < 8) → Go p e below (FiniW below Z n0 (fun v h => v = some (.int (1 : Int32))) room_1.cells room_1.slots) (Tj.setTop (mkF m 22 #[.val (.int p1), .val (.int p2), .val (.int p3), .val (.int p4), .val (.int p5), .val (.int c0), .val (.int c1), .val (.int r0), .val (.int r1), .unset, .unset, .unset, .unset, .unset] [])) := by
    intro Tj c0 c1 r0 r1 n0' n1' m0' m1' Hj qc0 qc1 qr0 qr1 m0 m1 mr0 mr1
    obtain ⟨ccF, hccF⟩ : ∃ ccF : Nat → Nat, ccF = fun b => if b = 0 then n0' else n1' := ⟨_, rfl⟩
    have l0 : ccF 0 < 4 := by rw [hccF]; exact m0
    have l1 : ccF 1 < 4 := by rw [hccF]; exact m1
    have lc0 : ccF 0 < 1000 := by omega
    have lc1 : ccF 1 < 1000 := by omega
    have z0 : ccF 0 = n0' := by rw [hccF]; rfl
    have z1 : ccF 1 = n1' := by rw [hccF]; rfl
    rw [← z0] at qc0 m0
    rw [← z1] at qc1 m1
    have q0 : ((upd (upd (fun _ => (0 : Int32)) 0 c0) 1 c1) 0).toInt = (ccF 0 : Int) := qc0
    have q1 : ((upd (upd (fun _ => (0 : Int32)) 0 c0) 1 c1) 1).toInt = (ccF 1 : Int) := qc1
    show Go _ _ _ _ (Tj.setTop (mkF m 22 #[.val (.int p1), .val (.int p2), .val (.int p3), .val (.int p4), .val (.int p5), .val (.int c0), .val (.int c1), .val (.int r0), .val (.int r1), .unset, .unset, .unset, .unset, .unset] []))
    refine Go.via (fun t_ k_ => XS.iconst Hj.here hx rfl (hb hby at_22) k_) ?_
    show Go _ _ _ _ (Tj.setTop (mkF m 23 #[.val (.int p1), .val (.int p2), .val (.int p3), .val (.int p4), .val (.int p5), .val (.int c0), .val (.int c1), .val (.int r0), .val (.int r1), .unset, .unset, .unset, .unset, .unset] [(.int (2 : Int32))]))
    refine own_newA Hj hx hZ (aty := .int) (hw _ (List.mem_of_getElem? (i := 0) rfl)) (g := (mkF m 23 #[.val (.int p1), .val (.int p2), .val (.int p3), .val (.int p4), .val (.int p5), .val (.int c0), .val (.int c1), .val (.int r0), .val (.int r1), .unset, .unset, .unset, .unset, .unset] [(.int (2 : Int32))])) rfl (hb hby at_23) rfl (by decide) 2 (by decide) rfl 2 (by decide) (by decide) (by decide) (by decide) ?_
    intro T1 h1 a1 ga1 E1 B1 H1
    replace B1 : Ab Z h1 a1 .int 2 (fun _ => 0) := B1
    have g_a1 : n0 ≤ a1 := by rw [ga1]; exact (Nat.le_of_eq (hn0.trans (by rw [hh0])))
    have sz1 : n0 ≤ h1.size := Nat.le_trans (Nat.le_of_eq (hn0.trans (by rw [hh0]))) E1.1
    show Go _ _ _ _ (T1.setTop (mkF m 25 #[.val (.int p1), .val (.int p2), .val (.int p3), .val (.int p4), .val (.int p5), .val (.int c0), .val (.int c1), .val (.int r0), .val (.int r1), .unset, .unset, .unset, .unset, .unset] [(.ref a1)]))
    refine Go.via (fun t_ k_ => XS.dup H1.here hx rfl (hb hby at_25) rfl rfl k_) ?_
    show Go _ _ _ _ (T1.setTop (mkF m 26 #[.val (.int p1), .val (.int p2), .val (.int p3), .val (.int p4), .val (.int p5), .val (.int c0), .val (.int c1), .val (.int r0), .val (.int r1), .unset, .unset, .unset, .unset, .unset] [(.ref a1), (.ref a1)]))
    refine Go.via (fun t_ k_ => XS.iconst H1.here hx rfl (hb hby at_26) k_) ?_
    show Go _ _ _ _ (T1.setTop (mkF m 27 #[.val (.int p1), .val (.int p2), .val (.int p3), .val (.int p4), .val (.int p5), .val (.int c0), .val (.int c1), .val (.int r0), .val (.int r1), .unset, .unset, .unset, .unset, .unset] [(.int (0 : Int32)), (.ref a1), (.ref a1)]))
    refine Go.via (fun t_ k_ => XS.iload H1.here hx rfl (hb hby at_27) rfl k_) ?_
    show Go _ _ _ _ (T1.setTop (mkF m 29 #[.val (.int p1), .val (.int p2), .val (.int p3), .val (.int p4), .val (.int p5), .val (.int c0), .val (.int c1), .val (.int r0), .val (.int r1), .unset, .unset, .unset, .unset, .unset] [(.int c0), (.int (0 : Int32)), (.ref a1), (.ref a1)]))
    refine own_stIA H1 hx hZ B1 (j := 0) (by decide) (by decide) g_a1 (g := (mkF m 29 #[.val (.int p1), .val (.int p2), .val (.int p3), .val (.int p4), .val (.int p5), .val (.int c0), .val (.int c1), .val (.int r0), .val (.int r1), .unset, .unset, .unset, .unset, .unset] [(.int c0), (.int (0 : Int32)), (.ref a1), (.ref a1)])) rfl rfl (hb hby at_29) ?_
    intro T2 h2 W2 B2 H2
    have sz2 : n0 ≤ h2.size := Nat.le_trans sz1 (Keep.of_wr W2).1
    show Go _ _ _ _ (T2.setTop (mkF m 30 #[.val (.int p1), .val (.int p2), .val (.int p3), .val (.int p4), .val (.int p5), .val (.int c0), .val (.int c1), .val (.int r0), .val (.int r1), .unset, .unset, .unset, .unset, .unset] [(.ref a1)]))
    refine Go.via (fun t_ k_ => XS.dup H2.here hx rfl (hb hby at_30) rfl rfl k_) ?_
    show Go _ _ _ _ (T2.setTop (mkF m 31 #[.val (.int p1), .val (.int p2), .val (.int p3), .val (.int p4), .val (.int p5), .val (.int c0), .val (.int c1), .val (.int r0), .val (.int r1), .unset, .unset, .unset, .unset, .unset] [(.ref a1), (.ref a1)]))
    refine Go.via (fun t_ k_ => XS.iconst H2.here hx rfl (hb hby at_31) k_) ?_
    show Go _ _ _ _ (T2.setTop (mkF m 32 #[.val (.int p1), .val (.int p2), .val (.int p3), .val (.int p4), .val (.int p5), .val (.int c0), .val (.int c1), .val (.int r0), .val (.int r1), .unset, .unset, .unset, .unset, .unset] [(.int (1 : Int32)), (.ref a1), (.ref a1)]))
    refine Go.via (fun t_ k_ => XS.iload H2.here hx rfl (hb hby at_32) rfl k_) ?_
    show Go _ _ _ _ (T2.setTop (mkF m 34 #[.val (.int p1), .val (.int p2), .val (.int p3), .val (.int p4), .val (.int p5), .val (.int c0), .val (.int c1), .val (.int r0), .val (.int r1), .unset, .unset, .unset, .unset, .unset] [(.int c1), (.int (1 : Int32)), (.ref a1), (.ref a1)]))
    refine own_stIA H2 hx hZ B2 (j := 1) (by decide) (by decide) g_a1 (g := (mkF m 34 #[.val (.int p1), .val (.int p2), .val (.int p3), .val (.int p4), .val (.int p5), .val (.int c0), .val (.int c1), .val (.int r0), .val (.int r1), .unset, .unset, .unset, .unset, .unset] [(.int c1), (.int (1 : Int32)), (.ref a1), (.ref a1)])) rfl rfl (hb hby at_34) ?_
    intro T3 h3 W3 B3 H3
    have sz3 : n0 ≤ h3.size := Nat.le_trans sz2 (Keep.of_wr W3).1
    show Go _ _ _ _ (T3.setTop (mkF m 35 #[.val (.int p1), .val (.int p2), .val (.int p3), .val (.int p4), .val (.int p5), .val (.int c0), .val (.int c1), .val (.int r0), .val (.int r1), .unset, .unset, .unset, .unset, .unset] [(.ref a1)]))
    refine Go.via (fun t_ k_ => XS.astore H3.here hx rfl (hb hby at_35) rfl rfl (l' := #[.val (.int p1), .val (.int p2), .val (.int p3), .val (.int p4), .val (.int p5), .val (.int c0), .val (.int c1), .val (.int r0), .val (.int r1), .val (.ref a1), .unset, .unset, .unset, .unset]) rfl k_) ?_
    show Go _ _ _ _ (T3.setTop (mkF m 37 #[.val (.int p1), .val (.int p2), .val (.int p3), .val (.int p4), .val (.int p5), .val (.int c0), .val (.int c1), .val (.int r0), .val (.int r1), .val (.ref a1), .unset, .unset, .unset, .unset] []))
    refine own_newO H3 hx hZ hown (hw _ (List.mem_of_getElem? (i := 1) rfl)) (hw _ (List.mem_of_getElem? (i := 2) rfl)) (hw _ (List.mem_of_getElem? (i := 3) rfl)) (g := (mkF m 37 #[.val (.int p1), .val (.int p2), .val (.int p3), .val (.int p4), .val (.int p5), .val (.int c0), .val (.int c1), .val (.int r0), .val (.int r1), .val (.ref a1), .unset, .unset, .unset, .unset] [])) rfl (hb hby at_37) (by decide) (by decide) ?_
    intro T4 h4 a4 ga4 E4 A4 D4 H4
    have ne_a1_a4 : a1 ≠ a4 := by rw [ga4]; exact Nat.ne_of_lt B3.lt
    have g_a4 : n0 ≤ a4 := by rw [ga4]; exact sz3
    have sz4 : n0 ≤ h4.size := Nat.le_trans sz3 E4.1
    have F4_answered : Fld Z h4 a4 "com/example/perekaz/perekaz/Rejections" "answered" "Z" (.int (0 : Int32)) := D4 (Or.inl (hw _ (List.mem_of_getElem? (i := 11) rfl))) (ty := .boolean) (by decide)
    have F4_blocks : Fld Z h4 a4 "com/example/perekaz/perekaz/Rejections" "blocks" "[Lcom/example/perekaz/perekaz/Finding;" .null := D4 (Or.inr (hw _ (List.mem_of_getElem? (i := 15) rfl))) (ty := (.array (.object "com/example/perekaz/perekaz/Finding"))) (by decide)
    have F4_transactions : Fld Z h4 a4 "com/example/perekaz/perekaz/Rejections" "transactions" "[[Lcom/example/perekaz/perekaz/Finding;" .null := D4 (Or.inr (hw _ (List.mem_of_getElem? (i := 19) rfl))) (ty := (.array (.array (.object "com/example/perekaz/perekaz/Finding")))) (by decide)
    show Go _ _ _ _ (T4.setTop (mkF m 40 #[.val (.int p1), .val (.int p2), .val (.int p3), .val (.int p4), .val (.int p5), .val (.int c0), .val (.int c1), .val (.int r0), .val (.int r1), .val (.ref a1), .unset, .unset, .unset, .unset] [(.ref a4)]))
    refine Go.via (fun t_ k_ => XS.dup H4.here hx rfl (hb hby at_40) rfl rfl k_) ?_
    show Go _ _ _ _ (T4.setTop (mkF m 41 #[.val (.int p1), .val (.int p2), .val (.int p3), .val (.int p4), .val (.int p5), .val (.int c0), .val (.int c1), .val (.int r0), .val (.int r1), .val (.ref a1), .unset, .unset, .unset, .unset] [(.ref a4), (.ref a4)]))
    refine Go.via (fun t_ k_ => XS.aload H4.here hx rfl (hb hby at_41) rfl rfl k_) ?_
    show Go _ _ _ _ (T4.setTop (mkF m 43 #[.val (.int p1), .val (.int p2), .val (.int p3), .val (.int p4), .val (.int p5), .val (.int c0), .val (.int c1), .val (.int r0), .val (.int r1), .val (.ref a1), .unset, .unset, .unset, .unset] [(.ref a1), (.ref a4), (.ref a4)]))
    refine own_callI H4 hx hZ (y := (⟨"com/example/perekaz/perekaz/Rejections", "<init>", "([I)V"⟩ : MethodName)) (a := a4) rfl hown (hw _ (List.mem_of_getElem? (i := 4) rfl)) (hw _ (List.mem_of_getElem? (i := 5) rfl)) (hw _ (List.mem_of_getElem? (i := 3) rfl)) (hw _ (List.mem_of_getElem? (i := 6) rfl)) (by decide) (rmRej l Z a0 hw a4 a1 (upd (upd (fun _ => (0 : Int32)) 0 c0) 1 c1) ccF h4 n0 A4 F4_answered F4_blocks F4_transactions g_a4 sz4 (B3.ext E4) ne_a1_a4 q0 q1 l0 l1) (g := (mkF m 43 #[.val (.int p1), .val (.int p2), .val (.int p3), .val (.int p4), .val (.int p5), .val (.int c0), .val (.int c1), .val (.int r0), .val (.int r1), .val (.ref a1), .unset, .unset, .unset, .unset] [(.ref a1), (.ref a4), (.ref a4)])) rfl (by rw [hml]; rfl) (argsL := [(.ref a1)]) (rest := [(.ref a4)]) (lenOf pd_3 rfl) rfl 1 (Nat.le_of_eq rfl) (hb hby at_43) (by decide) (by decide) (by decide) (by decide) ?_
    rintro _ T5 h5 ⟨rfl, K5, ta, ba, tt, RA5⟩ H5
    show Go _ _ _ _ (T5.setTop (mkF m 46 #[.val (.int p1), .val (.int p2), .val (.int p3), .val (.int p4), .val (.int p5), .val (.int c0), .val (.int c1), .val (.int r0), .val (.int r1), .val (.ref a1), .unset, .unset, .unset, .unset] [(.ref a4)]))
    refine Go.via (fun t_ k_ => XS.astore H5.here hx rfl (hb hby at_46) rfl rfl (l' := #[.val (.int p1), .val (.int p2), .val (.int p3), .val (.int p4), .val (.int p5), .val (.int c0), .val (.int c1), .val (.int r0), .val (.int r1), .val (.ref a1), .val (.ref a4), .unset, .unset, .unset]) rfl k_) ?_
    show Go _ _ _ _ (T5.setTop (mkF m 48 #[.val (.int p1), .val (.int p2), .val (.int p3), .val (.int p4), .val (.int p5), .val (.int c0), .val (.int c1), .val (.int r0), .val (.int r1), .val (.ref a1), .val (.ref a4), .unset, .unset, .unset] []))
    refine own_newO H5 hx hZ hown (hw _ (List.mem_of_getElem? (i := 21) rfl)) (hw _ (List.mem_of_getElem? (i := 22) rfl)) (hw _ (List.mem_of_getElem? (i := 23) rfl)) (g := (mkF m 48 #[.val (.int p1), .val (.int p2), .val (.int p3), .val (.int p4), .val (.int p5), .val (.int c0), .val (.int c1), .val (.int r0), .val (.int r1), .val (.ref a1), .val (.ref a4), .unset, .unset, .unset] [])) rfl (hb hby at_48) (by decide) (by decide) ?_
    intro T6 h6 a6 ga6 E6 A6 D6 H6
    have g_a6 : n0 ≤ a6 := by rw [ga6]; exact (Nat.le_trans sz4 K5.1)
    have sz6 : n0 ≤ h6.size := Nat.le_trans (Nat.le_trans sz4 K5.1) E6.1
    have kin_a6 : h5.size ≤ a6 := by rw [ga6]; exact ((Keep.refl h5 [])).1
    have K6 := ((Keep.refl h5 [])).ext E6
    have F6_level : Fld Z h6 a6 "com/example/perekaz/perekaz/Finding" "level" "Lcom/example/perekaz/perekaz/Level;" .null := D6 (Or.inr (hw _ (List.mem_of_getElem? (i := 56) rfl))) (ty := (.object "com/example/perekaz/perekaz/Level")) (by decide)
    have F6_ref : Fld Z h6 a6 "com/example/perekaz/perekaz/Finding" "ref" "Ljava/lang/String;" .null := D6 (Or.inr (hw _ (List.mem_of_getElem? (i := 58) rfl))) (ty := (.object "java/lang/String")) (by decide)
    have F6_isoCode : Fld Z h6 a6 "com/example/perekaz/perekaz/Finding" "isoCode" "Ljava/lang/String;" .null := D6 (Or.inr (hw _ (List.mem_of_getElem? (i := 60) rfl))) (ty := (.object "java/lang/String")) (by decide)
    have F6_errorCode : Fld Z h6 a6 "com/example/perekaz/perekaz/Finding" "errorCode" "Ljava/lang/String;" .null := D6 (Or.inr (hw _ (List.mem_of_getElem? (i := 62) rfl))) (ty := (.object "java/lang/String")) (by decide)
    have F6_description : Fld Z h6 a6 "com/example/perekaz/perekaz/Finding" "description" "Ljava/lang/String;" .null := D6 (Or.inr (hw _ (List.mem_of_getElem? (i := 64) rfl))) (ty := (.object "java/lang/String")) (by decide)
    show Go _ _ _ _ (T6.setTop (mkF m 51 #[.val (.int p1), .val (.int p2), .val (.int p3), .val (.int p4), .val (.int p5), .val (.int c0), .val (.int c1), .val (.int r0), .val (.int r1), .val (.ref a1), .val (.ref a4), .unset, .unset, .unset] [(.ref a6)]))
    refine Go.via (fun t_ k_ => XS.dup H6.here hx rfl (hb hby at_51) rfl rfl k_) ?_
    show Go _ _ _ _ (T6.setTop (mkF m 52 #[.val (.int p1), .val (.int p2), .val (.int p3), .val (.int p4), .val (.int p5), .val (.int c0), .val (.int c1), .val (.int r0), .val (.int r1), .val (.ref a1), .val (.ref a4), .unset, .unset, .unset] [(.ref a6), (.ref a6)]))
    refine own_getS H6 hx hZ hown (hw _ (List.mem_of_getElem? (i := 24) rfl)) (SL.ext ((((((OL.ext E1).wr W2 g_a1).wr W3 g_a1).ext E4).keep K5 (allS g_a4 all0)).ext E6).2) (g := (mkF m 52 #[.val (.int p1), .val (.int p2), .val (.int p3), .val (.int p4), .val (.int p5), .val (.int c0), .val (.int c1), .val (.int r0), .val (.int r1), .val (.ref a1), .val (.ref a4), .unset, .unset, .unset] [(.ref a6), (.ref a6)])) rfl (hb hby at_52) ?_
    intro T7 H7
    show Go _ _ _ _ (T7.setTop (mkF m 55 #[.val (.int p1), .val (.int p2), .val (.int p3), .val (.int p4), .val (.int p5), .val (.int c0), .val (.int c1), .val (.int r0), .val (.int r1), .val (.ref a1), .val (.ref a4), .unset, .unset, .unset] [(.ref lv), (.ref a6), (.ref a6)]))
    refine own_ldcC H7 ((((((LB.grow E1.1).grow (Keep.of_wr W2).1).grow (Keep.of_wr W3).1).grow E4.1).grow K5.1).grow E6.1) hx hZ hown (hw _ (List.mem_of_getElem? (i := 27) rfl)) wS (g := (mkF m 55 #[.val (.int p1), .val (.int p2), .val (.int p3), .val (.int p4), .val (.int p5), .val (.int c0), .val (.int c1), .val (.int r0), .val (.int r1), .val (.ref a1), .val (.ref a4), .unset, .unset, .unset] [(.ref lv), (.ref a6), (.ref a6)])) rfl (hb hby at_55) 4 (by decide) (by decide) (by decide) (by decide) ?_
    intro a8 T8 h8 E8 LB8 hZ hown H8
    show Go _ _ _ _ (T8.setTop (mkF m 57 #[.val (.int p1), .val (.int p2), .val (.int p3), .val (.int p4), .val (.int p5), .val (.int c0), .val (.int c1), .val (.int r0), .val (.int r1), .val (.ref a1), .val (.ref a4), .unset, .unset, .unset] [(.ref a8), (.ref lv), (.ref a6), (.ref a6)]))
    refine own_ldcC H8 LB8 hx hZ hown (hw _ (List.mem_of_getElem? (i := 27) rfl)) wS (g := (mkF m 57 #[.val (.int p1), .val (.int p2), .val (.int p3), .val (.int p4), .val (.int p5), .val (.int c0), .val (.int c1), .val (.int r0), .val (.int r1), .val (.ref a1), .val (.ref a4), .unset, .unset, .unset] [(.ref a8), (.ref lv), (.ref a6), (.ref a6)])) rfl (hb hby at_57) 4 (by decide) (by decide) (by decide) (by decide) ?_
    intro a9 T9 h9 E9 LB9 hZ hown H9
    show Go _ _ _ _ (T9.setTop (mkF m 59 #[.val (.int p1), .val (.int p2), .val (.int p3), .val (.int p4), .val (.int p5), .val (.int c0), .val (.int c1), .val (.int r0), .val (.int r1), .val (.ref a1), .val (.ref a4), .unset, .unset, .unset] [(.ref a9), (.ref a8), (.ref lv), (.ref a6), (.ref a6)]))
    refine own_ldcC H9 LB9 hx hZ hown (hw _ (List.mem_of_getElem? (i := 35) rfl)) wS (g := (mkF m 59 #[.val (.int p1), .val (.int p2), .val (.int p3), .val (.int p4), .val (.int p5), .val (.int c0), .val (.int c1), .val (.int r0), .val (.int r1), .val (.ref a1), .val (.ref a4), .unset, .unset, .unset] [(.ref a9), (.ref a8), (.ref lv), (.ref a6), (.ref a6)])) rfl (hb hby at_59) 16 (by decide) (by decide) (by decide) (by decide) ?_
    intro a10 T10 h10 E10 LB10 hZ hown H10
    show Go _ _ _ _ (T10.setTop (mkF m 61 #[.val (.int p1), .val (.int p2), .val (.int p3), .val (.int p4), .val (.int p5), .val (.int c0), .val (.int c1), .val (.int r0), .val (.int r1), .val (.ref a1), .val (.ref a4), .unset, .unset, .unset] [(.ref a10), (.ref a9), (.ref a8), (.ref lv), (.ref a6), (.ref a6)]))
    refine own_ldcC H10 LB10 hx hZ hown (hw _ (List.mem_of_getElem? (i := 36) rfl)) wS (g := (mkF m 61 #[.val (.int p1), .val (.int p2), .val (.int p3), .val (.int p4), .val (.int p5), .val (.int c0), .val (.int c1), .val (.int r0), .val (.int r1), .val (.ref a1), .val (.ref a4), .unset, .unset, .unset] [(.ref a10), (.ref a9), (.ref a8), (.ref lv), (.ref a6), (.ref a6)])) rfl (hb hby at_61) 4 (by decide) (by decide) (by decide) (by decide) ?_
    intro a11 T11 h11 E11 LB11 hZ hown H11
    show Go _ _ _ _ (T11.setTop (mkF m 63 #[.val (.int p1), .val (.int p2), .val (.int p3), .val (.int p4), .val (.int p5), .val (.int c0), .val (.int c1), .val (.int r0), .val (.int r1), .val (.ref a1), .val (.ref a4), .unset, .unset, .unset] [(.ref a11), (.ref a10), (.ref a9), (.ref a8), (.ref lv), (.ref a6), (.ref a6)]))
    refine own_callIC H11 LB11 hx hZ (y := (⟨"com/example/perekaz/perekaz/Finding", "<init>", "(Lcom/example/perekaz/perekaz/Level;Ljava/lang/String;Ljava/lang/String;Ljava/lang/String;Ljava/lang/String;)V"⟩ : MethodName)) (a := a6) rfl hown (hw _ (List.mem_of_getElem? (i := 37) rfl)) (hw _ (List.mem_of_getElem? (i := 38) rfl)) (hw _ (List.mem_of_getElem? (i := 23) rfl)) (hw _ (List.mem_of_getElem? (i := 39) rfl)) (by decide) (rmFI l Z a0 hw a6 lv a8 a9 a10 a11 h11 n0 wS ((((A6.ext E8).ext E9).ext E10).ext E11) ((((F6_level.ext E8).ext E9).ext E10).ext E11) ((((F6_ref.ext E8).ext E9).ext E10).ext E11) ((((F6_isoCode.ext E8).ext E9).ext E10).ext E11) ((((F6_errorCode.ext E8).ext E9).ext E10).ext E11) ((((F6_description.ext E8).ext E9).ext E10).ext E11) g_a6) (g := (mkF m 63 #[.val (.int p1), .val (.int p2), .val (.int p3), .val (.int p4), .val (.int p5), .val (.int c0), .val (.int c1), .val (.int r0), .val (.int r1), .val (.ref a1), .val (.ref a4), .unset, .unset, .unset] [(.ref a11), (.ref a10), (.ref a9), (.ref a8), (.ref lv), (.ref a6), (.ref a6)])) rfl (by rw [hml]; rfl) (argsL := [(.ref lv), (.ref a8), (.ref a9), (.ref a10), (.ref a11)]) (rest := [(.ref a6)]) (lenOf pd_4 rfl) rfl 1 (Nat.le_of_eq rfl) (hb hby at_63) (by decide) (by decide) (by decide) (by decide) ?_
    rintro _ T12 h12 ⟨rfl, K12, E12⟩ LB12 hZ hown H12
    show Go _ _ _ _ (T12.setTop (mkF m 66 #[.val (.int p1), .val (.int p2), .val (.int p3), .val (.int p4), .val (.int p5), .val (.int c0), .val (.int c1), .val (.int r0), .val (.int r1), .val (.ref a1), .val (.ref a4), .unset, .unset, .unset] [(.ref a6)]))
    have RAf := (RA5 a6).keep0 (((((K6.ext E8).ext E9).ext E10).ext E11).trans K12 (allS (Or.inr kin_a6) all0))
    refine Go.via (fun t_ k_ => XS.astore H12.here hx rfl (hb hby at_66) rfl rfl (l' := #[.val (.int p1), .val (.int p2), .val (.int p3), .val (.int p4), .val (.int p5), .val (.int c0), .val (.int c1), .val (.int r0), .val (.int r1), .val (.ref a1), .val (.ref a4), .val (.ref a6), .unset, .unset]) rfl k_) ?_
    show Go _ _ _ _ (T12.setTop (mkF m 68 #[.val (.int p1), .val (.int p2), .val (.int p3), .val (.int p4), .val (.int p5), .val (.int c0), .val (.int c1), .val (.int r0), .val (.int r1), .val (.ref a1), .val (.ref a4), .val (.ref a6), .unset, .unset] []))
    refine Go.via (fun t_ k_ => XS.aload H12.here hx rfl (hb hby at_68) rfl rfl k_) ?_
    show Go _ _ _ _ (T12.setTop (mkF m 70 #[.val (.int p1), .val (.int p2), .val (.int p3), .val (.int p4), .val (.int p5), .val (.int c0), .val (.int c1), .val (.int r0), .val (.int r1), .val (.ref a1), .val (.ref a4), .val (.ref a6), .unset, .unset] [(.ref a4)]))
    refine Go.via (fun t_ k_ => XS.iconst H12.here hx rfl (hb hby at_70) k_) ?_
    show Go _ _ _ _ (T12.setTop (mkF m 71 #[.val (.int p1), .val (.int p2), .val (.int p3), .val (.int p4), .val (.int p5), .val (.int c0), .val (.int c1), .val (.int r0), .val (.int r1), .val (.ref a1), .val (.ref a4), .val (.ref a6), .unset, .unset] [(.int (0 : Int32)), (.ref a4)]))
    refine Go.via (fun t_ k_ => XS.iload H12.here hx rfl (hb hby at_71) rfl k_) ?_
    show Go _ _ _ _ (T12.setTop (mkF m 73 #[.val (.int p1), .val (.int p2), .val (.int p3), .val (.int p4), .val (.int p5), .val (.int c0), .val (.int c1), .val (.int r0), .val (.int r1), .val (.ref a1), .val (.ref a4), .val (.ref a6), .unset, .unset] [(.int c0), (.int (0 : Int32)), (.ref a4)]))
    refine Go.via (fun t_ k_ => XS.iload H12.here hx rfl (hb hby at_73) rfl k_) ?_
    show Go _ _ _ _ (T12.setTop (mkF m 75 #[.val (.int p1), .val (.int p2), .val (.int p3), .val (.int p4), .val (.int p5), .val (.int c0), .val (.int c1), .val (.int r0), .val (.int r1), .val (.ref a1), .val (.ref a4), .val (.ref a6), .unset, .unset] [(.int r0), (.int c0), (.int (0 : Int32)), (.ref a4)]))
    refine Go.via (fun t_ k_ => XS.iconst H12.here hx rfl (hb hby at_75) k_) ?_
    show Go _ _ _ _ (T12.setTop (mkF m 76 #[.val (.int p1), .val (.int p2), .val (.int p3), .val (.int p4), .val (.int p5), .val (.int c0), .val (.int c1), .val (.int r0), .val (.int r1), .val (.ref a1), .val (.ref a4), .val (.ref a6), .unset, .unset] [(.int (0 : Int32)), (.int r0), (.int c0), (.int (0 : Int32)), (.ref a4)]))
    refine Go.via (fun t_ k_ => XS.aload H12.here hx rfl (hb hby at_76) rfl rfl k_) ?_
    show Go _ _ _ _ (T12.setTop (mkF m 78 #[.val (.int p1), .val (.int p2), .val (.int p3), .val (.int p4), .val (.int p5), .val (.int c0), .val (.int c1), .val (.int r0), .val (.int r1), .val (.ref a1), .val (.ref a4), .val (.ref a6), .unset, .unset] [(.ref a6), (.int (0 : Int32)), (.int r0), (.int c0), (.int (0 : Int32)), (.ref a4)]))
    refine own_callS H12 hx hZ (y := (⟨"com/example/perekaz/perekaz/RejectionsAnyTransactionPinLaw", "mark", "(Lcom/example/perekaz/perekaz/Rejections;IIIILcom/example/perekaz/perekaz/Finding;)V"⟩ : MethodName)) hown (hw _ (List.mem_of_getElem? (i := 65) rfl)) (hw _ (List.mem_of_getElem? (i := 66) rfl)) (hw _ (List.mem_of_getElem? (i := 67) rfl)) (hw _ (List.mem_of_getElem? (i := 68) rfl)) (by decide) (rmMk l Z a0 hw a4 ta ba a6 tt ccF (fun _ _ => false) (0 : Int32) c0 r0 (0 : Int32) 0 0 h12 n0 RAf E12 (by decide) (by decide) (by decide) qc0) (g := (mkF m 78 #[.val (.int p1), .val (.int p2), .val (.int p3), .val (.int p4), .val (.int p5), .val (.int c0), .val (.int c1), .val (.int r0), .val (.int r1), .val (.ref a1), .val (.ref a4), .val (.ref a6), .unset, .unset] [(.ref a6), (.int (0 : Int32)), (.int r0), (.int c0), (.int (0 : Int32)), (.ref a4)])) rfl (by rw [hml]; rfl) (argsL := [(.ref a4), (.int (0 : Int32)), (.int c0), (.int r0), (.int (0 : Int32)), (.ref a6)]) (rest := []) (lenOf pd_5 rfl) rfl 0 (Nat.le_of_eq rfl) (hb hby at_78) (by decide) (by decide) (by decide) (by decide) ?_
    rintro _ T13 h13 ⟨rfl, RA13, Ef13, sz13⟩ H13
    show Go _ _ _ _ (T13.setTop (mkF m 81 #[.val (.int p1), .val (.int p2), .val (.int p3), .val (.int p4), .val (.int p5), .val (.int c0), .val (.int c1), .val (.int r0), .val (.int r1), .val (.ref a1), .val (.ref a4), .val (.ref a6), .unset, .unset] []))
    refine Go.via (fun t_ k_ => XS.aload H13.here hx rfl (hb hby at_81) rfl rfl k_) ?_
    show Go _ _ _ _ (T13.setTop (mkF m 83 #[.val (.int p1), .val (.int p2), .val (.int p3), .val (.int p4), .val (.int p5), .val (.int c0), .val (.int c1), .val (.int r0), .val (.int r1), .val (.ref a1), .val (.ref a4), .val (.ref a6), .unset, .unset] [(.ref a4)]))
    refine Go.via (fun t_ k_ => XS.iconst H13.here hx rfl (hb hby at_83) k_) ?_
    show Go _ _ _ _ (T13.setTop (mkF m 84 #[.val (.int p1), .val (.int p2), .val (.int p3), .val (.int p4), .val (.int p5), .val (.int c0), .val (.int c1), .val (.int r0), .val (.int r1), .val (.ref a1), .val (.ref a4), .val (.ref a6), .unset, .unset] [(.int (0 : Int32)), (.ref a4)]))
    refine Go.via (fun t_ k_ => XS.iload H13.here hx rfl (hb hby at_84) rfl k_) ?_
    show Go _ _ _ _ (T13.setTop (mkF m 86 #[.val (.int p1), .val (.int p2), .val (.int p3), .val (.int p4), .val (.int p5), .val (.int c0), .val (.int c1), .val (.int r0), .val (.int r1), .val (.ref a1), .val (.ref a4), .val (.ref a6), .unset, .unset] [(.int c0), (.int (0 : Int32)), (.ref a4)]))
    refine Go.via (fun t_ k_ => XS.iload H13.here hx rfl (hb hby at_86) rfl k_) ?_
    show Go _ _ _ _ (T13.setTop (mkF m 88 #[.val (.int p1), .val (.int p2), .val (.int p3), .val (.int p4), .val (.int p5), .val (.int c0), .val (.int c1), .val (.int r0), .val (.int r1), .val (.ref a1), .val (.ref a4), .val (.ref a6), .unset, .unset] [(.int r0), (.int c0), (.int (0 : Int32)), (.ref a4)]))
    refine Go.via (fun t_ k_ => XS.iconst H13.here hx rfl (hb hby at_88) k_) ?_
    show Go _ _ _ _ (T13.setTop (mkF m 89 #[.val (.int p1), .val (.int p2), .val (.int p3), .val (.int p4), .val (.int p5), .val (.int c0), .val (.int c1), .val (.int r0), .val (.int r1), .val (.ref a1), .val (.ref a4), .val (.ref a6), .unset, .unset] [(.int (1 : Int32)), (.int r0), (.int c0), (.int (0 : Int32)), (.ref a4)]))
    refine Go.via (fun t_ k_ => XS.aload H13.here hx rfl (hb hby at_89) rfl rfl k_) ?_
    show Go _ _ _ _ (T13.setTop (mkF m 91 #[.val (.int p1), .val (.int p2), .val (.int p3), .val (.int p4), .val (.int p5), .val (.int c0), .val (.int c1), .val (.int r0), .val (.int r1), .val (.ref a1), .val (.ref a4), .val (.ref a6), .unset, .unset] [(.ref a6), (.int (1 : Int32)), (.int r0), (.int c0), (.int (0 : Int32)), (.ref a4)]))
    refine own_callS H13 hx hZ (y := (⟨"com/example/perekaz/perekaz/RejectionsAnyTransactionPinLaw", "mark", "(Lcom/example/perekaz/perekaz/Rejections;IIIILcom/example/perekaz/perekaz/Finding;)V"⟩ : MethodName)) hown (hw _ (List.mem_of_getElem? (i := 65) rfl)) (hw _ (List.mem_of_getElem? (i := 66) rfl)) (hw _ (List.mem_of_getElem? (i := 67) rfl)) (hw _ (List.mem_of_getElem? (i := 68) rfl)) (by decide) (rmMk l Z a0 hw a4 ta ba a6 tt ccF (mkP (fun _ _ => false) 0 0 (cnd c0 r0 (0 : Int32))) (0 : Int32) c0 r0 (1 : Int32) 0 1 h13 n0 RA13 Ef13 (by decide) (by decide) (by decide) qc0) (g := (mkF m 91 #[.val (.int p1), .val (.int p2), .val (.int p3), .val (.int p4), .val (.int p5), .val (.int c0), .val (.int c1), .val (.int r0), .val (.int r1), .val (.ref a1), .val (.ref a4), .val (.ref a6), .unset, .unset] [(.ref a6), (.int (1 : Int32)), (.int r0), (.int c0), (.int (0 : Int32)), (.ref a4)])) rfl (by rw [hml]; rfl) (argsL := [(.ref a4), (.int (0 : Int32)), (.int c0), (.int r0), (.int (1 : Int32)), (.ref a6)]) (rest := []) (lenOf pd_5 rfl) rfl 0 (Nat.le_of_eq rfl) (hb hby at_91) (by decide) (by decide) (by decide) (by decide) ?_
    rintro _ T14 h14 ⟨rfl, RA14, Ef14, sz14⟩ H14
    show Go _ _ _ _ (T14.setTop (mkF m 94 #[.val (.int p1), .val (.int p2), .val (.int p3), .val (.int p4), .val (.int p5), .val (.int c0), .val (.int c1), .val (.int r0), .val (.int r1), .val (.ref a1), .val (.ref a4), .val (.ref a6), .unset, .unset] []))
    refine Go.via (fun t_ k_ => XS.aload H14.here hx rfl (hb hby at_94) rfl rfl k_) ?_
    show Go _ _ _ _ (T14.setTop (mkF m 96 #[.val (.int p1), .val (.int p2), .val (.int p3), .val (.int p4), .val (.int p5), .val (.int c0), .val (.int c1), .val (.int r0), .val (.int r1), .val (.ref a1), .val (.ref a4), .val (.ref a6), .unset, .unset] [(.ref a4)]))
    refine Go.via (fun t_ k_ => XS.iconst H14.here hx rfl (hb hby at_96) k_) ?_
    show Go _ _ _ _ (T14.setTop (mkF m 97 #[.val (.int p1), .val (.int p2), .val (.int p3), .val (.int p4), .val (.int p5), .val (.int c0), .val (.int c1), .val (.int r0), .val (.int r1), .val (.ref a1), .val (.ref a4), .val (.ref a6), .unset, .unset] [(.int (0 : Int32)), (.ref a4)]))
    refine Go.via (fun t_ k_ => XS.iload H14.here hx rfl (hb hby at_97) rfl k_) ?_
    show Go _ _ _ _ (T14.setTop (mkF m 99 #[.val (.int p1), .val (.int p2), .val (.int p3), .val (.int p4), .val (.int p5), .val (.int c0), .val (.int c1), .val (.int r0), .val (.int r1), .val (.ref a1), .val (.ref a4), .val (.ref a6), .unset, .unset] [(.int c0), (.int (0 : Int32)), (.ref a4)]))
    refine Go.via (fun t_ k_ => XS.iload H14.here hx rfl (hb hby at_99) rfl k_) ?_
    show Go _ _ _ _ (T14.setTop (mkF m 101 #[.val (.int p1), .val (.int p2), .val (.int p3), .val (.int p4), .val (.int p5), .val (.int c0), .val (.int c1), .val (.int r0), .val (.int r1), .val (.ref a1), .val (.ref a4), .val (.ref a6), .unset, .unset] [(.int r0), (.int c0), (.int (0 : Int32)), (.ref a4)]))
    refine Go.via (fun t_ k_ => XS.iconst H14.here hx rfl (hb hby at_101) k_) ?_
    show Go _ _ _ _ (T14.setTop (mkF m 102 #[.val (.int p1), .val (.int p2), .val (.int p3), .val (.int p4), .val (.int p5), .val (.int c0), .val (.int c1), .val (.int r0), .val (.int r1), .val (.ref a1), .val (.ref a4), .val (.ref a6), .unset, .unset] [(.int (2 : Int32)), (.int r0), (.int c0), (.int (0 : Int32)), (.ref a4)]))
    refine Go.via (fun t_ k_ => XS.aload H14.here hx rfl (hb hby at_102) rfl rfl k_) ?_
    show Go _ _ _ _ (T14.setTop (mkF m 104 #[.val (.int p1), .val (.int p2), .val (.int p3), .val (.int p4), .val (.int p5), .val (.int c0), .val (.int c1), .val (.int r0), .val (.int r1), .val (.ref a1), .val (.ref a4), .val (.ref a6), .unset, .unset] [(.ref a6), (.int (2 : Int32)), (.int r0), (.int c0), (.int (0 : Int32)), (.ref a4)]))
    refine own_callS H14 hx hZ (y := (⟨"com/example/perekaz/perekaz/RejectionsAnyTransactionPinLaw", "mark", "(Lcom/example/perekaz/perekaz/Rejections;IIIILcom/example/perekaz/perekaz/Finding;)V"⟩ : MethodName)) hown (hw _ (List.mem_of_getElem? (i := 65) rfl)) (hw _ (List.mem_of_getElem? (i := 66) rfl)) (hw _ (List.mem_of_getElem? (i := 67) rfl)) (hw _ (List.mem_of_getElem? (i := 68) rfl)) (by decide) (rmMk l Z a0 hw a4 ta ba a6 tt ccF (mkP (mkP (fun _ _ => false) 0 0 (cnd c0 r0 (0 : Int32))) 0 1 (cnd c0 r0 (1 : Int32))) (0 : Int32) c0 r0 (2 : Int32) 0 2 h14 n0 RA14 Ef14 (by decide) (by decide) (by decide) qc0) (g := (mkF m 104 #[.val (.int p1), .val (.int p2), .val (.int p3), .val (.int p4), .val (.int p5), .val (.int c0), .val (.int c1), .val (.int r0), .val (.int r1), .val (.ref a1), .val (.ref a4), .val (.ref a6), .unset, .unset] [(.ref a6), (.int (2 : Int32)), (.int r0), (.int c0), (.int (0 : Int32)), (.ref a4)])) rfl (by rw [hml]; rfl) (argsL := [(.ref a4), (.int (0 : Int32)), (.int c0), (.int r0), (.int (2 : Int32)), (.ref a6)]) (rest := []) (lenOf pd_5 rfl) rfl 0 (Nat.le_of_eq rfl) (hb hby at_104) (by decide) (by decide) (by decide) (by decide) ?_
    rintro _ T15 h15 ⟨rfl, RA15, Ef15, sz15⟩ H15
    show Go _ _ _ _ (T15.setTop (mkF m 107 #[.val (.int p1), .val (.int p2), .val (.int p3), .val (.int p4), .val (.int p5), .val (.int c0), .val (.int c1), .val (.int r0), .val (.int r1), .val (.ref a1), .val (.ref a4), .val (.ref a6), .unset, .unset] []))
    refine Go.via (fun t_ k_ => XS.aload H15.here hx rfl (hb hby at_107) rfl rfl k_) ?_
    show Go _ _ _ _ (T15.setTop (mkF m 109 #[.val (.int p1), .val (.int p2), .val (.int p3), .val (.int p4), .val (.int p5), .val (.int c0), .val (.int c1), .val (.int r0), .val (.int r1), .val (.ref a1), .val (.ref a4), .val (.ref a6), .unset, .unset] [(.ref a4)]))
    refine Go.via (fun t_ k_ => XS.iconst H15.here hx rfl (hb hby at_109) k_) ?_
    show Go _ _ _ _ (T15.setTop (mkF m 110 #[.val (.int p1), .val (.int p2), .val (.int p3), .val (.int p4), .val (.int p5), .val (.int c0), .val (.int c1), .val (.int r0), .val (.int r1), .val (.ref a1), .val (.ref a4), .val (.ref a6), .unset, .unset] [(.int (1 : Int32)), (.ref a4)]))
    refine Go.via (fun t_ k_ => XS.iload H15.here hx rfl (hb hby at_110) rfl k_) ?_
    show Go _ _ _ _ (T15.setTop (mkF m 112 #[.val (.int p1), .val (.int p2), .val (.int p3), .val (.int p4), .val (.int p5), .val (.int c0), .val (.int c1), .val (.int r0), .val (.int r1), .val (.ref a1), .val (.ref a4), .val (.ref a6), .unset, .unset] [(.int c1), (.int (1 : Int32)), (.ref a4)]))
    refine Go.via (fun t_ k_ => XS.iload H15.here hx rfl (hb hby at_112) rfl k_) ?_
    show Go _ _ _ _ (T15.setTop (mkF m 114 #[.val (.int p1), .val (.int p2), .val (.int p3), .val (.int p4), .val (.int p5), .val (.int c0), .val (.int c1), .val (.int r0), .val (.int r1), .val (.ref a1), .val (.ref a4), .val (.ref a6), .unset, .unset] [(.int r1), (.int c1), (.int (1 : Int32)), (.ref a4)]))
    refine Go.via (fun t_ k_ => XS.iconst H15.here hx rfl (hb hby at_114) k_) ?_
    show Go _ _ _ _ (T15.setTop (mkF m 115 #[.val (.int p1), .val (.int p2), .val (.int p3), .val (.int p4), .val (.int p5), .val (.int c0), .val (.int c1), .val (.int r0), .val (.int r1), .val (.ref a1), .val (.ref a4), .val (.ref a6), .unset, .unset] [(.int (0 : Int32)), (.int r1), (.int c1), (.int (1 : Int32)), (.ref a4)]))
    refine Go.via (fun t_ k_ => XS.aload H15.here hx rfl (hb hby at_115) rfl rfl k_) ?_
    show Go _ _ _ _ (T15.setTop (mkF m 117 #[.val (.int p1), .val (.int p2), .val (.int p3), .val (.int p4), .val (.int p5), .val (.int c0), .val (.int c1), .val (.int r0), .val (.int r1), .val (.ref a1), .val (.ref a4), .val (.ref a6), .unset, .unset] [(.ref a6), (.int (0 : Int32)), (.int r1), (.int c1), (.int (1 : Int32)), (.ref a4)]))
    refine own_callS H15 hx hZ (y := (⟨"com/example/perekaz/perekaz/RejectionsAnyTransactionPinLaw", "mark", "(Lcom/example/perekaz/perekaz/Rejections;IIIILcom/example/perekaz/perekaz/Finding;)V"⟩ : MethodName)) hown (hw _ (List.mem_of_getElem? (i := 65) rfl)) (hw _ (List.mem_of_getElem? (i := 66) rfl)) (hw _ (List.mem_of_getElem? (i := 67) rfl)) (hw _ (List.mem_of_getElem? (i := 68) rfl)) (by decide) (rmMk l Z a0 hw a4 ta ba a6 tt ccF (mkP (mkP (mkP (fun _ _ => false) 0 0 (cnd c0 r0 (0 : Int32))) 0 1 (cnd c0 r0 (1 : Int32))) 0 2 (cnd c0 r0 (2 : Int32))) (1 : Int32) c1 r1 (0 : Int32) 1 0 h15 n0 RA15 Ef15 (by decide) (by decide) (by decide) qc1) (g := (mkF m 117 #[.val (.int p1), .val (.int p2), .val (.int p3), .val (.int p4), .val (.int p5), .val (.int c0), .val (.int c1), .val (.int r0), .val (.int r1), .val (.ref a1), .val (.ref a4), .val (.ref a6), .unset, .unset] [(.ref a6), (.int (0 : Int32)), (.int r1), (.int c1), (.int (1 : Int32)), (.ref a4)])) rfl (by rw [hml]; rfl) (argsL := [(.ref a4), (.int (1 : Int32)), (.int c1), (.int r1), (.int (0 : Int32)), (.ref a6)]) (rest := []) (lenOf pd_5 rfl) rfl 0 (Nat.le_of_eq rfl) (hb hby at_117) (by decide) (by decide) (by decide) (by decide) ?_
    rintro _ T16 h16 ⟨rfl, RA16, Ef16, sz16⟩ H16
    show Go _ _ _ _ (T16.setTop (mkF m 120 #[.val (.int p1), .val (.int p2), .val (.int p3), .val (.int p4), .val (.int p5), .val (.int c0), .val (.int c1), .val (.int r0), .val (.int r1), .val (.ref a1), .val (.ref a4), .val (.ref a6), .unset, .unset] []))
    refine Go.via (fun t_ k_ => XS.aload H16.here hx rfl (hb hby at_120) rfl rfl k_) ?_
    show Go _ _ _ _ (T16.setTop (mkF m 122 #[.val (.int p1), .val (.int p2), .val (.int p3), .val (.int p4), .val (.int p5), .val (.int c0), .val (.int c1), .val (.int r0), .val (.int r1), .val (.ref a1), .val (.ref a4), .val (.ref a6), .unset, .unset] [(.ref a4)]))
    refine Go.via (fun t_ k_ => XS.iconst H16.here hx rfl (hb hby at_122) k_) ?_
    show Go _ _ _ _ (T16.setTop (mkF m 123 #[.val (.int p1), .val (.int p2), .val (.int p3), .val (.int p4), .val (.int p5), .val (.int c0), .val (.int c1), .val (.int r0), .val (.int r1), .val (.ref a1), .val (.ref a4), .val (.ref a6), .unset, .unset] [(.int (1 : Int32)), (.ref a4)]))
    refine Go.via (fun t_ k_ => XS.iload H16.here hx rfl (hb hby at_123) rfl k_) ?_
    show Go _ _ _ _ (T16.setTop (mkF m 125 #[.val (.int p1), .val (.int p2), .val (.int p3), .val (.int p4), .val (.int p5), .val (.int c0), .val (.int c1), .val (.int r0), .val (.int r1), .val (.ref a1), .val (.ref a4), .val (.ref a6), .unset, .unset] [(.int c1), (.int (1 : Int32)), (.ref a4)]))
    refine Go.via (fun t_ k_ => XS.iload H16.here hx rfl (hb hby at_125) rfl k_) ?_
    show Go _ _ _ _ (T16.setTop (mkF m 127 #[.val (.int p1), .val (.int p2), .val (.int p3), .val (.int p4), .val (.int p5), .val (.int c0), .val (.int c1), .val (.int r0), .val (.int r1), .val (.ref a1), .val (.ref a4), .val (.ref a6), .unset, .unset] [(.int r1), (.int c1), (.int (1 : Int32)), (.ref a4)]))
    refine Go.via (fun t_ k_ => XS.iconst H16.here hx rfl (hb hby at_127) k_) ?_
    show Go _ _ _ _ (T16.setTop (mkF m 128 #[.val (.int p1), .val (.int p2), .val (.int p3), .val (.int p4), .val (.int p5), .val (.int c0), .val (.int c1), .val (.int r0), .val (.int r1), .val (.ref a1), .val (.ref a4), .val (.ref a6), .unset, .unset] [(.int (1 : Int32)), (.int r1), (.int c1), (.int (1 : Int32)), (.ref a4)]))
    refine Go.via (fun t_ k_ => XS.aload H16.here hx rfl (hb hby at_128) rfl rfl k_) ?_
    show Go _ _ _ _ (T16.setTop (mkF m 130 #[.val (.int p1), .val (.int p2), .val (.int p3), .val (.int p4), .val (.int p5), .val (.int c0), .val (.int c1), .val (.int r0), .val (.int r1), .val (.ref a1), .val (.ref a4), .val (.ref a6), .unset, .unset] [(.ref a6), (.int (1 : Int32)), (.int r1), (.int c1), (.int (1 : Int32)), (.ref a4)]))
    refine own_callS H16 hx hZ (y := (⟨"com/example/perekaz/perekaz/RejectionsAnyTransactionPinLaw", "mark", "(Lcom/example/perekaz/perekaz/Rejections;IIIILcom/example/perekaz/perekaz/Finding;)V"⟩ : MethodName)) hown (hw _ (List.mem_of_getElem? (i := 65) rfl)) (hw _ (List.mem_of_getElem? (i := 66) rfl)) (hw _ (List.mem_of_getElem? (i := 67) rfl)) (hw _ (List.mem_of_getElem? (i := 68) rfl)) (by decide) (rmMk l Z a0 hw a4 ta ba a6 tt ccF (mkP (mkP (mkP (mkP (fun _ _ => false) 0 0 (cnd c0 r0 (0 : Int32))) 0 1 (cnd c0 r0 (1 : Int32))) 0 2 (cnd c0 r0 (2 : Int32))) 1 0 (cnd c1 r1 (0 : Int32))) (1 : Int32) c1 r1 (1 : Int32) 1 1 h16 n0 RA16 Ef16 (by decide) (by decide) (by decide) qc1) (g := (mkF m 130 #[.val (.int p1), .val (.int p2), .val (.int p3), .val (.int p4), .val (.int p5), .val (.int c0), .val (.int c1), .val (.int r0), .val (.int r1), .val (.ref a1), .val (.ref a4), .val (.ref a6), .unset, .unset] [(.ref a6), (.int (1 : Int32)), (.int r1), (.int c1), (.int (1 : Int32)), (.ref a4)])) rfl (by rw [hml]; rfl) (argsL := [(.ref a4), (.int (1 : Int32)), (.int c1), (.int r1), (.int (1 : Int32)), (.ref a6)]) (rest := []) (lenOf pd_5 rfl) rfl 0 (Nat.le_of_eq rfl) (hb hby at_130) (by decide) (by decide) (by decide) (by decide) ?_
    rintro _ T17 h17 ⟨rfl, RA17, Ef17, sz17⟩ H17
    show Go _ _ _ _ (T17.setTop (mkF m 133 #[.val (.int p1), .val (.int p2), .val (.int p3), .val (.int p4), .val (.int p5), .val (.int c0), .val (.int c1), .val (.int r0), .val (.int r1), .val (.ref a1), .val (.ref a4), .val (.ref a6), .unset, .unset] []))
    refine Go.via (fun t_ k_ => XS.aload H17.here hx rfl (hb hby at_133) rfl rfl k_) ?_
    show Go _ _ _ _ (T17.setTop (mkF m 135 #[.val (.int p1), .val (.int p2), .val (.int p3), .val (.int p4), .val (.int p5), .val (.int c0), .val (.int c1), .val (.int r0), .val (.int r1), .val (.ref a1), .val (.ref a4), .val (.ref a6), .unset, .unset] [(.ref a4)]))
    refine Go.via (fun t_ k_ => XS.iconst H17.here hx rfl (hb hby at_135) k_) ?_
    show Go _ _ _ _ (T17.setTop (mkF m 136 #[.val (.int p1), .val (.int p2), .val (.int p3), .val (.int p4), .val (.int p5), .val (.int c0), .val (.int c1), .val (.int r0), .val (.int r1), .val (.ref a1), .val (.ref a4), .val (.ref a6), .unset, .unset] [(.int (1 : Int32)), (.ref a4)]))
    refine Go.via (fun t_ k_ => XS.iload H17.here hx rfl (hb hby at_136) rfl k_) ?_
    show Go _ _ _ _ (T17.setTop (mkF m 138 #[.val (.int p1), .val (.int p2), .val (.int p3), .val (.int p4), .val (.int p5), .val (.int c0), .val (.int c1), .val (.int r0), .val (.int r1), .val (.ref a1), .val (.ref a4), .val (.ref a6), .unset, .unset] [(.int c1), (.int (1 : Int32)), (.ref a4)]))
    refine Go.via (fun t_ k_ => XS.iload H17.here hx rfl (hb hby at_138) rfl k_) ?_
    show Go _ _ _ _ (T17.setTop (mkF m 140 #[.val (.int p1), .val (.int p2), .val (.int p3), .val (.int p4), .val (.int p5), .val (.int c0), .val (.int c1), .val (.int r0), .val (.int r1), .val (.ref a1), .val (.ref a4), .val (.ref a6), .unset, .unset] [(.int r1), (.int c1), (.int (1 : Int32)), (.ref a4)]))
    refine Go.via (fun t_ k_ => XS.iconst H17.here hx rfl (hb hby at_140) k_) ?_
    show Go _ _ _ _ (T17.setTop (mkF m 141 #[.val (.int p1), .val (.int p2), .val (.int p3), .val (.int p4), .val (.int p5), .val (.int c0), .val (.int c1), .val (.int r0), .val (.int r1), .val (.ref a1), .val (.ref a4), .val (.ref a6), .unset, .unset] [(.int (2 : Int32)), (.int r1), (.int c1), (.int (1 : Int32)), (.ref a4)]))
    refine Go.via (fun t_ k_ => XS.aload H17.here hx rfl (hb hby at_141) rfl rfl k_) ?_
    show Go _ _ _ _ (T17.setTop (mkF m 143 #[.val (.int p1), .val (.int p2), .val (.int p3), .val (.int p4), .val (.int p5), .val (.int c0), .val (.int c1), .val (.int r0), .val (.int r1), .val (.ref a1), .val (.ref a4), .val (.ref a6), .unset, .unset] [(.ref a6), (.int (2 : Int32)), (.int r1), (.int c1), (.int (1 : Int32)), (.ref a4)]))
    refine own_callS H17 hx hZ (y := (⟨"com/example/perekaz/perekaz/RejectionsAnyTransactionPinLaw", "mark", "(Lcom/example/perekaz/perekaz/Rejections;IIIILcom/example/perekaz/perekaz/Finding;)V"⟩ : MethodName)) hown (hw _ (List.mem_of_getElem? (i := 65) rfl)) (hw _ (List.mem_of_getElem? (i := 66) rfl)) (hw _ (List.mem_of_getElem? (i := 67) rfl)) (hw _ (List.mem_of_getElem? (i := 68) rfl)) (by decide) (rmMk l Z a0 hw a4 ta ba a6 tt ccF (mkP (mkP (mkP (mkP (mkP (fun _ _ => false) 0 0 (cnd c0 r0 (0 : Int32))) 0 1 (cnd c0 r0 (1 : Int32))) 0 2 (cnd c0 r0 (2 : Int32))) 1 0 (cnd c1 r1 (0 : Int32))) 1 1 (cnd c1 r1 (1 : Int32))) (1 : Int32) c1 r1 (2 : Int32) 1 2 h17 n0 RA17 Ef17 (by decide) (by decide) (by decide) qc1) (g := (mkF m 143 #[.val (.int p1), .val (.int p2), .val (.int p3), .val (.int p4), .val (.int p5), .val (.int c0), .val (.int c1), .val (.int r0), .val (.int r1), .val (.ref a1), .val (.ref a4), .val (.ref a6), .unset, .unset] [(.ref a6), (.int (2 : Int32)), (.int r1), (.int c1), (.int (1 : Int32)), (.ref a4)])) rfl (by rw [hml]; rfl) (argsL := [(.ref a4), (.int (1 : Int32)), (.int c1), (.int r1), (.int (2 : Int32)), (.ref a6)]) (rest := []) (lenOf pd_5 rfl) rfl 0 (Nat.le_of_eq rfl) (hb hby at_143) (by decide) (by decide) (by decide) (by decide) ?_
    rintro _ T18 h18 ⟨rfl, RA18, Ef18, sz18⟩ H18
    show Go _ _ _ _ (T18.setTop (mkF m 146 #[.val (.int p1), .val (.int p2), .val (.int p3), .val (.int p4), .val (.int p5), .val (.int c0), .val (.int c1), .val (.int r0), .val (.int r1), .val (.ref a1), .val (.ref a4), .val (.ref a6), .unset, .unset] []))
    have J164 : ∀ (Tj : State) (hj : Heap), Here p l e room_1 (Z.setVm T12.vm) m #[(.int p1), (.int p2), (.int p3), (.int p4), (.int p5)] below meth c n0 Tj hj 25 225 → (RejAt Z hj n0 a4 ta ba tt ccF a6 (mkP (mkP (mkP (mkP (mkP (mkP (fun _ _ => false) 0 0 (cnd c0 r0 (0 : Int32))) 0 1 (cnd c0 r0 (1 : Int32))) 0 2 (cnd c0 r0 (2 : Int32))) 1 0 (cnd c1 r1 (0 : Int32))) 1 1 (cnd c1 r1 (1 : Int32))) 1 2 (cnd c1 r1 (2 : Int32)))) → (Lw Z T12.vm hj) → Go p e below (FiniW below Z n0 (fun v h => v = some (.int (1 : Int32))) room_1.cells room_1.slots) (Tj.setTop (mkF m 164 #[.val (.int p1), .val (.int p2), .val (.int p3), .val (.int p4), .val (.int p5), .val (.int c0), .val (.int c1), .val (.int r0), .val (.int r1), .val (.ref a1), .val (.ref a4), .val (.ref a6), .unset, .unset] [])) := by
      intro Tj hj Hj RAj LBj
      show Go _ _ _ _ (Tj.setTop (mkF m 164 #[.val (.int p1), .val (.int p2), .val (.int p3), .val (.int p4), .val (.int p5), .val (.int c0), .val (.int c1), .val (.int r0), .val (.int r1), .val (.ref a1), .val (.ref a4), .val (.ref a6), .unset, .unset] []))
      refine Go.via (fun t_ k_ => XS.iload Hj.here hx rfl (hb hby at_164) rfl k_) ?_
      show Go _ _ _ _ (Tj.setTop (mkF m 166 #[.val (.int p1), .val (.int p2), .val (.int p3), .val (.int p4), .val (.int p5), .val (.int c0), .val (.int c1), .val (.int r0), .val (.int r1), .val (.ref a1), .val (.ref a4), .val (.ref a6), .unset, .unset] [(.int r0)]))
      refine Go.via (fun t_ k_ => XS.iconst Hj.here hx rfl (hb hby at_166) k_) ?_
      show Go _ _ _ _ (Tj.setTop (mkF m 167 #[.val (.int p1), .val (.int p2), .val (.int p3), .val (.int p4), .val (.int p5), .val (.int c0), .val (.int c1), .val (.int r0), .val (.int r1), .val (.ref a1), .val (.ref a4), .val (.ref a6), .unset, .unset] [(.int (1 : Int32)), (.int r0)]))
      refine Go.via (fun t_ k_ => XS.iload Hj.here hx rfl (hb hby at_167) rfl k_) ?_
      show Go _ _ _ _ (Tj.setTop (mkF m 169 #[.val (.int p1), .val (.int p2), .val (.int p3), .val (.int p4), .val (.int p5), .val (.int c0), .val (.int c1), .val (.int r0), .val (.int r1), .val (.ref a1), .val (.ref a4), .val (.ref a6), .unset, .unset] [(.int c0), (.int (1 : Int32)), (.int r0)]))
      refine Go.via (fun t_ k_ => XS.ishl Hj.here hx rfl (hb hby at_169) rfl k_) ?_
      show Go _ _ _ _ (Tj.setTop (mkF m 170 #[.val (.int p1), .val (.int p2), .val (.int p3), .val (.int p4), .val (.int p5), .val (.int c0), .val (.int c1), .val (.int r0), .val (.int r1), .val (.ref a1), .val (.ref a4), .val (.ref a6), .unset, .unset] [(.int ((1 : Int32) <<< (c0 &&& 31))), (.int r0)]))
      refine Go.via (fun t_ k_ => XS.iconst Hj.here hx rfl (hb hby at_170) k_) ?_
      show Go _ _ _ _ (Tj.setTop (mkF m 171 #[.val (.int p1), .val (.int p2), .val (.int p3), .val (.int p4), .val (.int p5), .val (.int c0), .val (.int c1), .val (.int r0), .val (.int r1), .val (.ref a1), .val (.ref a4), .val (.ref a6), .unset, .unset] [(.int (1 : Int32)), (.int ((1 : Int32) <<< (c0 &&& 31))), (.int r0)]))
      refine Go.via (fun t_ k_ => XS.isub Hj.here hx rfl (hb hby at_171) rfl k_) ?_
      show Go _ _ _ _ (Tj.setTop (mkF m 172 #[.val (.int p1), .val (.int p2), .val (.int p3), .val (.int p4), .val (.int p5), .val (.int c0), .val (.int c1), .val (.int r0), .val (.int r1), .val (.ref a1), .val (.ref a4), .val (.ref a6), .unset, .unset] [(.int (((1 : Int32) <<< (c0 &&& 31)) - (1 : Int32))), (.int r0)]))
      refine Go.via (fun t_ k_ => XS.iand Hj.here hx rfl (hb hby at_172) rfl k_) ?_
      show Go _ _ _ _ (Tj.setTop (mkF m 173 #[.val (.int p1), .val (.int p2), .val (.int p3), .val (.int p4), .val (.int p5), .val (.int c0), .val (.int c1), .val (.int r0), .val (.int r1), .val (.ref a1), .val (.ref a4), .val (.ref a6), .unset, .unset] [(.int (r0 &&& (((1 : Int32) <<< (c0 &&& 31)) - (1 : Int32))))]))
      by_cases hc173 : (r0 &&& (((1 : Int32) <<< (c0 &&& 31)) - (1 : Int32))) = (0 : Int32)
      · refine Go.via (fun t_ k_ => XS.ifYes Hj.here hx rfl (pc0 := 173) (pc' := 180) rfl (hb hby at_173) rfl ((if0 _ _).trans (teq hc173).1) (by decide) (by decide) k_) ?_
        show Go _ _ _ _ (Tj.setTop (mkF m 180 #[.val (.int p1), .val (.int p2), .val (.int p3), .val (.int p4), .val (.int p5), .val (.int c0), .val (.int c1), .val (.int r0), .val (.int r1), .val (.ref a1), .val (.ref a4), .val (.ref a6), .unset, .unset] []))
        refine Go.via (fun t_ k_ => XS.iconst Hj.here hx rfl (hb hby at_180) k_) ?_
        show Go _ _ _ _ (Tj.setTop (mkF m 181 #[.val (.int p1), .val (.int p2), .val (.int p3), .val (.int p4), .val (.int p5), .val (.int c0), .val (.int c1), .val (.int r0), .val (.int r1), .val (.ref a1), .val (.ref a4), .val (.ref a6), .unset, .unset] [(.int (0 : Int32))]))
        refine Go.via (fun t_ k_ => XS.istore Hj.here hx rfl (hb hby at_181) rfl (l' := #[.val (.int p1), .val (.int p2), .val (.int p3), .val (.int p4), .val (.int p5), .val (.int c0), .val (.int c1), .val (.int r0), .val (.int r1), .val (.ref a1), .val (.ref a4), .val (.ref a6), .val (.int (0 : Int32)), .unset]) rfl k_) ?_
        show Go _ _ _ _ (Tj.setTop (mkF m 183 #[.val (.int p1), .val (.int p2), .val (.int p3), .val (.int p4), .val (.int p5), .val (.int c0), .val (.int c1), .val (.int r0), .val (.int r1), .val (.ref a1), .val (.ref a4), .val (.ref a6), .val (.int (0 : Int32)), .unset] []))
        refine Go.via (fun t_ k_ => XS.iload Hj.here hx rfl (hb hby at_183) rfl k_) ?_
        show Go _ _ _ _ (Tj.setTop (mkF m 185 #[.val (.int p1), .val (.int p2), .val (.int p3), .val (.int p4), .val (.int p5), .val (.int c0), .val (.int c1), .val (.int r0), .val (.int r1), .val (.ref a1), .val (.ref a4), .val (.ref a6), .val (.int (0 : Int32)), .unset] [(.int r1)]))
        refine Go.via (fun t_ k_ => XS.iconst Hj.here hx rfl (hb hby at_185) k_) ?_
        show Go _ _ _ _ (Tj.setTop (mkF m 186 #[.val (.int p1), .val (.int p2), .val (.int p3), .val (.int p4), .val (.int p5), .val (.int c0), .val (.int c1), .val (.int r0), .val (.int r1), .val (.ref a1), .val (.ref a4), .val (.ref a6), .val (.int (0 : Int32)), .unset] [(.int (1 : Int32)), (.int r1)]))
        refine Go.via (fun t_ k_ => XS.iload Hj.here hx rfl (hb hby at_186) rfl k_) ?_
        show Go _ _ _ _ (Tj.setTop (mkF m 188 #[.val (.int p1), .val (.int p2), .val (.int p3), .val (.int p4), .val (.int p5), .val (.int c0), .val (.int c1), .val (.int r0), .val (.int r1), .val (.ref a1), .val (.ref a4), .val (.ref a6), .val (.int (0 : Int32)), .unset] [(.int c1), (.int (1 : Int32)), (.int r1)]))
        refine Go.via (fun t_ k_ => XS.ishl Hj.here hx rfl (hb hby at_188) rfl k_) ?_
        show Go _ _ _ _ (Tj.setTop (mkF m 189 #[.val (.int p1), .val (.int p2), .val (.int p3), .val (.int p4), .val (.int p5), .val (.int c0), .val (.int c1), .val (.int r0), .val (.int r1), .val (.ref a1), .val (.ref a4), .val (.ref a6), .val (.int (0 : Int32)), .unset] [(.int ((1 : Int32) <<< (c1 &&& 31))), (.int r1)]))
        refine Go.via (fun t_ k_ => XS.iconst Hj.here hx rfl (hb hby at_189) k_) ?_
        show Go _ _ _ _ (Tj.setTop (mkF m 190 #[.val (.int p1), .val (.int p2), .val (.int p3), .val (.int p4), .val (.int p5), .val (.int c0), .val (.int c1), .val (.int r0), .val (.int r1), .val (.ref a1), .val (.ref a4), .val (.ref a6), .val (.int (0 : Int32)), .unset] [(.int (1 : Int32)), (.int ((1 : Int32) <<< (c1 &&& 31))), (.int r1)]))
        refine Go.via (fun t_ k_ => XS.isub Hj.here hx rfl (hb hby at_190) rfl k_) ?_
        show Go _ _ _ _ (Tj.setTop (mkF m 191 #[.val (.int p1), .val (.int p2), .val (.int p3), .val (.int p4), .val (.int p5), .val (.int c0), .val (.int c1), .val (.int r0), .val (.int r1), .val (.ref a1), .val (.ref a4), .val (.ref a6), .val (.int (0 : Int32)), .unset] [(.int (((1 : Int32) <<< (c1 &&& 31)) - (1 : Int32))), (.int r1)]))
        refine Go.via (fun t_ k_ => XS.iand Hj.here hx rfl (hb hby at_191) rfl k_) ?_
        show Go _ _ _ _ (Tj.setTop (mkF m 192 #[.val (.int p1), .val (.int p2), .val (.int p3), .val (.int p4), .val (.int p5), .val (.int c0), .val (.int c1), .val (.int r0), .val (.int r1), .val (.ref a1), .val (.ref a4), .val (.ref a6), .val (.int (0 : Int32)), .unset] [(.int (r1 &&& (((1 : Int32) <<< (c1 &&& 31)) - (1 : Int32))))]))
        by_cases hc192 : (r1 &&& (((1 : Int32) <<< (c1 &&& 31)) - (1 : Int32))) = (0 : Int32)
        · refine Go.via (fun t_ k_ => XS.ifYes Hj.here hx rfl (pc0 := 192) (pc' := 199) rfl (hb hby at_192) rfl ((if0 _ _).trans (teq hc192).1) (by decide) (by decide) k_) ?_
          show Go _ _ _ _ (Tj.setTop (mkF m 199 #[.val (.int p1), .val (.int p2), .val (.int p3), .val (.int p4), .val (.int p5), .val (.int c0), .val (.int c1), .val (.int r0), .val (.int r1), .val (.ref a1), .val (.ref a4), .val (.ref a6), .val (.int (0 : Int32)), .unset] []))
          refine Go.via (fun t_ k_ => XS.iconst Hj.here hx rfl (hb hby at_199) k_) ?_
          show Go _ _ _ _ (Tj.setTop (mkF m 200 #[.val (.int p1), .val (.int p2), .val (.int p3), .val (.int p4), .val (.int p5), .val (.int c0), .val (.int c1), .val (.int r0), .val (.int r1), .val (.ref a1), .val (.ref a4), .val (.ref a6), .val (.int (0 : Int32)), .unset] [(.int (0 : Int32))]))
          refine Go.via (fun t_ k_ => XS.istore Hj.here hx rfl (hb hby at_200) rfl (l' := #[.val (.int p1), .val (.int p2), .val (.int p3), .val (.int p4), .val (.int p5), .val (.int c0), .val (.int c1), .val (.int r0), .val (.int r1), .val (.ref a1), .val (.ref a4), .val (.ref a6), .val (.int (0 : Int32)), .val (.int (0 : Int32))]) rfl k_) ?_
          show Go _ _ _ _ (Tj.setTop (mkF m 202 #[.val (.int p1), .val (.int p2), .val (.int p3), .val (.int p4), .val (.int p5), .val (.int c0), .val (.int c1), .val (.int r0), .val (.int r1), .val (.ref a1), .val (.ref a4), .val (.ref a6), .val (.int (0 : Int32)), .val (.int (0 : Int32))] []))
          refine Go.via (fun t_ k_ => XS.aload Hj.here hx rfl (hb hby at_202) rfl rfl k_) ?_
          show Go _ _ _ _ (Tj.setTop (mkF m 204 #[.val (.int p1), .val (.int p2), .val (.int p3), .val (.int p4), .val (.int p5), .val (.int c0), .val (.int c1), .val (.int r0), .val (.int r1), .val (.ref a1), .val (.ref a4), .val (.ref a6), .val (.int (0 : Int32)), .val (.int (0 : Int32))] [(.ref a4)]))
          refine Go.via (fun t_ k_ => XS.iconst Hj.here hx rfl (hb hby at_204) k_) ?_
          show Go _ _ _ _ (Tj.setTop (mkF m 205 #[.val (.int p1), .val (.int p2), .val (.int p3), .val (.int p4), .val (.int p5), .val (.int c0), .val (.int c1), .val (.int r0), .val (.int r1), .val (.ref a1), .val (.ref a4), .val (.ref a6), .val (.int (0 : Int32)), .val (.int (0 : Int32))] [(.int (0 : Int32)), (.ref a4)]))
          refine own_callV Hj hx hZ (C := "com/example/perekaz/perekaz/Rejections") (y := (⟨"com/example/perekaz/perekaz/Rejections", "anyTransaction", "(I)Z"⟩ : MethodName)) (a := a4) hown (hw _ (List.mem_of_getElem? (i := 75) rfl)) (hw _ (List.mem_of_getElem? (i := 76) rfl)) (hw _ (List.mem_of_getElem? (i := 78) rfl)) (hw _ (List.mem_of_getElem? (i := 77) rfl)) (hw _ (List.mem_of_getElem? (i := 3) rfl)) (hw _ (List.mem_of_getElem? (i := 79) rfl)) (by decide) RAj.1 (rmAny l Z a0 hw a4 ta ba a6 tt ccF (mkP (mkP (mkP (mkP (mkP (mkP (fun _ _ => false) 0 0 (cnd c0 r0 (0 : Int32))) 0 1 (cnd c0 r0 (1 : Int32))) 0 2 (cnd c0 r0 (2 : Int32))) 1 0 (cnd c1 r1 (0 : Int32))) 1 1 (cnd c1 r1 (1 : Int32))) 1 2 (cnd c1 r1 (2 : Int32))) (0 : Int32) 0 hj n0 RAj (by decide) (by decide) lc0) (g := (mkF m 205 #[.val (.int p1), .val (.int p2), .val (.int p3), .val (.int p4), .val (.int p5), .val (.int c0), .val (.int c1), .val (.int r0), .val (.int r1), .val (.ref a1), .val (.ref a4), .val (.ref a6), .val (.int (0 : Int32)), .val (.int (0 : Int32))] [(.int (0 : Int32)), (.ref a4)])) rfl (by rw [hml]; rfl) (argsL := [(.int (0 : Int32))]) (rest := []) (lenOf pd_6 rfl) rfl 0 (Nat.le_of_eq rfl) (hb hby at_205) (by decide) (by decide) (by decide) (by decide) ?_
          rintro _ T19 _ ⟨rfl, rfl⟩ H19
          show Go _ _ _ _ (T19.setTop (mkF m 208 #[.val (.int p1), .val (.int p2), .val (.int p3), .val (.int p4), .val (.int p5), .val (.int c0), .val (.int c1), .val (.int r0), .val (.int r1), .val (.ref a1), .val (.ref a4), .val (.ref a6), .val (.int (0 : Int32)), .val (.int (0 : Int32))] [(.int (if anyB ((mkP (mkP (mkP (mkP (mkP (mkP (fun _ _ => false) 0 0 (cnd c0 r0 (0 : Int32))) 0 1 (cnd c0 r0 (1 : Int32))) 0 2 (cnd c0 r0 (2 : Int32))) 1 0 (cnd c1 r1 (0 : Int32))) 1 1 (cnd c1 r1 (1 : Int32))) 1 2 (cnd c1 r1 (2 : Int32))) 0) (ccF 0) 0 = true then 1 else 0))]))
          refine Go.via (fun t_ k_ => XS.iload H19.here hx rfl (hb hby at_208) rfl k_) ?_
          show Go _ _ _ _ (T19.setTop (mkF m 210 #[.val (.int p1), .val (.int p2), .val (.int p3), .val (.int p4), .val (.int p5), .val (.int c0), .val (.int c1), .val (.int r0), .val (.int r1), .val (.ref a1), .val (.ref a4), .val (.ref a6), .val (.int (0 : Int32)), .val (.int (0 : Int32))] [(.int (0 : Int32)), (.int (if anyB ((mkP (mkP (mkP (mkP (mkP (mkP (fun _ _ => false) 0 0 (cnd c0 r0 (0 : Int32))) 0 1 (cnd c0 r0 (1 : Int32))) 0 2 (cnd c0 r0 (2 : Int32))) 1 0 (cnd c1 r1 (0 : Int32))) 1 1 (cnd c1 r1 (1 : Int32))) 1 2 (cnd c1 r1 (2 : Int32))) 0) (ccF 0) 0 = true then 1 else 0))]))
          refine Go.via (fun t_ k_ => XS.icmpNo H19.here hx rfl (hb hby at_210) rfl ((teq (show (if anyB ((mkP (mkP (mkP (mkP (mkP (mkP (fun _ _ => false) 0 0 (cnd c0 r0 (0 : Int32))) 0 1 (cnd c0 r0 (1 : Int32))) 0 2 (cnd c0 r0 (2 : Int32))) 1 0 (cnd c1 r1 (0 : Int32))) 1 1 (cnd c1 r1 (1 : Int32))) 1 2 (cnd c1 r1 (2 : Int32))) 0) (ccF 0) 0 = true then 1 else 0) = (0 : Int32) from ((own_fin qc0 m0 qr0 mr0 ((mkP (mkP (mkP (mkP (mkP (mkP (fun _ _ => false) 0 0 (cnd c0 r0 (0 : Int32))) 0 1 (cnd c0 r0 (1 : Int32))) 0 2 (cnd c0 r0 (2 : Int32))) 1 0 (cnd c1 r1 (0 : Int32))) 1 1 (cnd c1 r1 (1 : Int32))) 1 2 (cnd c1 r1 (2 : Int32))) 0) (fun i => by simp [mkP])).trans (if_pos hc173)))).2) k_) ?_
          show Go _ _ _ _ (T19.setTop (mkF m 213 #[.val (.int p1), .val (.int p2), .val (.int p3), .val (.int p4), .val (.int p5), .val (.int c0), .val (.int c1), .val (.int r0), .val (.int r1), .val (.ref a1), .val (.ref a4), .val (.ref a6), .val (.int (0 : Int32)), .val (.int (0 : Int32))] []))
          refine Go.via (fun t_ k_ => XS.aload H19.here hx rfl (hb hby at_213) rfl rfl k_) ?_
          show Go _ _ _ _ (T19.setTop (mkF m 215 #[.val (.int p1), .val (.int p2), .val (.int p3), .val (.int p4), .val (.int p5), .val (.int c0), .val (.int c1), .val (.int r0), .val (.int r1), .val (.ref a1), .val (.ref a4), .val (.ref a6), .val (.int (0 : Int32)), .val (.int (0 : Int32))] [(.ref a4)]))
          refine Go.via (fun t_ k_ => XS.iconst H19.here hx rfl (hb hby at_215) k_) ?_
          show Go _ _ _ _ (T19.setTop (mkF m 216 #[.val (.int p1), .val (.int p2), .val (.int p3), .val (.int p4), .val (.int p5), .val (.int c0), .val (.int c1), .val (.int r0), .val (.int r1), .val (.ref a1), .val (.ref a4), .val (.ref a6), .val (.int (0 : Int32)), .val (.int (0 : Int32))] [(.int (1 : Int32)), (.ref a4)]))
          refine own_callV H19 hx hZ (C := "com/example/perekaz/perekaz/Rejections") (y := (⟨"com/example/perekaz/perekaz/Rejections", "anyTransaction", "(I)Z"⟩ : MethodName)) (a := a4) hown (hw _ (List.mem_of_getElem? (i := 75) rfl)) (hw _ (List.mem_of_getElem? (i := 76) rfl)) (hw _ (List.mem_of_getElem? (i := 78) rfl)) (hw _ (List.mem_of_getElem? (i := 77) rfl)) (hw _ (List.mem_of_getElem? (i := 3) rfl)) (hw _ (List.mem_of_getElem? (i := 79) rfl)) (by decide) RAj.1 (rmAny l Z a0 hw a4 ta ba a6 tt ccF (mkP (mkP (mkP (mkP (mkP (mkP (fun _ _ => false) 0 0 (cnd c0 r0 (0 : Int32))) 0 1 (cnd c0 r0 (1 : Int32))) 0 2 (cnd c0 r0 (2 : Int32))) 1 0 (cnd c1 r1 (0 : Int32))) 1 1 (cnd c1 r1 (1 : Int32))) 1 2 (cnd c1 r1 (2 : Int32))) (1 : Int32) 1 hj n0 RAj (by decide) (by decide) lc1) (g := (mkF m 216 #[.val (.int p1), .val (.int p2), .val (.int p3), .val (.int p4), .val (.int p5), .val (.int c0), .val (.int c1), .val (.int r0), .val (.int r1), .val (.ref a1), .val (.ref a4), .val (.ref a6), .val (.int (0 : Int32)), .val (.int (0 : Int32))] [(.int (1 : Int32)), (.ref a4)])) rfl (by rw [hml]; rfl) (argsL := [(.int (1 : Int32))]) (rest := []) (lenOf pd_6 rfl) rfl 0 (Nat.le_of_eq rfl) (hb hby at_216) (by decide) (by decide) (by decide) (by decide) ?_
          rintro _ T20 _ ⟨rfl, rfl⟩ H20
          show Go _ _ _ _ (T20.setTop (mkF m 219 #[.val (.int p1), .val (.int p2), .val (.int p3), .val (.int p4), .val (.int p5), .val (.int c0), .val (.int c1), .val (.int r0), .val (.int r1), .val (.ref a1), .val (.ref a4), .val (.ref a6), .val (.int (0 : Int32)), .val (.int (0 : Int32))] [(.int (if anyB ((mkP (mkP (mkP (mkP (mkP (mkP (fun _ _ => false) 0 0 (cnd c0 r0 (0 : Int32))) 0 1 (cnd c0 r0 (1 : Int32))) 0 2 (cnd c0 r0 (2 : Int32))) 1 0 (cnd c1 r1 (0 : Int32))) 1 1 (cnd c1 r1 (1 : Int32))) 1 2 (cnd c1 r1 (2 : Int32))) 1) (ccF 1) 0 = true then 1 else 0))]))
          refine Go.via (fun t_ k_ => XS.iload H20.here hx rfl (hb hby at_219) rfl k_) ?_
          show Go _ _ _ _ (T20.setTop (mkF m 221 #[.val (.int p1), .val (.int p2), .val (.int p3), .val (.int p4), .val (.int p5), .val (.int c0), .val (.int c1), .val (.int r0), .val (.int r1), .val (.ref a1), .val (.ref a4), .val (.ref a6), .val (.int (0 : Int32)), .val (.int (0 : Int32))] [(.int (0 : Int32)), (.int (if anyB ((mkP (mkP (mkP (mkP (mkP (mkP (fun _ _ => false) 0 0 (cnd c0 r0 (0 : Int32))) 0 1 (cnd c0 r0 (1 : Int32))) 0 2 (cnd c0 r0 (2 : Int32))) 1 0 (cnd c1 r1 (0 : Int32))) 1 1 (cnd c1 r1 (1 : Int32))) 1 2 (cnd c1 r1 (2 : Int32))) 1) (ccF 1) 0 = true then 1 else 0))]))
          refine Go.via (fun t_ k_ => XS.icmpNo H20.here hx rfl (hb hby at_221) rfl ((teq (show (if anyB ((mkP (mkP (mkP (mkP (mkP (mkP (fun _ _ => false) 0 0 (cnd c0 r0 (0 : Int32))) 0 1 (cnd c0 r0 (1 : Int32))) 0 2 (cnd c0 r0 (2 : Int32))) 1 0 (cnd c1 r1 (0 : Int32))) 1 1 (cnd c1 r1 (1 : Int32))) 1 2 (cnd c1 r1 (2 : Int32))) 1) (ccF 1) 0 = true then 1 else 0) = (0 : Int32) from ((own_fin qc1 m1 qr1 mr1 ((mkP (mkP (mkP (mkP (mkP (mkP (fun _ _ => false) 0 0 (cnd c0 r0 (0 : Int32))) 0 1 (cnd c0 r0 (1 : Int32))) 0 2 (cnd c0 r0 (2 : Int32))) 1 0 (cnd c1 r1 (0 : Int32))) 1 1 (cnd c1 r1 (1 : Int32))) 1 2 (cnd c1 r1 (2 : Int32))) 1) (fun i => by simp [mkP])).trans (if_pos hc192)))).2) k_) ?_
          show Go _ _ _ _ (T20.setTop (mkF m 224 #[.val (.int p1), .val (.int p2), .val (.int p3), .val (.int p4), .val (.int p5), .val (.int c0), .val (.int c1), .val (.int r0), .val (.int r1), .val (.ref a1), .val (.ref a4), .val (.ref a6), .val (.int (0 : Int32)), .val (.int (0 : Int32))] []))
          refine Go.via (fun t_ k_ => XS.iconst H20.here hx rfl (hb hby at_224) k_) ?_
          show Go _ _ _ _ (T20.setTop (mkF m 225 #[.val (.int p1), .val (.int p2), .val (.int p3), .val (.int p4), .val (.int p5), .val (.int c0), .val (.int c1), .val (.int r0), .val (.int r1), .val (.ref a1), .val (.ref a4), .val (.ref a6), .val (.int (0 : Int32)), .val (.int (0 : Int32))] [(.int (1 : Int32))]))
          refine Go.via (fun t_ k_ => XS.goto H20.here hx rfl (pc0 := 225) (pc' := 229) rfl (hb hby at_225) (by decide) (by decide) k_) ?_
          show Go _ _ _ _ (T20.setTop (mkF m 229 #[.val (.int p1), .val (.int p2), .val (.int p3), .val (.int p4), .val (.int p5), .val (.int c0), .val (.int c1), .val (.int r0), .val (.int r1), .val (.ref a1), .val (.ref a4), .val (.ref a6), .val (.int (0 : Int32)), .val (.int (0 : Int32))] [(.int (1 : Int32))]))
          exact own_retNC H20 LBj hx hlk (by simp) hret (hb hby at_229) rfl (by decide) (by decide)
        · refine Go.via (fun t_ k_ => XS.ifNo Hj.here hx rfl (hb hby at_192) rfl ((if0 _ _).trans (feq hc192).1) k_) ?_
          show Go _ _ _ _ (Tj.setTop (mkF m 195 #[.val (.int p1), .val (.int p2), .val (.int p3), .val (.int p4), .val (.int p5), .val (.int c0), .val (.int c1), .val (.int r0), .val (.int r1), .val (.ref a1), .val (.ref a4), .val (.ref a6), .val (.int (0 : Int32)), .unset] []))
          refine Go.via (fun t_ k_ => XS.iconst Hj.here hx rfl (hb hby at_195) k_) ?_
          show Go _ _ _ _ (Tj.setTop (mkF m 196 #[.val (.int p1), .val (.int p2), .val (.int p3), .val (.int p4), .val (.int p5), .val (.int c0), .val (.int c1), .val (.int r0), .val (.int r1), .val (.ref a1), .val (.ref a4), .val (.ref a6), .val (.int (0 : Int32)), .unset] [(.int (1 : Int32))]))
          refine Go.via (fun t_ k_ => XS.goto Hj.here hx rfl (pc0 := 196) (pc' := 200) rfl (hb hby at_196) (by decide) (by decide) k_) ?_
          show Go _ _ _ _ (Tj.setTop (mkF m 200 #[.val (.int p1), .val (.int p2), .val (.int p3), .val (.int p4), .val (.int p5), .val (.int c0), .val (.int c1), .val (.int r0), .val (.int r1), .val (.ref a1), .val (.ref a4), .val (.ref a6), .val (.int (0 : Int32)), .unset] [(.int (1 : Int32))]))
          refine Go.via (fun t_ k_ => XS.istore Hj.here hx rfl (hb hby at_200) rfl (l' := #[.val (.int p1), .val (.int p2), .val (.int p3), .val (.int p4), .val (.int p5), .val (.int c0), .val (.int c1), .val (.int r0), .val (.int r1), .val (.ref a1), .val (.ref a4), .val (.ref a6), .val (.int (0 : Int32)), .val (.int (1 : Int32))]) rfl k_) ?_
          show Go _ _ _ _ (Tj.setTop (mkF m 202 #[.val (.int p1), .val (.int p2), .val (.int p3), .val (.int p4), .val (.int p5), .val (.int c0), .val (.int c1), .val (.int r0), .val (.int r1), .val (.ref a1), .val (.ref a4), .val (.ref a6), .val (.int (0 : Int32)), .val (.int (1 : Int32))] []))
          refine Go.via (fun t_ k_ => XS.aload Hj.here hx rfl (hb hby at_202) rfl rfl k_) ?_
          show Go _ _ _ _ (Tj.setTop (mkF m 204 #[.val (.int p1), .val (.int p2), .val (.int p3), .val (.int p4), .val (.int p5), .val (.int c0), .val (.int c1), .val (.int r0), .val (.int r1), .val (.ref a1), .val (.ref a4), .val (.ref a6), .val (.int (0 : Int32)), .val (.int (1 : Int32))] [(.ref a4)]))
          refine Go.via (fun t_ k_ => XS.iconst Hj.here hx rfl (hb hby at_204) k_) ?_
          show Go _ _ _ _ (Tj.setTop (mkF m 205 #[.val (.int p1), .val (.int p2), .val (.int p3), .val (.int p4), .val (.int p5), .val (.int c0), .val (.int c1), .val (.int r0), .val (.int r1), .val (.ref a1), .val (.ref a4), .val (.ref a6), .val (.int (0 : Int32)), .val (.int (1 : Int32))] [(.int (0 : Int32)), (.ref a4)]))
          refine own_callV Hj hx hZ (C := "com/example/perekaz/perekaz/Rejections") (y := (⟨"com/example/perekaz/perekaz/Rejections", "anyTransaction", "(I)Z"⟩ : MethodName)) (a := a4) hown (hw _ (List.mem_of_getElem? (i := 75) rfl)) (hw _ (List.mem_of_getElem? (i := 76) rfl)) (hw _ (List.mem_of_getElem? (i := 78) rfl)) (hw _ (List.mem_of_getElem? (i := 77) rfl)) (hw _ (List.mem_of_getElem? (i := 3) rfl)) (hw _ (List.mem_of_getElem? (i := 79) rfl)) (by decide) RAj.1 (rmAny l Z a0 hw a4 ta ba a6 tt ccF (mkP (mkP (mkP (mkP (mkP (mkP (fun _ _ => false) 0 0 (cnd c0 r0 (0 : Int32))) 0 1 (cnd c0 r0 (1 : Int32))) 0 2 (cnd c0 r0 (2 : Int32))) 1 0 (cnd c1 r1 (0 : Int32))) 1 1 (cnd c1 r1 (1 : Int32))) 1 2 (cnd c1 r1 (2 : Int32))) (0 : Int32) 0 hj n0 RAj (by decide) (by decide) lc0) (g := (mkF m 205 #[.val (.int p1), .val (.int p2), .val (.int p3), .val (.int p4), .val (.int p5), .val (.int c0), .val (.int c1), .val (.int r0), .val (.int r1), .val (.ref a1), .val (.ref a4), .val (.ref a6), .val (.int (0 : Int32)), .val (.int (1 : Int32))] [(.int (0 : Int32)), (.ref a4)])) rfl (by rw [hml]; rfl) (argsL := [(.int (0 : Int32))]) (rest := []) (lenOf pd_6 rfl) rfl 0 (Nat.le_of_eq rfl) (hb hby at_205) (by decide) (by decide) (by decide) (by decide) ?_
          rintro _ T21 _ ⟨rfl, rfl⟩ H21
          show Go _ _ _ _ (T21.setTop (mkF m 208 #[.val (.int p1), .val (.int p2), .val (.int p3), .val (.int p4), .val (.int p5), .val (.int c0), .val (.int c1), .val (.int r0), .val (.int r1), .val (.ref a1), .val (.ref a4), .val (.ref a6), .val (.int (0 : Int32)), .val (.int (1 : Int32))] [(.int (if anyB ((mkP (mkP (mkP (mkP (mkP (mkP (fun _ _ => false) 0 0 (cnd c0 r0 (0 : Int32))) 0 1 (cnd c0 r0 (1 : Int32))) 0 2 (cnd c0 r0 (2 : Int32))) 1 0 (cnd c1 r1 (0 : Int32))) 1 1 (cnd c1 r1 (1 : Int32))) 1 2 (cnd c1 r1 (2 : Int32))) 0) (ccF 0) 0 = true then 1 else 0))]))
          refine Go.via (fun t_ k_ => XS.iload H21.here hx rfl (hb hby at_208) rfl k_) ?_
          show Go _ _ _ _ (T21.setTop (mkF m 210 #[.val (.int p1), .val (.int p2), .val (.int p3), .val (.int p4), .val (.int p5), .val (.int c0), .val (.int c1), .val (.int r0), .val (.int r1), .val (.ref a1), .val (.ref a4), .val (.ref a6), .val (.int (0 : Int32)), .val (.int (1 : Int32))] [(.int (0 : Int32)), (.int (if anyB ((mkP (mkP (mkP (mkP (mkP (mkP (fun _ _ => false) 0 0 (cnd c0 r0 (0 : Int32))) 0 1 (cnd c0 r0 (1 : Int32))) 0 2 (cnd c0 r0 (2 : Int32))) 1 0 (cnd c1 r1 (0 : Int32))) 1 1 (cnd c1 r1 (1 : Int32))) 1 2 (cnd c1 r1 (2 : Int32))) 0) (ccF 0) 0 = true then 1 else 0))]))
          refine Go.via (fun t_ k_ => XS.icmpNo H21.here hx rfl (hb hby at_210) rfl ((teq (show (if anyB ((mkP (mkP (mkP (mkP (mkP (mkP (fun _ _ => false) 0 0 (cnd c0 r0 (0 : Int32))) 0 1 (cnd c0 r0 (1 : Int32))) 0 2 (cnd c0 r0 (2 : Int32))) 1 0 (cnd c1 r1 (0 : Int32))) 1 1 (cnd c1 r1 (1 : Int32))) 1 2 (cnd c1 r1 (2 : Int32))) 0) (ccF 0) 0 = true then 1 else 0) = (0 : Int32) from ((own_fin qc0 m0 qr0 mr0 ((mkP (mkP (mkP (mkP (mkP (mkP (fun _ _ => false) 0 0 (cnd c0 r0 (0 : Int32))) 0 1 (cnd c0 r0 (1 : Int32))) 0 2 (cnd c0 r0 (2 : Int32))) 1 0 (cnd c1 r1 (0 : Int32))) 1 1 (cnd c1 r1 (1 : Int32))) 1 2 (cnd c1 r1 (2 : Int32))) 0) (fun i => by simp [mkP])).trans (if_pos hc173)))).2) k_) ?_
          show Go _ _ _ _ (T21.setTop (mkF m 213 #[.val (.int p1), .val (.int p2), .val (.int p3), .val (.int p4), .val (.int p5), .val (.int c0), .val (.int c1), .val (.int r0), .val (.int r1), .val (.ref a1), .val (.ref a4), .val (.ref a6), .val (.int (0 : Int32)), .val (.int (1 : Int32))] []))
          refine Go.via (fun t_ k_ => XS.aload H21.here hx rfl (hb hby at_213) rfl rfl k_) ?_
          show Go _ _ _ _ (T21.setTop (mkF m 215 #[.val (.int p1), .val (.int p2), .val (.int p3), .val (.int p4), .val (.int p5), .val (.int c0), .val (.int c1), .val (.int r0), .val (.int r1), .val (.ref a1), .val (.ref a4), .val (.ref a6), .val (.int (0 : Int32)), .val (.int (1 : Int32))] [(.ref a4)]))
          refine Go.via (fun t_ k_ => XS.iconst H21.here hx rfl (hb hby at_215) k_) ?_
          show Go _ _ _ _ (T21.setTop (mkF m 216 #[.val (.int p1), .val (.int p2), .val (.int p3), .val (.int p4), .val (.int p5), .val (.int c0), .val (.int c1), .val (.int r0), .val (.int r1), .val (.ref a1), .val (.ref a4), .val (.ref a6), .val (.int (0 : Int32)), .val (.int (1 : Int32))] [(.int (1 : Int32)), (.ref a4)]))
          refine own_callV H21 hx hZ (C := "com/example/perekaz/perekaz/Rejections") (y := (⟨"com/example/perekaz/perekaz/Rejections", "anyTransaction", "(I)Z"⟩ : MethodName)) (a := a4) hown (hw _ (List.mem_of_getElem? (i := 75) rfl)) (hw _ (List.mem_of_getElem? (i := 76) rfl)) (hw _ (List.mem_of_getElem? (i := 78) rfl)) (hw _ (List.mem_of_getElem? (i := 77) rfl)) (hw _ (List.mem_of_getElem? (i := 3) rfl)) (hw _ (List.mem_of_getElem? (i := 79) rfl)) (by decide) RAj.1 (rmAny l Z a0 hw a4 ta ba a6 tt ccF (mkP (mkP (mkP (mkP (mkP (mkP (fun _ _ => false) 0 0 (cnd c0 r0 (0 : Int32))) 0 1 (cnd c0 r0 (1 : Int32))) 0 2 (cnd c0 r0 (2 : Int32))) 1 0 (cnd c1 r1 (0 : Int32))) 1 1 (cnd c1 r1 (1 : Int32))) 1 2 (cnd c1 r1 (2 : Int32))) (1 : Int32) 1 hj n0 RAj (by decide) (by decide) lc1) (g := (mkF m 216 #[.val (.int p1), .val (.int p2), .val (.int p3), .val (.int p4), .val (.int p5), .val (.int c0), .val (.int c1), .val (.int r0), .val (.int r1), .val (.ref a1), .val (.ref a4), .val (.ref a6), .val (.int (0 : Int32)), .val (.int (1 : Int32))] [(.int (1 : Int32)), (.ref a4)])) rfl (by rw [hml]; rfl) (argsL := [(.int (1 : Int32))]) (rest := []) (lenOf pd_6 rfl) rfl 0 (Nat.le_of_eq rfl) (hb hby at_216) (by decide) (by decide) (by decide) (by decide) ?_
          rintro _ T22 _ ⟨rfl, rfl⟩ H22
          show Go _ _ _ _ (T22.setTop (mkF m 219 #[.val (.int p1), .val (.int p2), .val (.int p3), .val (.int p4), .val (.int p5), .val (.int c0), .val (.int c1), .val (.int r0), .val (.int r1), .val (.ref a1), .val (.ref a4), .val (.ref a6), .val (.int (0 : Int32)), .val (.int (1 : Int32))] [(.int (if anyB ((mkP (mkP (mkP (mkP (mkP (mkP (fun _ _ => false) 0 0 (cnd c0 r0 (0 : Int32))) 0 1 (cnd c0 r0 (1 : Int32))) 0 2 (cnd c0 r0 (2 : Int32))) 1 0 (cnd c1 r1 (0 : Int32))) 1 1 (cnd c1 r1 (1 : Int32))) 1 2 (cnd c1 r1 (2 : Int32))) 1) (ccF 1) 0 = true then 1 else 0))]))
          refine Go.via (fun t_ k_ => XS.iload H22.here hx rfl (hb hby at_219) rfl k_) ?_
          show Go _ _ _ _ (T22.setTop (mkF m 221 #[.val (.int p1), .val (.int p2), .val (.int p3), .val (.int p4), .val (.int p5), .val (.int c0), .val (.int c1), .val (.int r0), .val (.int r1), .val (.ref a1), .val (.ref a4), .val (.ref a6), .val (.int (0 : Int32)), .val (.int (1 : Int32))] [(.int (1 : Int32)), (.int (if anyB ((mkP (mkP (mkP (mkP (mkP (mkP (fun _ _ => false) 0 0 (cnd c0 r0 (0 : Int32))) 0 1 (cnd c0 r0 (1 : Int32))) 0 2 (cnd c0 r0 (2 : Int32))) 1 0 (cnd c1 r1 (0 : Int32))) 1 1 (cnd c1 r1 (1 : Int32))) 1 2 (cnd c1 r1 (2 : Int32))) 1) (ccF 1) 0 = true then 1 else 0))]))
          refine Go.via (fun t_ k_ => XS.icmpNo H22.here hx rfl (hb hby at_221) rfl ((teq (show (if anyB ((mkP (mkP (mkP (mkP (mkP (mkP (fun _ _ => false) 0 0 (cnd c0 r0 (0 : Int32))) 0 1 (cnd c0 r0 (1 : Int32))) 0 2 (cnd c0 r0 (2 : Int32))) 1 0 (cnd c1 r1 (0 : Int32))) 1 1 (cnd c1 r1 (1 : Int32))) 1 2 (cnd c1 r1 (2 : Int32))) 1) (ccF 1) 0 = true then 1 else 0) = (1 : Int32) from ((own_fin qc1 m1 qr1 mr1 ((mkP (mkP (mkP (mkP (mkP (mkP (fun _ _ => false) 0 0 (cnd c0 r0 (0 : Int32))) 0 1 (cnd c0 r0 (1 : Int32))) 0 2 (cnd c0 r0 (2 : Int32))) 1 0 (cnd c1 r1 (0 : Int32))) 1 1 (cnd c1 r1 (1 : Int32))) 1 2 (cnd c1 r1 (2 : Int32))) 1) (fun i => by simp [mkP])).trans (if_neg hc192)))).2) k_) ?_
          show Go _ _ _ _ (T22.setTop (mkF m 224 #[.val (.int p1), .val (.int p2), .val (.int p3), .val (.int p4), .val (.int p5), .val (.int c0), .val (.int c1), .val (.int r0), .val (.int r1), .val (.ref a1), .val (.ref a4), .val (.ref a6), .val (.int (0 : Int32)), .val (.int (1 : Int32))] []))
          refine Go.via (fun t_ k_ => XS.iconst H22.here hx rfl (hb hby at_224) k_) ?_
          show Go _ _ _ _ (T22.setTop (mkF m 225 #[.val (.int p1), .val (.int p2), .val (.int p3), .val (.int p4), .val (.int p5), .val (.int c0), .val (.int c1), .val (.int r0), .val (.int r1), .val (.ref a1), .val (.ref a4), .val (.ref a6), .val (.int (0 : Int32)), .val (.int (1 : Int32))] [(.int (1 : Int32))]))
          refine Go.via (fun t_ k_ => XS.goto H22.here hx rfl (pc0 := 225) (pc' := 229) rfl (hb hby at_225) (by decide) (by decide) k_) ?_
          show Go _ _ _ _ (T22.setTop (mkF m 229 #[.val (.int p1), .val (.int p2), .val (.int p3), .val (.int p4), .val (.int p5), .val (.int c0), .val (.int c1), .val (.int r0), .val (.int r1), .val (.ref a1), .val (.ref a4), .val (.ref a6), .val (.int (0 : Int32)), .val (.int (1 : Int32))] [(.int (1 : Int32))]))
          exact own_retNC H22 LBj hx hlk (by simp) hret (hb hby at_229) rfl (by decide) (by decide)
      · refine Go.via (fun t_ k_ => XS.ifNo Hj.here hx rfl (hb hby at_173) rfl ((if0 _ _).trans (feq hc173).1) k_) ?_
        show Go _ _ _ _ (Tj.setTop (mkF m 176 #[.val (.int p1), .val (.int p2), .val (.int p3), .val (.int p4), .val (.int p5), .val (.int c0), .val (.int c1), .val (.int r0), .val (.int r1), .val (.ref a1), .val (.ref a4), .val (.ref a6), .unset, .unset] []))
        refine Go.via (fun t_ k_ => XS.iconst Hj.here hx rfl (hb hby at_176) k_) ?_
        show Go _ _ _ _ (Tj.setTop (mkF m 177 #[.val (.int p1), .val (.int p2), .val (.int p3), .val (.int p4), .val (.int p5), .val (.int c0), .val (.int c1), .val (.int r0), .val (.int r1), .val (.ref a1), .val (.ref a4), .val (.ref a6), .unset, .unset] [(.int (1 : Int32))]))
        refine Go.via (fun t_ k_ => XS.goto Hj.here hx rfl (pc0 := 177) (pc' := 181) rfl (hb hby at_177) (by decide) (by decide) k_) ?_
        show Go _ _ _ _ (Tj.setTop (mkF m 181 #[.val (.int p1), .val (.int p2), .val (.int p3), .val (.int p4), .val (.int p5), .val (.int c0), .val (.int c1), .val (.int r0), .val (.int r1), .val (.ref a1), .val (.ref a4), .val (.ref a6), .unset, .unset] [(.int (1 : Int32))]))
        refine Go.via (fun t_ k_ => XS.istore Hj.here hx rfl (hb hby at_181) rfl (l' := #[.val (.int p1), .val (.int p2), .val (.int p3), .val (.int p4), .val (.int p5), .val (.int c0), .val (.int c1), .val (.int r0), .val (.int r1), .val (.ref a1), .val (.ref a4), .val (.ref a6), .val (.int (1 : Int32)), .unset]) rfl k_) ?_
        show Go _ _ _ _ (Tj.setTop (mkF m 183 #[.val (.int p1), .val (.int p2), .val (.int p3), .val (.int p4), .val (.int p5), .val (.int c0), .val (.int c1), .val (.int r0), .val (.int r1), .val (.ref a1), .val (.ref a4), .val (.ref a6), .val (.int (1 : Int32)), .unset] []))
        refine Go.via (fun t_ k_ => XS.iload Hj.here hx rfl (hb hby at_183) rfl k_) ?_
        show Go _ _ _ _ (Tj.setTop (mkF m 185 #[.val (.int p1), .val (.int p2), .val (.int p3), .val (.int p4), .val (.int p5), .val (.int c0), .val (.int c1), .val (.int r0), .val (.int r1), .val (.ref a1), .val (.ref a4), .val (.ref a6), .val (.int (1 : Int32)), .unset] [(.int r1)]))
        refine Go.via (fun t_ k_ => XS.iconst Hj.here hx rfl (hb hby at_185) k_) ?_
        show Go _ _ _ _ (Tj.setTop (mkF m 186 #[.val (.int p1), .val (.int p2), .val (.int p3), .val (.int p4), .val (.int p5), .val (.int c0), .val (.int c1), .val (.int r0), .val (.int r1), .val (.ref a1), .val (.ref a4), .val (.ref a6), .val (.int (1 : Int32)), .unset] [(.int (1 : Int32)), (.int r1)]))
        refine Go.via (fun t_ k_ => XS.iload Hj.here hx rfl (hb hby at_186) rfl k_) ?_
        show Go _ _ _ _ (Tj.setTop (mkF m 188 #[.val (.int p1), .val (.int p2), .val (.int p3), .val (.int p4), .val (.int p5), .val (.int c0), .val (.int c1), .val (.int r0), .val (.int r1), .val (.ref a1), .val (.ref a4), .val (.ref a6), .val (.int (1 : Int32)), .unset] [(.int c1), (.int (1 : Int32)), (.int r1)]))
        refine Go.via (fun t_ k_ => XS.ishl Hj.here hx rfl (hb hby at_188) rfl k_) ?_
        show Go _ _ _ _ (Tj.setTop (mkF m 189 #[.val (.int p1), .val (.int p2), .val (.int p3), .val (.int p4), .val (.int p5), .val (.int c0), .val (.int c1), .val (.int r0), .val (.int r1), .val (.ref a1), .val (.ref a4), .val (.ref a6), .val (.int (1 : Int32)), .unset] [(.int ((1 : Int32) <<< (c1 &&& 31))), (.int r1)]))
        refine Go.via (fun t_ k_ => XS.iconst Hj.here hx rfl (hb hby at_189) k_) ?_
        show Go _ _ _ _ (Tj.setTop (mkF m 190 #[.val (.int p1), .val (.int p2), .val (.int p3), .val (.int p4), .val (.int p5), .val (.int c0), .val (.int c1), .val (.int r0), .val (.int r1), .val (.ref a1), .val (.ref a4), .val (.ref a6), .val (.int (1 : Int32)), .unset] [(.int (1 : Int32)), (.int ((1 : Int32) <<< (c1 &&& 31))), (.int r1)]))
        refine Go.via (fun t_ k_ => XS.isub Hj.here hx rfl (hb hby at_190) rfl k_) ?_
        show Go _ _ _ _ (Tj.setTop (mkF m 191 #[.val (.int p1), .val (.int p2), .val (.int p3), .val (.int p4), .val (.int p5), .val (.int c0), .val (.int c1), .val (.int r0), .val (.int r1), .val (.ref a1), .val (.ref a4), .val (.ref a6), .val (.int (1 : Int32)), .unset] [(.int (((1 : Int32) <<< (c1 &&& 31)) - (1 : Int32))), (.int r1)]))
        refine Go.via (fun t_ k_ => XS.iand Hj.here hx rfl (hb hby at_191) rfl k_) ?_
        show Go _ _ _ _ (Tj.setTop (mkF m 192 #[.val (.int p1), .val (.int p2), .val (.int p3), .val (.int p4), .val (.int p5), .val (.int c0), .val (.int c1), .val (.int r0), .val (.int r1), .val (.ref a1), .val (.ref a4), .val (.ref a6), .val (.int (1 : Int32)), .unset] [(.int (r1 &&& (((1 : Int32) <<< (c1 &&& 31)) - (1 : Int32))))]))
        by_cases hc192 : (r1 &&& (((1 : Int32) <<< (c1 &&& 31)) - (1 : Int32))) = (0 : Int32)
        · refine Go.via (fun t_ k_ => XS.ifYes Hj.here hx rfl (pc0 := 192) (pc' := 199) rfl (hb hby at_192) rfl ((if0 _ _).trans (teq hc192).1) (by decide) (by decide) k_) ?_
          show Go _ _ _ _ (Tj.setTop (mkF m 199 #[.val (.int p1), .val (.int p2), .val (.int p3), .val (.int p4), .val (.int p5), .val (.int c0), .val (.int c1), .val (.int r0), .val (.int r1), .val (.ref a1), .val (.ref a4), .val (.ref a6), .val (.int (1 : Int32)), .unset] []))
          refine Go.via (fun t_ k_ => XS.iconst Hj.here hx rfl (hb hby at_199) k_) ?_
          show Go _ _ _ _ (Tj.setTop (mkF m 200 #[.val (.int p1), .val (.int p2), .val (.int p3), .val (.int p4), .val (.int p5), .val (.int c0), .val (.int c1), .val (.int r0), .val (.int r1), .val (.ref a1), .val (.ref a4), .val (.ref a6), .val (.int (1 : Int32)), .unset] [(.int (0 : Int32))]))
          refine Go.via (fun t_ k_ => XS.istore Hj.here hx rfl (hb hby at_200) rfl (l' := #[.val (.int p1), .val (.int p2), .val (.int p3), .val (.int p4), .val (.int p5), .val (.int c0), .val (.int c1), .val (.int r0), .val (.int r1), .val (.ref a1), .val (.ref a4), .val (.ref a6), .val (.int (1 : Int32)), .val (.int (0 : Int32))]) rfl k_) ?_
          show Go _ _ _ _ (Tj.setTop (mkF m 202 #[.val (.int p1), .val (.int p2), .val (.int p3), .val (.int p4), .val (.int p5), .val (.int c0), .val (.int c1), .val (.int r0), .val (.int r1), .val (.ref a1), .val (.ref a4), .val (.ref a6), .val (.int (1 : Int32)), .val (.int (0 : Int32))] []))
          refine Go.via (fun t_ k_ => XS.aload Hj.here hx rfl (hb hby at_202) rfl rfl k_) ?_
          show Go _ _ _ _ (Tj.setTop (mkF m 204 #[.val (.int p1), .val (.int p2), .val (.int p3), .val (.int p4), .val (.int p5), .val (.int c0), .val (.int c1), .val (.int r0), .val (.int r1), .val (.ref a1), .val (.ref a4), .val (.ref a6), .val (.int (1 : Int32)), .val (.int (0 : Int32))] [(.ref a4)]))
          refine Go.via (fun t_ k_ => XS.iconst Hj.here hx rfl (hb hby at_204) k_) ?_
          show Go _ _ _ _ (Tj.setTop (mkF m 205 #[.val (.int p1), .val (.int p2), .val (.int p3), .val (.int p4), .val (.int p5), .val (.int c0), .val (.int c1), .val (.int r0), .val (.int r1), .val (.ref a1), .val (.ref a4), .val (.ref a6), .val (.int (1 : Int32)), .val (.int (0 : Int32))] [(.int (0 : Int32)), (.ref a4)]))
          refine own_callV Hj hx hZ (C := "com/example/perekaz/perekaz/Rejections") (y := (⟨"com/example/perekaz/perekaz/Rejections", "anyTransaction", "(I)Z"⟩ : MethodName)) (a := a4) hown (hw _ (List.mem_of_getElem? (i := 75) rfl)) (hw _ (List.mem_of_getElem? (i := 76) rfl)) (hw _ (List.mem_of_getElem? (i := 78) rfl)) (hw _ (List.mem_of_getElem? (i := 77) rfl)) (hw _ (List.mem_of_getElem? (i := 3) rfl)) (hw _ (List.mem_of_getElem? (i := 79) rfl)) (by decide) RAj.1 (rmAny l Z a0 hw a4 ta ba a6 tt ccF (mkP (mkP (mkP (mkP (mkP (mkP (fun _ _ => false) 0 0 (cnd c0 r0 (0 : Int32))) 0 1 (cnd c0 r0 (1 : Int32))) 0 2 (cnd c0 r0 (2 : Int32))) 1 0 (cnd c1 r1 (0 : Int32))) 1 1 (cnd c1 r1 (1 : Int32))) 1 2 (cnd c1 r1 (2 : Int32))) (0 : Int32) 0 hj n0 RAj (by decide) (by decide) lc0) (g := (mkF m 205 #[.val (.int p1), .val (.int p2), .val (.int p3), .val (.int p4), .val (.int p5), .val (.int c0), .val (.int c1), .val (.int r0), .val (.int r1), .val (.ref a1), .val (.ref a4), .val (.ref a6), .val (.int (1 : Int32)), .val (.int (0 : Int32))] [(.int (0 : Int32)), (.ref a4)])) rfl (by rw [hml]; rfl) (argsL := [(.int (0 : Int32))]) (rest := []) (lenOf pd_6 rfl) rfl 0 (Nat.le_of_eq rfl) (hb hby at_205) (by decide) (by decide) (by decide) (by decide) ?_
          rintro _ T23 _ ⟨rfl, rfl⟩ H23
          show Go _ _ _ _ (T23.setTop (mkF m 208 #[.val (.int p1), .val (.int p2), .val (.int p3), .val (.int p4), .val (.int p5), .val (.int c0), .val (.int c1), .val (.int r0), .val (.int r1), .val (.ref a1), .val (.ref a4), .val (.ref a6), .val (.int (1 : Int32)), .val (.int (0 : Int32))] [(.int (if anyB ((mkP (mkP (mkP (mkP (mkP (mkP (fun _ _ => false) 0 0 (cnd c0 r0 (0 : Int32))) 0 1 (cnd c0 r0 (1 : Int32))) 0 2 (cnd c0 r0 (2 : Int32))) 1 0 (cnd c1 r1 (0 : Int32))) 1 1 (cnd c1 r1 (1 : Int32))) 1 2 (cnd c1 r1 (2 : Int32))) 0) (ccF 0) 0 = true then 1 else 0))]))
          refine Go.via (fun t_ k_ => XS.iload H23.here hx rfl (hb hby at_208) rfl k_) ?_
          show Go _ _ _ _ (T23.setTop (mkF m 210 #[.val (.int p1), .val (.int p2), .val (.int p3), .val (.int p4), .val (.int p5), .val (.int c0), .val (.int c1), .val (.int r0), .val (.int r1), .val (.ref a1), .val (.ref a4), .val (.ref a6), .val (.int (1 : Int32)), .val (.int (0 : Int32))] [(.int (1 : Int32)), (.int (if anyB ((mkP (mkP (mkP (mkP (mkP (mkP (fun _ _ => false) 0 0 (cnd c0 r0 (0 : Int32))) 0 1 (cnd c0 r0 (1 : Int32))) 0 2 (cnd c0 r0 (2 : Int32))) 1 0 (cnd c1 r1 (0 : Int32))) 1 1 (cnd c1 r1 (1 : Int32))) 1 2 (cnd c1 r1 (2 : Int32))) 0) (ccF 0) 0 = true then 1 else 0))]))
          refine Go.via (fun t_ k_ => XS.icmpNo H23.here hx rfl (hb hby at_210) rfl ((teq (show (if anyB ((mkP (mkP (mkP (mkP (mkP (mkP (fun _ _ => false) 0 0 (cnd c0 r0 (0 : Int32))) 0 1 (cnd c0 r0 (1 : Int32))) 0 2 (cnd c0 r0 (2 : Int32))) 1 0 (cnd c1 r1 (0 : Int32))) 1 1 (cnd c1 r1 (1 : Int32))) 1 2 (cnd c1 r1 (2 : Int32))) 0) (ccF 0) 0 = true then 1 else 0) = (1 : Int32) from ((own_fin qc0 m0 qr0 mr0 ((mkP (mkP (mkP (mkP (mkP (mkP (fun _ _ => false) 0 0 (cnd c0 r0 (0 : Int32))) 0 1 (cnd c0 r0 (1 : Int32))) 0 2 (cnd c0 r0 (2 : Int32))) 1 0 (cnd c1 r1 (0 : Int32))) 1 1 (cnd c1 r1 (1 : Int32))) 1 2 (cnd c1 r1 (2 : Int32))) 0) (fun i => by simp [mkP])).trans (if_neg hc173)))).2) k_) ?_
          show Go _ _ _ _ (T23.setTop (mkF m 213 #[.val (.int p1), .val (.int p2), .val (.int p3), .val (.int p4), .val (.int p5), .val (.int c0), .val (.int c1), .val (.int r0), .val (.int r1), .val (.ref a1), .val (.ref a4), .val (.ref a6), .val (.int (1 : Int32)), .val (.int (0 : Int32))] []))
          refine Go.via (fun t_ k_ => XS.aload H23.here hx rfl (hb hby at_213) rfl rfl k_) ?_
          show Go _ _ _ _ (T23.setTop (mkF m 215 #[.val (.int p1), .val (.int p2), .val (.int p3), .val (.int p4), .val (.int p5), .val (.int c0), .val (.int c1), .val (.int r0), .val (.int r1), .val (.ref a1), .val (.ref a4), .val (.ref a6), .val (.int (1 : Int32)), .val (.int (0 : Int32))] [(.ref a4)]))
          refine Go.via (fun t_ k_ => XS.iconst H23.here hx rfl (hb hby at_215) k_) ?_
          show Go _ _ _ _ (T23.setTop (mkF m 216 #[.val (.int p1), .val (.int p2), .val (.int p3), .val (.int p4), .val (.int p5), .val (.int c0), .val (.int c1), .val (.int r0), .val (.int r1), .val (.ref a1), .val (.ref a4), .val (.ref a6), .val (.int (1 : Int32)), .val (.int (0 : Int32))] [(.int (1 : Int32)), (.ref a4)]))
          refine own_callV H23 hx hZ (C := "com/example/perekaz/perekaz/Rejections") (y := (⟨"com/example/perekaz/perekaz/Rejections", "anyTransaction", "(I)Z"⟩ : MethodName)) (a := a4) hown (hw _ (List.mem_of_getElem? (i := 75) rfl)) (hw _ (List.mem_of_getElem? (i := 76) rfl)) (hw _ (List.mem_of_getElem? (i := 78) rfl)) (hw _ (List.mem_of_getElem? (i := 77) rfl)) (hw _ (List.mem_of_getElem? (i := 3) rfl)) (hw _ (List.mem_of_getElem? (i := 79) rfl)) (by decide) RAj.1 (rmAny l Z a0 hw a4 ta ba a6 tt ccF (mkP (mkP (mkP (mkP (mkP (mkP (fun _ _ => false) 0 0 (cnd c0 r0 (0 : Int32))) 0 1 (cnd c0 r0 (1 : Int32))) 0 2 (cnd c0 r0 (2 : Int32))) 1 0 (cnd c1 r1 (0 : Int32))) 1 1 (cnd c1 r1 (1 : Int32))) 1 2 (cnd c1 r1 (2 : Int32))) (1 : Int32) 1 hj n0 RAj (by decide) (by decide) lc1) (g := (mkF m 216 #[.val (.int p1), .val (.int p2), .val (.int p3), .val (.int p4), .val (.int p5), .val (.int c0), .val (.int c1), .val (.int r0), .val (.int r1), .val (.ref a1), .val (.ref a4), .val (.ref a6), .val (.int (1 : Int32)), .val (.int (0 : Int32))] [(.int (1 : Int32)), (.ref a4)])) rfl (by rw [hml]; rfl) (argsL := [(.int (1 : Int32))]) (rest := []) (lenOf pd_6 rfl) rfl 0 (Nat.le_of_eq rfl) (hb hby at_216) (by decide) (by decide) (by decide) (by decide) ?_
          rintro _ T24 _ ⟨rfl, rfl⟩ H24
          show Go _ _ _ _ (T24.setTop (mkF m 219 #[.val (.int p1), .val (.int p2), .val (.int p3), .val (.int p4), .val (.int p5), .val (.int c0), .val (.int c1), .val (.int r0), .val (.int r1), .val (.ref a1), .val (.ref a4), .val (.ref a6), .val (.int (1 : Int32)), .val (.int (0 : Int32))] [(.int (if anyB ((mkP (mkP (mkP (mkP (mkP (mkP (fun _ _ => false) 0 0 (cnd c0 r0 (0 : Int32))) 0 1 (cnd c0 r0 (1 : Int32))) 0 2 (cnd c0 r0 (2 : Int32))) 1 0 (cnd c1 r1 (0 : Int32))) 1 1 (cnd c1 r1 (1 : Int32))) 1 2 (cnd c1 r1 (2 : Int32))) 1) (ccF 1) 0 = true then 1 else 0))]))
          refine Go.via (fun t_ k_ => XS.iload H24.here hx rfl (hb hby at_219) rfl k_) ?_
          show Go _ _ _ _ (T24.setTop (mkF m 221 #[.val (.int p1), .val (.int p2), .val (.int p3), .val (.int p4), .val (.int p5), .val (.int c0), .val (.int c1), .val (.int r0), .val (.int r1), .val (.ref a1), .val (.ref a4), .val (.ref a6), .val (.int (1 : Int32)), .val (.int (0 : Int32))] [(.int (0 : Int32)), (.int (if anyB ((mkP (mkP (mkP (mkP (mkP (mkP (fun _ _ => false) 0 0 (cnd c0 r0 (0 : Int32))) 0 1 (cnd c0 r0 (1 : Int32))) 0 2 (cnd c0 r0 (2 : Int32))) 1 0 (cnd c1 r1 (0 : Int32))) 1 1 (cnd c1 r1 (1 : Int32))) 1 2 (cnd c1 r1 (2 : Int32))) 1) (ccF 1) 0 = true then 1 else 0))]))
          refine Go.via (fun t_ k_ => XS.icmpNo H24.here hx rfl (hb hby at_221) rfl ((teq (show (if anyB ((mkP (mkP (mkP (mkP (mkP (mkP (fun _ _ => false) 0 0 (cnd c0 r0 (0 : Int32))) 0 1 (cnd c0 r0 (1 : Int32))) 0 2 (cnd c0 r0 (2 : Int32))) 1 0 (cnd c1 r1 (0 : Int32))) 1 1 (cnd c1 r1 (1 : Int32))) 1 2 (cnd c1 r1 (2 : Int32))) 1) (ccF 1) 0 = true then 1 else 0) = (0 : Int32) from ((own_fin qc1 m1 qr1 mr1 ((mkP (mkP (mkP (mkP (mkP (mkP (fun _ _ => false) 0 0 (cnd c0 r0 (0 : Int32))) 0 1 (cnd c0 r0 (1 : Int32))) 0 2 (cnd c0 r0 (2 : Int32))) 1 0 (cnd c1 r1 (0 : Int32))) 1 1 (cnd c1 r1 (1 : Int32))) 1 2 (cnd c1 r1 (2 : Int32))) 1) (fun i => by simp [mkP])).trans (if_pos hc192)))).2) k_) ?_
          show Go _ _ _ _ (T24.setTop (mkF m 224 #[.val (.int p1), .val (.int p2), .val (.int p3), .val (.int p4), .val (.int p5), .val (.int c0), .val (.int c1), .val (.int r0), .val (.int r1), .val (.ref a1), .val (.ref a4), .val (.ref a6), .val (.int (1 : Int32)), .val (.int (0 : Int32))] []))
          refine Go.via (fun t_ k_ => XS.iconst H24.here hx rfl (hb hby at_224) k_) ?_
          show Go _ _ _ _ (T24.setTop (mkF m 225 #[.val (.int p1), .val (.int p2), .val (.int p3), .val (.int p4), .val (.int p5), .val (.int c0), .val (.int c1), .val (.int r0), .val (.int r1), .val (.ref a1), .val (.ref a4), .val (.ref a6), .val (.int (1 : Int32)), .val (.int (0 : Int32))] [(.int (1 : Int32))]))
          refine Go.via (fun t_ k_ => XS.goto H24.here hx rfl (pc0 := 225) (pc' := 229) rfl (hb hby at_225) (by decide) (by decide) k_) ?_
          show Go _ _ _ _ (T24.setTop (mkF m 229 #[.val (.int p1), .val (.int p2), .val (.int p3), .val (.int p4), .val (.int p5), .val (.int c0), .val (.int c1), .val (.int r0), .val (.int r1), .val (.ref a1), .val (.ref a4), .val (.ref a6), .val (.int (1 : Int32)), .val (.int (0 : Int32))] [(.int (1 : Int32))]))
          exact own_retNC H24 LBj hx hlk (by simp) hret (hb hby at_229) rfl (by decide) (by decide)
        · refine Go.via (fun t_ k_ => XS.ifNo Hj.here hx rfl (hb hby at_192) rfl ((if0 _ _).trans (feq hc192).1) k_) ?_
          show Go _ _ _ _ (Tj.setTop (mkF m 195 #[.val (.int p1), .val (.int p2), .val (.int p3), .val (.int p4), .val (.int p5), .val (.int c0), .val (.int c1), .val (.int r0), .val (.int r1), .val (.ref a1), .val (.ref a4), .val (.ref a6), .val (.int (1 : Int32)), .unset] []))
          refine Go.via (fun t_ k_ => XS.iconst Hj.here hx rfl (hb hby at_195) k_) ?_
          show Go _ _ _ _ (Tj.setTop (mkF m 196 #[.val (.int p1), .val (.int p2), .val (.int p3), .val (.int p4), .val (.int p5), .val (.int c0), .val (.int c1), .val (.int r0), .val (.int r1), .val (.ref a1), .val (.ref a4), .val (.ref a6), .val (.int (1 : Int32)), .unset] [(.int (1 : Int32))]))
          refine Go.via (fun t_ k_ => XS.goto Hj.here hx rfl (pc0 := 196) (pc' := 200) rfl (hb hby at_196) (by decide) (by decide) k_) ?_
          show Go _ _ _ _ (Tj.setTop (mkF m 200 #[.val (.int p1), .val (.int p2), .val (.int p3), .val (.int p4), .val (.int p5), .val (.int c0), .val (.int c1), .val (.int r0), .val (.int r1), .val (.ref a1), .val (.ref a4), .val (.ref a6), .val (.int (1 : Int32)), .unset] [(.int (1 : Int32))]))
          refine Go.via (fun t_ k_ => XS.istore Hj.here hx rfl (hb hby at_200) rfl (l' := #[.val (.int p1), .val (.int p2), .val (.int p3), .val (.int p4), .val (.int p5), .val (.int c0), .val (.int c1), .val (.int r0), .val (.int r1), .val (.ref a1), .val (.ref a4), .val (.ref a6), .val (.int (1 : Int32)), .val (.int (1 : Int32))]) rfl k_) ?_
          show Go _ _ _ _ (Tj.setTop (mkF m 202 #[.val (.int p1), .val (.int p2), .val (.int p3), .val (.int p4), .val (.int p5), .val (.int c0), .val (.int c1), .val (.int r0), .val (.int r1), .val (.ref a1), .val (.ref a4), .val (.ref a6), .val (.int (1 : Int32)), .val (.int (1 : Int32))] []))
          refine Go.via (fun t_ k_ => XS.aload Hj.here hx rfl (hb hby at_202) rfl rfl k_) ?_
          show Go _ _ _ _ (Tj.setTop (mkF m 204 #[.val (.int p1), .val (.int p2), .val (.int p3), .val (.int p4), .val (.int p5), .val (.int c0), .val (.int c1), .val (.int r0), .val (.int r1), .val (.ref a1), .val (.ref a4), .val (.ref a6), .val (.int (1 : Int32)), .val (.int (1 : Int32))] [(.ref a4)]))
          refine Go.via (fun t_ k_ => XS.iconst Hj.here hx rfl (hb hby at_204) k_) ?_
          show Go _ _ _ _ (Tj.setTop (mkF m 205 #[.val (.int p1), .val (.int p2), .val (.int p3), .val (.int p4), .val (.int p5), .val (.int c0), .val (.int c1), .val (.int r0), .val (.int r1), .val (.ref a1), .val (.ref a4), .val (.ref a6), .val (.int (1 : Int32)), .val (.int (1 : Int32))] [(.int (0 : Int32)), (.ref a4)]))
          refine own_callV Hj hx hZ (C := "com/example/perekaz/perekaz/Rejections") (y := (⟨"com/example/perekaz/perekaz/Rejections", "anyTransaction", "(I)Z"⟩ : MethodName)) (a := a4) hown (hw _ (List.mem_of_getElem? (i := 75) rfl)) (hw _ (List.mem_of_getElem? (i := 76) rfl)) (hw _ (List.mem_of_getElem? (i := 78) rfl)) (hw _ (List.mem_of_getElem? (i := 77) rfl)) (hw _ (List.mem_of_getElem? (i := 3) rfl)) (hw _ (List.mem_of_getElem? (i := 79) rfl)) (by decide) RAj.1 (rmAny l Z a0 hw a4 ta ba a6 tt ccF (mkP (mkP (mkP (mkP (mkP (mkP (fun _ _ => false) 0 0 (cnd c0 r0 (0 : Int32))) 0 1 (cnd c0 r0 (1 : Int32))) 0 2 (cnd c0 r0 (2 : Int32))) 1 0 (cnd c1 r1 (0 : Int32))) 1 1 (cnd c1 r1 (1 : Int32))) 1 2 (cnd c1 r1 (2 : Int32))) (0 : Int32) 0 hj n0 RAj (by decide) (by decide) lc0) (g := (mkF m 205 #[.val (.int p1), .val (.int p2), .val (.int p3), .val (.int p4), .val (.int p5), .val (.int c0), .val (.int c1), .val (.int r0), .val (.int r1), .val (.ref a1), .val (.ref a4), .val (.ref a6), .val (.int (1 : Int32)), .val (.int (1 : Int32))] [(.int (0 : Int32)), (.ref a4)])) rfl (by rw [hml]; rfl) (argsL := [(.int (0 : Int32))]) (rest := []) (lenOf pd_6 rfl) rfl 0 (Nat.le_of_eq rfl) (hb hby at_205) (by decide) (by decide) (by decide) (by decide) ?_
          rintro _ T25 _ ⟨rfl, rfl⟩ H25
          show Go _ _ _ _ (T25.setTop (mkF m 208 #[.val (.int p1), .val (.int p2), .val (.int p3), .val (.int p4), .val (.int p5), .val (.int c0), .val (.int c1), .val (.int r0), .val (.int r1), .val (.ref a1), .val (.ref a4), .val (.ref a6), .val (.int (1 : Int32)), .val (.int (1 : Int32))] [(.int (if anyB ((mkP (mkP (mkP (mkP (mkP (mkP (fun _ _ => false) 0 0 (cnd c0 r0 (0 : Int32))) 0 1 (cnd c0 r0 (1 : Int32))) 0 2 (cnd c0 r0 (2 : Int32))) 1 0 (cnd c1 r1 (0 : Int32))) 1 1 (cnd c1 r1 (1 : Int32))) 1 2 (cnd c1 r1 (2 : Int32))) 0) (ccF 0) 0 = true then 1 else 0))]))
          refine Go.via (fun t_ k_ => XS.iload H25.here hx rfl (hb hby at_208) rfl k_) ?_
          show Go _ _ _ _ (T25.setTop (mkF m 210 #[.val (.int p1), .val (.int p2), .val (.int p3), .val (.int p4), .val (.int p5), .val (.int c0), .val (.int c1), .val (.int r0), .val (.int r1), .val (.ref a1), .val (.ref a4), .val (.ref a6), .val (.int (1 : Int32)), .val (.int (1 : Int32))] [(.int (1 : Int32)), (.int (if anyB ((mkP (mkP (mkP (mkP (mkP (mkP (fun _ _ => false) 0 0 (cnd c0 r0 (0 : Int32))) 0 1 (cnd c0 r0 (1 : Int32))) 0 2 (cnd c0 r0 (2 : Int32))) 1 0 (cnd c1 r1 (0 : Int32))) 1 1 (cnd c1 r1 (1 : Int32))) 1 2 (cnd c1 r1 (2 : Int32))) 0) (ccF 0) 0 = true then 1 else 0))]))
          refine Go.via (fun t_ k_ => XS.icmpNo H25.here hx rfl (hb hby at_210) rfl ((teq (show (if anyB ((mkP (mkP (mkP (mkP (mkP (mkP (fun _ _ => false) 0 0 (cnd c0 r0 (0 : Int32))) 0 1 (cnd c0 r0 (1 : Int32))) 0 2 (cnd c0 r0 (2 : Int32))) 1 0 (cnd c1 r1 (0 : Int32))) 1 1 (cnd c1 r1 (1 : Int32))) 1 2 (cnd c1 r1 (2 : Int32))) 0) (ccF 0) 0 = true then 1 else 0) = (1 : Int32) from ((own_fin qc0 m0 qr0 mr0 ((mkP (mkP (mkP (mkP (mkP (mkP (fun _ _ => false) 0 0 (cnd c0 r0 (0 : Int32))) 0 1 (cnd c0 r0 (1 : Int32))) 0 2 (cnd c0 r0 (2 : Int32))) 1 0 (cnd c1 r1 (0 : Int32))) 1 1 (cnd c1 r1 (1 : Int32))) 1 2 (cnd c1 r1 (2 : Int32))) 0) (fun i => by simp [mkP])).trans (if_neg hc173)))).2) k_) ?_
          show Go _ _ _ _ (T25.setTop (mkF m 213 #[.val (.int p1), .val (.int p2), .val (.int p3), .val (.int p4), .val (.int p5), .val (.int c0), .val (.int c1), .val (.int r0), .val (.int r1), .val (.ref a1), .val (.ref a4), .val (.ref a6), .val (.int (1 : Int32)), .val (.int (1 : Int32))] []))
          refine Go.via (fun t_ k_ => XS.aload H25.here hx rfl (hb hby at_213) rfl rfl k_) ?_
          show Go _ _ _ _ (T25.setTop (mkF m 215 #[.val (.int p1), .val (.int p2), .val (.int p3), .val (.int p4), .val (.int p5), .val (.int c0), .val (.int c1), .val (.int r0), .val (.int r1), .val (.ref a1), .val (.ref a4), .val (.ref a6), .val (.int (1 : Int32)), .val (.int (1 : Int32))] [(.ref a4)]))
          refine Go.via (fun t_ k_ => XS.iconst H25.here hx rfl (hb hby at_215) k_) ?_
          show Go _ _ _ _ (T25.setTop (mkF m 216 #[.val (.int p1), .val (.int p2), .val (.int p3), .val (.int p4), .val (.int p5), .val (.int c0), .val (.int c1), .val (.int r0), .val (.int r1), .val (.ref a1), .val (.ref a4), .val (.ref a6), .val (.int (1 : Int32)), .val (.int (1 : Int32))] [(.int (1 : Int32)), (.ref a4)]))
          refine own_callV H25 hx hZ (C := "com/example/perekaz/perekaz/Rejections") (y := (⟨"com/example/perekaz/perekaz/Rejections", "anyTransaction", "(I)Z"⟩ : MethodName)) (a := a4) hown (hw _ (List.mem_of_getElem? (i := 75) rfl)) (hw _ (List.mem_of_getElem? (i := 76) rfl)) (hw _ (List.mem_of_getElem? (i := 78) rfl)) (hw _ (List.mem_of_getElem? (i := 77) rfl)) (hw _ (List.mem_of_getElem? (i := 3) rfl)) (hw _ (List.mem_of_getElem? (i := 79) rfl)) (by decide) RAj.1 (rmAny l Z a0 hw a4 ta ba a6 tt ccF (mkP (mkP (mkP (mkP (mkP (mkP (fun _ _ => false) 0 0 (cnd c0 r0 (0 : Int32))) 0 1 (cnd c0 r0 (1 : Int32))) 0 2 (cnd c0 r0 (2 : Int32))) 1 0 (cnd c1 r1 (0 : Int32))) 1 1 (cnd c1 r1 (1 : Int32))) 1 2 (cnd c1 r1 (2 : Int32))) (1 : Int32) 1 hj n0 RAj (by decide) (by decide) lc1) (g := (mkF m 216 #[.val (.int p1), .val (.int p2), .val (.int p3), .val (.int p4), .val (.int p5), .val (.int c0), .val (.int c1), .val (.int r0), .val (.int r1), .val (.ref a1), .val (.ref a4), .val (.ref a6), .val (.int (1 : Int32)), .val (.int (1 : Int32))] [(.int (1 : Int32)), (.ref a4)])) rfl (by rw [hml]; rfl) (argsL := [(.int (1 : Int32))]) (rest := []) (lenOf pd_6 rfl) rfl 0 (Nat.le_of_eq rfl) (hb hby at_216) (by decide) (by decide) (by decide) (by decide) ?_
          rintro _ T26 _ ⟨rfl, rfl⟩ H26
          show Go _ _ _ _ (T26.setTop (mkF m 219 #[.val (.int p1), .val (.int p2), .val (.int p3), .val (.int p4), .val (.int p5), .val (.int c0), .val (.int c1), .val (.int r0), .val (.int r1), .val (.ref a1), .val (.ref a4), .val (.ref a6), .val (.int (1 : Int32)), .val (.int (1 : Int32))] [(.int (if anyB ((mkP (mkP (mkP (mkP (mkP (mkP (fun _ _ => false) 0 0 (cnd c0 r0 (0 : Int32))) 0 1 (cnd c0 r0 (1 : Int32))) 0 2 (cnd c0 r0 (2 : Int32))) 1 0 (cnd c1 r1 (0 : Int32))) 1 1 (cnd c1 r1 (1 : Int32))) 1 2 (cnd c1 r1 (2 : Int32))) 1) (ccF 1) 0 = true then 1 else 0))]))
          refine Go.via (fun t_ k_ => XS.iload H26.here hx rfl (hb hby at_219) rfl k_) ?_
          show Go _ _ _ _ (T26.setTop (mkF m 221 #[.val (.int p1), .val (.int p2), .val (.int p3), .val (.int p4), .val (.int p5), .val (.int c0), .val (.int c1), .val (.int r0), .val (.int r1), .val (.ref a1), .val (.ref a4), .val (.ref a6), .val (.int (1 : Int32)), .val (.int (1 : Int32))] [(.int (1 : Int32)), (.int (if anyB ((mkP (mkP (mkP (mkP (mkP (mkP (fun _ _ => false) 0 0 (cnd c0 r0 (0 : Int32))) 0 1 (cnd c0 r0 (1 : Int32))) 0 2 (cnd c0 r0 (2 : Int32))) 1 0 (cnd c1 r1 (0 : Int32))) 1 1 (cnd c1 r1 (1 : Int32))) 1 2 (cnd c1 r1 (2 : Int32))) 1) (ccF 1) 0 = true then 1 else 0))]))
          refine Go.via (fun t_ k_ => XS.icmpNo H26.here hx rfl (hb hby at_221) rfl ((teq (show (if anyB ((mkP (mkP (mkP (mkP (mkP (mkP (fun _ _ => false) 0 0 (cnd c0 r0 (0 : Int32))) 0 1 (cnd c0 r0 (1 : Int32))) 0 2 (cnd c0 r0 (2 : Int32))) 1 0 (cnd c1 r1 (0 : Int32))) 1 1 (cnd c1 r1 (1 : Int32))) 1 2 (cnd c1 r1 (2 : Int32))) 1) (ccF 1) 0 = true then 1 else 0) = (1 : Int32) from ((own_fin qc1 m1 qr1 mr1 ((mkP (mkP (mkP (mkP (mkP (mkP (fun _ _ => false) 0 0 (cnd c0 r0 (0 : Int32))) 0 1 (cnd c0 r0 (1 : Int32))) 0 2 (cnd c0 r0 (2 : Int32))) 1 0 (cnd c1 r1 (0 : Int32))) 1 1 (cnd c1 r1 (1 : Int32))) 1 2 (cnd c1 r1 (2 : Int32))) 1) (fun i => by simp [mkP])).trans (if_neg hc192)))).2) k_) ?_
          show Go _ _ _ _ (T26.setTop (mkF m 224 #[.val (.int p1), .val (.int p2), .val (.int p3), .val (.int p4), .val (.int p5), .val (.int c0), .val (.int c1), .val (.int r0), .val (.int r1), .val (.ref a1), .val (.ref a4), .val (.ref a6), .val (.int (1 : Int32)), .val (.int (1 : Int32))] []))
          refine Go.via (fun t_ k_ => XS.iconst H26.here hx rfl (hb hby at_224) k_) ?_
          show Go _ _ _ _ (T26.setTop (mkF m 225 #[.val (.int p1), .val (.int p2), .val (.int p3), .val (.int p4), .val (.int p5), .val (.int c0), .val (.int c1), .val (.int r0), .val (.int r1), .val (.ref a1), .val (.ref a4), .val (.ref a6), .val (.int (1 : Int32)), .val (.int (1 : Int32))] [(.int (1 : Int32))]))
          refine Go.via (fun t_ k_ => XS.goto H26.here hx rfl (pc0 := 225) (pc' := 229) rfl (hb hby at_225) (by decide) (by decide) k_) ?_
          show Go _ _ _ _ (T26.setTop (mkF m 229 #[.val (.int p1), .val (.int p2), .val (.int p3), .val (.int p4), .val (.int p5), .val (.int c0), .val (.int c1), .val (.int r0), .val (.int r1), .val (.ref a1), .val (.ref a4), .val (.ref a6), .val (.int (1 : Int32)), .val (.int (1 : Int32))] [(.int (1 : Int32))]))
          exact own_retNC H26 LBj hx hlk (by simp) hret (hb hby at_229) rfl (by decide) (by decide)
    obtain ⟨b5, qb5, lb5⟩ := own_m1 p5
    refine Go.via (fun t_ k_ => XS.iload H18.here hx rfl (hb hby at_146) rfl k_) ?_
    show Go _ _ _ _ (T18.setTop (mkF m 148 #[.val (.int p1), .val (.int p2), .val (.int p3), .val (.int p4), .val (.int p5), .val (.int c0), .val (.int c1), .val (.int r0), .val (.int r1), .val (.ref a1), .val (.ref a4), .val (.ref a6), .unset, .unset] [(.int p5)]))
    refine Go.via (fun t_ k_ => XS.iconst H18.here hx rfl (hb hby at_148) k_) ?_
    show Go _ _ _ _ (T18.setTop (mkF m 149 #[.val (.int p1), .val (.int p2), .val (.int p3), .val (.int p4), .val (.int p5), .val (.int c0), .val (.int c1), .val (.int r0), .val (.int r1), .val (.ref a1), .val (.ref a4), .val (.ref a6), .unset, .unset] [(.int (2 : Int32)), (.int p5)]))
    refine Go.via (fun t_ k_ => XS.iand H18.here hx rfl (hb hby at_149) rfl k_) ?_
    show Go _ _ _ _ (T18.setTop (mkF m 150 #[.val (.int p1), .val (.int p2), .val (.int p3), .val (.int p4), .val (.int p5), .val (.int c0), .val (.int c1), .val (.int r0), .val (.int r1), .val (.ref a1), .val (.ref a4), .val (.ref a6), .unset, .unset] [(.int (p5 &&& (2 : Int32)))]))
    by_cases hc150 : (p5 &&& (2 : Int32)) = (0 : Int32)
    · refine Go.via (fun t_ k_ => XS.ifYes H18.here hx rfl (pc0 := 150) (pc' := 164) rfl (hb hby at_150) rfl ((if0 _ _).trans (teq hc150).1) (by decide) (by decide) k_) ?_
      show Go _ _ _ _ (T18.setTop (mkF m 164 #[.val (.int p1), .val (.int p2), .val (.int p3), .val (.int p4), .val (.int p5), .val (.int c0), .val (.int c1), .val (.int r0), .val (.int r1), .val (.ref a1), .val (.ref a4), .val (.ref a6), .unset, .unset] []))
      exact J164 T18 h18 H18 RA18 ((((((LB12.grow sz13).grow sz14).grow sz15).grow sz16).grow sz17).grow sz18)
    · refine Go.via (fun t_ k_ => XS.ifNo H18.here hx rfl (hb hby at_150) rfl ((if0 _ _).trans (feq hc150).1) k_) ?_
      show Go _ _ _ _ (T18.setTop (mkF m 153 #[.val (.int p1), .val (.int p2), .val (.int p3), .val (.int p4), .val (.int p5), .val (.int c0), .val (.int c1), .val (.int r0), .val (.int r1), .val (.ref a1), .val (.ref a4), .val (.ref a6), .unset, .unset] []))
      refine Go.via (fun t_ k_ => XS.aload H18.here hx rfl (hb hby at_153) rfl rfl k_) ?_
      show Go _ _ _ _ (T18.setTop (mkF m 155 #[.val (.int p1), .val (.int p2), .val (.int p3), .val (.int p4), .val (.int p5), .val (.int c0), .val (.int c1), .val (.int r0), .val (.int r1), .val (.ref a1), .val (.ref a4), .val (.ref a6), .unset, .unset] [(.ref a4)]))
      refine Go.via (fun t_ k_ => XS.iload H18.here hx rfl (hb hby at_155) rfl k_) ?_
      show Go _ _ _ _ (T18.setTop (mkF m 157 #[.val (.int p1), .val (.int p2), .val (.int p3), .val (.int p4), .val (.int p5), .val (.int c0), .val (.int c1), .val (.int r0), .val (.int r1), .val (.ref a1), .val (.ref a4), .val (.ref a6), .unset, .unset] [(.int p5), (.ref a4)]))
      refine Go.via (fun t_ k_ => XS.iconst H18.here hx rfl (hb hby at_157) k_) ?_
      show Go _ _ _ _ (T18.setTop (mkF m 158 #[.val (.int p1), .val (.int p2), .val (.int p3), .val (.int p4), .val (.int p5), .val (.int c0), .val (.int c1), .val (.int r0), .val (.int r1), .val (.ref a1), .val (.ref a4), .val (.ref a6), .unset, .unset] [(.int (1 : Int32)), (.int p5), (.ref a4)]))
      refine Go.via (fun t_ k_ => XS.iand H18.here hx rfl (hb hby at_158) rfl k_) ?_
      show Go _ _ _ _ (T18.setTop (mkF m 159 #[.val (.int p1), .val (.int p2), .val (.int p3), .val (.int p4), .val (.int p5), .val (.int c0), .val (.int c1), .val (.int r0), .val (.int r1), .val (.ref a1), .val (.ref a4), .val (.ref a6), .unset, .unset] [(.int (p5 &&& (1 : Int32))), (.ref a4)]))
      refine Go.via (fun t_ k_ => XS.aload H18.here hx rfl (hb hby at_159) rfl rfl k_) ?_
      show Go _ _ _ _ (T18.setTop (mkF m 161 #[.val (.int p1), .val (.int p2), .val (.int p3), .val (.int p4), .val (.int p5), .val (.int c0), .val (.int c1), .val (.int r0), .val (.int r1), .val (.ref a1), .val (.ref a4), .val (.ref a6), .unset, .unset] [(.ref a6), (.int (p5 &&& (1 : Int32))), (.ref a4)]))
      refine own_callV H18 hx hZ (C := "com/example/perekaz/perekaz/Rejections") (y := (⟨"com/example/perekaz/perekaz/Rejections", "rejectBlock", "(ILcom/example/perekaz/perekaz/Finding;)V"⟩ : MethodName)) (a := a4) hown (hw _ (List.mem_of_getElem? (i := 80) rfl)) (hw _ (List.mem_of_getElem? (i := 81) rfl)) (hw _ (List.mem_of_getElem? (i := 83) rfl)) (hw _ (List.mem_of_getElem? (i := 82) rfl)) (hw _ (List.mem_of_getElem? (i := 3) rfl)) (hw _ (List.mem_of_getElem? (i := 84) rfl)) (by decide) RA18.1 (rmRB l Z a0 hw a4 ta ba a6 tt ccF (mkP (mkP (mkP (mkP (mkP (mkP (fun _ _ => false) 0 0 (cnd c0 r0 (0 : Int32))) 0 1 (cnd c0 r0 (1 : Int32))) 0 2 (cnd c0 r0 (2 : Int32))) 1 0 (cnd c1 r1 (0 : Int32))) 1 1 (cnd c1 r1 (1 : Int32))) 1 2 (cnd c1 r1 (2 : Int32))) (p5 &&& (1 : Int32)) b5 h18 n0 RA18 Ef18 qb5 lb5) (g := (mkF m 161 #[.val (.int p1), .val (.int p2), .val (.int p3), .val (.int p4), .val (.int p5), .val (.int c0), .val (.int c1), .val (.int r0), .val (.int r1), .val (.ref a1), .val (.ref a4), .val (.ref a6), .unset, .unset] [(.ref a6), (.int (p5 &&& (1 : Int32))), (.ref a4)])) rfl (by rw [hml]; rfl) (argsL := [(.int (p5 &&& (1 : Int32))), (.ref a6)]) (rest := []) (lenOf pd_7 rfl) rfl 0 (Nat.le_of_eq rfl) (hb hby at_161) (by decide) (by decide) (by decide) (by decide) ?_
      rintro _ T27 h27 ⟨rfl, RA27, Ef27, sz27⟩ H27
      show Go _ _ _ _ (T27.setTop (mkF m 164 #[.val (.int p1), .val (.int p2), .val (.int p3), .val (.int p4), .val (.int p5), .val (.int c0), .val (.int c1), .val (.int r0), .val (.int r1), .val (.ref a1), .val (.ref a4), .val (.ref a6), .unset, .unset] []))
      exact J164 T27 h27 H27 RA27 (((((((LB12.grow sz13).grow sz14).grow sz15).grow sz16).grow sz17).grow sz18).grow sz27)
  show Go _ _ _ _ (T0.setTop (mkF m 0 #[.val (.int p1), .val (.int p2), .val (.int p3), .val (.int p4), .val (.int p5), .unset, .unset, .unset, .unset, .unset, .unset, .unset, .unset, .unset] []))
  refine Go.via (fun t_ k_ => XS.iloadN H0.here hx rfl (hb hby at_0) rfl k_) ?_
  show Go _ _ _ _ (T0.setTop (mkF m 1 #[.val (.int p1), .val (.int p2), .val (.int p3), .val (.int p4), .val (.int p5), .unset, .unset, .unset, .unset, .unset, .unset, .unset, .unset, .unset] [(.int p1)]))
  refine Go.via (fun t_ k_ => XS.iconst H0.here hx rfl (hb hby at_1) k_) ?_
  show Go _ _ _ _ (T0.setTop (mkF m 2 #[.val (.int p1), .val (.int p2), .val (.int p3), .val (.int p4), .val (.int p5), .unset, .unset, .unset, .unset, .unset, .unset, .unset, .unset, .unset] [(.int (3 : Int32)), (.int p1)]))
  refine Go.via (fun t_ k_ => XS.iand H0.here hx rfl (hb hby at_2) rfl k_) ?_
  show Go _ _ _ _ (T0.setTop (mkF m 3 #[.val (.int p1), .val (.int p2), .val (.int p3), .val (.int p4), .val (.int p5), .unset, .unset, .unset, .unset, .unset, .unset, .unset, .unset, .unset] [(.int (p1 &&& (3 : Int32)))]))
  refine Go.via (fun t_ k_ => XS.istore H0.here hx rfl (hb hby at_3) rfl (l' := #[.val (.int p1), .val (.int p2), .val (.int p3), .val (.int p4), .val (.int p5), .val (.int (p1 &&& (3 : Int32))), .unset, .unset, .unset, .unset, .unset, .unset, .unset, .unset]) rfl k_) ?_
  show Go _ _ _ _ (T0.setTop (mkF m 5 #[.val (.int p1), .val (.int p2), .val (.int p3), .val (.int p4), .val (.int p5), .val (.int (p1 &&& (3 : Int32))), .unset, .unset, .unset, .unset, .unset, .unset, .unset, .unset] []))
  refine Go.via (fun t_ k_ => XS.iloadN H0.here hx rfl (hb hby at_5) rfl k_) ?_
  show Go _ _ _ _ (T0.setTop (mkF m 6 #[.val (.int p1), .val (.int p2), .val (.int p3), .val (.int p4), .val (.int p5), .val (.int (p1 &&& (3 : Int32))), .unset, .unset, .unset, .unset, .unset, .unset, .unset, .unset] [(.int p2)]))
  refine Go.via (fun t_ k_ => XS.iconst H0.here hx rfl (hb hby at_6) k_) ?_
  show Go _ _ _ _ (T0.setTop (mkF m 7 #[.val (.int p1), .val (.int p2), .val (.int p3), .val (.int p4), .val (.int p5), .val (.int (p1 &&& (3 : Int32))), .unset, .unset, .unset, .unset, .unset, .unset, .unset, .unset] [(.int (3 : Int32)), (.int p2)]))
  refine Go.via (fun t_ k_ => XS.iand H0.here hx rfl (hb hby at_7) rfl k_) ?_
  show Go _ _ _ _ (T0.setTop (mkF m 8 #[.val (.int p1), .val (.int p2), .val (.int p3), .val (.int p4), .val (.int p5), .val (.int (p1 &&& (3 : Int32))), .unset, .unset, .unset, .unset, .unset, .unset, .unset, .unset] [(.int (p2 &&& (3 : Int32)))]))
  refine Go.via (fun t_ k_ => XS.istore H0.here hx rfl (hb hby at_8) rfl (l' := #[.val (.int p1), .val (.int p2), .val (.int p3), .val (.int p4), .val (.int p5), .val (.int (p1 &&& (3 : Int32))), .val (.int (p2 &&& (3 : Int32))), .unset, .unset, .unset, .unset, .unset, .unset, .unset]) rfl k_) ?_
  show Go _ _ _ _ (T0.setTop (mkF m 10 #[.val (.int p1), .val (.int p2), .val (.int p3), .val (.int p4), .val (.int p5), .val (.int (p1 &&& (3 : Int32))), .val (.int (p2 &&& (3 : Int32))), .unset, .unset, .unset, .unset, .unset, .unset, .unset] []))
  refine Go.via (fun t_ k_ => XS.iloadN H0.here hx rfl (hb hby at_10) rfl k_) ?_
  show Go _ _ _ _ (T0.setTop (mkF m 11 #[.val (.int p1), .val (.int p2), .val (.int p3), .val (.int p4), .val (.int p5), .val (.int (p1 &&& (3 : Int32))), .val (.int (p2 &&& (3 : Int32))), .unset, .unset, .unset, .unset, .unset, .unset, .unset] [(.int p3)]))
  refine Go.via (fun t_ k_ => XS.bipush H0.here hx rfl (hb hby at_11) k_) ?_
  show Go _ _ _ _ (T0.setTop (mkF m 13 #[.val (.int p1), .val (.int p2), .val (.int p3), .val (.int p4), .val (.int p5), .val (.int (p1 &&& (3 : Int32))), .val (.int (p2 &&& (3 : Int32))), .unset, .unset, .unset, .unset, .unset, .unset, .unset] [(.int (7 : Int32)), (.int p3)]))
  refine Go.via (fun t_ k_ => XS.iand H0.here hx rfl (hb hby at_13) rfl k_) ?_
  show Go _ _ _ _ (T0.setTop (mkF m 14 #[.val (.int p1), .val (.int p2), .val (.int p3), .val (.int p4), .val (.int p5), .val (.int (p1 &&& (3 : Int32))), .val (.int (p2 &&& (3 : Int32))), .unset, .unset, .unset, .unset, .unset, .unset, .unset] [(.int (p3 &&& (7 : Int32)))]))
  refine Go.via (fun t_ k_ => XS.istore H0.here hx rfl (hb hby at_14) rfl (l' := #[.val (.int p1), .val (.int p2), .val (.int p3), .val (.int p4), .val (.int p5), .val (.int (p1 &&& (3 : Int32))), .val (.int (p2 &&& (3 : Int32))), .val (.int (p3 &&& (7 : Int32))), .unset, .unset, .unset, .unset, .unset, .unset]) rfl k_) ?_
  show Go _ _ _ _ (T0.setTop (mkF m 16 #[.val (.int p1), .val (.int p2), .val (.int p3), .val (.int p4), .val (.int p5), .val (.int (p1 &&& (3 : Int32))), .val (.int (p2 &&& (3 : Int32))), .val (.int (p3 &&& (7 : Int32))), .unset, .unset, .unset, .unset, .unset, .unset] []))
  refine Go.via (fun t_ k_ => XS.iloadN H0.here hx rfl (hb hby at_16) rfl k_) ?_
  show Go _ _ _ _ (T0.setTop (mkF m 17 #[.val (.int p1), .val (.int p2), .val (.int p3), .val (.int p4), .val (.int p5), .val (.int (p1 &&& (3 : Int32))), .val (.int (p2 &&& (3 : Int32))), .val (.int (p3 &&& (7 : Int32))), .unset, .unset, .unset, .unset, .unset, .unset] [(.int p4)]))
  refine Go.via (fun t_ k_ => XS.bipush H0.here hx rfl (hb hby at_17) k_) ?_
  show Go _ _ _ _ (T0.setTop (mkF m 19 #[.val (.int p1), .val (.int p2), .val (.int p3), .val (.int p4), .val (.int p5), .val (.int (p1 &&& (3 : Int32))), .val (.int (p2 &&& (3 : Int32))), .val (.int (p3 &&& (7 : Int32))), .unset, .unset, .unset, .unset, .unset, .unset] [(.int (7 : Int32)), (.int p4)]))
  refine Go.via (fun t_ k_ => XS.iand H0.here hx rfl (hb hby at_19) rfl k_) ?_
  show Go _ _ _ _ (T0.setTop (mkF m 20 #[.val (.int p1), .val (.int p2), .val (.int p3), .val (.int p4), .val (.int p5), .val (.int (p1 &&& (3 : Int32))), .val (.int (p2 &&& (3 : Int32))), .val (.int (p3 &&& (7 : Int32))), .unset, .unset, .unset, .unset, .unset, .unset] [(.int (p4 &&& (7 : Int32)))]))
  refine Go.via (fun t_ k_ => XS.istore H0.here hx rfl (hb hby at_20) rfl (l' := #[.val (.int p1), .val (.int p2), .val (.int p3), .val (.int p4), .val (.int p5), .val (.int (p1 &&& (3 : Int32))), .val (.int (p2 &&& (3 : Int32))), .val (.int (p3 &&& (7 : Int32))), .val (.int (p4 &&& (7 : Int32))), .unset, .unset, .unset, .unset, .unset]) rfl k_) ?_
  show Go _ _ _ _ (T0.setTop (mkF m 22 #[.val (.int p1), .val (.int p2), .val (.int p3), .val (.int p4), .val (.int p5), .val (.int (p1 &&& (3 : Int32))), .val (.int (p2 &&& (3 : Int32))), .val (.int (p3 &&& (7 : Int32))), .val (.int (p4 &&& (7 : Int32))), .unset, .unset, .unset, .unset, .unset] []))
  obtain ⟨n0', qc0, m0⟩ := own_m3 p1
  obtain ⟨n1', qc1, m1⟩ := own_m3 p2
  obtain ⟨m0', qr0, mr0⟩ := own_m7 p3
  obtain ⟨m1', qr1, mr1⟩ := own_m7 p4
  exact J22 T0 _ _ _ _ n0' n1' m0' m1' H0 qc0 qc1 qr0 qr1 m0 m1 mr0 mr1
set_option maxRecDepth 65536 in
set_option maxHeartbeats 40000000 in
theorem comes_1 {Post : Tables → Env → Array Value → State → Outcome → State → Prop} (hpost : ∀ tb e args s v u, (limb_1_1.after args s (.returned v) u = true ∧ limb_1_2.after args s (.returned v) u = true ∧ True) → ReturnedEndW s (.returned v) u (Jvm.fieldLocs frame_1_writes args s ++ Jvm.arrayLocs frame_1_arrays args s ++ Jvm.staticLocs frame_1_statics s) 40 8384 → Post tb e args s (.returned v) u) :
    ArmFor flags0 classFile x code maxLocals ret World_1 tables_1 room_1 Calls_1 rest_1 Pre_1 Post := by
  intro l hfl _ _ p e ha hc hk s m args below hf hA hF happ hP
  obtain ⟨hcalls, hrest, hpre⟩ := hP
  obtain ⟨-, -, -, hnamed, -, -, -, hat⟩ := (Spec.applies_iff hf).mp happ
  obtain ⟨hg, hn⟩ := and_e (Cond.before_iff.mp (show (Jvm.Cond.and given_1 narrow_1).before args s = true from hpre))
  obtain ⟨g0, g1⟩ := and_e hg
  obtain ⟨i0, r0⟩ := and_e g1
  obtain ⟨i1, r1⟩ := and_e r0
  obtain ⟨i2, r2⟩ := and_e r1
  obtain ⟨i3, r3⟩ := and_e r2
  obtain ⟨w0, w1, w2, w3, w4, rfl⟩ : ∃ w0 w1 w2 w3 w4 : Value, args = #[w0, w1, w2, w3, w4] := by
    have hs : args.size = 5 := by simpa [Cond.value, given_1] using g0
    obtain ⟨L⟩ := args
    match L, hs with
    | [w0, w1, w2, w3, w4], _ => exact ⟨w0, w1, w2, w3, w4, rfl⟩
  have hw := fun d (hd : d ∈ tables_1) => atoms_spec (ws := Jvm.Cond.code x code maxLocals ret :: tables_1) hat d (List.mem_cons_of_mem _ hd)
  have hfit : Fit s := fun {y c} hc i hi => by
    obtain ⟨ha, rfl⟩ := Array.getElem?_eq_some_iff.mp hc
    have q := List.all_eq_true.mp ((Array.all_eq_true_iff_forall_mem.mp hF) _ (Array.getElem_mem ha)) i (List.mem_range.mpr hi)
    simpa [Array.getElem?_eq_getElem hi] using q
  obtain ⟨v0, e0⟩ := is_v i0
  obtain rfl : w0 = (.int v0) := Option.some.inj e0
  obtain ⟨v1, e1⟩ := is_v i1
  obtain rfl : w1 = (.int v1) := Option.some.inj e1
  obtain ⟨v2, e2⟩ := is_v i2
  obtain rfl : w2 = (.int v2) := Option.some.inj e2
  obtain ⟨v3, e3⟩ := is_v i3
  obtain rfl : w3 = (.int v3) := Option.some.inj e3
  obtain ⟨v4, e4⟩ := is_v r3
  obtain rfl : w4 = (.int v4) := Option.some.inj e4
  obtain ⟨lv, elv⟩ := exa_v hn
  have SL := Sta.start elv (Or.inr ⟨hw _ (List.mem_of_getElem? (i := 25) rfl), hw _ (List.mem_of_getElem? (i := 26) rfl)⟩)
  have wS : ∀ a ∈ Bundle.stringAtoms, a.before #[.int v0, .int v1, .int v2, .int v3, .int v4] s = true := by
    intro d hd
    simp only [Bundle.stringAtoms, List.mem_cons, List.not_mem_nil, or_false] at hd
    rcases hd with rfl | rfl | rfl | rfl | rfl | rfl | rfl
    · exact hw _ (List.mem_of_getElem? (i := 28) rfl)
    · exact hw _ (List.mem_of_getElem? (i := 29) rfl)
    · exact hw _ (List.mem_of_getElem? (i := 30) rfl)
    · exact hw _ (List.mem_of_getElem? (i := 31) rfl)
    · exact hw _ (List.mem_of_getElem? (i := 32) rfl)
    · exact hw _ (List.mem_of_getElem? (i := 33) rfl)
    · exact hw _ (List.mem_of_getElem? (i := 34) rfl)
  obtain ⟨n, o, h1, h2, h3, _, L, rfl, ⟨rfl, N⟩, hq⟩ := rm0 l s _ hw v0 v1 v2 v3 v4 lv s.heap s.heap.size rfl rfl wS (Old.start s) SL tables_1 p e ha hc hk s m _ below hf ((Spec.applies_iff_loose hf).mp happ).1 ⟨rfl, rfl⟩ trivial
  refine ⟨n, _, h1, h2, h3, hpost _ _ _ _ _ _ ⟨Cond.after_iff.mpr rfl, Cond.after_iff.mpr (eq_i res_at (Term.int_eval (1)) rfl), trivial⟩ ⟨hq.1, hq.2.1, hq.2.2.1, (hq.2.2.2.sift fun y hy => Or.inr (N y hy)).mono (by decide) (by decide)⟩⟩
theorem main_1_1 : Claimed_1_1 := comes_1 fun _ _ _ _ _ _ h hF => ⟨h.1, hF⟩
theorem main_1_2 : Claimed_1_2 := comes_1 fun _ _ _ _ _ _ h hF => ⟨h.2.1, hF⟩
end Jvm.Pilot.@@N@@
namespace Jvm.Pilot.@@N@@
open Jvm Jvm.ClassFile Sem Op Lib Jvm.Free Jvm.Stand Jvm.Pilot.@@N@@.Jvm.D
/-! MADE BY PROGRAM (witnessworld.py) out of the Statement's table words and the real class files: 20 classes; the members and pool entries that the words name. The judged class is class 1, her method 2. -/
namespace start1
open Jvm.ClassFile
def u (s : String) : CpInfo := .utf8 (stringToUtf16 s)
/-- a pool by its gaps: so many unusable entries, then the entry; so many at the end -/
def gap : Nat → List CpInfo → List CpInfo
  | 0, r => r
  | n + 1, r => .unusable :: gap n r
def poolList (es : List (Nat × CpInfo)) (last : Nat) : List CpInfo := es.foldr (fun e r => gap e.1 (e.2 :: r)) (gap last [])
def pool (es : List (Nat × CpInfo)) (last : Nat) : Array CpInfo := ⟨poolList es last⟩
def fileOf (pool : Array CpInfo) (this : Nat) (attrs : Array Attribute := #[]) (ms : Array MethodInfo := #[]) (fl : Nat := 33) (sup : Nat := 0) (ifs : Array Nat := #[]) (fds : Array FieldInfo := #[]) : ClassFile where
  minorVersion := 0
  majorVersion := 65
  constantPool := pool
  accessFlags := fl
  thisClass := this
  superClass := sup
  interfaces := ifs
  fields := fds
  methods := ms
  attributes := attrs
def plain (name : String) (sup : Option ClassId) : Class where
  name := name
  kind := .ordinary
  loader := none
  accessFlags := 33
  super := sup
  interfaces := #[]
  cf := none
  fields := #[]
  methods := #[]
  instanceTypes := #[]
  staticTypes := #[]
  resolved := #[]
  callSites := []
  init := .initialized
  statics := none
  mirror := none

def pool0 : Array CpInfo := pool [(5, u "<init>"), (0, u "()V"), (1, .class_ 10), (1, u "java/lang/Object")] 113

def k0c0 : Code := { maxStack := 0, maxLocals := 1, code := object_method_1_code, exceptionTable := #[], attributes := #[] }
def k0m0 : Method := { name := "<init>", desc := "()V", sig := { parameters := [], returnType := none }, accessFlags := 1, code := some k0c0 }
/-- java/lang/Object -/
def k0 : Class := { plain "java/lang/Object" none with
  accessFlags := 33
  interfaces := #[]
  cf := some (fileOf pool0 8 #[] #[{ accessFlags := 1, nameIndex := 5, descriptorIndex := 6, attributes := #[] }] 33 0 #[] #[])
  fields := #[]
  methods := #[k0m0]
  instanceTypes := #[]
  staticTypes := #[]
  resolved := Array.replicate 124 none
  statics := none }

def pool1 : Array CpInfo := pool [(2, .class_ 4), (1, u "java/lang/Object"), (0, u "<init>"), (0, u "()V"), (0, .methodref 8 9), (0, .class_ 10), (0, .nameAndType 11 12), (0, u "com/example/perekaz/perekaz/Rejections"), (0, u "rejectTransaction"), (0, u "(IILcom/example/perekaz/perekaz/Finding;)V"), (0, .methodref 8 14), (0, .nameAndType 5 15), (0, u "([I)V"), (0, .class_ 17), (0, u "com/example/perekaz/perekaz/Finding"), (0, .fieldref 19 20), (0, .class_ 21), (0, .nameAndType 22 23), (0, u "com/example/perekaz/perekaz/Level"), (0, u "TRANSACTION"), (0, u "Lcom/example/perekaz/perekaz/Level;"), (0, .string 25), (0, u "-"), (0, .string 27), (0, u "H026"), (0, .string 29), (0, u "x"), (0, .methodref 16 31), (0, .nameAndType 5 32), (0, u "(Lcom/example/perekaz/perekaz/Level;Ljava/lang/String;Ljava/lang/String;Ljava/lang/String;Ljava/lang/String;)V"), (0, .methodref 34 35), (0, .class_ 36), (0, .nameAndType 37 38), (0, u "com/example/perekaz/perekaz/RejectionsAnyTransactionPinLaw"), (0, u "mark"), (0, u "(Lcom/example/perekaz/perekaz/Rejections;IIIILcom/example/perekaz/perekaz/Finding;)V"), (0, .methodref 8 40), (0, .nameAndType 41 42), (0, u "rejectBlock"), (0, u "(ILcom/example/perekaz/perekaz/Finding;)V"), (0, .methodref 8 44), (0, .nameAndType 45 46), (0, u "anyTransaction"), (0, u "(I)Z"), (3, u "law"), (0, u "(IIIII)Z")] 4

def k1m0 : Method := { name := "<init>", desc := "()V", sig := { parameters := [], returnType := none }, accessFlags := 1, code := none }
def k1c1 : Code := { maxStack := 4, maxLocals := 6, code := method_2_code, exceptionTable := #[], attributes := #[] }
def k1m1 : Method := { name := "mark", desc := "(Lcom/example/perekaz/perekaz/Rejections;IIIILcom/example/perekaz/perekaz/Finding;)V", sig := { parameters := [(.object "com/example/perekaz/perekaz/Rejections"), .int, .int, .int, .int, (.object "com/example/perekaz/perekaz/Finding")], returnType := none }, accessFlags := 10, code := some k1c1 }
def k1c2 : Code := { maxStack := 7, maxLocals := 14, code := code, exceptionTable := #[], attributes := #[] }
def k1m2 : Method := { name := "law", desc := "(IIIII)Z", sig := { parameters := [.int, .int, .int, .int, .int], returnType := some .boolean }, accessFlags := 9, code := some k1c2 }
/-- com/example/perekaz/perekaz/RejectionsAnyTransactionPinLaw -/
def k1 : Class := { plain "com/example/perekaz/perekaz/RejectionsAnyTransactionPinLaw" (some 0) with
  accessFlags := 49
  interfaces := #[]
  cf := some (fileOf pool1 34 #[] #[{ accessFlags := 1, nameIndex := 5, descriptorIndex := 6, attributes := #[] }, { accessFlags := 10, nameIndex := 37, descriptorIndex := 38, attributes := #[] }, { accessFlags := 9, nameIndex := 50, descriptorIndex := 51, attributes := #[] }] 49 2 #[] #[])
  fields := #[]
  methods := #[k1m0, k1m1, k1m2]
  instanceTypes := #[]
  staticTypes := #[]
  resolved := Array.replicate 56 none
  statics := none }

def pool2 : Array CpInfo := pool [(1, .methodref 2 3), (0, .class_ 4), (0, .nameAndType 5 6), (0, u "java/lang/Object"), (0, u "<init>"), (0, u "()V"), (0, .fieldref 8 9), (0, .class_ 10), (0, .nameAndType 11 12), (0, u "com/example/perekaz/perekaz/Rejections"), (0, u "answered"), (0, u "Z"), (0, .class_ 14), (0, u "com/example/perekaz/perekaz/Finding"), (0, .fieldref 8 16), (0, .nameAndType 17 18), (0, u "blocks"), (0, u "[Lcom/example/perekaz/perekaz/Finding;"), (0, .class_ 18), (0, .fieldref 8 21), (0, .nameAndType 22 23), (0, u "transactions"), (0, u "[[Lcom/example/perekaz/perekaz/Finding;"), (2, u "message"), (0, u "Lcom/example/perekaz/perekaz/Finding;"), (9, u "([I)V"), (7, u "rejectBlock"), (0, u "(ILcom/example/perekaz/perekaz/Finding;)V"), (0, u "rejectTransaction"), (0, u "(IILcom/example/perekaz/perekaz/Finding;)V"), (6, u "anyTransaction"), (0, u "(I)Z")] 6

def k2c0 : Code := { maxStack := 4, maxLocals := 3, code := prog_182_method_1_code, exceptionTable := #[], attributes := #[] }
def k2m0 : Method := { name := "<init>", desc := "([I)V", sig := { parameters := [(.array .int)], returnType := none }, accessFlags := 0, code := some k2c0 }
def k2c1 : Code := { maxStack := 3, maxLocals := 3, code := prog_182_method_3_code, exceptionTable := #[], attributes := #[] }
def k2m1 : Method := { name := "rejectBlock", desc := "(ILcom/example/perekaz/perekaz/Finding;)V", sig := { parameters := [.int, (.object "com/example/perekaz/perekaz/Finding")], returnType := none }, accessFlags := 0, code := some k2c1 }
def k2c2 : Code := { maxStack := 3, maxLocals := 4, code := prog_182_method_4_code, exceptionTable := #[], attributes := #[] }
def k2m2 : Method := { name := "rejectTransaction", desc := "(IILcom/example/perekaz/perekaz/Finding;)V", sig := { parameters := [.int, .int, (.object "com/example/perekaz/perekaz/Finding")], returnType := none }, accessFlags := 0, code := some k2c2 }
def k2c3 : Code := { maxStack := 2, maxLocals := 6, code := prog_182_method_9_code, exceptionTable := #[], attributes := #[] }
def k2m3 : Method := { name := "anyTransaction", desc := "(I)Z", sig := { parameters := [.int], returnType := some .boolean }, accessFlags := 0, code := some k2c3 }
/-- com/example/perekaz/perekaz/Rejections -/
def k2 : Class := { plain "com/example/perekaz/perekaz/Rejections" (some 0) with
  accessFlags := 48
  interfaces := #[]
  cf := some (fileOf pool2 8 #[] #[{ accessFlags := 0, nameIndex := 5, descriptorIndex := 37, attributes := #[] }, { accessFlags := 0, nameIndex := 45, descriptorIndex := 46, attributes := #[] }, { accessFlags := 0, nameIndex := 47, descriptorIndex := 48, attributes := #[] }, { accessFlags := 0, nameIndex := 55, descriptorIndex := 56, attributes := #[] }] 48 2 #[] #[{ accessFlags := 2, nameIndex := 26, descriptorIndex := 27, attributes := #[] }, { accessFlags := 2, nameIndex := 11, descriptorIndex := 12, attributes := #[] }, { accessFlags := 18, nameIndex := 17, descriptorIndex := 18, attributes := #[] }, { accessFlags := 18, nameIndex := 22, descriptorIndex := 23, attributes := #[] }])
  fields := #[{ name := "message", type := (.object "com/example/perekaz/perekaz/Finding"), accessFlags := 2, slot := 0, constantValue := 0 }, { name := "answered", type := .boolean, accessFlags := 2, slot := 1, constantValue := 0 }, { name := "blocks", type := (.array (.object "com/example/perekaz/perekaz/Finding")), accessFlags := 18, slot := 2, constantValue := 0 }, { name := "transactions", type := (.array (.array (.object "com/example/perekaz/perekaz/Finding"))), accessFlags := 18, slot := 3, constantValue := 0 }]
  methods := #[k2m0, k2m1, k2m2, k2m3]
  instanceTypes := #[(.object "com/example/perekaz/perekaz/Finding"), .boolean, (.array (.object "com/example/perekaz/perekaz/Finding")), (.array (.array (.object "com/example/perekaz/perekaz/Finding")))]
  staticTypes := #[]
  resolved := Array.replicate 63 none
  statics := none }

def pool3 : Array CpInfo := pool [(1, .methodref 2 3), (0, .class_ 4), (0, .nameAndType 5 6), (0, u "java/lang/Object"), (0, u "<init>"), (0, u "()V"), (0, .class_ 8), (0, u "java/lang/Record")] 13

def k3c0 : Code := { maxStack := 1, maxLocals := 1, code := jdk_30_method_1_code, exceptionTable := #[], attributes := #[] }
def k3m0 : Method := { name := "<init>", desc := "()V", sig := { parameters := [], returnType := none }, accessFlags := 4, code := some k3c0 }
/-- java/lang/Record -/
def k3 : Class := { plain "java/lang/Record" (some 0) with
  accessFlags := 1057
  interfaces := #[]
  cf := some (fileOf pool3 7 #[] #[{ accessFlags := 4, nameIndex := 5, descriptorIndex := 6, attributes := #[] }] 1057 2 #[] #[])
  fields := #[]
  methods := #[k3m0]
  instanceTypes := #[]
  staticTypes := #[]
  resolved := Array.replicate 22 none
  statics := none }

def pool4 : Array CpInfo := pool [(1, .methodref 2 3), (0, .class_ 4), (0, .nameAndType 5 6), (0, u "java/lang/Record"), (0, u "<init>"), (0, u "()V"), (0, .string 8), (0, u "level"), (0, .methodref 10 11), (0, .class_ 12), (0, .nameAndType 13 14), (0, u "java/util/Objects"), (0, u "requireNonNull"), (0, u "(Ljava/lang/Object;Ljava/lang/String;)Ljava/lang/Object;"), (0, .string 16), (0, u "ref"), (0, .string 18), (0, u "isoCode"), (0, .string 20), (0, u "errorCode"), (0, .string 22), (0, u "description"), (0, .fieldref 24 25), (0, .class_ 26), (0, .nameAndType 8 27), (0, u "com/example/perekaz/perekaz/Finding"), (0, u "Lcom/example/perekaz/perekaz/Level;"), (0, .fieldref 24 29), (0, .nameAndType 16 30), (0, u "Ljava/lang/String;"), (0, .fieldref 24 32), (0, .nameAndType 18 30), (0, .fieldref 24 34), (0, .nameAndType 20 30), (0, .fieldref 24 36), (0, .nameAndType 22 30), (12, u "NO_ISO_CODE"), (3, u "(Lcom/example/perekaz/perekaz/Level;Ljava/lang/String;Ljava/lang/String;Ljava/lang/String;Ljava/lang/String;)V")] 31

def k4c0 : Code := { maxStack := 2, maxLocals := 6, code := prog_55_method_1_code, exceptionTable := #[], attributes := #[] }
def k4m0 : Method := { name := "<init>", desc := "(Lcom/example/perekaz/perekaz/Level;Ljava/lang/String;Ljava/lang/String;Ljava/lang/String;Ljava/lang/String;)V", sig := { parameters := [(.object "com/example/perekaz/perekaz/Level"), (.object "java/lang/String"), (.object "java/lang/String"), (.object "java/lang/String"), (.object "java/lang/String")], returnType := none }, accessFlags := 1, code := some k4c0 }
/-- com/example/perekaz/perekaz/Finding -/
def k4 : Class := { plain "com/example/perekaz/perekaz/Finding" (some 3) with
  accessFlags := 49
  interfaces := #[]
  cf := some (fileOf pool4 24 #[] #[{ accessFlags := 1, nameIndex := 5, descriptorIndex := 53, attributes := #[] }] 49 2 #[] #[{ accessFlags := 18, nameIndex := 8, descriptorIndex := 27, attributes := #[] }, { accessFlags := 18, nameIndex := 16, descriptorIndex := 30, attributes := #[] }, { accessFlags := 18, nameIndex := 18, descriptorIndex := 30, attributes := #[] }, { accessFlags := 18, nameIndex := 20, descriptorIndex := 30, attributes := #[] }, { accessFlags := 18, nameIndex := 22, descriptorIndex := 30, attributes := #[] }, { accessFlags := 25, nameIndex := 49, descriptorIndex := 30, attributes := #[] }])
  fields := #[{ name := "level", type := (.object "com/example/perekaz/perekaz/Level"), accessFlags := 18, slot := 0, constantValue := 0 }, { name := "ref", type := (.object "java/lang/String"), accessFlags := 18, slot := 1, constantValue := 0 }, { name := "isoCode", type := (.object "java/lang/String"), accessFlags := 18, slot := 2, constantValue := 0 }, { name := "errorCode", type := (.object "java/lang/String"), accessFlags := 18, slot := 3, constantValue := 0 }, { name := "description", type := (.object "java/lang/String"), accessFlags := 18, slot := 4, constantValue := 0 }, { name := "NO_ISO_CODE", type := (.object "java/lang/String"), accessFlags := 25, slot := 0, constantValue := 0 }]
  methods := #[k4m0]
  instanceTypes := #[(.object "com/example/perekaz/perekaz/Level"), (.object "java/lang/String"), (.object "java/lang/String"), (.object "java/lang/String"), (.object "java/lang/String")]
  staticTypes := #[(.object "java/lang/String")]
  resolved := Array.replicate 85 none
  statics := none }

def pool5 : Array CpInfo := pool [(1, .class_ 2), (0, u "java/lang/constant/Constable"), (0, .class_ 4), (0, u "java/lang/Object")] 6

/-- java/lang/constant/Constable -/
def k5 : Class := { plain "java/lang/constant/Constable" (some 0) with
  accessFlags := 1537
  interfaces := #[]
  cf := some (fileOf pool5 1 #[] #[] 1537 3 #[] #[])
  fields := #[]
  methods := #[]
  instanceTypes := #[]
  staticTypes := #[]
  resolved := Array.replicate 11 none
  statics := none }

def pool6 : Array CpInfo := pool [(1, .class_ 2), (0, u "java/lang/Comparable"), (0, .class_ 4), (0, u "java/lang/Object")] 7

/-- java/lang/Comparable -/
def k6 : Class := { plain "java/lang/Comparable" (some 0) with
  accessFlags := 1537
  interfaces := #[]
  cf := some (fileOf pool6 1 #[] #[] 1537 3 #[] #[])
  fields := #[]
  methods := #[]
  instanceTypes := #[]
  staticTypes := #[]
  resolved := Array.replicate 12 none
  statics := none }

def pool7 : Array CpInfo := pool [(1, .class_ 2), (0, u "java/io/Serializable"), (0, .class_ 4), (0, u "java/lang/Object")] 2

/-- java/io/Serializable -/
def k7 : Class := { plain "java/io/Serializable" (some 0) with
  accessFlags := 1537
  interfaces := #[]
  cf := some (fileOf pool7 1 #[] #[] 1537 3 #[] #[])
  fields := #[]
  methods := #[]
  instanceTypes := #[]
  staticTypes := #[]
  resolved := Array.replicate 7 none
  statics := none }

def pool8 : Array CpInfo := pool [(2, .class_ 4), (1, u "java/lang/Enum"), (0, u "name"), (0, u "Ljava/lang/String;"), (2, u "ordinal"), (0, u "I"), (1, .class_ 14), (1, u "java/lang/Object"), (4, u "hash"), (86, .class_ 108), (1, u "java/lang/Enum$EnumDesc"), (2, .class_ 112), (0, u "java/lang/constant/Constable"), (0, .class_ 114), (0, u "java/lang/Comparable"), (0, .class_ 116), (0, u "java/io/Serializable")] 87

/-- java/lang/Enum -/
def k8 : Class := { plain "java/lang/Enum" (some 0) with
  accessFlags := 1057
  interfaces := #[5, 6, 7]
  cf := some (fileOf pool8 2 #[.nestMembers #[106]] #[] 1057 12 #[111, 113, 115] #[{ accessFlags := 18, nameIndex := 5, descriptorIndex := 6, attributes := #[] }, { accessFlags := 18, nameIndex := 9, descriptorIndex := 10, attributes := #[] }, { accessFlags := 2, nameIndex := 19, descriptorIndex := 10, attributes := #[] }])
  fields := #[{ name := "name", type := (.object "java/lang/String"), accessFlags := 18, slot := 0, constantValue := 0 }, { name := "ordinal", type := .int, accessFlags := 18, slot := 1, constantValue := 0 }, { name := "hash", type := .int, accessFlags := 2, slot := 2, constantValue := 0 }]
  methods := #[]
  instanceTypes := #[(.object "java/lang/String"), .int, .int]
  staticTypes := #[]
  resolved := Array.replicate 204 none
  statics := none }

def pool9 : Array CpInfo := pool [(1, .class_ 2), (0, u "com/example/perekaz/perekaz/Level"), (2, u "MESSAGE"), (0, u "Lcom/example/perekaz/perekaz/Level;"), (2, u "BLOCK"), (2, u "TRANSACTION"), (2, u "$VALUES"), (0, u "[Lcom/example/perekaz/perekaz/Level;"), (6, .class_ 25), (1, u "java/lang/Enum")] 25

/-- com/example/perekaz/perekaz/Level -/
def k9 : Class := { plain "com/example/perekaz/perekaz/Level" (some 8) with
  accessFlags := 16433
  interfaces := #[]
  cf := some (fileOf pool9 1 #[] #[] 16433 23 #[] #[{ accessFlags := 16409, nameIndex := 5, descriptorIndex := 6, attributes := #[] }, { accessFlags := 16409, nameIndex := 9, descriptorIndex := 6, attributes := #[] }, { accessFlags := 16409, nameIndex := 12, descriptorIndex := 6, attributes := #[] }, { accessFlags := 4122, nameIndex := 15, descriptorIndex := 16, attributes := #[] }])
  fields := #[{ name := "MESSAGE", type := (.object "com/example/perekaz/perekaz/Level"), accessFlags := 16409, slot := 0, constantValue := 0 }, { name := "BLOCK", type := (.object "com/example/perekaz/perekaz/Level"), accessFlags := 16409, slot := 1, constantValue := 0 }, { name := "TRANSACTION", type := (.object "com/example/perekaz/perekaz/Level"), accessFlags := 16409, slot := 2, constantValue := 0 }, { name := "$VALUES", type := (.array (.object "com/example/perekaz/perekaz/Level")), accessFlags := 4122, slot := 3, constantValue := 0 }]
  methods := #[]
  instanceTypes := #[(.object "java/lang/String"), .int, .int]
  staticTypes := #[(.object "com/example/perekaz/perekaz/Level"), (.object "com/example/perekaz/perekaz/Level"), (.object "com/example/perekaz/perekaz/Level"), (.array (.object "com/example/perekaz/perekaz/Level"))]
  resolved := Array.replicate 51 none
  statics := some 0 }

def pool10 : Array CpInfo := pool [(2, .class_ 4), (1, u "java/lang/CharSequence"), (42, .class_ 48), (0, u "java/lang/CharSequence$1CodePointIterator"), (10, .class_ 60), (0, u "java/lang/CharSequence$1CharIterator"), (5, .class_ 67), (0, u "java/lang/Object")] 63

/-- java/lang/CharSequence -/
def k10 : Class := { plain "java/lang/CharSequence" (some 0) with
  accessFlags := 1537
  interfaces := #[]
  cf := some (fileOf pool10 2 #[.nestMembers #[47, 59]] #[] 1537 66 #[] #[])
  fields := #[]
  methods := #[]
  instanceTypes := #[]
  staticTypes := #[]
  resolved := Array.replicate 131 none
  statics := none }

def pool11 : Array CpInfo := pool [(1, .class_ 2), (0, u "java/lang/constant/ConstantDesc"), (0, .class_ 4), (0, u "java/lang/Object")] 32

/-- java/lang/constant/ConstantDesc -/
def k11 : Class := { plain "java/lang/constant/ConstantDesc" (some 0) with
  accessFlags := 1537
  interfaces := #[]
  cf := some (fileOf pool11 1 #[] #[] 1537 3 #[] #[])
  fields := #[]
  methods := #[]
  instanceTypes := #[]
  staticTypes := #[]
  resolved := Array.replicate 37 none
  statics := none }

def pool12 : Array CpInfo := pool [(2, .class_ 4), (1, u "java/lang/Object"), (0, u "<init>"), (0, u "()V"), (3, .class_ 12), (1, u "java/lang/String"), (0, u "value"), (0, u "[B"), (2, u "coder"), (0, u "B"), (2, u "hash"), (0, u "I"), (2, u "hashIsZero"), (0, u "Z"), (13, u "COMPACT_STRINGS"), (534, .class_ 576), (0, u "java/lang/CharSequence"), (22, u "CASE_INSENSITIVE_ORDER"), (0, u "Ljava/util/Comparator;"), (500, u "serialPersistentFields"), (0, u "[Ljava/io/ObjectStreamField;"), (0, .class_ 1104), (0, u "java/lang/String$CaseInsensitiveComparator"), (1, .class_ 1107), (0, u "java/io/Serializable"), (0, .class_ 1109), (0, u "java/lang/Comparable"), (0, .class_ 1111), (0, u "java/lang/constant/Constable"), (0, .class_ 1113), (0, u "java/lang/constant/ConstantDesc"), (2, u "serialVersionUID"), (0, u "J"), (3, u "REPL"), (0, u "C"), (2, u "LATIN1"), (1, u "UTF16")] 323

def k12m0 : Method := { name := "<init>", desc := "()V", sig := { parameters := [], returnType := none }, accessFlags := 1, code := none }
/-- java/lang/String -/
def k12 : Class := { plain "java/lang/String" (some 0) with
  accessFlags := 49
  interfaces := #[7, 6, 10, 5, 11]
  cf := some (fileOf pool12 10 #[.nestMembers #[1103]] #[{ accessFlags := 1, nameIndex := 5, descriptorIndex := 6, attributes := #[] }] 49 2 #[1106, 1108, 575, 1110, 1112] #[{ accessFlags := 18, nameIndex := 13, descriptorIndex := 14, attributes := #[] }, { accessFlags := 18, nameIndex := 17, descriptorIndex := 18, attributes := #[] }, { accessFlags := 2, nameIndex := 21, descriptorIndex := 22, attributes := #[] }, { accessFlags := 2, nameIndex := 25, descriptorIndex := 26, attributes := #[] }, { accessFlags := 26, nameIndex := 1116, descriptorIndex := 1117, attributes := #[] }, { accessFlags := 24, nameIndex := 40, descriptorIndex := 26, attributes := #[] }, { accessFlags := 26, nameIndex := 1101, descriptorIndex := 1102, attributes := #[] }, { accessFlags := 26, nameIndex := 1121, descriptorIndex := 1122, attributes := #[] }, { accessFlags := 25, nameIndex := 599, descriptorIndex := 600, attributes := #[] }, { accessFlags := 24, nameIndex := 1125, descriptorIndex := 18, attributes := #[] }, { accessFlags := 24, nameIndex := 1127, descriptorIndex := 18, attributes := #[] }])
  fields := #[{ name := "value", type := (.array .byte), accessFlags := 18, slot := 0, constantValue := 0 }, { name := "coder", type := .byte, accessFlags := 18, slot := 1, constantValue := 0 }, { name := "hash", type := .int, accessFlags := 2, slot := 2, constantValue := 0 }, { name := "hashIsZero", type := .boolean, accessFlags := 2, slot := 3, constantValue := 0 }, { name := "serialVersionUID", type := .long, accessFlags := 26, slot := 0, constantValue := 0 }, { name := "COMPACT_STRINGS", type := .boolean, accessFlags := 24, slot := 1, constantValue := 0 }, { name := "serialPersistentFields", type := (.array (.object "java/io/ObjectStreamField")), accessFlags := 26, slot := 2, constantValue := 0 }, { name := "REPL", type := .char, accessFlags := 26, slot := 3, constantValue := 0 }, { name := "CASE_INSENSITIVE_ORDER", type := (.object "java/util/Comparator"), accessFlags := 25, slot := 4, constantValue := 0 }, { name := "LATIN1", type := .byte, accessFlags := 24, slot := 5, constantValue := 0 }, { name := "UTF16", type := .byte, accessFlags := 24, slot := 6, constantValue := 0 }]
  methods := #[k12m0]
  instanceTypes := #[(.array .byte), .byte, .int, .boolean]
  staticTypes := #[.long, .boolean, (.array (.object "java/io/ObjectStreamField")), .char, (.object "java/util/Comparator"), .byte, .byte]
  resolved := Array.replicate 1451 none
  statics := none }

def pool13 : Array CpInfo := pool [(2, .class_ 4), (1, u "java/lang/Object"), (0, u "<init>"), (0, u "()V"), (35, .class_ 44), (1, u "java/util/Objects"), (0, u "requireNonNull"), (48, u "(Ljava/lang/Object;Ljava/lang/String;)Ljava/lang/Object;")] 89

def k13m0 : Method := { name := "<init>", desc := "()V", sig := { parameters := [], returnType := none }, accessFlags := 2, code := none }
def k13c1 : Code := { maxStack := 3, maxLocals := 2, code := jdk_31_method_11_code, exceptionTable := #[], attributes := #[] }
def k13m1 : Method := { name := "requireNonNull", desc := "(Ljava/lang/Object;Ljava/lang/String;)Ljava/lang/Object;", sig := { parameters := [(.object "java/lang/Object"), (.object "java/lang/String")], returnType := some (.object "java/lang/Object") }, accessFlags := 9, code := some k13c1 }
/-- java/util/Objects -/
def k13 : Class := { plain "java/util/Objects" (some 0) with
  accessFlags := 49
  interfaces := #[]
  cf := some (fileOf pool13 42 #[] #[{ accessFlags := 2, nameIndex := 5, descriptorIndex := 6, attributes := #[] }, { accessFlags := 9, nameIndex := 45, descriptorIndex := 94, attributes := #[] }] 49 2 #[] #[])
  fields := #[]
  methods := #[k13m0, k13m1]
  instanceTypes := #[]
  staticTypes := #[]
  resolved := Array.replicate 184 none
  statics := none }

def pool14 : Array CpInfo := pool [(1, u "java/lang/Cloneable"), (0, .class_ 1), (0, u "java/lang/Object"), (0, .class_ 3)] 3

/-- java/lang/Cloneable -/
def k14 : Class := { plain "java/lang/Cloneable" (some 0) with
  accessFlags := 1537
  interfaces := #[]
  cf := some (fileOf pool14 2 #[] #[] 1537 4 #[] #[])
  fields := #[]
  methods := #[]
  instanceTypes := #[]
  staticTypes := #[]
  resolved := Array.replicate 8 none
  statics := none }

/-- the primitive byte -/
def k15 : Class := { plain "byte" none with kind := .primitive 'B', accessFlags := 0x411 }
/-- [B -/
def k16 : Class := { plain "[B" (some 0) with kind := .array 15 .byte, interfaces := #[14, 7], accessFlags := 1041 }

/-- the primitive int -/
def k17 : Class := { plain "int" none with kind := .primitive 'I', accessFlags := 0x411 }
/-- [I -/
def k18 : Class := { plain "[I" (some 0) with kind := .array 17 .int, interfaces := #[14, 7], accessFlags := 1041 }

/-- [Lcom/example/perekaz/perekaz/Finding; -/
def k19 : Class := { plain "[Lcom/example/perekaz/perekaz/Finding;" (some 0) with kind := .array 4 (.object "com/example/perekaz/perekaz/Finding"), interfaces := #[14, 7], accessFlags := 1041 }

/-- [[Lcom/example/perekaz/perekaz/Finding; -/
def k20 : Class := { plain "[[Lcom/example/perekaz/perekaz/Finding;" (some 0) with kind := .array 19 (.array (.object "com/example/perekaz/perekaz/Finding")), interfaces := #[14, 7], accessFlags := 1041 }

def heap : Heap := #[{ cls := 9, slots := #[.null, .null, .ref 1, .null], vm := .statics 9 },
  { cls := 9, slots := #[.null, .int 2, .int 0], vm := .none }]
def classes : Array Class := #[k0, k1, k2, k3, k4, k5, k6, k7, k8, k9, k10, k11, k12, k13, k14, k15, k16, k17, k18, k19, k20]
def interned : List (Array UInt16 × Addr) := []
def slotsUsed : Nat := 7
def theMethod : MethodId := ⟨1, 2⟩
def args0 : Array Value := #[.int 2, .int 3, .int 5, .int 1, .int 2]
def aboutOver (below : List Frame) : State where
  vm := { classes := classes, interned := interned.toArray }
  heap := heap
  slotsUsed := slotsUsed
  threads := #[{ frames := .invoking theMethod args0 :: below }]
def below0 : List Frame := [.native { method := ⟨0, 0⟩, args := #[] }]
def about1 : State := aboutOver below0
def p0 : Program := .bare "" "" ""
def e0 : Env := launch0.env 0 0 0
theorem w_frames : about1.frames = Frame.invoking theMethod args0 :: below0 := rfl
set_option maxRecDepth 65536 in
theorem w_args : argsFit about1.vm theMethod args0 = true := by decide +kernel
set_option maxRecDepth 65536 in
theorem w_heap : heapFits about1 = true := by decide +kernel
set_option maxRecDepth 65536 in
theorem w_runnable : about1.curStatus? = some .runnable := by decide +kernel
set_option maxRecDepth 65536 in
theorem w_alone : about1.alone = true := by decide +kernel
set_option maxRecDepth 65536 in
theorem w_named : about1.methodNamed? x = some theMethod := by decide +kernel
set_option maxRecDepth 65536 in
theorem w_hears : about1.hears theMethod below0 = true := by decide +kernel
set_option maxRecDepth 65536 in
theorem w_ripe : about1.ripe theMethod args0 below0 = true := by decide +kernel
theorem w_running : about1.status = .running := rfl
set_option maxRecDepth 65536 in
theorem w_room : about1.hasRoom e0.platform room_1 = true :=
  launch0.hasRoom_least _ room_1 (by decide +kernel) (by decide +kernel) (by decide +kernel) (by decide +kernel) (by decide +kernel) (by decide +kernel)
theorem allAtoms_all (ts : List Jvm.Cond) (a : Array Jvm.Value) (st : Jvm.State) : (allAtoms ts).before a st = ts.all (fun c => c.before a st) := by
  induction ts with
  | nil => rfl
  | cons c t ih =>
    show (Jvm.Cond.and c (allAtoms t)).before a st = _
    rw [Jvm.Cond.before_and, ih, List.all_cons]
def words1 : List Jvm.Cond := Jvm.Cond.code x code maxLocals ret :: tables_1
/-- a 'code' word, met by the world's own term for the bytes: nothing is compared byte by byte -/
theorem code_word {y : MethodName} {bytes : ByteArray} {mx : Nat} {rt : Option FieldType} {a : Array Value} {s : State} {m : MethodId} {meth : Method} {c : Code} (h1 : s.methodNamed? y = some m) (h2 : s.vm.method? m = some meth) (h3 : meth.code = some c) (h4 : c.code = bytes)
    (h5 : (c.maxLocals == mx && c.exceptionTable.isEmpty && decide (c.maxStack ≤ mostOperands) && decide (meth.sig.returnType = rt) && !meth.locks && decide (parseMethodDescriptor y.desc = some meth.sig)) = true) : (Jvm.Cond.code y bytes mx rt).before a s = true := by
  simp only [Bool.and_eq_true, beq_iff_eq, Bool.not_eq_true', decide_eq_true_eq] at h5
  obtain ⟨⟨⟨⟨⟨g1, g2⟩, g3⟩, g4⟩, g5⟩, g6⟩ := h5
  simp [Cond.before, Cond.holds, Cond.value, h1, h2, h3, h4, g1, g2, g3, g4, g5, g6]
def isCode : Jvm.Cond → Bool
  | .code _ _ _ _ => true
  | _ => false
theorem all_split {L : List Jvm.Cond} {P : Jvm.Cond → Bool} (h1 : L.all (fun c => isCode c || P c) = true) (h2 : ∀ c ∈ L.filter isCode, P c = true) : L.all P = true := by
  refine List.all_eq_true.mpr fun c hc => ?_
  have h := List.all_eq_true.mp h1 c hc
  rcases Bool.eq_false_or_eq_true (isCode c) with hi | hi
  · exact h2 c (List.mem_filter.mpr ⟨hc, hi⟩)
  · simpa [hi] using h
set_option maxRecDepth 65536 in
theorem w_c0 : (Jvm.Cond.code x code maxLocals ret).before args0 about1 = true := code_word (m := ⟨1, 2⟩) (meth := k1m2) (c := k1c2) (by decide +kernel) rfl rfl rfl (by decide +kernel)
set_option maxRecDepth 65536 in
theorem w_c1 : (Jvm.Cond.code ({ cls := "com/example/perekaz/perekaz/Rejections", name := "<init>", desc := "([I)V" } : Jvm.MethodName) prog_182_method_1_code (3 : Nat) (Option.none : Option Jvm.ClassFile.FieldType)).before args0 about1 = true := code_word (m := ⟨2, 0⟩) (meth := k2m0) (c := k2c0) (by decide +kernel) rfl rfl rfl (by decide +kernel)
set_option maxRecDepth 65536 in
theorem w_c2 : (Jvm.Cond.code ({ cls := "java/lang/Object", name := "<init>", desc := "()V" } : Jvm.MethodName) object_method_1_code (1 : Nat) (Option.none : Option Jvm.ClassFile.FieldType)).before args0 about1 = true := code_word (m := ⟨0, 0⟩) (meth := k0m0) (c := k0c0) (by decide +kernel) rfl rfl rfl (by decide +kernel)
set_option maxRecDepth 65536 in
theorem w_c3 : (Jvm.Cond.code ({ cls := "com/example/perekaz/perekaz/Finding", name := "<init>", desc := "(Lcom/example/perekaz/perekaz/Level;Ljava/lang/String;Ljava/lang/String;Ljava/lang/String;Ljava/lang/String;)V" } : Jvm.MethodName) prog_55_method_1_code (6 : Nat) (Option.none : Option Jvm.ClassFile.FieldType)).before args0 about1 = true := code_word (m := ⟨4, 0⟩) (meth := k4m0) (c := k4c0) (by decide +kernel) rfl rfl rfl (by decide +kernel)
set_option maxRecDepth 65536 in
theorem w_c4 : (Jvm.Cond.code ({ cls := "java/lang/Record", name := "<init>", desc := "()V" } : Jvm.MethodName) jdk_30_method_1_code (1 : Nat) (Option.none : Option Jvm.ClassFile.FieldType)).before args0 about1 = true := code_word (m := ⟨3, 0⟩) (meth := k3m0) (c := k3c0) (by decide +kernel) rfl rfl rfl (by decide +kernel)
set_option maxRecDepth 65536 in
theorem w_c5 : (Jvm.Cond.code ({ cls := "java/util/Objects", name := "requireNonNull", desc := "(Ljava/lang/Object;Ljava/lang/String;)Ljava/lang/Object;" } : Jvm.MethodName) jdk_31_method_11_code (2 : Nat) (Option.some (Jvm.ClassFile.FieldType.object "java/lang/Object"))).before args0 about1 = true := code_word (m := ⟨13, 1⟩) (meth := k13m1) (c := k13c1) (by decide +kernel) rfl rfl rfl (by decide +kernel)
set_option maxRecDepth 65536 in
theorem w_c6 : (Jvm.Cond.code ({ cls := "com/example/perekaz/perekaz/RejectionsAnyTransactionPinLaw", name := "mark", desc := "(Lcom/example/perekaz/perekaz/Rejections;IIIILcom/example/perekaz/perekaz/Finding;)V" } : Jvm.MethodName) method_2_code (6 : Nat) (Option.none : Option Jvm.ClassFile.FieldType)).before args0 about1 = true := code_word (m := ⟨1, 1⟩) (meth := k1m1) (c := k1c1) (by decide +kernel) rfl rfl rfl (by decide +kernel)
set_option maxRecDepth 65536 in
theorem w_c7 : (Jvm.Cond.code ({ cls := "com/example/perekaz/perekaz/Rejections", name := "rejectTransaction", desc := "(IILcom/example/perekaz/perekaz/Finding;)V" } : Jvm.MethodName) prog_182_method_4_code (4 : Nat) (Option.none : Option Jvm.ClassFile.FieldType)).before args0 about1 = true := code_word (m := ⟨2, 2⟩) (meth := k2m2) (c := k2c2) (by decide +kernel) rfl rfl rfl (by decide +kernel)
set_option maxRecDepth 65536 in
theorem w_c8 : (Jvm.Cond.code ({ cls := "com/example/perekaz/perekaz/Rejections", name := "anyTransaction", desc := "(I)Z" } : Jvm.MethodName) prog_182_method_9_code (6 : Nat) (Option.some Jvm.ClassFile.FieldType.boolean)).before args0 about1 = true := code_word (m := ⟨2, 3⟩) (meth := k2m3) (c := k2c3) (by decide +kernel) rfl rfl rfl (by decide +kernel)
set_option maxRecDepth 65536 in
theorem w_c9 : (Jvm.Cond.code ({ cls := "com/example/perekaz/perekaz/Rejections", name := "rejectBlock", desc := "(ILcom/example/perekaz/perekaz/Finding;)V" } : Jvm.MethodName) prog_182_method_3_code (3 : Nat) (Option.none : Option Jvm.ClassFile.FieldType)).before args0 about1 = true := code_word (m := ⟨2, 1⟩) (meth := k2m1) (c := k2c1) (by decide +kernel) rfl rfl rfl (by decide +kernel)
def codes1 : List Jvm.Cond := [Jvm.Cond.code x code maxLocals ret, Jvm.Cond.code ({ cls := "com/example/perekaz/perekaz/Rejections", name := "<init>", desc := "([I)V" } : Jvm.MethodName) prog_182_method_1_code (3 : Nat) (Option.none : Option Jvm.ClassFile.FieldType), Jvm.Cond.code ({ cls := "java/lang/Object", name := "<init>", desc := "()V" } : Jvm.MethodName) object_method_1_code (1 : Nat) (Option.none : Option Jvm.ClassFile.FieldType), Jvm.Cond.code ({ cls := "com/example/perekaz/perekaz/Finding", name := "<init>", desc := "(Lcom/example/perekaz/perekaz/Level;Ljava/lang/String;Ljava/lang/String;Ljava/lang/String;Ljava/lang/String;)V" } : Jvm.MethodName) prog_55_method_1_code (6 : Nat) (Option.none : Option Jvm.ClassFile.FieldType), Jvm.Cond.code ({ cls := "java/lang/Record", name := "<init>", desc := "()V" } : Jvm.MethodName) jdk_30_method_1_code (1 : Nat) (Option.none : Option Jvm.ClassFile.FieldType), Jvm.Cond.code ({ cls := "java/util/Objects", name := "requireNonNull", desc := "(Ljava/lang/Object;Ljava/lang/String;)Ljava/lang/Object;" } : Jvm.MethodName) jdk_31_method_11_code (2 : Nat) (Option.some (Jvm.ClassFile.FieldType.object "java/lang/Object")), Jvm.Cond.code ({ cls := "com/example/perekaz/perekaz/RejectionsAnyTransactionPinLaw", name := "mark", desc := "(Lcom/example/perekaz/perekaz/Rejections;IIIILcom/example/perekaz/perekaz/Finding;)V" } : Jvm.MethodName) method_2_code (6 : Nat) (Option.none : Option Jvm.ClassFile.FieldType), Jvm.Cond.code ({ cls := "com/example/perekaz/perekaz/Rejections", name := "rejectTransaction", desc := "(IILcom/example/perekaz/perekaz/Finding;)V" } : Jvm.MethodName) prog_182_method_4_code (4 : Nat) (Option.none : Option Jvm.ClassFile.FieldType), Jvm.Cond.code ({ cls := "com/example/perekaz/perekaz/Rejections", name := "anyTransaction", desc := "(I)Z" } : Jvm.MethodName) prog_182_method_9_code (6 : Nat) (Option.some Jvm.ClassFile.FieldType.boolean), Jvm.Cond.code ({ cls := "com/example/perekaz/perekaz/Rejections", name := "rejectBlock", desc := "(ILcom/example/perekaz/perekaz/Finding;)V" } : Jvm.MethodName) prog_182_method_3_code (3 : Nat) (Option.none : Option Jvm.ClassFile.FieldType)]
set_option maxRecDepth 65536 in
theorem codes_eq : words1.filter isCode = codes1 := rfl
theorem w_codes : ∀ c ∈ words1.filter isCode, c.before args0 about1 = true := by
  rw [codes_eq]
  intro c hc
  simp only [codes1, List.mem_cons, List.not_mem_nil, or_false] at hc
  rcases hc with rfl | rfl | rfl | rfl | rfl | rfl | rfl | rfl | rfl | rfl
  · exact w_c0
  · exact w_c1
  · exact w_c2
  · exact w_c3
  · exact w_c4
  · exact w_c5
  · exact w_c6
  · exact w_c7
  · exact w_c8
  · exact w_c9
set_option maxRecDepth 65536 in
theorem w_t1 : (words1.take 24).all (fun c => isCode c || c.before args0 about1) = true := by decide +kernel
set_option maxRecDepth 65536 in
theorem w_t2 : ((words1.drop 24).take 24).all (fun c => isCode c || c.before args0 about1) = true := by decide +kernel
set_option maxRecDepth 65536 in
theorem w_t3 : (((words1.drop 24).drop 24).take 24).all (fun c => isCode c || c.before args0 about1) = true := by decide +kernel
set_option maxRecDepth 65536 in
theorem w_t4 : (((words1.drop 24).drop 24).drop 24).all (fun c => isCode c || c.before args0 about1) = true := by decide +kernel
theorem w_tables : (allAtoms (Jvm.Cond.code x code maxLocals ret :: tables_1)).before args0 about1 = true := by
  rw [allAtoms_all]
  show words1.all (fun c => c.before args0 about1) = true
  refine all_split ?_ w_codes
  rw [← List.take_append_drop 24 words1, List.all_append, w_t1, ← List.take_append_drop 24 (words1.drop 24), List.all_append, w_t2, ← List.take_append_drop 24 ((words1.drop 24).drop 24), List.all_append, w_t3, w_t4]
  rfl
set_option maxRecDepth 65536 in
theorem w_case : (Jvm.Cond.and given_1 narrow_1).before args0 about1 = true := by decide +kernel
theorem w_applies : (headSpec (Jvm.Cond.code x code maxLocals ret :: tables_1) room_1).applies x e0.platform about1 = true :=
  (Spec.applies_iff w_frames).mpr ⟨w_running, w_runnable, w_alone, w_named, w_hears, w_ripe, w_room, w_tables⟩
theorem atStart : AtStart classFile x code maxLocals ret World_1 tables_1 room_1 Calls_1 rest_1 Pre_1 launch0 p0 e0 about1 theMethod args0 below0 :=
  ⟨lists_1, trivial, launch0.admits_env _ _ _, launch0.least_env, fairChoices_fair.cas, fairChoices_fair.clock, w_frames, w_args, w_heap, w_applies, trivial, trivial, w_case⟩
end start1
theorem witness_1 : WitnessClaimed_1 := ⟨start1.p0, start1.e0, start1.about1, start1.theMethod, start1.args0, start1.below0, start1.atStart⟩
end Jvm.Pilot.@@N@@
