import JvmDerived
import JvmDerived.Pilot.@@N@@Statement
import JvmDerived.Pilot.@@N@@Code
set_option linter.unusedVariables false
set_option linter.unusedSimpArgs false
namespace Jvm.Pilot.@@N@@
open Jvm Jvm.ClassFile Sem Op Lib Jvm.Free Jvm.Stand Jvm.LawKit Jvm.RoadKit Bundle Jvm.Pilot.@@N@@.Jvm.D
/-! THE WALK IN CONTINUATION FORM. Here: the run stands in T, its heap is h, nothing old was written. Go: from the state F the run ends as Q says. CM: a callee's contract. -/
def Here (p : Program) (l : Launch) (e : Env) (R : Room) (s : State) (m : MethodId) (args : Array Value) (below : List Frame) (meth : Method) (c : Code) (n0 : Nat) (T : State) (h : Heap) (k n : Nat) : Prop :=
  ∃ locs, Stand p l e R s m args below meth c T locs k n ∧ T.heap = h ∧ Fr n0 locs
def Fini (below : List Frame) (s : State) (n0 : Nat) (Q : Option Value → Heap → Prop) (K N : Nat) (t : State) (o : Outcome) : Prop :=
  t.status = .running ∧ Ended t below o ∧ ∃ v L, o = .returned v ∧ (Q v t.heap ∧ Fr n0 L) ∧ FrameEnd s o t L K N
def Go (p : Program) (e : Env) (below : List Frame) (Φ : State → Outcome → Prop) (F : State) : Prop :=
  ∃ t o, Steps p.tables e below F t ∧ Φ t o
def CM (l : Launch) (Z : State) (y : MethodName) (code : ByteArray) (maxL : Nat) (ret : Option FieldType) (R : Room) (as : Array Value) (h0 : Heap) (n0 : Nat) (Q : Option Value → Heap → Prop) : Prop :=
  ∀ ws, MetFree l y (head1 (Jvm.Cond.code y code maxL ret :: ws) R) (fun a U => a = as ∧ Z.Warmed39 U.vm ∧ U.heap = h0) (fun _ _ _ _ _ => True) (fun _ U o U' => ∃ v L, o = .returned v ∧ (Q v U'.heap ∧ Fr n0 L) ∧ FrameEnd U o U' L R.cells R.slots)
section Own
variable {p : Program} {l : Launch} {e : Env} {R : Room} {s : State} {m : MethodId} {args : Array Value} {below : List Frame} {meth : Method} {c : Code} {T : State} {h : Heap} {k n n0 K N : Nat} {Q : Option Value → Heap → Prop} {Z : State} {a0 : Array Value} {Φ : State → Outcome → Prop}
theorem Here.here (H : Here p l e R s m args below meth c n0 T h k n) : At T m c below := by obtain ⟨_, X, _, _⟩ := H; exact X.here
theorem Here.stand (H : Here p l e R s m args below meth c n0 T h k n) : ∃ locs, Stand p l e R s m args below meth c T locs k n ∧ T.heap = h ∧ Fr n0 locs := H
theorem Go.via {F F' : State} (st : ∀ t, Steps p.tables e below F' t → Steps p.tables e below F t) (g : Go p e below Φ F') : Go p e below Φ F := by
  obtain ⟨t, o, h1, r⟩ := g; exact ⟨t, o, st t h1, r⟩
theorem own_enter {y : MethodName} {code : ByteArray} {maxL : Nat} {ret : Option FieldType} {as : Array Value} {h0 : Heap} (hpl : plainFor y = true)
    (body : ∀ (p : Program) (e : Env) (s : State) (m : MethodId) (below : List Frame) (meth : Method) (c : Code) (T : State), p.tables.exec = Jvm.exec → c.code = code → c.maxLocals = maxL → s.vm.findClass y.cls = some m.cls → meth.name = y.name → Z.Warmed39 s.vm → meth.sig.returnType = ret → meth.locks = false → Here p l e R s m as below meth c n0 T h0 0 0 → Go p e below (Fini below s n0 Q R.cells R.slots) (T.setTop (entryFrame m as maxL))) :
    CM l Z y code maxL ret R as h0 n0 Q := by
  intro ws
  refine MetFree.of_bodySF hpl hisR ?_
  intro p e s m args below meth c s₁ Bd hml0 hP hK
  obtain ⟨rfl, hZ, hh⟩ := hP
  exact body p e s m below meth c s₁ Bd.exec Bd.bytes hml0 (findClass_of_methodNamed Bd.named) (name_of_methodNamed Bd.named Bd.method).1 hZ Bd.returns Bd.notSynchronized ⟨[], Stand.of_body Bd, by rw [← hh, Bd.state]; rfl, Fr.nil n0⟩
theorem Here.leave (H : Here p l e R s m args below meth c n0 T h k n) (hlk : meth.locks = false) {v : Option Value} (hv : meth.sig.returnType = none → v = none) (hQ : Q v h) (hk : k ≤ K) (hn : n ≤ N) {F : State}
    (st : ∀ fs, (∀ (f : JFrame) (acts : List Action), f.method = m → f.locked = none → f.entered = [] → (doReturn e (T.setTop f) acts v).1 = T.setFrames fs) → Steps p.tables e below F (T.setFrames fs)) : Go p e below (Fini below s n0 Q K N) F := by
  obtain ⟨locs, X, rfl, F0⟩ := H
  obtain ⟨fs, hr, hrun, hended, hW, hsame⟩ := X.leave (v := v) hv hlk
  exact ⟨_, _, st fs hr, hrun, hended, v, locs, rfl, ⟨hQ, F0⟩, ⟨_, rfl⟩, hW, hsame.mono hk hn⟩
theorem own_retV (H : Here p l e R s m args below meth c n0 T h k n) (hx : p.tables.exec = Jvm.exec) (hlk : meth.locks = false) (hret : meth.sig.returnType = none) {pc : Nat} {Ls : Array Slot} (hd : decode c.code pc = .ok (.return_, 1)) (hQ : Q none h) (hk : k ≤ K) (hn : n ≤ N) :
    Go p e below (Fini below s n0 Q K N) (T.setTop (mkF m pc Ls [])) := by
  obtain ⟨locs, X, r1, r2⟩ := H.stand
  exact H.leave hlk (fun _ => rfl) hQ hk hn fun fs hr => X.returnOut hx hret hd hr
theorem own_retI (H : Here p l e R s m args below meth c n0 T h k n) (hx : p.tables.exec = Jvm.exec) (hlk : meth.locks = false) (hret : meth.sig.returnType = some .int) {pc : Nat} {Ls : Array Slot} {z : Int32} {rest : List Value} (hd : decode c.code pc = .ok (.ireturn, 1)) (hQ : Q (some (.int z)) h) (hk : k ≤ K) (hn : n ≤ N) :
    Go p e below (Fini below s n0 Q K N) (T.setTop (mkF m pc Ls (.int z :: rest))) := by
  obtain ⟨locs, X, r1, r2⟩ := H.stand
  exact H.leave hlk (fun q => by rw [hret] at q; cases q) hQ hk hn fun fs hr => retOut X hx hret rfl (Or.inl ⟨rfl, Or.inl rfl, z, rfl⟩) hd hr
theorem own_retN (H : Here p l e R s m args below meth c n0 T h k n) (hx : p.tables.exec = Jvm.exec) (hlk : meth.locks = false) {t : FieldType} (ht : t = .boolean ∨ t = .byte ∨ t = .char ∨ t = .short) (hret : meth.sig.returnType = some t) {pc : Nat} {Ls : Array Slot} {z : Int32} {rest : List Value} (hd : decode c.code pc = .ok (.ireturn, 1)) (hQ : Q (some (.int (nar t z))) h) (hk : k ≤ K) (hn : n ≤ N) :
    Go p e below (Fini below s n0 Q K N) (T.setTop (mkF m pc Ls (.int z :: rest))) := by
  obtain ⟨locs, X, r1, r2⟩ := H.stand
  exact H.leave hlk (fun q => by rw [hret] at q; cases q) hQ hk hn fun fs hr => retN X hx hret ht hd hr
theorem own_retL (H : Here p l e R s m args below meth c n0 T h k n) (hx : p.tables.exec = Jvm.exec) (hlk : meth.locks = false) (hret : meth.sig.returnType = some .long) {pc : Nat} {Ls : Array Slot} {z : Int64} {rest : List Value} (hd : decode c.code pc = .ok (.lreturn, 1)) (hQ : Q (some (.long z)) h) (hk : k ≤ K) (hn : n ≤ N) :
    Go p e below (Fini below s n0 Q K N) (T.setTop (mkF m pc Ls (.long z :: rest))) := by
  obtain ⟨locs, X, r1, r2⟩ := H.stand
  exact H.leave hlk (fun q => by rw [hret] at q; cases q) hQ hk hn fun fs hr => retOut X hx hret rfl (Or.inr (Or.inl ⟨rfl, rfl, z, rfl⟩)) hd hr
theorem own_retA (H : Here p l e R s m args below meth c n0 T h k n) (hx : p.tables.exec = Jvm.exec) (hlk : meth.locks = false) {t : FieldType} (ht : t.isReference = true) (hret : meth.sig.returnType = some t) {pc : Nat} {Ls : Array Slot} {w : Value} {rest : List Value} (hn' : narrow t w = w) (hw : w.isRef = true) (hd : decode c.code pc = .ok (.areturn, 1)) (hQ : Q (some w) h) (hk : k ≤ K) (hn : n ≤ N) :
    Go p e below (Fini below s n0 Q K N) (T.setTop (mkF m pc Ls (w :: rest))) := by
  obtain ⟨locs, X, r1, r2⟩ := H.stand
  exact H.leave hlk (fun q => by rw [hret] at q; cases q) hQ hk hn fun fs hr => retOut X hx hret hn' (Or.inr (Or.inr (Or.inr (Or.inr ⟨rfl, ht, hw⟩)))) hd hr
/-! calls -/
theorem own_callS (H : Here p l e R s m args below meth c n0 T h k n) (hx : p.tables.exec = Jvm.exec) (hZ : Z.Warmed39 s.vm) {own : String} {index : Nat} {y : MethodName} {bytes : ByteArray} {maxL : Nat} {ret : Option FieldType} {rm : Room} {argsL rest : List Value} {Q' : Option Value → Heap → Prop}
    (hown : s.vm.findClass own = some m.cls) (w1 : (Jvm.Cond.methodLink own index y).before a0 Z = true) (w2 : (Jvm.Cond.static y).before a0 Z = true) (w3 : (Jvm.Cond.initialized y.cls).before a0 Z = true) (w4 : (Jvm.Cond.code y bytes maxL ret).before a0 Z = true)
    (hy : y.cls ≠ "java/lang/invoke/MethodHandle" ∧ y.cls ≠ "java/lang/invoke/VarHandle") (hM : CM l Z y bytes maxL ret rm argsL.toArray h n0 Q')
    {g : JFrame} (hg : g.method = m) (hsize : g.locals.size = c.maxLocals) (hlen : ∀ sig, parseMethodDescriptor y.desc = some sig → argsL.length = sig.parameters.length)
    (hstack : g.stack = argsL.reverse ++ rest) (W : Nat) (hW : 2 * g.monitorRoom + (rest.map fun v => v.category).sum ≤ W) (hd : decode c.code g.pc = .ok (.invokestatic index, 3))
    (hf : rm.frames + 1 ≤ R.frames) (hl : W + (maxL + 11) + rm.locals ≤ R.locals) (hc : k + rm.cells ≤ R.cells) (hs : n + rm.slots ≤ R.slots)
    (next : ∀ v T' h', Q' v h' → Here p l e R s m args below meth c n0 T' h' (k + rm.cells) (n + rm.slots) → Go p e below Φ (T'.setTop { g with pc := g.pc + 3, stack := v.toList ++ rest })) :
    Go p e below Φ (T.setTop g) := by
  obtain ⟨locs, X, rfl, F⟩ := H
  obtain ⟨v, _, ⟨T3, L3, k3, n3⟩, -, X3, ⟨Lc3, hQ3, l3, y3, z3⟩, st3⟩ := Jvm.LawKit.callS X hx (y := y) hown (mvT hZ w1) (mvT hZ w2) (mvT hZ w3) (mvT hZ w4) hy (backOf (W := W) (Q := fun v h L => Q' v h ∧ Fr n0 L) (hM []) hZ w4 w3 hf hl) (g := g) hg hsize (argsL := argsL) (rest := rest) hlen hstack hW hd (fun _ _ => ⟨rfl, rfl, hc, hs⟩)
  dsimp only [Pt.U, Pt.locs, Pt.cells, Pt.slots] at X3 l3 y3 z3 st3 hQ3
  subst l3 y3 z3
  exact Go.via st3 (next v T3 T3.heap hQ3.1 ⟨_, X3, rfl, F.app hQ3.2⟩)
theorem own_callI (H : Here p l e R s m args below meth c n0 T h k n) (hx : p.tables.exec = Jvm.exec) (hZ : Z.Warmed39 s.vm) {own : String} {index : Nat} {y : MethodName} {bytes : ByteArray} {maxL : Nat} {rm : Room} {a : Addr} {argsL rest : List Value} {Q' : Option Value → Heap → Prop}
    (hy1 : y.name = "<init>") (hown : s.vm.findClass own = some m.cls) (w1 : (Jvm.Cond.methodLink own index y).before a0 Z = true) (w2 : (Jvm.Cond.instanceMethod y).before a0 Z = true) (w3 : (Jvm.Cond.initialized y.cls).before a0 Z = true) (w4 : (Jvm.Cond.code y bytes maxL none).before a0 Z = true)
    (hy : y.cls ≠ "java/lang/invoke/MethodHandle" ∧ y.cls ≠ "java/lang/invoke/VarHandle") (hM : CM l Z y bytes maxL none rm (Value.ref a :: argsL).toArray h n0 Q')
    {g : JFrame} (hg : g.method = m) (hsize : g.locals.size = c.maxLocals) (hlen : ∀ sig, parseMethodDescriptor y.desc = some sig → argsL.length = sig.parameters.length)
    (hstack : g.stack = argsL.reverse ++ .ref a :: rest) (W : Nat) (hW : 2 * g.monitorRoom + (rest.map fun v => v.category).sum ≤ W) (hd : decode c.code g.pc = .ok (.invokespecial index, 3))
    (hf : rm.frames + 1 ≤ R.frames) (hl : W + (maxL + 11) + rm.locals ≤ R.locals) (hc : k + rm.cells ≤ R.cells) (hs : n + rm.slots ≤ R.slots)
    (next : ∀ v T' h', Q' v h' → Here p l e R s m args below meth c n0 T' h' (k + rm.cells) (n + rm.slots) → Go p e below Φ (T'.setTop { g with pc := g.pc + 3, stack := v.toList ++ rest })) :
    Go p e below Φ (T.setTop g) := by
  obtain ⟨locs, X, rfl, F⟩ := H
  obtain ⟨v, _, ⟨T3, L3, k3, n3⟩, -, X3, ⟨Lc3, hQ3, l3, y3, z3⟩, st3⟩ := X.specialBack hx (y := y) hy1 hown (mvT hZ w1) (mvT hZ w2) (mvT hZ w4) hy (backOf (W := W) (Q := fun v h L => Q' v h ∧ Fr n0 L) (hM []) hZ w4 w3 hf hl) (g := g) hg hsize (Steps.refl _) (a := a) (argsL := argsL) (rest := rest) hlen hstack hW hd (fun _ _ => ⟨rfl, rfl, hc, hs⟩)
  dsimp only [Pt.U, Pt.locs, Pt.cells, Pt.slots] at X3 l3 y3 z3 st3 hQ3
  subst l3 y3 z3
  exact Go.via (fun t q => st3.trans q) (next v T3 T3.heap hQ3.1 ⟨_, X3, rfl, F.app hQ3.2⟩)
theorem own_callV (H : Here p l e R s m args below meth c n0 T h k n) (hx : p.tables.exec = Jvm.exec) (hZ : Z.Warmed39 s.vm) {own C : String} {index : Nat} {y : MethodName} {bytes : ByteArray} {maxL : Nat} {ret : Option FieldType} {rm : Room} {a : Addr} {argsL rest : List Value} {Q' : Option Value → Heap → Prop}
    (hown : s.vm.findClass own = some m.cls) (w1 : (Jvm.Cond.methodLink own index y).before a0 Z = true) (w2 : (Jvm.Cond.declares y).before a0 Z = true) (w3 : (Jvm.Cond.selects C y y).before a0 Z = true) (w4 : (Jvm.Cond.instanceMethod y).before a0 Z = true) (w5 : (Jvm.Cond.initialized y.cls).before a0 Z = true) (w6 : (Jvm.Cond.code y bytes maxL ret).before a0 Z = true)
    (hy : y.cls ≠ "java/lang/invoke/MethodHandle" ∧ y.cls ≠ "java/lang/invoke/VarHandle") (hE : Exa Z h a C) (hM : CM l Z y bytes maxL ret rm (Value.ref a :: argsL).toArray h n0 Q')
    {g : JFrame} (hg : g.method = m) (hsize : g.locals.size = c.maxLocals) (hlen : ∀ sig, parseMethodDescriptor y.desc = some sig → argsL.length = sig.parameters.length)
    (hstack : g.stack = argsL.reverse ++ .ref a :: rest) (W : Nat) (hW : 2 * g.monitorRoom + (rest.map fun v => v.category).sum ≤ W) (hd : decode c.code g.pc = .ok (.invokevirtual index, 3))
    (hf : rm.frames + 1 ≤ R.frames) (hl : W + (maxL + 11) + rm.locals ≤ R.locals) (hc : k + rm.cells ≤ R.cells) (hs : n + rm.slots ≤ R.slots)
    (next : ∀ v T' h', Q' v h' → Here p l e R s m args below meth c n0 T' h' (k + rm.cells) (n + rm.slots) → Go p e below Φ (T'.setTop { g with pc := g.pc + 3, stack := v.toList ++ rest })) :
    Go p e below Φ (T.setTop g) := by
  obtain ⟨locs, X, rfl, F⟩ := H
  obtain ⟨cq, kq, qa, qb, qc⟩ := isOf hZ rfl hE
  obtain ⟨v, _, ⟨T3, L3, k3, n3⟩, -, X3, ⟨Lc3, hQ3, l3, y3, z3⟩, st3⟩ := X.virtualBack hx (y := y) (z := y) hown (mvT hZ w1) (mvT hZ w2) (notFace_of_selects (args := #[]) (mvT hZ w3)) (mvT hZ w3) (mvT hZ w4) hy (backOf (W := W) (Q := fun v h L => Q' v h ∧ Fr n0 L) (hM []) hZ w6 w5 hf hl) qa qc (g := g) hg hsize (Steps.refl _) (argsL := argsL) (rest := rest) hlen hstack hW hd (fun _ _ => ⟨rfl, rfl, hc, hs⟩)
  dsimp only [Pt.U, Pt.locs, Pt.cells, Pt.slots] at X3 l3 y3 z3 st3 hQ3
  subst l3 y3 z3
  exact Go.via (fun t q => st3.trans q) (next v T3 T3.heap hQ3.1 ⟨_, X3, rfl, F.app hQ3.2⟩)
theorem own_initO (H : Here p l e R s m args below meth c n0 T h k n) (hx : p.tables.exec = Jvm.exec) (hZ : Z.Warmed39 s.vm) {own : String} {idx : Nat} (hown : s.vm.findClass own = some m.cls) (w1 : (Jvm.Cond.methodLink own idx Lib.objectInit).before a0 Z = true) (w2 : (Jvm.Cond.instanceMethod Lib.objectInit).before a0 Z = true)
    (w3 : (Jvm.Cond.code Lib.objectInit object_method_1_code 1 none).before a0 Z = true) {g : JFrame} (hg : g.method = m) (hsize : g.locals.size = c.maxLocals) {a : Addr} {rest : List Value} (hs : g.stack = .ref a :: rest) (hd : decode c.code g.pc = .ok (.invokespecial idx, 3))
    (hf : 1 ≤ R.frames) (W : Nat) (hW : 2 * g.monitorRoom + (rest.map fun v => v.category).sum ≤ W) (hl : W + 12 ≤ R.locals)
    (next : ∀ T', Here p l e R s m args below meth c n0 T' h k n → Go p e below Φ (T'.setTop { g with pc := g.pc + 3, stack := rest })) : Go p e below Φ (T.setTop g) := by
  obtain ⟨locs, X, r1, r2⟩ := H.stand
  obtain ⟨T', X', e', st⟩ := initO X hx hZ hown w1 w2 w3 r1 hg hsize hs hd hf hW hl
  exact Go.via st (next T' ⟨_, X', e', r2⟩)
/-! fields, objects -/
theorem own_getF (H : Here p l e R s m args below meth c n0 T h k n) (hx : p.tables.exec = Jvm.exec) (hZ : Z.Warmed39 s.vm) {own O nm d : String} {index : Nat} (hown : s.vm.findClass own = some m.cls) (w : (Jvm.Cond.fieldLink own index O nm d).before a0 Z = true)
    {a : Addr} {v : Value} (F : Fld Z h a O nm d v) {g : JFrame} (hg : g.method = m) {rest : List Value} (hs : g.stack = .ref a :: rest) (hd : decode c.code g.pc = .ok (.getfield index, 3))
    (next : ∀ T', Here p l e R s m args below meth c n0 T' h k n → Go p e below Φ (T'.setTop { g with pc := g.pc + 3, stack := v :: rest })) : Go p e below Φ (T.setTop g) := by
  obtain ⟨locs, X, r1, r2⟩ := H.stand
  obtain ⟨T', X', e', st⟩ := getF X hx hZ hown (host := "") (Or.inl w) Via.refl r1 F hg hs hd
  exact Go.via st (next T' ⟨_, X', e', r2⟩)
theorem own_putF (H : Here p l e R s m args below meth c n0 T h k n) (hx : p.tables.exec = Jvm.exec) (hZ : Z.Warmed39 s.vm) {own O nm d C : String} {index kk : Nat} {ty : FieldType} (hown : s.vm.findClass own = some m.cls) (w : (Jvm.Cond.fieldLink own index O nm d).before a0 Z = true)
    {a : Addr} {v old : Value} (F : Fld Z h a O nm d old) (E : Exa Z h a C) (L : (Jvm.Cond.lays C O nm d).before a0 Z = true ∨ ((Jvm.Cond.laysFinal C O nm d).before a0 Z = true ∧ own = O ∧ meth.name = "<init>")) (wi : (Jvm.Cond.instantiable C kk).before a0 Z = true) (ha : n0 ≤ a)
    (hty : parseFieldDescriptor d = some ty) (hn : narrow ty v = v) (hf : fits ty v = true) {g : JFrame} (hg : g.method = m) {rest : List Value} (hs : g.stack = v :: .ref a :: rest) (hd : decode c.code g.pc = .ok (.putfield index, 3))
    (next : ∀ T' h', Wr h h' a (Jvm.RoadKit.slotOf Z O nm d) v → Here p l e R s m args below meth c n0 T' h' k n → Go p e below Φ (T'.setTop { g with pc := g.pc + 3, stack := rest })) : Go p e below Φ (T.setTop g) := by
  obtain ⟨locs, X, r1, r2⟩ := H.stand
  obtain ⟨T', h', X', e', W, st⟩ := putF X hx hZ hown (host := "") (Or.inl w) Via.refl r1 F E L wi hty hn hf hg hs hd
  exact Go.via st (next T' h' W ⟨_, X', e', Fr.snoc X' r2 ha⟩)
theorem own_putFN (H : Here p l e R s m args below meth c n0 T h k n) (hx : p.tables.exec = Jvm.exec) (hZ : Z.Warmed39 s.vm) {own O nm d C : String} {index kk : Nat} {ty : FieldType} (hown : s.vm.findClass own = some m.cls) (w : (Jvm.Cond.fieldLink own index O nm d).before a0 Z = true)
    {a : Addr} {v v' old : Value} (F : Fld Z h a O nm d old) (E : Exa Z h a C) (L : (Jvm.Cond.lays C O nm d).before a0 Z = true ∨ ((Jvm.Cond.laysFinal C O nm d).before a0 Z = true ∧ own = O ∧ meth.name = "<init>")) (wi : (Jvm.Cond.instantiable C kk).before a0 Z = true) (ha : n0 ≤ a)
    (hty : parseFieldDescriptor d = some ty) (hn : narrow ty v = v') (hf : fits ty v' = true) {g : JFrame} (hg : g.method = m) {rest : List Value} (hs : g.stack = v :: .ref a :: rest) (hd : decode c.code g.pc = .ok (.putfield index, 3))
    (next : ∀ T' h', Wr h h' a (Jvm.RoadKit.slotOf Z O nm d) v' → Here p l e R s m args below meth c n0 T' h' k n → Go p e below Φ (T'.setTop { g with pc := g.pc + 3, stack := rest })) : Go p e below Φ (T.setTop g) := by
  obtain ⟨locs, X, r1, r2⟩ := H.stand
  obtain ⟨T', h', X', e', W, st⟩ := putFN X hx hZ hown w Via.refl r1 F E L wi hty hn hf hg hs hd
  exact Go.via st (next T' h' W ⟨_, X', e', Fr.snoc X' r2 ha⟩)
theorem own_newO (H : Here p l e R s m args below meth c n0 T h k n) (hx : p.tables.exec = Jvm.exec) (hZ : Z.Warmed39 s.vm) {own C : String} {index sl : Nat} (hown : s.vm.findClass own = some m.cls) (w : (Jvm.Cond.classLink own index C).before a0 Z = true) (wi : (Jvm.Cond.instantiable C sl).before a0 Z = true) (wz : (Jvm.Cond.initialized C).before a0 Z = true)
    {g : JFrame} (hg : g.method = m) (hd : decode c.code g.pc = .ok (.new index, 3)) (hc : k + 1 ≤ R.cells) (hl : n + sl ≤ R.slots)
    (next : ∀ T' h' a, a = h.size → Ext h h' → Exa Z h' a C → (∀ {O nm d : String} {ty : FieldType}, Laid Z a0 C O nm d → parseFieldDescriptor d = some ty → Fld Z h' a O nm d (defaultValue ty)) → Here p l e R s m args below meth c n0 T' h' (k + 1) (n + sl) → Go p e below Φ (T'.setTop { g with pc := g.pc + 3, stack := .ref a :: g.stack })) : Go p e below Φ (T.setTop g) := by
  obtain ⟨locs, X, r1, r2⟩ := H.stand
  obtain ⟨T', h', X', e', E, A, D, -, st⟩ := newO X hx hZ hown w wi wz r1 hg hd hc hl
  exact Go.via st (next T' h' _ rfl E A D ⟨_, X', e', r2⟩)
/-! arrays -/
theorem own_newP (H : Here p l e R s m args below meth c n0 T h k n) (hx : p.tables.exec = Jvm.exec) (hZ : Z.Warmed39 s.vm) {aty : ArrayType} (w : (Jvm.Cond.arrayClass (newarray.typeOf aty)).before a0 Z = true) {g : JFrame} (hg : g.method = m) (hd : decode c.code g.pc = .ok (.newarray aty, 2)) {z : Int32} {rest : List Value} (hs : g.stack = .int z :: rest)
    (hn : ¬ z < 0) (cap : Nat) (hcap : z.toNatClampNeg ≤ cap) (hb : cap * 8 ≤ 536870912) (hc : k + 1 ≤ R.cells) (hl : n + cap ≤ R.slots)
    (next : ∀ T' h' a cA, a = h.size → Ext h h' → Arr Z h' a (newA cA (newarray.typeOf aty) z) (newarray.typeOf aty) → Here p l e R s m args below meth c n0 T' h' (k + 1) (n + cap) → Go p e below Φ (T'.setTop { g with pc := g.pc + 2, stack := .ref a :: rest })) : Go p e below Φ (T.setTop g) := by
  obtain ⟨locs, X, r1, r2⟩ := H.stand
  obtain ⟨T', h', cA, X', e', E, A, st⟩ := newP X hx hZ w r1 hg hd hs hn hcap hb hc hl
  exact Go.via st (next T' h' _ cA rfl E A ⟨_, X', e', r2⟩)
theorem own_stI (H : Here p l e R s m args below meth c n0 T h k n) (hx : p.tables.exec = Jvm.exec) (hZ : Z.Warmed39 s.vm) {a : Addr} {cl : Cell} (A : Arr Z h a cl .int) {j x : Int32} (hj : ¬ (j < 0 ∨ cl.slots.size ≤ j.toNatClampNeg)) (ha : n0 ≤ a) {g : JFrame} (hg : g.method = m) {rest : List Value} (hs : g.stack = .int x :: .int j :: .ref a :: rest) (hd : decode c.code g.pc = .ok (.iastore, 1))
    (next : ∀ T' h', Wr h h' a j.toNatClampNeg (.int x) → Here p l e R s m args below meth c n0 T' h' k n → Go p e below Φ (T'.setTop { g with pc := g.pc + 1, stack := rest })) : Go p e below Φ (T.setTop g) := by
  obtain ⟨locs, X, r1, r2⟩ := H.stand
  obtain ⟨T', h', X', e', W, st⟩ := stI X hx hZ r1 A hj hg hs hd
  exact Go.via st (next T' h' W ⟨_, X', e', Fr.snoc X' r2 ha⟩)
theorem own_stB (H : Here p l e R s m args below meth c n0 T h k n) (hx : p.tables.exec = Jvm.exec) (hZ : Z.Warmed39 s.vm) {a : Addr} {cl : Cell} (A : Arr Z h a cl .byte) {j x : Int32} (hj : ¬ (j < 0 ∨ cl.slots.size ≤ j.toNatClampNeg)) (ha : n0 ≤ a) {g : JFrame} (hg : g.method = m) {rest : List Value} (hs : g.stack = .int x :: .int j :: .ref a :: rest) (hd : decode c.code g.pc = .ok (.bastore, 1))
    (next : ∀ T' h', Wr h h' a j.toNatClampNeg (.int (nar .byte x)) → Here p l e R s m args below meth c n0 T' h' k n → Go p e below Φ (T'.setTop { g with pc := g.pc + 1, stack := rest })) : Go p e below Φ (T.setTop g) := by
  obtain ⟨locs, X, r1, r2⟩ := H.stand
  obtain ⟨T', h', X', e', W, st⟩ := stB X hx hZ r1 A hj hg hs hd
  exact Go.via st (next T' h' W ⟨_, X', e', Fr.snoc X' r2 ha⟩)
theorem own_len (H : Here p l e R s m args below meth c n0 T h k n) (hx : p.tables.exec = Jvm.exec) (hZ : Z.Warmed39 s.vm) {a : Addr} {cl : Cell} {ty : FieldType} (A : Arr Z h a cl ty) {g : JFrame} (hg : g.method = m) {rest : List Value} (hs : g.stack = .ref a :: rest) (hd : decode c.code g.pc = .ok (.arraylength, 1))
    (next : Go p e below Φ (T.setTop { g with pc := g.pc + 1, stack := .int cl.slots.size.toInt32 :: rest })) : Go p e below Φ (T.setTop g) := by
  obtain ⟨locs, X, r1, r2⟩ := H.stand
  exact Go.via (fun t q => X.arraylength hx (by rw [r1]; exact A.1) (State.isArrayOf_alike hZ.alike A.2.1) hg hs hd t q) next
theorem own_ldI (H : Here p l e R s m args below meth c n0 T h k n) (hx : p.tables.exec = Jvm.exec) (hZ : Z.Warmed39 s.vm) {a : Addr} {cl : Cell} (A : Arr Z h a cl .int) {j : Int32} {v : Value} (hj : ¬ (j < 0 ∨ cl.slots.size ≤ j.toNatClampNeg)) (hv : cl.slots[j.toNatClampNeg]? = some v) {g : JFrame} (hg : g.method = m) {rest : List Value} (hs : g.stack = .int j :: .ref a :: rest) (hd : decode c.code g.pc = .ok (.iaload, 1))
    (next : Go p e below Φ (T.setTop { g with pc := g.pc + 1, stack := v :: rest })) : Go p e below Φ (T.setTop g) := by
  obtain ⟨locs, X, r1, r2⟩ := H.stand
  exact Go.via (fun t q => X.iaload hx (by rw [r1]; exact A.1) (State.isArrayOf_alike hZ.alike A.2.1) A.2.2 hj hv hg hs hd t q) next
theorem own_ldB (H : Here p l e R s m args below meth c n0 T h k n) (hx : p.tables.exec = Jvm.exec) (hZ : Z.Warmed39 s.vm) {a : Addr} {cl : Cell} (A : Arr Z h a cl .byte) {j : Int32} {v : Value} (hj : ¬ (j < 0 ∨ cl.slots.size ≤ j.toNatClampNeg)) (hv : cl.slots[j.toNatClampNeg]? = some v) {g : JFrame} (hg : g.method = m) {rest : List Value} (hs : g.stack = .int j :: .ref a :: rest) (hd : decode c.code g.pc = .ok (.baload, 1))
    (next : Go p e below Φ (T.setTop { g with pc := g.pc + 1, stack := v :: rest })) : Go p e below Φ (T.setTop g) := by
  obtain ⟨locs, X, r1, r2⟩ := H.stand
  exact Go.via (fun t q => X.baloadBytes hx (by rw [r1]; exact A.1) (State.isArrayOf_alike hZ.alike A.2.1) A.2.2 hj hv hg hs hd t q) next
/-! arrays of ints by a function of the place -/
def upd (B : Nat → Int32) (j : Nat) (v : Int32) : Nat → Int32 := fun i => if i = j then v else B i
theorem upd_hit {B : Nat → Int32} {j : Nat} {v : Int32} : upd B j v j = v := if_pos rfl
theorem upd_miss {B : Nat → Int32} {i j : Nat} {v : Int32} (q : i ≠ j) : upd B j v i = B i := if_neg q
def Ab (Z : State) (h : Heap) (a : Addr) (ty : FieldType) (n : Nat) (B : Nat → Int32) : Prop := ∃ c : Cell, Arr Z h a c ty ∧ c.slots.size = n ∧ ∀ i, i < n → c.slots[i]? = some (.int (B i))
theorem Ab.lt {a : Addr} {ty : FieldType} {B : Nat → Int32} (F : Ab Z h a ty n B) : a < h.size := by obtain ⟨c, A, -⟩ := F; exact A.lt
theorem Ab.ext {h' : Heap} {a : Addr} {ty : FieldType} {B : Nat → Int32} (F : Ab Z h a ty n B) (E : Ext h h') : Ab Z h' a ty n B := by obtain ⟨c, A, r⟩ := F; exact ⟨c, A.ext E, r⟩
theorem Ab.other {h' : Heap} {a b : Addr} {sl : Nat} {v : Value} {ty : FieldType} {B : Nat → Int32} (F : Ab Z h b ty n B) (W : Wr h h' a sl v) (q : b ≠ a) : Ab Z h' b ty n B := by obtain ⟨c, A, r⟩ := F; exact ⟨c, A.other W q, r⟩
theorem Ab.keep {h' : Heap} {a : Addr} {ws : List Addr} {ty : FieldType} {B : Nat → Int32} (F : Ab Z h a ty n B) (Kp : Keep h h' ws) (q : a ∉ ws) : Ab Z h' a ty n B := by obtain ⟨c, A, r⟩ := F; exact ⟨c, ⟨Kp.2.1 a c A.1 q, A.2⟩, r⟩
theorem Ab.set {h' : Heap} {a : Addr} {j : Nat} {v : Int32} {ty : FieldType} {B : Nat → Int32} (F : Ab Z h a ty n B) (W : Wr h h' a j (.int v)) : Ab Z h' a ty n (upd B j v) := by
  obtain ⟨c, A, S, G⟩ := F
  obtain ⟨c', q1, -, -, q4, -, q6, q7⟩ := wr_at W A.1
  obtain ⟨rfl, q8, -⟩ := q7 rfl
  refine ⟨_, A.same W, q4.trans S, fun i hi => ?_⟩
  by_cases q : i = j
  · subst q; rw [q8, upd_hit]
  · rw [q6 i q, G i hi, upd_miss q]
theorem Ab.new {a : Addr} {ty : FieldType} {kk : ClassId} {z : Int32} (A : Arr Z h a (newA kk ty z) ty) (hz : z.toNatClampNeg = n) (hd : defaultValue ty = .int 0) : Ab Z h a ty n (fun _ => 0) := by
  refine ⟨_, A, (sz_new _ _ _).trans hz, fun i hi => ?_⟩
  have hz' : z.toNatClampNeg < 2 ^ 31 := by
    by_cases q : z < 0
    · have : z.toNatClampNeg ≤ 0 := by rw [Int32.lt_iff_toInt_lt] at q; have e0 : (0 : Int32).toInt = 0 := rfl; have : z.toNatClampNeg = z.toInt.toNat := rfl; omega
      omega
    · exact (back32 q).2
  have e1 : i.toInt32.toNatClampNeg = i := by
    have q := idx_in (i := i) (n := i + 1) (Nat.lt_succ_self i) (by omega)
    have q2 : i.toInt32.toInt = i := len_toInt (by omega)
    have := nat_of (j := i.toInt32) (fun z => q (Or.inl z))
    omega
  have q0 : ¬ (i.toInt32 < 0 ∨ z.toNatClampNeg ≤ i.toInt32.toNatClampNeg) := by
    rw [hz, e1]
    intro q
    rcases q with q | q
    · have q3 : i.toInt32.toInt = i := len_toInt (by omega)
      rw [Int32.lt_iff_toInt_lt, q3] at q
      have e0 : (0 : Int32).toInt = 0 := rfl
      omega
    · omega
  have g := get_new (cA := kk) (ty := ty) (n := z) (k := i.toInt32) q0
  rw [e1] at g
  rw [g, hd]
theorem own_idx {J : Int32} {j : Nat} (e : J.toInt = (j : Int)) : ¬ J < 0 ∧ J.toNatClampNeg = j := by
  have h0 : ¬ J < 0 := by rw [Int32.lt_iff_toInt_lt]; have e0 : (0 : Int32).toInt = 0 := rfl; omega
  have := nat_of h0
  exact ⟨h0, by omega⟩
theorem own_in {c : Cell} {J : Int32} {j N' : Nat} (e : J.toInt = (j : Int)) (S : c.slots.size = N') (hj : j < N') : ¬ (J < 0 ∨ c.slots.size ≤ J.toNatClampNeg) := by
  obtain ⟨q1, q2⟩ := own_idx e
  rw [q2, S]; intro q; rcases q with q | q
  · exact q1 q
  · omega
theorem own_newA (H : Here p l e R s m args below meth c n0 T h k n) (hx : p.tables.exec = Jvm.exec) (hZ : Z.Warmed39 s.vm) {aty : ArrayType} (w : (Jvm.Cond.arrayClass (newarray.typeOf aty)).before a0 Z = true) {g : JFrame} (hg : g.method = m) (hd : decode c.code g.pc = .ok (.newarray aty, 2)) {z : Int32} {rest : List Value} (hs : g.stack = .int z :: rest)
    (hn : ¬ z < 0) (N' : Nat) (hz : z.toNatClampNeg = N') (hdv : defaultValue (newarray.typeOf aty) = .int 0) (cap : Nat) (hcap : N' ≤ cap) (hb : cap * 8 ≤ 536870912) (hc : k + 1 ≤ R.cells) (hl : n + cap ≤ R.slots)
    (next : ∀ T' h' a, a = h.size → Ext h h' → Ab Z h' a (newarray.typeOf aty) N' (fun _ => 0) → Here p l e R s m args below meth c n0 T' h' (k + 1) (n + cap) → Go p e below Φ (T'.setTop { g with pc := g.pc + 2, stack := .ref a :: rest })) : Go p e below Φ (T.setTop g) :=
  own_newP H hx hZ w hg hd hs hn cap (by rw [hz]; exact hcap) hb hc hl fun T' h' a cA q1 q2 q3 q4 => next T' h' a q1 q2 (Ab.new q3 hz hdv) q4
theorem own_stIA (H : Here p l e R s m args below meth c n0 T h k n) (hx : p.tables.exec = Jvm.exec) (hZ : Z.Warmed39 s.vm) {a : Addr} {N' : Nat} {B : Nat → Int32} (A : Ab Z h a .int N' B) {J x : Int32} {j : Nat} (ej : J.toInt = (j : Int)) (hj : j < N') (ha : n0 ≤ a) {g : JFrame} (hg : g.method = m) {rest : List Value} (hs : g.stack = .int x :: .int J :: .ref a :: rest) (hd : decode c.code g.pc = .ok (.iastore, 1))
    (next : ∀ T' h', Wr h h' a j (.int x) → Ab Z h' a .int N' (upd B j x) → Here p l e R s m args below meth c n0 T' h' k n → Go p e below Φ (T'.setTop { g with pc := g.pc + 1, stack := rest })) : Go p e below Φ (T.setTop g) := by
  have A' := A
  obtain ⟨cl, A0, S, G⟩ := A
  refine own_stI H hx hZ A0 (own_in ej S hj) ha hg hs hd fun T' h' W H' => ?_
  rw [(own_idx ej).2] at W
  exact next T' h' W (A'.set W) H'
theorem own_stBA (H : Here p l e R s m args below meth c n0 T h k n) (hx : p.tables.exec = Jvm.exec) (hZ : Z.Warmed39 s.vm) {a : Addr} {N' : Nat} {B : Nat → Int32} (A : Ab Z h a .byte N' B) {J x : Int32} {j : Nat} (ej : J.toInt = (j : Int)) (hj : j < N') (ha : n0 ≤ a) {g : JFrame} (hg : g.method = m) {rest : List Value} (hs : g.stack = .int x :: .int J :: .ref a :: rest) (hd : decode c.code g.pc = .ok (.bastore, 1))
    (next : ∀ T' h', Wr h h' a j (.int (nar .byte x)) → Ab Z h' a .byte N' (upd B j (nar .byte x)) → Here p l e R s m args below meth c n0 T' h' k n → Go p e below Φ (T'.setTop { g with pc := g.pc + 1, stack := rest })) : Go p e below Φ (T.setTop g) := by
  have A' := A
  obtain ⟨cl, A0, S, G⟩ := A
  refine own_stB H hx hZ A0 (own_in ej S hj) ha hg hs hd fun T' h' W H' => ?_
  rw [(own_idx ej).2] at W
  exact next T' h' W (A'.set W) H'
theorem own_ldIA (H : Here p l e R s m args below meth c n0 T h k n) (hx : p.tables.exec = Jvm.exec) (hZ : Z.Warmed39 s.vm) {a : Addr} {N' : Nat} {B : Nat → Int32} (A : Ab Z h a .int N' B) {J : Int32} {j : Nat} (ej : J.toInt = (j : Int)) (hj : j < N') {g : JFrame} (hg : g.method = m) {rest : List Value} (hs : g.stack = .int J :: .ref a :: rest) (hd : decode c.code g.pc = .ok (.iaload, 1))
    (next : Go p e below Φ (T.setTop { g with pc := g.pc + 1, stack := .int (B j) :: rest })) : Go p e below Φ (T.setTop g) := by
  obtain ⟨cl, A0, S, G⟩ := A
  exact own_ldI H hx hZ A0 (own_in ej S hj) (by rw [(own_idx ej).2]; exact G j hj) hg hs hd next
theorem own_ldBA (H : Here p l e R s m args below meth c n0 T h k n) (hx : p.tables.exec = Jvm.exec) (hZ : Z.Warmed39 s.vm) {a : Addr} {N' : Nat} {B : Nat → Int32} (A : Ab Z h a .byte N' B) {J : Int32} {j : Nat} (ej : J.toInt = (j : Int)) (hj : j < N') {g : JFrame} (hg : g.method = m) {rest : List Value} (hs : g.stack = .int J :: .ref a :: rest) (hd : decode c.code g.pc = .ok (.baload, 1))
    (next : Go p e below Φ (T.setTop { g with pc := g.pc + 1, stack := .int (B j) :: rest })) : Go p e below Φ (T.setTop g) := by
  obtain ⟨cl, A0, S, G⟩ := A
  exact own_ldB H hx hZ A0 (own_in ej S hj) (by rw [(own_idx ej).2]; exact G j hj) hg hs hd next
theorem own_lenA (H : Here p l e R s m args below meth c n0 T h k n) (hx : p.tables.exec = Jvm.exec) (hZ : Z.Warmed39 s.vm) {a : Addr} {N' : Nat} {B : Nat → Int32} {ty : FieldType} (A : Ab Z h a ty N' B) {z : Int32} (hz : N'.toInt32 = z) {g : JFrame} (hg : g.method = m) {rest : List Value} (hs : g.stack = .ref a :: rest) (hd : decode c.code g.pc = .ok (.arraylength, 1))
    (next : Go p e below Φ (T.setTop { g with pc := g.pc + 1, stack := .int z :: rest })) : Go p e below Φ (T.setTop g) := by
  obtain ⟨cl, A0, S, G⟩ := A
  subst S; subst hz
  exact own_len H hx hZ A0 hg hs hd next
/-! instanceof, checkcast, statics, references in arrays -/
theorem own_instY (H : Here p l e R s m args below meth c n0 T h k n) (hx : p.tables.exec = Jvm.exec) (hZ : Z.Warmed39 s.vm) {own C : String} {index : Nat} (hown : s.vm.findClass own = some m.cls) (w : (Jvm.Cond.classLink own index C).before a0 Z = true) {a : Addr} (F : Ins Z h a C true)
    {g : JFrame} (hg : g.method = m) {rest : List Value} (hs : g.stack = .ref a :: rest) (hd : decode c.code g.pc = .ok (.instanceof index, 3))
    (next : ∀ T', Here p l e R s m args below meth c n0 T' h k n → Go p e below Φ (T'.setTop { g with pc := g.pc + 3, stack := .int 1 :: rest })) : Go p e below Φ (T.setTop g) := by
  obtain ⟨locs, X, r1, r2⟩ := H.stand
  obtain ⟨T', X', e', st⟩ := instY X hx hZ hown w r1 F hg hs hd
  exact Go.via st (next T' ⟨_, X', e', r2⟩)
theorem own_instNo (H : Here p l e R s m args below meth c n0 T h k n) (hx : p.tables.exec = Jvm.exec) (hZ : Z.Warmed39 s.vm) {own C D : String} {index : Nat} (hown : s.vm.findClass own = some m.cls) (w : (Jvm.Cond.classLink own index C).before a0 Z = true) {a : Addr} (E : Exa Z h a D) (F : ∃ c t, Z.vm.findClass D = some c ∧ Z.vm.findClass C = some t ∧ Z.vm.assignable c t = false)
    {g : JFrame} (hg : g.method = m) {rest : List Value} (hs : g.stack = .ref a :: rest) (hd : decode c.code g.pc = .ok (.instanceof index, 3))
    (next : ∀ T', Here p l e R s m args below meth c n0 T' h k n → Go p e below Φ (T'.setTop { g with pc := g.pc + 3, stack := .int 0 :: rest })) : Go p e below Φ (T.setTop g) := by
  obtain ⟨locs, X, r1, r2⟩ := H.stand
  obtain ⟨T', X', e', st⟩ := instNo X hx hZ hown w r1 E F hg hs hd
  exact Go.via st (next T' ⟨_, X', e', r2⟩)
theorem own_instNull (H : Here p l e R s m args below meth c n0 T h k n) (hx : p.tables.exec = Jvm.exec) {index : Nat} {g : JFrame} (hg : g.method = m) {rest : List Value} (hs : g.stack = .null :: rest) (hd : decode c.code g.pc = .ok (.instanceof index, 3))
    (next : Go p e below Φ (T.setTop { g with pc := g.pc + 3, stack := .int 0 :: rest })) : Go p e below Φ (T.setTop g) := by
  obtain ⟨locs, X, r1, r2⟩ := H.stand
  exact Go.via (X.instanceofNull hx hg hs hd) next
theorem own_castY (H : Here p l e R s m args below meth c n0 T h k n) (hx : p.tables.exec = Jvm.exec) (hZ : Z.Warmed39 s.vm) {own C : String} {index : Nat} (hown : s.vm.findClass own = some m.cls) (w : (Jvm.Cond.classLink own index C).before a0 Z = true) {a : Addr} (F : Ins Z h a C true)
    {g : JFrame} (hg : g.method = m) {rest : List Value} (hs : g.stack = .ref a :: rest) (hd : decode c.code g.pc = .ok (.checkcast index, 3))
    (next : ∀ T', Here p l e R s m args below meth c n0 T' h k n → Go p e below Φ (T'.setTop { g with pc := g.pc + 3 })) : Go p e below Φ (T.setTop g) := by
  obtain ⟨locs, X, r1, r2⟩ := H.stand
  obtain ⟨T', X', e', st⟩ := castY X hx hZ hown w r1 F hg hs hd
  exact Go.via st (next T' ⟨_, X', e', r2⟩)
theorem own_getS (H : Here p l e R s m args below meth c n0 T h k n) (hx : p.tables.exec = Jvm.exec) (hZ : Z.Warmed39 s.vm) {own O nm d : String} {index : Nat} (hown : s.vm.findClass own = some m.cls) (w : (Jvm.Cond.fieldLink own index O nm d).before a0 Z = true) {v : Value} (F : Sta Z h O nm d v)
    {g : JFrame} (hg : g.method = m) (hd : decode c.code g.pc = .ok (.getstatic index, 3))
    (next : ∀ T', Here p l e R s m args below meth c n0 T' h k n → Go p e below Φ (T'.setTop { g with pc := g.pc + 3, stack := v :: g.stack })) : Go p e below Φ (T.setTop g) := by
  obtain ⟨locs, X, r1, r2⟩ := H.stand
  obtain ⟨T', X', e', st⟩ := getS (host := "") X hx hZ hown w Via.refl r1 F hg hd
  exact Go.via st (next T' ⟨_, X', e', r2⟩)
theorem own_ldR (H : Here p l e R s m args below meth c n0 T h k n) (hx : p.tables.exec = Jvm.exec) (hZ : Z.Warmed39 s.vm) {a : Addr} {cl : Cell} {ty : FieldType} (A : Arr Z h a cl ty) (hty : ty.isReference = true) {J : Int32} {j : Nat} {v : Value} (ej : J.toInt = (j : Int)) (hj : j < cl.slots.size) (hv : cl.slots[j]? = some v) {g : JFrame} (hg : g.method = m) {rest : List Value} (hs : g.stack = .int J :: .ref a :: rest) (hd : decode c.code g.pc = .ok (.aaload, 1))
    (next : Go p e below Φ (T.setTop { g with pc := g.pc + 1, stack := v :: rest })) : Go p e below Φ (T.setTop g) := by
  obtain ⟨locs, X, r1, r2⟩ := H.stand
  exact Go.via (fun t q => X.aaload hx (by rw [r1]; exact A.1) (State.isArrayOf_alike hZ.alike A.2.1) hty A.2.2 (own_in ej rfl hj) (by rw [(own_idx ej).2]; exact hv) hg hs hd t q) next
/-! constants -/
theorem own_ldcI (H : Here p l e R s m args below meth c n0 T h k n) (hx : p.tables.exec = Jvm.exec) (hZ : Z.Warmed39 s.vm) {own : String} {index : Nat} {v : Int32} (hown : s.vm.findClass own = some m.cls) (w : (Jvm.Cond.constant own index v).before a0 Z = true) {g : JFrame} (hg : g.method = m) (hd : decode c.code g.pc = .ok (.ldc index, 2))
    (next : Go p e below Φ (T.setTop { g with pc := g.pc + 2, stack := .int v :: g.stack })) : Go p e below Φ (T.setTop g) := by
  obtain ⟨locs, X, r1, r2⟩ := H.stand
  exact Go.via (X.ldcInt hx hown (mvT hZ w) hg hd) next
theorem own_ldcL (H : Here p l e R s m args below meth c n0 T h k n) (hx : p.tables.exec = Jvm.exec) (hZ : Z.Warmed39 s.vm) {own : String} {index : Nat} {v : Int64} (hown : s.vm.findClass own = some m.cls) (w : (Jvm.Cond.constantLong own index v).before a0 Z = true) {g : JFrame} (hg : g.method = m) (hd : decode c.code g.pc = .ok (.ldc2_w index, 3))
    (next : Go p e below Φ (T.setTop { g with pc := g.pc + 3, stack := .long v :: g.stack })) : Go p e below Φ (T.setTop g) := by
  obtain ⟨locs, X, r1, r2⟩ := H.stand
  exact Go.via (X.ldc2Long hx hown (mvT hZ w) hg hd) next
/-! comparisons of longs -/
theorem own_llt {x y : Int64} (q : x < y) : ifCond.holds .lt (lcmpW x y) = true ∧ ifCond.holds .ge (lcmpW x y) = false := by
  have := (lw_lt x y).mpr q; rw [if0, if0]; exact ⟨(tlt this).1, (tlt this).2.1⟩
theorem own_nlt {x y : Int64} (q : ¬ x < y) : ifCond.holds .lt (lcmpW x y) = false ∧ ifCond.holds .ge (lcmpW x y) = true := by
  have : ¬ lcmpW x y < 0 := fun z => q ((lw_lt x y).mp z); rw [if0, if0]; exact ⟨(flt this).1, (flt this).2.1⟩
theorem own_lgt {x y : Int64} (q : y < x) : ifCond.holds .gt (lcmpW x y) = true ∧ ifCond.holds .le (lcmpW x y) = false := by
  have := (lw_gt x y).mpr q; rw [if0, if0]; exact ⟨(tlt this).2.2.1, (tlt this).2.2.2⟩
theorem own_ngt {x y : Int64} (q : ¬ y < x) : ifCond.holds .gt (lcmpW x y) = false ∧ ifCond.holds .le (lcmpW x y) = true := by
  have : ¬ 0 < lcmpW x y := fun z => q ((lw_gt x y).mp z); rw [if0, if0]; exact ⟨(flt this).2.2.1, (flt this).2.2.2⟩
theorem own_leq {x y : Int64} (q : x = y) : ifCond.holds .eq (lcmpW x y) = true ∧ ifCond.holds .ne (lcmpW x y) = false := by
  have := (lw_eq x y).mpr q; rw [if0, if0]; exact ⟨(teq this).1, (teq this).2⟩
theorem own_neq {x y : Int64} (q : ¬ x = y) : ifCond.holds .eq (lcmpW x y) = false ∧ ifCond.holds .ne (lcmpW x y) = true := by
  have : ¬ lcmpW x y = 0 := fun z => q ((lw_eq x y).mp z); rw [if0, if0]; exact ⟨(feq this).1, (feq this).2⟩
end Own
/-! LITERALS: a walk that may intern. The Stand is over the start with re-based tables; Lb keeps the books. -/
def FiniW (below : List Frame) (s : State) (n0 : Nat) (Q : Option Value → Heap → Prop) (K N : Nat) (t : State) (o : Outcome) : Prop :=
  t.status = .running ∧ Ended t below o ∧ ∃ v L, o = .returned v ∧ (Q v t.heap ∧ Fr n0 L) ∧ ReturnedEndW s o t L K N
def Lb (Z s : State) (vm0 : Vm) (h : Heap) (Ts : List String) : Prop := (∃ k0, s.Since vm0 k0 ∧ k0 ≤ h.size) ∧ IB Z vm0 Ts
section OwnS
variable {p : Program} {l : Launch} {e : Env} {R : Room} {s : State} {m : MethodId} {args : Array Value} {below : List Frame} {meth : Method} {c : Code} {T : State} {h : Heap} {k n n0 K N : Nat} {Q : Option Value → Heap → Prop} {Z : State} {a0 : Array Value} {Φ : State → Outcome → Prop} {vm0 : Vm} {Ts : List String}
theorem Lb.grow {h' : Heap} (B : Lb Z s vm0 h Ts) (q : h.size ≤ h'.size) : Lb Z s vm0 h' Ts := by
  obtain ⟨⟨k0, b1, b2⟩, b3⟩ := B; exact ⟨⟨k0, b1, Nat.le_trans b2 q⟩, b3⟩
theorem own_enterW {y : MethodName} {code : ByteArray} {maxL : Nat} {ret : Option FieldType} {as : Array Value} {h0 : Heap} {ws : List Jvm.Cond} (hpl : plainFor y = true) (hn0 : n0 = Z.heap.size) (hh0 : h0 = Z.heap)
    (body : ∀ (p : Program) (e : Env) (m : MethodId) (below : List Frame) (meth : Method) (c : Code) (T : State), p.tables.exec = Jvm.exec → c.code = code → c.maxLocals = maxL → (Z.setVm Z.vm).vm.findClass y.cls = some m.cls → meth.name = y.name → Z.Warmed39 (Z.setVm Z.vm).vm → meth.sig.returnType = ret → meth.locks = false → Here p l e R (Z.setVm Z.vm) m as below meth c n0 T h0 0 0 → Lb Z Z Z.vm h0 [] → Go p e below (FiniW below Z n0 Q R.cells R.slots) (T.setTop (entryFrame m as maxL))) :
    MetFree l y (head1 (Jvm.Cond.code y code maxL ret :: ws) R) (fun a U => a = as ∧ U = Z) (fun _ _ _ _ _ => True) (fun _ U o U' => ∃ v L, o = .returned v ∧ (Q v U'.heap ∧ Fr n0 L) ∧ ReturnedEndW U o U' L R.cells R.slots) := by
  refine MetFree.of_bodySF hpl hisR ?_
  intro p e s m args below meth c s₁ Bd hml0 hP hK
  obtain ⟨rfl, rfl⟩ := hP
  subst hn0 hh0
  exact body p e m below meth c s₁ Bd.exec Bd.bytes hml0 (findClass_of_methodNamed Bd.named) (name_of_methodNamed Bd.named Bd.method).1 (State.Warmed39.refl _) Bd.returns Bd.notSynchronized ⟨[], Stand.of_body Bd, by rw [Bd.state]; rfl, Fr.nil _⟩ ⟨⟨_, (State.WarmedH.refl _).since _, Nat.le_refl _⟩, IB.start⟩
theorem own_retNW (H : Here p l e R (s.setVm vm0) m args below meth c n0 T h k n) (LB : Lb Z s vm0 h Ts) (hx : p.tables.exec = Jvm.exec) (hlk : meth.locks = false) {t : FieldType} (ht : t = .boolean ∨ t = .byte ∨ t = .char ∨ t = .short) (hret : meth.sig.returnType = some t) {pc : Nat} {Ls : Array Slot} {z : Int32} {rest : List Value} (hd : decode c.code pc = .ok (.ireturn, 1)) (hQ : Q (some (.int (nar t z))) h) (hk : k ≤ K) (hn : n ≤ N) :
    Go p e below (FiniW below s n0 Q K N) (T.setTop (mkF m pc Ls (.int z :: rest))) := by
  obtain ⟨locs, X, rfl, F0⟩ := H
  obtain ⟨⟨k0, b1, b2⟩, b3⟩ := LB
  obtain ⟨fs, hr, hrun, hended, q1, q2, q3, q4⟩ := X.leaveW (v := some (.int (nar t z))) b1 b2 (fun q => by rw [hret] at q; cases q) hlk
  exact ⟨_, _, retN X hx hret ht hd hr, hrun, hended, _, locs, rfl, ⟨hQ, F0⟩, q1, q2, q3, q4.mono hk hn⟩
theorem own_Arv {a : Addr} {kk : ClassId} {z : Int32} {bs : List Int32} (F : Arv Z h a kk .byte z (bs.map Value.int) (.int 0)) (hz : z.toNatClampNeg = bs.length) : Ab Z h a .byte bs.length (fun j => bs.getD j 0) := by
  obtain ⟨cl, A, -, S, -, G, -⟩ := F
  refine ⟨cl, A, S.trans hz, fun i hi => ?_⟩
  rw [G i (by rw [S, hz]; exact hi)]
  congr 1
  show _ = Value.int (bs.getD i 0)
  rw [List.getD_eq_getElem?_getD, List.getElem?_map, List.getD_eq_getElem?_getD]
  cases bs[i]? <;> rfl
theorem own_ldcS (H : Here p l e R (Z.setVm vm0) m args below meth c n0 T h k n) (LB : Lb Z Z vm0 h Ts) (hn0 : n0 = Z.heap.size) (hx : p.tables.exec = Jvm.exec) (hZ : Z.Warmed39 (Z.setVm vm0).vm) {own text : String} {index : Nat} (hown : (Z.setVm vm0).vm.findClass own = some m.cls) (w : (Jvm.Cond.stringLink own index text).before a0 Z = true) (wS : ∀ a ∈ Bundle.stringAtoms, a.before a0 Z = true)
    (hnot : text ∉ Ts) (hh : Jvm.Lit.constHeld Z own index) (hcw : Jvm.Lit.compactW.before a0 Z = true) (bs : List Int32) (z : Int32) (ht : (∀ c ∈ text.toList, c.toNat < 256) ∧ text.toList.map (fun c => Value.int (Jvm.Lit.byteI c.toNat.toUInt16)) = bs.map Value.int) (hz : ¬ z < 0) (hl : z.toNatClampNeg = bs.length)
    {g : JFrame} (hg : g.method = m) (hd : decode c.code g.pc = .ok (.ldc index, 2)) (nn : Nat) (hn : 4 * text.toList.length ≤ nn) (hbig : nn ≤ 536870912) (hc : k + 2 ≤ R.cells) (hl' : n + (nn + 4) ≤ R.slots)
    (next : ∀ a b T' h', Ext h h' → Exa Z h' a "java/lang/String" → Fld Z h' a "java/lang/String" "coder" "B" (.int 0) → Fld Z h' a "java/lang/String" "value" "[B" (.ref b) → Ab Z h' b .byte bs.length (fun j => bs.getD j 0) → Lb Z Z T'.vm h' (text :: Ts) → Z.Warmed39 (Z.setVm T'.vm).vm → (Z.setVm T'.vm).vm.findClass own = some m.cls → Here p l e R (Z.setVm T'.vm) m args below meth c n0 T' h' (k + 2) (n + (nn + 4)) → Go p e below Φ (T'.setTop { g with pc := g.pc + 2, stack := .ref a :: g.stack })) : Go p e below Φ (T.setTop g) := by
  obtain ⟨locs, X, r1, r2⟩ := H.stand
  obtain ⟨⟨k0, b1, b2⟩, b3⟩ := LB
  obtain ⟨a, T', h', k1, b, kk, X', e', E, s1, s2, hZ', hown', E', C', V', K', -, -, I', st⟩ := ldcSV X hx hZ hown w wS r1 b1 b2 (hn0 ▸ r2) (fun _ _ q => q) b3 hnot hh hcw ht hz (by rw [hl, List.length_map]) hg hd hn hbig hc hl'
  exact Go.via st (next a b T' h' E E' C' V' (own_Arv K' hl) ⟨⟨k1, s1, s2⟩, I'⟩ hZ' hown' ⟨_, X', e', r2⟩)
end OwnS
/-! WIDE CONTRACTS: callees that load literals whose text doesn't matter -/
def Lw (s : State) (vm0 : Vm) (h : Heap) : Prop := ∃ k0, s.Since vm0 k0 ∧ k0 ≤ h.size
def CMW (l : Launch) (Z : State) (y : MethodName) (code : ByteArray) (maxL : Nat) (ret : Option FieldType) (R : Room) (as : Array Value) (h0 : Heap) (n0 : Nat) (Q : Option Value → Heap → Prop) : Prop :=
  ∀ ws, MetFree l y (head1 (Jvm.Cond.code y code maxL ret :: ws) R) (fun a U => a = as ∧ Z.Warmed39 U.vm ∧ U.heap = h0) (fun _ _ _ _ _ => True) (fun _ U o U' => ∃ v L, o = .returned v ∧ (Q v U'.heap ∧ Fr n0 L) ∧ ReturnedEndW U o U' L R.cells R.slots)
section OwnW
variable {p : Program} {l : Launch} {e : Env} {R : Room} {s : State} {m : MethodId} {args : Array Value} {below : List Frame} {meth : Method} {c : Code} {T : State} {h : Heap} {k n n0 K N : Nat} {Q : Option Value → Heap → Prop} {Z : State} {a0 : Array Value} {Φ : State → Outcome → Prop} {vm0 : Vm}
theorem Lw.grow {h' : Heap} (B : Lw s vm0 h) (q : h.size ≤ h'.size) : Lw s vm0 h' := by obtain ⟨k0, b1, b2⟩ := B; exact ⟨k0, b1, Nat.le_trans b2 q⟩
theorem own_enterC {y : MethodName} {code : ByteArray} {maxL : Nat} {ret : Option FieldType} {as : Array Value} {h0 : Heap} (hpl : plainFor y = true)
    (body : ∀ (p : Program) (e : Env) (s : State) (m : MethodId) (below : List Frame) (meth : Method) (c : Code) (T : State), p.tables.exec = Jvm.exec → c.code = code → c.maxLocals = maxL → (s.setVm s.vm).vm.findClass y.cls = some m.cls → meth.name = y.name → Z.Warmed39 (s.setVm s.vm).vm → meth.sig.returnType = ret → meth.locks = false → Here p l e R (s.setVm s.vm) m as below meth c n0 T h0 0 0 → Lw s s.vm h0 → Go p e below (FiniW below s n0 Q R.cells R.slots) (T.setTop (entryFrame m as maxL))) :
    CMW l Z y code maxL ret R as h0 n0 Q := by
  intro ws
  refine MetFree.of_bodySF hpl hisR ?_
  intro p e s m args below meth c s₁ Bd hml0 hP hK
  obtain ⟨rfl, hZ, hh⟩ := hP
  exact body p e s m below meth c s₁ Bd.exec Bd.bytes hml0 (findClass_of_methodNamed Bd.named) (name_of_methodNamed Bd.named Bd.method).1 hZ Bd.returns Bd.notSynchronized ⟨[], Stand.of_body Bd, by rw [← hh, Bd.state]; rfl, Fr.nil _⟩ ⟨h0.size, (State.WarmedH.refl _).since _, Nat.le_refl _⟩
theorem own_retVC (H : Here p l e R (s.setVm vm0) m args below meth c n0 T h k n) (LB : Lw s vm0 h) (hx : p.tables.exec = Jvm.exec) (hlk : meth.locks = false) (hret : meth.sig.returnType = none) {pc : Nat} {Ls : Array Slot} (hd : decode c.code pc = .ok (.return_, 1)) (hQ : Q none h) (hk : k ≤ K) (hn : n ≤ N) :
    Go p e below (FiniW below s n0 Q K N) (T.setTop (mkF m pc Ls [])) := by
  obtain ⟨locs, X, rfl, F0⟩ := H
  obtain ⟨k0, b1, b2⟩ := LB
  obtain ⟨fs, hr, hrun, hended, q1, q2, q3, q4⟩ := X.leaveW (v := none) b1 b2 (fun _ => rfl) hlk
  exact ⟨_, _, X.returnOut hx hret hd hr, hrun, hended, _, locs, rfl, ⟨hQ, F0⟩, q1, q2, q3, q4.mono hk hn⟩
theorem own_retNC (H : Here p l e R (s.setVm vm0) m args below meth c n0 T h k n) (LB : Lw s vm0 h) (hx : p.tables.exec = Jvm.exec) (hlk : meth.locks = false) {t : FieldType} (ht : t = .boolean ∨ t = .byte ∨ t = .char ∨ t = .short) (hret : meth.sig.returnType = some t) {pc : Nat} {Ls : Array Slot} {z : Int32} {rest : List Value} (hd : decode c.code pc = .ok (.ireturn, 1)) (hQ : Q (some (.int (nar t z))) h) (hk : k ≤ K) (hn : n ≤ N) :
    Go p e below (FiniW below s n0 Q K N) (T.setTop (mkF m pc Ls (.int z :: rest))) := by
  obtain ⟨locs, X, rfl, F0⟩ := H
  obtain ⟨k0, b1, b2⟩ := LB
  obtain ⟨fs, hr, hrun, hended, q1, q2, q3, q4⟩ := X.leaveW (v := some (.int (nar t z))) b1 b2 (fun q => by rw [hret] at q; cases q) hlk
  exact ⟨_, _, retN X hx hret ht hd hr, hrun, hended, _, locs, rfl, ⟨hQ, F0⟩, q1, q2, q3, q4.mono hk hn⟩
theorem own_ldcC (H : Here p l e R (s.setVm vm0) m args below meth c n0 T h k n) (LB : Lw s vm0 h) (hx : p.tables.exec = Jvm.exec) (hZ : Z.Warmed39 (s.setVm vm0).vm) {own text : String} {index : Nat} (hown : (s.setVm vm0).vm.findClass own = some m.cls) (w : (Jvm.Cond.stringLink own index text).before a0 Z = true) (wS : ∀ a ∈ Bundle.stringAtoms, a.before a0 Z = true)
    {g : JFrame} (hg : g.method = m) (hd : decode c.code g.pc = .ok (.ldc index, 2)) (nn : Nat) (hn : 4 * text.toList.length ≤ nn) (hbig : nn ≤ 536870912) (hc : k + 2 ≤ R.cells) (hl' : n + (nn + 4) ≤ R.slots)
    (next : ∀ a T' h', Ext h h' → Lw s T'.vm h' → Z.Warmed39 (s.setVm T'.vm).vm → (s.setVm T'.vm).vm.findClass own = some m.cls → Here p l e R (s.setVm T'.vm) m args below meth c n0 T' h' (k + 2) (n + (nn + 4)) → Go p e below Φ (T'.setTop { g with pc := g.pc + 2, stack := .ref a :: g.stack })) : Go p e below Φ (T.setTop g) := by
  obtain ⟨locs, X, r1, r2⟩ := H.stand
  obtain ⟨k0, b1, b2⟩ := LB
  obtain ⟨a, T', h', k1, X', e', E, s1, s2, hZ', hown', st⟩ := ldcS X hx hZ hown w wS r1 b1 b2 hg hd hn hbig hc hl'
  exact Go.via st (next a T' h' E ⟨k1, s1, s2⟩ hZ' hown' ⟨_, X', e', r2⟩)
theorem own_callIC (H : Here p l e R (s.setVm vm0) m args below meth c n0 T h k n) (LB : Lw s vm0 h) (hx : p.tables.exec = Jvm.exec) (hZ : Z.Warmed39 (s.setVm vm0).vm) {own : String} {index : Nat} {y : MethodName} {bytes : ByteArray} {maxL : Nat} {rm : Room} {a : Addr} {argsL rest : List Value} {Q' : Option Value → Heap → Prop}
    (hy1 : y.name = "<init>") (hown : (s.setVm vm0).vm.findClass own = some m.cls) (w1 : (Jvm.Cond.methodLink own index y).before a0 Z = true) (w2 : (Jvm.Cond.instanceMethod y).before a0 Z = true) (w3 : (Jvm.Cond.initialized y.cls).before a0 Z = true) (w4 : (Jvm.Cond.code y bytes maxL none).before a0 Z = true)
    (hy : y.cls ≠ "java/lang/invoke/MethodHandle" ∧ y.cls ≠ "java/lang/invoke/VarHandle") (hM : CMW l Z y bytes maxL none rm (Value.ref a :: argsL).toArray h n0 Q')
    {g : JFrame} (hg : g.method = m) (hsize : g.locals.size = c.maxLocals) (hlen : ∀ sig, parseMethodDescriptor y.desc = some sig → argsL.length = sig.parameters.length)
    (hstack : g.stack = argsL.reverse ++ .ref a :: rest) (W : Nat) (hW : 2 * g.monitorRoom + (rest.map fun v => v.category).sum ≤ W) (hd : decode c.code g.pc = .ok (.invokespecial index, 3))
    (hf : rm.frames + 1 ≤ R.frames) (hl : W + (maxL + 11) + rm.locals ≤ R.locals) (hc : k + rm.cells ≤ R.cells) (hs : n + rm.slots ≤ R.slots)
    (next : ∀ v T' h', Q' v h' → Lw s T'.vm h' → Z.Warmed39 (s.setVm T'.vm).vm → (s.setVm T'.vm).vm.findClass own = some m.cls → Here p l e R (s.setVm T'.vm) m args below meth c n0 T' h' (k + rm.cells) (n + rm.slots) → Go p e below Φ (T'.setTop { g with pc := g.pc + 3, stack := v.toList ++ rest })) :
    Go p e below Φ (T.setTop g) := by
  obtain ⟨locs, X, rfl, F⟩ := H
  obtain ⟨k0, b1, b2⟩ := LB
  obtain ⟨v, _, ⟨T3, L3, k3, n3⟩, -, X3, hS3, hg3, ⟨Lc3, hQ3, l3, y3, z3⟩, st3⟩ := X.specialBackS hx (y := y) hy1 hown (mvT hZ w1) (mvT hZ w2) (mvT hZ w4) hy (backOfS (W := W) (Q := fun v h L => Q' v h ∧ Fr n0 L) (hM []) hZ w4 w3 hf hl) (g := g) hg hsize (Steps.refl _) (a := a) (argsL := argsL) (rest := rest) hlen hstack hW hd (fun _ _ => ⟨rfl, rfl, hc, hs⟩)
  dsimp only [Pt.U, Pt.locs, Pt.cells, Pt.slots] at X3 l3 y3 z3 st3 hQ3 hS3 hg3
  subst l3 y3 z3
  have hS4 := foldS b1 b2 hS3 hg3
  exact Go.via (fun t q => st3.trans q) (next v T3 T3.heap hQ3.1 ⟨_, hS4, Nat.le_refl _⟩ (State.Warmed39.trans (t := s.setVm vm0) hZ hS3.1) (by rw [show (s.setVm T3.vm).vm = T3.vm from rfl, hS3.1.alike.findClass]; exact hown) ⟨_, X3, rfl, F.app hQ3.2⟩)
/-! arrays of references by a function of the place -/
def updV (W : Nat → Value) (j : Nat) (v : Value) : Nat → Value := fun i => if i = j then v else W i
theorem updV_hit {W : Nat → Value} {j : Nat} {v : Value} : updV W j v j = v := if_pos rfl
theorem updV_miss {W : Nat → Value} {i j : Nat} {v : Value} (q : i ≠ j) : updV W j v i = W i := if_neg q
def Av (Z : State) (h : Heap) (a : Addr) (ty : FieldType) (n : Nat) (cA : ClassId) (W : Nat → Value) : Prop := ∃ c : Cell, Arr Z h a c ty ∧ c.cls = cA ∧ c.slots.size = n ∧ ∀ i, i < n → c.slots[i]? = some (W i)
theorem Av.lt {a : Addr} {ty : FieldType} {cA : ClassId} {W : Nat → Value} (F : Av Z h a ty n cA W) : a < h.size := by obtain ⟨c, A, -⟩ := F; exact A.lt
theorem Av.ext {h' : Heap} {a : Addr} {ty : FieldType} {cA : ClassId} {W : Nat → Value} (F : Av Z h a ty n cA W) (E : Ext h h') : Av Z h' a ty n cA W := by obtain ⟨c, A, r⟩ := F; exact ⟨c, A.ext E, r⟩
theorem Av.other {h' : Heap} {a b : Addr} {sl : Nat} {v : Value} {ty : FieldType} {cA : ClassId} {W : Nat → Value} (F : Av Z h b ty n cA W) (Wh : Wr h h' a sl v) (q : b ≠ a) : Av Z h' b ty n cA W := by obtain ⟨c, A, r⟩ := F; exact ⟨c, A.other Wh q, r⟩
theorem Av.keep {h' : Heap} {a : Addr} {ws : List Addr} {ty : FieldType} {cA : ClassId} {W : Nat → Value} (F : Av Z h a ty n cA W) (Kp : Keep h h' ws) (q : a ∉ ws) : Av Z h' a ty n cA W := by obtain ⟨c, A, r⟩ := F; exact ⟨c, ⟨Kp.2.1 a c A.1 q, A.2⟩, r⟩
theorem Av.congr {a : Addr} {ty : FieldType} {cA : ClassId} {W W' : Nat → Value} (F : Av Z h a ty n cA W) (q : ∀ i, i < n → W i = W' i) : Av Z h a ty n cA W' := by obtain ⟨c, A, r1, r2, r3⟩ := F; exact ⟨c, A, r1, r2, fun i hi => by rw [← q i hi]; exact r3 i hi⟩
theorem Av.set {h' : Heap} {a : Addr} {j : Nat} {v : Value} {ty : FieldType} {cA : ClassId} {W : Nat → Value} (F : Av Z h a ty n cA W) (Wh : Wr h h' a j v) : Av Z h' a ty n cA (updV W j v) := by
  obtain ⟨c, A, r, S, G⟩ := F
  obtain ⟨c', q1, q2, -, q4, -, q6, q7⟩ := wr_at Wh A.1
  obtain ⟨rfl, q8, -⟩ := q7 rfl
  refine ⟨_, A.same Wh, q2.trans r, q4.trans S, fun i hi => ?_⟩
  by_cases q : i = j
  · subst q; rw [q8, updV_hit]
  · rw [q6 i q, G i hi, updV_miss q]
theorem Av.new {a : Addr} {ty : FieldType} {kk : ClassId} {z : Int32} (A : Arr Z h a (newA kk ty z) ty) (hz : z.toInt = (n : Int)) (hd : defaultValue ty = .null) : Av Z h a ty n kk (fun _ => .null) := by
  obtain ⟨q1, q2⟩ := own_idx hz
  refine ⟨_, A, rfl, (sz_new _ _ _).trans q2, fun i hi => ?_⟩
  have hz' := (back32 q1).2
  have e1 : i.toInt32.toInt = i := len_toInt (by omega)
  obtain ⟨q3, q4⟩ := own_idx e1
  have g := get_new (cA := kk) (ty := ty) (n := z) (k := i.toInt32) (by rw [q2, q4]; exact fun q => q.elim q3 (fun q => absurd q (by omega)))
  rw [q4] at g
  rw [g, hd]
theorem own_newR (H : Here p l e R s m args below meth c n0 T h k n) (hx : p.tables.exec = Jvm.exec) (hZ : Z.Warmed39 s.vm) {own C ad : String} {index : Nat} (hown : s.vm.findClass own = some m.cls) (w1 : (Jvm.Cond.classLink own index C).before a0 Z = true) (w2 : (Jvm.Cond.arrayOver (.object C)).before a0 Z = true) (had : "[" ++ (FieldType.object C).toString = ad)
    {g : JFrame} (hg : g.method = m) (hd : decode c.code g.pc = .ok (.anewarray index, 3)) {z : Int32} {rest : List Value} (hs : g.stack = .int z :: rest) {N' : Nat} (hz : z.toInt = (N' : Int)) (cap : Nat) (hcap : N' ≤ cap) (hb : cap * 8 ≤ 536870912) (hc : k + 1 ≤ R.cells) (hl : n + cap ≤ R.slots)
    (next : ∀ T' h' a cA, a = h.size → Ext h h' → Av Z h' a (.object C) N' cA (fun _ => .null) → Exa Z h' a ad → Ovr Z cA C → Here p l e R s m args below meth c n0 T' h' (k + 1) (n + cap) → Go p e below Φ (T'.setTop { g with pc := g.pc + 3, stack := .ref a :: rest })) : Go p e below Φ (T.setTop g) := by
  obtain ⟨locs, X, r1, r2⟩ := H.stand
  obtain ⟨q1, q2⟩ := own_idx hz
  obtain ⟨T', h', cA, X', e', E, A, Ex, O, st⟩ := newRE X hx hZ hown w1 w2 r1 hg hd hs q1 (by rw [q2]; exact hcap) hb hc hl had
  exact Go.via st (next T' h' _ cA rfl E (Av.new A hz rfl) Ex O ⟨_, X', e', r2⟩)
theorem own_newRA (H : Here p l e R s m args below meth c n0 T h k n) (hx : p.tables.exec = Jvm.exec) (hZ : Z.Warmed39 s.vm) {own C ad : String} {ty : FieldType} {index : Nat} (hown : s.vm.findClass own = some m.cls) (hC : (FieldType.array ty).toString = C) (w1 : (Jvm.Cond.classLink own index C).before a0 Z = true) (w2 : (Jvm.Cond.arrayOver (.array ty)).before a0 Z = true) (had : "[" ++ C = ad)
    {g : JFrame} (hg : g.method = m) (hd : decode c.code g.pc = .ok (.anewarray index, 3)) {z : Int32} {rest : List Value} (hs : g.stack = .int z :: rest) {N' : Nat} (hz : z.toInt = (N' : Int)) (cap : Nat) (hcap : N' ≤ cap) (hb : cap * 8 ≤ 536870912) (hc : k + 1 ≤ R.cells) (hl : n + cap ≤ R.slots)
    (next : ∀ T' h' a cA, a = h.size → Ext h h' → Av Z h' a (.array ty) N' cA (fun _ => .null) → OvrA Z cA ty C → Here p l e R s m args below meth c n0 T' h' (k + 1) (n + cap) → Go p e below Φ (T'.setTop { g with pc := g.pc + 3, stack := .ref a :: rest })) : Go p e below Φ (T.setTop g) := by
  obtain ⟨locs, X, r1, r2⟩ := H.stand
  obtain ⟨q1, q2⟩ := own_idx hz
  obtain ⟨T', h', cA, X', e', E, A, -, O, st⟩ := newRA X hx hZ hown hC w1 w2 r1 hg hd hs q1 (by rw [q2]; exact hcap) hb hc hl had
  exact Go.via st (next T' h' _ cA rfl E (Av.new A hz rfl) O ⟨_, X', e', r2⟩)
theorem own_stRA (H : Here p l e R s m args below meth c n0 T h k n) (hx : p.tables.exec = Jvm.exec) (hZ : Z.Warmed39 s.vm) {a : Addr} {ty : FieldType} {N' : Nat} {cA : ClassId} {W : Nat → Value} (A : Av Z h a ty N' cA W) (hty : ty.isReference = true) {J : Int32} {j : Nat} {v : Value} (F : ∀ cl, Arr Z h a cl ty → cl.cls = cA → Sto Z h a v) (ej : J.toInt = (j : Int)) (hj : j < N') (ha : n0 ≤ a) {g : JFrame} (hg : g.method = m) {rest : List Value} (hs : g.stack = v :: .int J :: .ref a :: rest) (hd : decode c.code g.pc = .ok (.aastore, 1))
    (next : ∀ T' h', Wr h h' a j v → Av Z h' a ty N' cA (updV W j v) → Here p l e R s m args below meth c n0 T' h' k n → Go p e below Φ (T'.setTop { g with pc := g.pc + 1, stack := rest })) : Go p e below Φ (T.setTop g) := by
  have A' := A
  obtain ⟨cl, A0, r, S, G⟩ := A
  obtain ⟨locs, X, r1, r2⟩ := H.stand
  obtain ⟨T', h', X', e', Wh, st⟩ := stR X hx hZ r1 A0 (own_in ej S hj) hty (F cl A0 r) hg hs hd
  have Wh' := Wh
  rw [(own_idx ej).2] at Wh'
  exact Go.via st (next T' h' Wh' (A'.set Wh') ⟨_, X', e', Fr.snoc X' r2 ha⟩)
theorem own_ldRA (H : Here p l e R s m args below meth c n0 T h k n) (hx : p.tables.exec = Jvm.exec) (hZ : Z.Warmed39 s.vm) {a : Addr} {ty : FieldType} {N' : Nat} {cA : ClassId} {W : Nat → Value} (A : Av Z h a ty N' cA W) (hty : ty.isReference = true) {J : Int32} {j : Nat} (ej : J.toInt = (j : Int)) (hj : j < N') {v : Value} (hv : W j = v) {g : JFrame} (hg : g.method = m) {rest : List Value} (hs : g.stack = .int J :: .ref a :: rest) (hd : decode c.code g.pc = .ok (.aaload, 1))
    (next : Go p e below Φ (T.setTop { g with pc := g.pc + 1, stack := v :: rest })) : Go p e below Φ (T.setTop g) := by
  obtain ⟨cl, A0, r, S, G⟩ := A
  exact own_ldR H hx hZ A0 hty ej (by rw [S]; exact hj) (by rw [← hv]; exact G j hj) hg hs hd next
theorem own_lenV (H : Here p l e R s m args below meth c n0 T h k n) (hx : p.tables.exec = Jvm.exec) (hZ : Z.Warmed39 s.vm) {a : Addr} {ty : FieldType} {N' : Nat} {cA : ClassId} {W : Nat → Value} (A : Av Z h a ty N' cA W) {z : Int32} (hz : N'.toInt32 = z) {g : JFrame} (hg : g.method = m) {rest : List Value} (hs : g.stack = .ref a :: rest) (hd : decode c.code g.pc = .ok (.arraylength, 1))
    (next : Go p e below Φ (T.setTop { g with pc := g.pc + 1, stack := .int z :: rest })) : Go p e below Φ (T.setTop g) := by
  obtain ⟨cl, A0, r, S, G⟩ := A
  subst S; subst hz
  exact own_len H hx hZ A0 hg hs hd next
end OwnW
/-! CONTRACTS THAT KEEP THE BOOKS ON THE STRING CONSTANTS OF EL (a callee reads a literal's fields) -/
def FiniH (EL : List (String × Nat)) (Z : State) (below : List Frame) (s : State) (n0 : Nat) (Q : Option Value → Heap → Prop) (K N : Nat) (t : State) (o : Outcome) : Prop :=
  t.status = .running ∧ Ended t below o ∧ ∃ v L, o = .returned v ∧ (Q v t.heap ∧ Fr n0 L) ∧ CHr Z EL s.vm s.heap t.vm t.heap ∧ ReturnedEndW s o t L K N
def CMH (EL : List (String × Nat)) (l : Launch) (Z : State) (y : MethodName) (code : ByteArray) (maxL : Nat) (ret : Option FieldType) (R : Room) (as : Array Value) (h0 : Heap) (n0 : Nat) (Q : Option Value → Heap → Prop) : Prop :=
  ∀ ws, MetFree l y (head1 (Jvm.Cond.code y code maxL ret :: ws) R) (fun a U => a = as ∧ Z.Warmed39 U.vm ∧ U.heap = h0 ∧ CHv Z EL U.vm h0) (fun _ _ _ _ _ => True) (fun _ U o U' => ∃ v L, o = .returned v ∧ (Q v U'.heap ∧ Fr n0 L) ∧ CHr Z EL U.vm U.heap U'.vm U'.heap ∧ ReturnedEndW U o U' L R.cells R.slots)
section OwnH
variable {EL : List (String × Nat)} {p : Program} {l : Launch} {e : Env} {R : Room} {s : State} {m : MethodId} {args : Array Value} {below : List Frame} {meth : Method} {c : Code} {T : State} {h : Heap} {k n n0 K N : Nat} {Q : Option Value → Heap → Prop} {Z : State} {a0 : Array Value} {Φ : State → Outcome → Prop} {vm0 : Vm}
theorem own_enterH {y : MethodName} {code : ByteArray} {maxL : Nat} {ret : Option FieldType} {as : Array Value} {h0 : Heap} (hpl : plainFor y = true)
    (body : ∀ (p : Program) (e : Env) (s : State) (m : MethodId) (below : List Frame) (meth : Method) (c : Code) (T : State), p.tables.exec = Jvm.exec → c.code = code → c.maxLocals = maxL → (s.setVm s.vm).vm.findClass y.cls = some m.cls → meth.name = y.name → Z.Warmed39 (s.setVm s.vm).vm → meth.sig.returnType = ret → meth.locks = false → Here p l e R (s.setVm s.vm) m as below meth c n0 T h0 0 0 → Lw s s.vm h0 → CHr Z EL s.vm s.heap s.vm h0 → Go p e below (FiniH EL Z below s n0 Q R.cells R.slots) (T.setTop (entryFrame m as maxL))) :
    CMH EL l Z y code maxL ret R as h0 n0 Q := by
  intro ws
  refine MetFree.of_bodySF hpl hisR ?_
  intro p e s m args below meth c s₁ Bd hml0 hP hK
  obtain ⟨rfl, hZ, hh, hC⟩ := hP
  exact body p e s m below meth c s₁ Bd.exec Bd.bytes hml0 (findClass_of_methodNamed Bd.named) (name_of_methodNamed Bd.named Bd.method).1 hZ Bd.returns Bd.notSynchronized ⟨[], Stand.of_body Bd, by rw [← hh, Bd.state]; rfl, Fr.nil _⟩ ⟨h0.size, (State.WarmedH.refl _).since _, Nat.le_refl _⟩ (by rw [hh]; exact CHr.refl hC)
theorem own_retVH (H : Here p l e R (s.setVm vm0) m args below meth c n0 T h k n) (LB : Lw s vm0 h) (CH : CHr Z EL s.vm s.heap vm0 h) (hZ : Z.Warmed39 (s.setVm vm0).vm) (hEL : EW Z a0 EL) (hx : p.tables.exec = Jvm.exec) (hlk : meth.locks = false) (hret : meth.sig.returnType = none) {pc : Nat} {Ls : Array Slot} (hd : decode c.code pc = .ok (.return_, 1)) (hQ : Q none h) (hk : k ≤ K) (hn : n ≤ N) :
    Go p e below (FiniH EL Z below s n0 Q K N) (T.setTop (mkF m pc Ls [])) := by
  obtain ⟨locs, X, rfl, F0⟩ := H
  obtain ⟨k0, b1, b2⟩ := LB
  have C2 := CH.trans (CHv.at X hZ hEL CH.1)
  obtain ⟨fs, hr, hrun, hended, q1, q2, q3, q4⟩ := X.leaveW (v := none) b1 b2 (fun _ => rfl) hlk
  exact ⟨_, _, X.returnOut hx hret hd hr, hrun, hended, _, locs, rfl, ⟨hQ, F0⟩, C2, q1, q2, q3, q4.mono hk hn⟩
theorem own_retAH (H : Here p l e R (s.setVm vm0) m args below meth c n0 T h k n) (LB : Lw s vm0 h) (CH : CHr Z EL s.vm s.heap vm0 h) (hZ : Z.Warmed39 (s.setVm vm0).vm) (hEL : EW Z a0 EL) (hx : p.tables.exec = Jvm.exec) (hlk : meth.locks = false) {t : FieldType} (ht : t.isReference = true) (hret : meth.sig.returnType = some t) {pc : Nat} {Ls : Array Slot} {w : Value} {rest : List Value} (hn' : narrow t w = w) (hw : w.isRef = true) (hd : decode c.code pc = .ok (.areturn, 1)) (hQ : Q (some w) h) (hk : k ≤ K) (hn : n ≤ N) :
    Go p e below (FiniH EL Z below s n0 Q K N) (T.setTop (mkF m pc Ls (w :: rest))) := by
  obtain ⟨locs, X, rfl, F0⟩ := H
  obtain ⟨k0, b1, b2⟩ := LB
  have C2 := CH.trans (CHv.at X hZ hEL CH.1)
  obtain ⟨fs, hr, hrun, hended, q1, q2, q3, q4⟩ := X.leaveW (v := some w) b1 b2 (fun q => by rw [hret] at q; cases q) hlk
  exact ⟨_, _, retOut X hx hret hn' (Or.inr (Or.inr (Or.inr (Or.inr ⟨rfl, ht, hw⟩)))) hd hr, hrun, hended, _, locs, rfl, ⟨hQ, F0⟩, C2, q1, q2, q3, q4.mono hk hn⟩
theorem own_ldcH (H : Here p l e R (s.setVm vm0) m args below meth c n0 T h k n) (LB : Lw s vm0 h) (CH : CHr Z EL s.vm s.heap vm0 h) (hEL : EW Z a0 EL) (hx : p.tables.exec = Jvm.exec) (hZ : Z.Warmed39 (s.setVm vm0).vm) {own text : String} {index : Nat} (hown : (s.setVm vm0).vm.findClass own = some m.cls) (w : (Jvm.Cond.stringLink own index text).before a0 Z = true) (wS : ∀ a ∈ Bundle.stringAtoms, a.before a0 Z = true) (hmem : (own, index) ∈ EL)
    (bs : List Int32) (z : Int32) (ht : (∀ c ∈ text.toList, c.toNat < 256) ∧ text.toList.map (fun c => Value.int (Jvm.Lit.byteI c.toNat.toUInt16)) = bs.map Value.int) (hz : ¬ z < 0) (hl : z.toNatClampNeg = bs.length)
    {g : JFrame} (hg : g.method = m) (hd : decode c.code g.pc = .ok (.ldc index, 2)) (nn : Nat) (hn : 4 * text.toList.length ≤ nn) (hbig : nn ≤ 536870912) (hc : k + 2 ≤ R.cells) (hl' : n + (nn + 4) ≤ R.slots)
    (next : ∀ a b T' h', Ext h h' → Fld Z h' a "java/lang/String" "coder" "B" (.int 0) → Fld Z h' a "java/lang/String" "value" "[B" (.ref b) → (∀ x, Safe Z EL T'.vm h' x → x ≠ a ∧ x ≠ b) → CHr Z EL vm0 h T'.vm h' → Lw s T'.vm h' → CHr Z EL s.vm s.heap T'.vm h' → Z.Warmed39 (s.setVm T'.vm).vm → (s.setVm T'.vm).vm.findClass own = some m.cls → Here p l e R (s.setVm T'.vm) m args below meth c n0 T' h' (k + 2) (n + (nn + 4)) → Go p e below Φ (T'.setTop { g with pc := g.pc + 2, stack := .ref a :: g.stack })) : Go p e below Φ (T.setTop g) := by
  obtain ⟨locs, X, r1, r2⟩ := H.stand
  obtain ⟨k0, b1, b2⟩ := LB
  obtain ⟨a, T', h', k1, b, kk, X', e', E, s1, s2, hZ', hown', E', C', V', K', -, -, R', -, ne, st⟩ := ldcCH X hx hZ hown w wS r1 b1 b2 hEL hmem CH.1 ht hz (by rw [hl, List.length_map]) hg hd hn hbig hc hl'
  exact Go.via st (next a b T' h' E C' V' ne R' ⟨k1, s1, s2⟩ (CH.trans R') hZ' hown' ⟨_, X', e', r2⟩)
theorem own_callIH (H : Here p l e R (s.setVm vm0) m args below meth c n0 T h k n) (LB : Lw s vm0 h) (CH : CHr Z EL s.vm s.heap vm0 h) (hEL : EW Z a0 EL) (hx : p.tables.exec = Jvm.exec) (hZ : Z.Warmed39 (s.setVm vm0).vm) {own : String} {index : Nat} {y : MethodName} {bytes : ByteArray} {maxL : Nat} {rm : Room} {a : Addr} {argsL rest : List Value} {Q' : Option Value → Heap → Prop}
    (hy1 : y.name = "<init>") (hown : (s.setVm vm0).vm.findClass own = some m.cls) (w1 : (Jvm.Cond.methodLink own index y).before a0 Z = true) (w2 : (Jvm.Cond.instanceMethod y).before a0 Z = true) (w3 : (Jvm.Cond.initialized y.cls).before a0 Z = true) (w4 : (Jvm.Cond.code y bytes maxL none).before a0 Z = true)
    (hy : y.cls ≠ "java/lang/invoke/MethodHandle" ∧ y.cls ≠ "java/lang/invoke/VarHandle") (hM : CMH EL l Z y bytes maxL none rm (Value.ref a :: argsL).toArray h n0 Q')
    {g : JFrame} (hg : g.method = m) (hsize : g.locals.size = c.maxLocals) (hlen : ∀ sig, parseMethodDescriptor y.desc = some sig → argsL.length = sig.parameters.length)
    (hstack : g.stack = argsL.reverse ++ .ref a :: rest) (W : Nat) (hW : 2 * g.monitorRoom + (rest.map fun v => v.category).sum ≤ W) (hd : decode c.code g.pc = .ok (.invokespecial index, 3))
    (hf : rm.frames + 1 ≤ R.frames) (hl : W + (maxL + 11) + rm.locals ≤ R.locals) (hc : k + rm.cells ≤ R.cells) (hs : n + rm.slots ≤ R.slots)
    (next : ∀ v T' h', Q' v h' → CHr Z EL vm0 h T'.vm h' → Lw s T'.vm h' → CHr Z EL s.vm s.heap T'.vm h' → Z.Warmed39 (s.setVm T'.vm).vm → (s.setVm T'.vm).vm.findClass own = some m.cls → Here p l e R (s.setVm T'.vm) m args below meth c n0 T' h' (k + rm.cells) (n + rm.slots) → Go p e below Φ (T'.setTop { g with pc := g.pc + 3, stack := v.toList ++ rest })) :
    Go p e below Φ (T.setTop g) := by
  obtain ⟨locs, X, rfl, F⟩ := H
  obtain ⟨k0, b1, b2⟩ := LB
  obtain ⟨v, _, ⟨T3, L3, k3, n3⟩, -, X3, hS3, hg3, ⟨Lc3, hQ3, l3, y3, z3, hC3⟩, st3⟩ := X.specialBackS hx (y := y) hy1 hown (mvT hZ w1) (mvT hZ w2) (mvT hZ w4) hy (backOfSH (W := W) (Q := fun v h L => Q' v h ∧ Fr n0 L) (hM []) hZ w4 w3 hf hl hEL CH.1) (g := g) hg hsize (Steps.refl _) (a := a) (argsL := argsL) (rest := rest) hlen hstack hW hd (fun _ _ => ⟨rfl, rfl, hc, hs⟩)
  dsimp only [Pt.U, Pt.locs, Pt.cells, Pt.slots] at X3 l3 y3 z3 st3 hQ3 hS3 hg3 hC3
  subst l3 y3 z3
  have hS4 := foldS b1 b2 hS3 hg3
  exact Go.via (fun t q => st3.trans q) (next v T3 T3.heap hQ3.1 hC3 ⟨_, hS4, Nat.le_refl _⟩ (CH.trans hC3) (State.Warmed39.trans (t := s.setVm vm0) hZ hS3.1) (by rw [show (s.setVm T3.vm).vm = T3.vm from rfl, hS3.1.alike.findClass]; exact hown) ⟨_, X3, rfl, F.app hQ3.2⟩)
theorem own_callSH (H : Here p l e R (s.setVm vm0) m args below meth c n0 T h k n) (LB : Lw s vm0 h) (CH : CHr Z EL s.vm s.heap vm0 h) (hEL : EW Z a0 EL) (hx : p.tables.exec = Jvm.exec) (hZ : Z.Warmed39 (s.setVm vm0).vm) {own : String} {index : Nat} {y : MethodName} {bytes : ByteArray} {maxL : Nat} {ret : Option FieldType} {rm : Room} {argsL rest : List Value} {Q' : Option Value → Heap → Prop}
    (hown : (s.setVm vm0).vm.findClass own = some m.cls) (w1 : (Jvm.Cond.methodLink own index y).before a0 Z = true) (w2 : (Jvm.Cond.static y).before a0 Z = true) (w3 : (Jvm.Cond.initialized y.cls).before a0 Z = true) (w4 : (Jvm.Cond.code y bytes maxL ret).before a0 Z = true)
    (hy : y.cls ≠ "java/lang/invoke/MethodHandle" ∧ y.cls ≠ "java/lang/invoke/VarHandle") (hM : CMH EL l Z y bytes maxL ret rm argsL.toArray h n0 Q')
    {g : JFrame} (hg : g.method = m) (hsize : g.locals.size = c.maxLocals) (hlen : ∀ sig, parseMethodDescriptor y.desc = some sig → argsL.length = sig.parameters.length)
    (hstack : g.stack = argsL.reverse ++ rest) (W : Nat) (hW : 2 * g.monitorRoom + (rest.map fun v => v.category).sum ≤ W) (hd : decode c.code g.pc = .ok (.invokestatic index, 3))
    (hf : rm.frames + 1 ≤ R.frames) (hl : W + (maxL + 11) + rm.locals ≤ R.locals) (hc : k + rm.cells ≤ R.cells) (hs : n + rm.slots ≤ R.slots)
    (next : ∀ v T' h', Q' v h' → CHr Z EL vm0 h T'.vm h' → Lw s T'.vm h' → CHr Z EL s.vm s.heap T'.vm h' → Z.Warmed39 (s.setVm T'.vm).vm → (s.setVm T'.vm).vm.findClass own = some m.cls → Here p l e R (s.setVm T'.vm) m args below meth c n0 T' h' (k + rm.cells) (n + rm.slots) → Go p e below Φ (T'.setTop { g with pc := g.pc + 3, stack := v.toList ++ rest })) :
    Go p e below Φ (T.setTop g) := by
  obtain ⟨locs, X, rfl, F⟩ := H
  obtain ⟨k0, b1, b2⟩ := LB
  obtain ⟨v, _, ⟨T3, L3, k3, n3⟩, -, X3, hS3, hg3, ⟨Lc3, hQ3, l3, y3, z3, hC3⟩, st3⟩ := callSS X hx (y := y) hown (mvT hZ w1) (mvT hZ w2) (mvT hZ w3) (mvT hZ w4) hy (backOfSH (W := W) (Q := fun v h L => Q' v h ∧ Fr n0 L) (hM []) hZ w4 w3 hf hl hEL CH.1) (g := g) hg hsize (argsL := argsL) (rest := rest) hlen hstack hW hd (fun _ _ => ⟨rfl, rfl, hc, hs⟩)
  dsimp only [Pt.U, Pt.locs, Pt.cells, Pt.slots] at X3 l3 y3 z3 st3 hQ3 hS3 hg3 hC3
  subst l3 y3 z3
  have hS4 := foldS b1 b2 hS3 hg3
  exact Go.via (fun t q => st3.trans q) (next v T3 T3.heap hQ3.1 hC3 ⟨_, hS4, Nat.le_refl _⟩ (CH.trans hC3) (State.Warmed39.trans (t := s.setVm vm0) hZ hS3.1) (by rw [show (s.setVm T3.vm).vm = T3.vm from rfl, hS3.1.alike.findClass]; exact hown) ⟨_, X3, rfl, F.app hQ3.2⟩)
/-- a String whose value is null is no booked one -/
theorem own_safe {vm : Vm} {x : Addr} (hal : Z.vm.Alike vm) (E : Exa Z h x "java/lang/String") (F : Fld Z h x "java/lang/String" "value" "[B" .null) : Safe Z EL vm h x := fun B => by
  obtain ⟨cell, k, e1, e2, e3, -, -⟩ := E
  obtain ⟨cell', cf, kf, i, f, f1, f2, f3, f4, f5, f6, f7⟩ := F
  cases f1.symm.trans e1
  obtain ⟨p, -, u, a, -, q, -, S, rfl | rfl⟩ := B
  · cases (show h[q.sa]? = some q.sC from S.ha).symm.trans e1
    obtain ⟨cS, ⟨⟨-, -, -, ⟨c1, k1, i1, g1, -⟩, -, -, -, v1, -⟩, -⟩, -⟩ := S
    obtain ⟨k3, e4⟩ := ff_back (U := Wst Z vm h) hal g1
    have e5 := e4.symm.trans f2
    simp only [Option.some.injEq, Prod.mk.injEq] at e5
    rw [e5.2.2.2, f7] at v1
    cases v1
  · cases (show h[q.sd]? = some q.SA from S.hd).symm.trans e1
    obtain ⟨cS, -, -, g, -⟩ := S
    have g' : Z.vm.findClass "[B" = some q.SA.cls := by rw [← hal.findClass]; exact g
    exact ids_ne e2 g' (by decide) rfl
theorem own_ldCA (H : Here p l e R s m args below meth c n0 T h k n) (hx : p.tables.exec = Jvm.exec) (hZ : Z.Warmed39 s.vm) {a : Addr} {N' : Nat} {B : Nat → Int32} (A : Ab Z h a .char N' B) {J : Int32} {j : Nat} (ej : J.toInt = (j : Int)) (hj : j < N') {g : JFrame} (hg : g.method = m) {rest : List Value} (hs : g.stack = .int J :: .ref a :: rest) (hd : decode c.code g.pc = .ok (.caload, 1))
    (next : Go p e below Φ (T.setTop { g with pc := g.pc + 1, stack := .int (B j) :: rest })) : Go p e below Φ (T.setTop g) := by
  obtain ⟨cl, A0, S, G⟩ := A
  obtain ⟨locs, X, r1, r2⟩ := H.stand
  exact Go.via (fun t q => X.caload hx (by rw [r1]; exact A0.1) (State.isArrayOf_alike hZ.alike A0.2.1) A0.2.2 (own_in ej S hj) (by rw [(own_idx ej).2]; exact G j hj) hg hs hd t q) next
theorem own_stCA (H : Here p l e R s m args below meth c n0 T h k n) (hx : p.tables.exec = Jvm.exec) (hZ : Z.Warmed39 s.vm) {a : Addr} {N' : Nat} {B : Nat → Int32} (A : Ab Z h a .char N' B) {J x : Int32} {j : Nat} (ej : J.toInt = (j : Int)) (hj : j < N') (ha : n0 ≤ a) {g : JFrame} (hg : g.method = m) {rest : List Value} (hs : g.stack = .int x :: .int J :: .ref a :: rest) (hd : decode c.code g.pc = .ok (.castore, 1))
    (next : ∀ T' h', Wr h h' a j (.int (nar .char x)) → Ab Z h' a .char N' (upd B j (nar .char x)) → Here p l e R s m args below meth c n0 T' h' k n → Go p e below Φ (T'.setTop { g with pc := g.pc + 1, stack := rest })) : Go p e below Φ (T.setTop g) := by
  have A' := A
  obtain ⟨cl, A0, S, G⟩ := A
  obtain ⟨locs, X, r1, r2⟩ := H.stand
  obtain ⟨T', h', X', e', W, st⟩ := stC X hx hZ r1 A0 (own_in ej S hj) hg hs hd
  have W' := W
  rw [(own_idx ej).2] at W'
  exact Go.via st (next T' h' W' (A'.set W') ⟨_, X', e', Fr.snoc X' r2 ha⟩)
end OwnH

theorem own_nc {x : Int32} (h : 0 ≤ x.toInt ∧ x.toInt < 65536) : x.toUInt32.toUInt16.toUInt32.toInt32 = x := by
  apply Int32.toInt_inj.mp
  have := c_i2c x
  omega
theorem own_le (b : Int32) : ¬ (255 : Int32) < nar .char ((b &&& (255 : Int32)).toUInt32.toUInt16.toUInt32.toInt32) := by
  have q := c_mask b 255 8 (by decide) (by decide)
  have r : 0 ≤ (b &&& (255 : Int32)).toInt ∧ (b &&& (255 : Int32)).toInt < 65536 := by omega
  rw [own_nc r, show nar .char (b &&& (255 : Int32)) = b &&& (255 : Int32) from own_nc r, Int32.lt_iff_toInt_lt]
  have e : (255 : Int32).toInt = 255 := by decide
  omega
theorem d6_0 : decode jdk_52_method_21_code 0 = .ok (.iconst 0, 1) := by decide +kernel
theorem d6_1 : decode jdk_52_method_21_code 1 = .ok (.istore 5, 2) := by decide +kernel
theorem d6_3 : decode jdk_52_method_21_code 3 = .ok (.iload 5, 2) := by decide +kernel
theorem d6_5 : decode jdk_52_method_21_code 5 = .ok (.iload 4, 2) := by decide +kernel
theorem d6_7 : decode jdk_52_method_21_code 7 = .ok (.if_icmp .ge 37, 3) := by decide +kernel
theorem d6_10 : decode jdk_52_method_21_code 10 = .ok (.aload_n 0, 1) := by decide +kernel
theorem d6_11 : decode jdk_52_method_21_code 11 = .ok (.iload_n 1, 1) := by decide +kernel
theorem d6_12 : decode jdk_52_method_21_code 12 = .ok (.caload, 1) := by decide +kernel
theorem d6_13 : decode jdk_52_method_21_code 13 = .ok (.istore 6, 2) := by decide +kernel
theorem d6_15 : decode jdk_52_method_21_code 15 = .ok (.iload 6, 2) := by decide +kernel
theorem d6_17 : decode jdk_52_method_21_code 17 = .ok (.sipush 255, 3) := by decide +kernel
theorem d6_20 : decode jdk_52_method_21_code 20 = .ok (.if_icmp .le 6, 3) := by decide +kernel
theorem d6_23 : decode jdk_52_method_21_code 23 = .ok (.iload 5, 2) := by decide +kernel
theorem d6_25 : decode jdk_52_method_21_code 25 = .ok (.ireturn, 1) := by decide +kernel
theorem d6_26 : decode jdk_52_method_21_code 26 = .ok (.aload_n 2, 1) := by decide +kernel
theorem d6_27 : decode jdk_52_method_21_code 27 = .ok (.iload_n 3, 1) := by decide +kernel
theorem d6_28 : decode jdk_52_method_21_code 28 = .ok (.iload 6, 2) := by decide +kernel
theorem d6_30 : decode jdk_52_method_21_code 30 = .ok (.i2b, 1) := by decide +kernel
theorem d6_31 : decode jdk_52_method_21_code 31 = .ok (.bastore, 1) := by decide +kernel
theorem d6_32 : decode jdk_52_method_21_code 32 = .ok (.iinc 1 1, 3) := by decide +kernel
theorem d6_35 : decode jdk_52_method_21_code 35 = .ok (.iinc 3 1, 3) := by decide +kernel
theorem d6_38 : decode jdk_52_method_21_code 38 = .ok (.iinc 5 1, 3) := by decide +kernel
theorem d6_41 : decode jdk_52_method_21_code 41 = .ok (.goto (-38), 3) := by decide +kernel
theorem d6_44 : decode jdk_52_method_21_code 44 = .ok (.iload 4, 2) := by decide +kernel
theorem d6_46 : decode jdk_52_method_21_code 46 = .ok (.ireturn, 1) := by decide +kernel
theorem ef_rmC6_1 (m : MethodId) (x0 : Addr) (x1 : Int32) (x2 : Addr) (x3 : Int32) (x4 : Int32) : entryFrame m #[(.ref x0), (.int x1), (.ref x2), (.int x3), (.int x4)] 7 = mkF m 0 #[.val (.ref x0), .val (.int x1), .val (.ref x2), .val (.int x3), .val (.int x4), .unset, .unset] [] := by first | (simp [entryFrame, mkF, argsToLocals, Value.category]; done) | rfl
set_option maxRecDepth 65536 in
set_option maxHeartbeats 40000000 in
theorem rmC6_1 (l : Launch) (Z : State) (a0 : Array Value) (hw : ∀ d ∈ tables_1, d.before a0 Z = true) (ar b : Addr) (B D : Nat → Int32) (h0 : Heap) (n0 : Nat) (AB : Ab Z h0 ar .char 1 B) (hB : ∀ j, j < 1 → ¬ (255 : Int32) < B j) (AD : Ab Z h0 b .byte 1 D) (nb : ar ≠ b) (g : n0 ≤ b) :
    CM l Z (⟨"java/lang/StringUTF16", "compress", "([CI[BII)I"⟩ : MethodName) jdk_52_method_21_code 7 (some .int) ({ frames := 0, cells := 0, slots := 0, locals := 0 } : Room) #[(.ref ar), (.int (0 : Int32)), (.ref b), (.int (0 : Int32)), (.int (1 : Int32))] h0 n0 (fun v h => v = some (.int (1 : Int32)) ∧ Keep h0 h [b] ∧ ∃ D', Ab Z h b .byte 1 D') := by
  refine own_enter (by decide +kernel) ?_
  intro p e s m below meth c T0 hx hby hml hown hnm hZ hret hlk H0
  replace hown : s.vm.findClass "java/lang/StringUTF16" = some m.cls := hown
  replace hret : meth.sig.returnType = some .int := hret
  refine Go.via (fun t_ k_ => castTop (ef_rmC6_1 m ar (0 : Int32) b (0 : Int32) (1 : Int32)) k_) ?_
  show Go _ _ _ _ (T0.setTop (mkF m 0 #[.val (.ref ar), .val (.int (0 : Int32)), .val (.ref b), .val (.int (0 : Int32)), .val (.int (1 : Int32)), .unset, .unset] []))
  refine Go.via (fun t_ k_ => XS.iconst H0.here hx rfl (hb hby d6_0) k_) ?_
  show Go _ _ _ _ (T0.setTop (mkF m 1 #[.val (.ref ar), .val (.int (0 : Int32)), .val (.ref b), .val (.int (0 : Int32)), .val (.int (1 : Int32)), .unset, .unset] [(.int (0 : Int32))]))
  refine Go.via (fun t_ k_ => XS.istore H0.here hx rfl (hb hby d6_1) rfl (l' := #[.val (.ref ar), .val (.int (0 : Int32)), .val (.ref b), .val (.int (0 : Int32)), .val (.int (1 : Int32)), .val (.int (0 : Int32)), .unset]) rfl k_) ?_
  show Go _ _ _ _ (T0.setTop (mkF m 3 #[.val (.ref ar), .val (.int (0 : Int32)), .val (.ref b), .val (.int (0 : Int32)), .val (.int (1 : Int32)), .val (.int (0 : Int32)), .unset] []))
  refine Go.via (fun t_ k_ => XS.iload H0.here hx rfl (hb hby d6_3) rfl k_) ?_
  show Go _ _ _ _ (T0.setTop (mkF m 5 #[.val (.ref ar), .val (.int (0 : Int32)), .val (.ref b), .val (.int (0 : Int32)), .val (.int (1 : Int32)), .val (.int (0 : Int32)), .unset] [(.int (0 : Int32))]))
  refine Go.via (fun t_ k_ => XS.iload H0.here hx rfl (hb hby d6_5) rfl k_) ?_
  show Go _ _ _ _ (T0.setTop (mkF m 7 #[.val (.ref ar), .val (.int (0 : Int32)), .val (.ref b), .val (.int (0 : Int32)), .val (.int (1 : Int32)), .val (.int (0 : Int32)), .unset] [(.int (1 : Int32)), (.int (0 : Int32))]))
  refine Go.via (fun t_ k_ => XS.icmpNo H0.here hx rfl (hb hby d6_7) rfl ((tlt (show (0 : Int32) < (1 : Int32) from (by decide))).2.1) k_) ?_
  show Go _ _ _ _ (T0.setTop (mkF m 10 #[.val (.ref ar), .val (.int (0 : Int32)), .val (.ref b), .val (.int (0 : Int32)), .val (.int (1 : Int32)), .val (.int (0 : Int32)), .unset] []))
  refine Go.via (fun t_ k_ => XS.aloadN H0.here hx rfl (hb hby d6_10) rfl rfl k_) ?_
  show Go _ _ _ _ (T0.setTop (mkF m 11 #[.val (.ref ar), .val (.int (0 : Int32)), .val (.ref b), .val (.int (0 : Int32)), .val (.int (1 : Int32)), .val (.int (0 : Int32)), .unset] [(.ref ar)]))
  refine Go.via (fun t_ k_ => XS.iloadN H0.here hx rfl (hb hby d6_11) rfl k_) ?_
  show Go _ _ _ _ (T0.setTop (mkF m 12 #[.val (.ref ar), .val (.int (0 : Int32)), .val (.ref b), .val (.int (0 : Int32)), .val (.int (1 : Int32)), .val (.int (0 : Int32)), .unset] [(.int (0 : Int32)), (.ref ar)]))
  refine own_ldCA H0 hx hZ AB (j := 0) (by decide) (by decide) (g := (mkF m 12 #[.val (.ref ar), .val (.int (0 : Int32)), .val (.ref b), .val (.int (0 : Int32)), .val (.int (1 : Int32)), .val (.int (0 : Int32)), .unset] [(.int (0 : Int32)), (.ref ar)])) rfl rfl (hb hby d6_12) ?_
  show Go _ _ _ _ (T0.setTop (mkF m 13 #[.val (.ref ar), .val (.int (0 : Int32)), .val (.ref b), .val (.int (0 : Int32)), .val (.int (1 : Int32)), .val (.int (0 : Int32)), .unset] [(.int (B 0))]))
  refine Go.via (fun t_ k_ => XS.istore H0.here hx rfl (hb hby d6_13) rfl (l' := #[.val (.ref ar), .val (.int (0 : Int32)), .val (.ref b), .val (.int (0 : Int32)), .val (.int (1 : Int32)), .val (.int (0 : Int32)), .val (.int (B 0))]) rfl k_) ?_
  show Go _ _ _ _ (T0.setTop (mkF m 15 #[.val (.ref ar), .val (.int (0 : Int32)), .val (.ref b), .val (.int (0 : Int32)), .val (.int (1 : Int32)), .val (.int (0 : Int32)), .val (.int (B 0))] []))
  refine Go.via (fun t_ k_ => XS.iload H0.here hx rfl (hb hby d6_15) rfl k_) ?_
  show Go _ _ _ _ (T0.setTop (mkF m 17 #[.val (.ref ar), .val (.int (0 : Int32)), .val (.ref b), .val (.int (0 : Int32)), .val (.int (1 : Int32)), .val (.int (0 : Int32)), .val (.int (B 0))] [(.int (B 0))]))
  refine Go.via (fun t_ k_ => XS.sipush H0.here hx rfl (hb hby d6_17) k_) ?_
  show Go _ _ _ _ (T0.setTop (mkF m 20 #[.val (.ref ar), .val (.int (0 : Int32)), .val (.ref b), .val (.int (0 : Int32)), .val (.int (1 : Int32)), .val (.int (0 : Int32)), .val (.int (B 0))] [(.int (255 : Int32)), (.int (B 0))]))
  refine Go.via (fun t_ k_ => XS.icmpYes H0.here hx rfl (pc0 := 20) (pc' := 26) rfl (hb hby d6_20) rfl ((flt (show ¬ ((255 : Int32) < (B 0)) from (hB 0 (by decide)))).2.2.2) (by decide) (by decide) k_) ?_
  show Go _ _ _ _ (T0.setTop (mkF m 26 #[.val (.ref ar), .val (.int (0 : Int32)), .val (.ref b), .val (.int (0 : Int32)), .val (.int (1 : Int32)), .val (.int (0 : Int32)), .val (.int (B 0))] []))
  refine Go.via (fun t_ k_ => XS.aloadN H0.here hx rfl (hb hby d6_26) rfl rfl k_) ?_
  show Go _ _ _ _ (T0.setTop (mkF m 27 #[.val (.ref ar), .val (.int (0 : Int32)), .val (.ref b), .val (.int (0 : Int32)), .val (.int (1 : Int32)), .val (.int (0 : Int32)), .val (.int (B 0))] [(.ref b)]))
  refine Go.via (fun t_ k_ => XS.iloadN H0.here hx rfl (hb hby d6_27) rfl k_) ?_
  show Go _ _ _ _ (T0.setTop (mkF m 28 #[.val (.ref ar), .val (.int (0 : Int32)), .val (.ref b), .val (.int (0 : Int32)), .val (.int (1 : Int32)), .val (.int (0 : Int32)), .val (.int (B 0))] [(.int (0 : Int32)), (.ref b)]))
  refine Go.via (fun t_ k_ => XS.iload H0.here hx rfl (hb hby d6_28) rfl k_) ?_
  show Go _ _ _ _ (T0.setTop (mkF m 30 #[.val (.ref ar), .val (.int (0 : Int32)), .val (.ref b), .val (.int (0 : Int32)), .val (.int (1 : Int32)), .val (.int (0 : Int32)), .val (.int (B 0))] [(.int (B 0)), (.int (0 : Int32)), (.ref b)]))
  refine Go.via (fun t_ k_ => XS.i2b H0.here hx rfl (hb hby d6_30) rfl k_) ?_
  show Go _ _ _ _ (T0.setTop (mkF m 31 #[.val (.ref ar), .val (.int (0 : Int32)), .val (.ref b), .val (.int (0 : Int32)), .val (.int (1 : Int32)), .val (.int (0 : Int32)), .val (.int (B 0))] [(.int ((B 0).toInt8.toInt32)), (.int (0 : Int32)), (.ref b)]))
  refine own_stBA H0 hx hZ AD (j := 0) (by decide) (by decide) g (g := (mkF m 31 #[.val (.ref ar), .val (.int (0 : Int32)), .val (.ref b), .val (.int (0 : Int32)), .val (.int (1 : Int32)), .val (.int (0 : Int32)), .val (.int (B 0))] [(.int ((B 0).toInt8.toInt32)), (.int (0 : Int32)), (.ref b)])) rfl rfl (hb hby d6_31) ?_
  intro T1 h1 W1 B1 H1
  have K1 := ((Keep.refl h0 [b])).wr W1 (Or.inl (List.mem_cons_self ..))
  show Go _ _ _ _ (T1.setTop (mkF m 32 #[.val (.ref ar), .val (.int (0 : Int32)), .val (.ref b), .val (.int (0 : Int32)), .val (.int (1 : Int32)), .val (.int (0 : Int32)), .val (.int (B 0))] []))
  refine Go.via (fun t_ k_ => XS.iinc H1.here hx rfl (hb hby d6_32) rfl (l' := #[.val (.ref ar), .val (.int (1 : Int32)), .val (.ref b), .val (.int (0 : Int32)), .val (.int (1 : Int32)), .val (.int (0 : Int32)), .val (.int (B 0))]) rfl k_) ?_
  show Go _ _ _ _ (T1.setTop (mkF m 35 #[.val (.ref ar), .val (.int (1 : Int32)), .val (.ref b), .val (.int (0 : Int32)), .val (.int (1 : Int32)), .val (.int (0 : Int32)), .val (.int (B 0))] []))
  refine Go.via (fun t_ k_ => XS.iinc H1.here hx rfl (hb hby d6_35) rfl (l' := #[.val (.ref ar), .val (.int (1 : Int32)), .val (.ref b), .val (.int (1 : Int32)), .val (.int (1 : Int32)), .val (.int (0 : Int32)), .val (.int (B 0))]) rfl k_) ?_
  show Go _ _ _ _ (T1.setTop (mkF m 38 #[.val (.ref ar), .val (.int (1 : Int32)), .val (.ref b), .val (.int (1 : Int32)), .val (.int (1 : Int32)), .val (.int (0 : Int32)), .val (.int (B 0))] []))
  refine Go.via (fun t_ k_ => XS.iinc H1.here hx rfl (hb hby d6_38) rfl (l' := #[.val (.ref ar), .val (.int (1 : Int32)), .val (.ref b), .val (.int (1 : Int32)), .val (.int (1 : Int32)), .val (.int (1 : Int32)), .val (.int (B 0))]) rfl k_) ?_
  show Go _ _ _ _ (T1.setTop (mkF m 41 #[.val (.ref ar), .val (.int (1 : Int32)), .val (.ref b), .val (.int (1 : Int32)), .val (.int (1 : Int32)), .val (.int (1 : Int32)), .val (.int (B 0))] []))
  refine Go.via (fun t_ k_ => XS.goto H1.here hx rfl (pc0 := 41) (pc' := 3) rfl (hb hby d6_41) (by decide) (by decide) k_) ?_
  show Go _ _ _ _ (T1.setTop (mkF m 3 #[.val (.ref ar), .val (.int (1 : Int32)), .val (.ref b), .val (.int (1 : Int32)), .val (.int (1 : Int32)), .val (.int (1 : Int32)), .val (.int (B 0))] []))
  refine Go.via (fun t_ k_ => XS.iload H1.here hx rfl (hb hby d6_3) rfl k_) ?_
  show Go _ _ _ _ (T1.setTop (mkF m 5 #[.val (.ref ar), .val (.int (1 : Int32)), .val (.ref b), .val (.int (1 : Int32)), .val (.int (1 : Int32)), .val (.int (1 : Int32)), .val (.int (B 0))] [(.int (1 : Int32))]))
  refine Go.via (fun t_ k_ => XS.iload H1.here hx rfl (hb hby d6_5) rfl k_) ?_
  show Go _ _ _ _ (T1.setTop (mkF m 7 #[.val (.ref ar), .val (.int (1 : Int32)), .val (.ref b), .val (.int (1 : Int32)), .val (.int (1 : Int32)), .val (.int (1 : Int32)), .val (.int (B 0))] [(.int (1 : Int32)), (.int (1 : Int32))]))
  refine Go.via (fun t_ k_ => XS.icmpYes H1.here hx rfl (pc0 := 7) (pc' := 44) rfl (hb hby d6_7) rfl ((flt (show ¬ ((1 : Int32) < (1 : Int32)) from (by decide))).2.1) (by decide) (by decide) k_) ?_
  show Go _ _ _ _ (T1.setTop (mkF m 44 #[.val (.ref ar), .val (.int (1 : Int32)), .val (.ref b), .val (.int (1 : Int32)), .val (.int (1 : Int32)), .val (.int (1 : Int32)), .val (.int (B 0))] []))
  refine Go.via (fun t_ k_ => XS.iload H1.here hx rfl (hb hby d6_44) rfl k_) ?_
  show Go _ _ _ _ (T1.setTop (mkF m 46 #[.val (.ref ar), .val (.int (1 : Int32)), .val (.ref b), .val (.int (1 : Int32)), .val (.int (1 : Int32)), .val (.int (1 : Int32)), .val (.int (B 0))] [(.int (1 : Int32))]))
  exact own_retI H1 hx hlk hret (hb hby d6_46) ⟨rfl, K1, _, B1⟩ (by decide) (by decide)
theorem d5_0 : decode jdk_52_method_16_code 0 = .ok (.iload_n 2, 1) := by decide +kernel
theorem d5_1 : decode jdk_52_method_16_code 1 = .ok (.newarray .byte, 2) := by decide +kernel
theorem d5_3 : decode jdk_52_method_16_code 3 = .ok (.astore_n 3, 1) := by decide +kernel
theorem d5_4 : decode jdk_52_method_16_code 4 = .ok (.aload_n 0, 1) := by decide +kernel
theorem d5_5 : decode jdk_52_method_16_code 5 = .ok (.iload_n 1, 1) := by decide +kernel
theorem d5_6 : decode jdk_52_method_16_code 6 = .ok (.aload_n 3, 1) := by decide +kernel
theorem d5_7 : decode jdk_52_method_16_code 7 = .ok (.iconst 0, 1) := by decide +kernel
theorem d5_8 : decode jdk_52_method_16_code 8 = .ok (.iload_n 2, 1) := by decide +kernel
theorem d5_9 : decode jdk_52_method_16_code 9 = .ok (.invokestatic 115, 3) := by decide +kernel
theorem d5_12 : decode jdk_52_method_16_code 12 = .ok (.istore 4, 2) := by decide +kernel
theorem d5_14 : decode jdk_52_method_16_code 14 = .ok (.iload 4, 2) := by decide +kernel
theorem d5_16 : decode jdk_52_method_16_code 16 = .ok (.iload_n 2, 1) := by decide +kernel
theorem d5_17 : decode jdk_52_method_16_code 17 = .ok (.if_icmp .eq 40, 3) := by decide +kernel
theorem d5_20 : decode jdk_52_method_16_code 20 = .ok (.aload_n 0, 1) := by decide +kernel
theorem d5_21 : decode jdk_52_method_16_code 21 = .ok (.iload_n 1, 1) := by decide +kernel
theorem d5_22 : decode jdk_52_method_16_code 22 = .ok (.iload_n 2, 1) := by decide +kernel
theorem d5_23 : decode jdk_52_method_16_code 23 = .ok (.invokestatic 119, 3) := by decide +kernel
theorem d5_26 : decode jdk_52_method_16_code 26 = .ok (.astore 5, 2) := by decide +kernel
theorem d5_28 : decode jdk_52_method_16_code 28 = .ok (.aload 5, 2) := by decide +kernel
theorem d5_30 : decode jdk_52_method_16_code 30 = .ok (.iload 4, 2) := by decide +kernel
theorem d5_32 : decode jdk_52_method_16_code 32 = .ok (.invokestatic 71, 3) := by decide +kernel
theorem d5_35 : decode jdk_52_method_16_code 35 = .ok (.sipush 255, 3) := by decide +kernel
theorem d5_38 : decode jdk_52_method_16_code 38 = .ok (.if_icmp .gt 16, 3) := by decide +kernel
theorem d5_41 : decode jdk_52_method_16_code 41 = .ok (.aload 5, 2) := by decide +kernel
theorem d5_43 : decode jdk_52_method_16_code 43 = .ok (.iconst 0, 1) := by decide +kernel
theorem d5_44 : decode jdk_52_method_16_code 44 = .ok (.aload_n 3, 1) := by decide +kernel
theorem d5_45 : decode jdk_52_method_16_code 45 = .ok (.iconst 0, 1) := by decide +kernel
theorem d5_46 : decode jdk_52_method_16_code 46 = .ok (.iload_n 2, 1) := by decide +kernel
theorem d5_47 : decode jdk_52_method_16_code 47 = .ok (.invokestatic 123, 3) := by decide +kernel
theorem d5_50 : decode jdk_52_method_16_code 50 = .ok (.iload_n 2, 1) := by decide +kernel
theorem d5_51 : decode jdk_52_method_16_code 51 = .ok (.if_icmp .eq 6, 3) := by decide +kernel
theorem d5_54 : decode jdk_52_method_16_code 54 = .ok (.aload 5, 2) := by decide +kernel
theorem d5_56 : decode jdk_52_method_16_code 56 = .ok (.areturn, 1) := by decide +kernel
theorem d5_57 : decode jdk_52_method_16_code 57 = .ok (.aload_n 3, 1) := by decide +kernel
theorem d5_58 : decode jdk_52_method_16_code 58 = .ok (.areturn, 1) := by decide +kernel
theorem ef_rmC3_1 (m : MethodId) (x0 : Addr) (x1 : Int32) (x2 : Int32) : entryFrame m #[(.ref x0), (.int x1), (.int x2)] 6 = mkF m 0 #[.val (.ref x0), .val (.int x1), .val (.int x2), .unset, .unset, .unset] [] := by first | (simp [entryFrame, mkF, argsToLocals, Value.category]; done) | rfl
theorem pd_0 : parseMethodDescriptor "([CI[BII)I" = some ⟨[(.array .char), .int, (.array .byte), .int, .int], some .int⟩ := by decide +kernel
set_option maxRecDepth 65536 in
set_option maxHeartbeats 40000000 in
theorem rmC3_1 (l : Launch) (Z : State) (a0 : Array Value) (hw : ∀ d ∈ tables_1, d.before a0 Z = true) (ar : Addr) (B : Nat → Int32) (h0 : Heap) (n0 : Nat) (AB : Ab Z h0 ar .char 1 B) (hB : ∀ j, j < 1 → ¬ (255 : Int32) < B j) (hsz : n0 ≤ h0.size) :
    CM l Z (⟨"java/lang/StringUTF16", "compress", "([CII)[B"⟩ : MethodName) jdk_52_method_16_code 6 (some (.array .byte)) ({ frames := 1, cells := 1, slots := 1, locals := 18 } : Room) #[(.ref ar), (.int (0 : Int32)), (.int (1 : Int32))] h0 n0 (fun v h => ∃ b, v = some (.ref b) ∧ Keep h0 h [] ∧ ∃ D', Ab Z h b .byte 1 D') := by
  refine own_enter (by decide +kernel) ?_
  intro p e s m below meth c T0 hx hby hml hown hnm hZ hret hlk H0
  replace hown : s.vm.findClass "java/lang/StringUTF16" = some m.cls := hown
  replace hret : meth.sig.returnType = some (.array .byte) := hret
  refine Go.via (fun t_ k_ => castTop (ef_rmC3_1 m ar (0 : Int32) (1 : Int32)) k_) ?_
  show Go _ _ _ _ (T0.setTop (mkF m 0 #[.val (.ref ar), .val (.int (0 : Int32)), .val (.int (1 : Int32)), .unset, .unset, .unset] []))
  refine Go.via (fun t_ k_ => XS.iloadN H0.here hx rfl (hb hby d5_0) rfl k_) ?_
  show Go _ _ _ _ (T0.setTop (mkF m 1 #[.val (.ref ar), .val (.int (0 : Int32)), .val (.int (1 : Int32)), .unset, .unset, .unset] [(.int (1 : Int32))]))
  refine own_newA H0 hx hZ (aty := .byte) (hw _ (List.mem_of_getElem? (i := 23) rfl)) (g := (mkF m 1 #[.val (.ref ar), .val (.int (0 : Int32)), .val (.int (1 : Int32)), .unset, .unset, .unset] [(.int (1 : Int32))])) rfl (hb hby d5_1) rfl (by decide) 1 (by decide) rfl 1 (by decide) (by decide) (by decide) (by decide) ?_
  intro T1 h1 a1 ga1 E1 B1 H1
  replace B1 : Ab Z h1 a1 .byte 1 (fun _ => 0) := B1
  have ne_ar_a1 : ar ≠ a1 := by rw [ga1]; exact Nat.ne_of_lt AB.lt
  have g_a1 : n0 ≤ a1 := by rw [ga1]; exact hsz
  have sz1 : n0 ≤ h1.size := Nat.le_trans hsz E1.1
  have kin_a1 : h0.size ≤ a1 := by rw [ga1]; exact ((Keep.refl h0 [])).1
  have K1 := ((Keep.refl h0 [])).ext E1
  show Go _ _ _ _ (T1.setTop (mkF m 3 #[.val (.ref ar), .val (.int (0 : Int32)), .val (.int (1 : Int32)), .unset, .unset, .unset] [(.ref a1)]))
  refine Go.via (fun t_ k_ => XS.astoreN H1.here hx rfl (hb hby d5_3) rfl rfl (l' := #[.val (.ref ar), .val (.int (0 : Int32)), .val (.int (1 : Int32)), .val (.ref a1), .unset, .unset]) rfl k_) ?_
  show Go _ _ _ _ (T1.setTop (mkF m 4 #[.val (.ref ar), .val (.int (0 : Int32)), .val (.int (1 : Int32)), .val (.ref a1), .unset, .unset] []))
  refine Go.via (fun t_ k_ => XS.aloadN H1.here hx rfl (hb hby d5_4) rfl rfl k_) ?_
  show Go _ _ _ _ (T1.setTop (mkF m 5 #[.val (.ref ar), .val (.int (0 : Int32)), .val (.int (1 : Int32)), .val (.ref a1), .unset, .unset] [(.ref ar)]))
  refine Go.via (fun t_ k_ => XS.iloadN H1.here hx rfl (hb hby d5_5) rfl k_) ?_
  show Go _ _ _ _ (T1.setTop (mkF m 6 #[.val (.ref ar), .val (.int (0 : Int32)), .val (.int (1 : Int32)), .val (.ref a1), .unset, .unset] [(.int (0 : Int32)), (.ref ar)]))
  refine Go.via (fun t_ k_ => XS.aloadN H1.here hx rfl (hb hby d5_6) rfl rfl k_) ?_
  show Go _ _ _ _ (T1.setTop (mkF m 7 #[.val (.ref ar), .val (.int (0 : Int32)), .val (.int (1 : Int32)), .val (.ref a1), .unset, .unset] [(.ref a1), (.int (0 : Int32)), (.ref ar)]))
  refine Go.via (fun t_ k_ => XS.iconst H1.here hx rfl (hb hby d5_7) k_) ?_
  show Go _ _ _ _ (T1.setTop (mkF m 8 #[.val (.ref ar), .val (.int (0 : Int32)), .val (.int (1 : Int32)), .val (.ref a1), .unset, .unset] [(.int (0 : Int32)), (.ref a1), (.int (0 : Int32)), (.ref ar)]))
  refine Go.via (fun t_ k_ => XS.iloadN H1.here hx rfl (hb hby d5_8) rfl k_) ?_
  show Go _ _ _ _ (T1.setTop (mkF m 9 #[.val (.ref ar), .val (.int (0 : Int32)), .val (.int (1 : Int32)), .val (.ref a1), .unset, .unset] [(.int (1 : Int32)), (.int (0 : Int32)), (.ref a1), (.int (0 : Int32)), (.ref ar)]))
  refine own_callS H1 hx hZ (y := (⟨"java/lang/StringUTF16", "compress", "([CI[BII)I"⟩ : MethodName)) hown (hw _ (List.mem_of_getElem? (i := 24) rfl)) (hw _ (List.mem_of_getElem? (i := 25) rfl)) (hw _ (List.mem_of_getElem? (i := 21) rfl)) (hw _ (List.mem_of_getElem? (i := 26) rfl)) (by decide) (rmC6_1 l Z a0 hw ar a1 B (fun _ => (0 : Int32)) h1 n0 (AB.ext E1) hB B1 ne_ar_a1 g_a1) (g := (mkF m 9 #[.val (.ref ar), .val (.int (0 : Int32)), .val (.int (1 : Int32)), .val (.ref a1), .unset, .unset] [(.int (1 : Int32)), (.int (0 : Int32)), (.ref a1), (.int (0 : Int32)), (.ref ar)])) rfl (by rw [hml]; rfl) (argsL := [(.ref ar), (.int (0 : Int32)), (.ref a1), (.int (0 : Int32)), (.int (1 : Int32))]) (rest := []) (lenOf pd_0 rfl) rfl 0 (Nat.le_of_eq rfl) (hb hby d5_9) (by decide) (by decide) (by decide) (by decide) ?_
  rintro _ T2 h2 ⟨rfl, K2, D2, A2⟩ H2
  show Go _ _ _ _ (T2.setTop (mkF m 12 #[.val (.ref ar), .val (.int (0 : Int32)), .val (.int (1 : Int32)), .val (.ref a1), .unset, .unset] [(.int (1 : Int32))]))
  refine Go.via (fun t_ k_ => XS.istore H2.here hx rfl (hb hby d5_12) rfl (l' := #[.val (.ref ar), .val (.int (0 : Int32)), .val (.int (1 : Int32)), .val (.ref a1), .val (.int (1 : Int32)), .unset]) rfl k_) ?_
  show Go _ _ _ _ (T2.setTop (mkF m 14 #[.val (.ref ar), .val (.int (0 : Int32)), .val (.int (1 : Int32)), .val (.ref a1), .val (.int (1 : Int32)), .unset] []))
  refine Go.via (fun t_ k_ => XS.iload H2.here hx rfl (hb hby d5_14) rfl k_) ?_
  show Go _ _ _ _ (T2.setTop (mkF m 16 #[.val (.ref ar), .val (.int (0 : Int32)), .val (.int (1 : Int32)), .val (.ref a1), .val (.int (1 : Int32)), .unset] [(.int (1 : Int32))]))
  refine Go.via (fun t_ k_ => XS.iloadN H2.here hx rfl (hb hby d5_16) rfl k_) ?_
  show Go _ _ _ _ (T2.setTop (mkF m 17 #[.val (.ref ar), .val (.int (0 : Int32)), .val (.int (1 : Int32)), .val (.ref a1), .val (.int (1 : Int32)), .unset] [(.int (1 : Int32)), (.int (1 : Int32))]))
  refine Go.via (fun t_ k_ => XS.icmpYes H2.here hx rfl (pc0 := 17) (pc' := 57) rfl (hb hby d5_17) rfl ((teq (show (1 : Int32) = (1 : Int32) from (by decide))).1) (by decide) (by decide) k_) ?_
  show Go _ _ _ _ (T2.setTop (mkF m 57 #[.val (.ref ar), .val (.int (0 : Int32)), .val (.int (1 : Int32)), .val (.ref a1), .val (.int (1 : Int32)), .unset] []))
  refine Go.via (fun t_ k_ => XS.aloadN H2.here hx rfl (hb hby d5_57) rfl rfl k_) ?_
  show Go _ _ _ _ (T2.setTop (mkF m 58 #[.val (.ref ar), .val (.int (0 : Int32)), .val (.int (1 : Int32)), .val (.ref a1), .val (.int (1 : Int32)), .unset] [(.ref a1)]))
  exact own_retA H2 hx hlk rfl hret rfl rfl (hb hby d5_58) ⟨_, rfl, (K1.trans K2 (allS (Or.inr kin_a1) all0)), _, A2⟩ (by decide) (by decide)
theorem d7_0 : decode jdk_52_method_15_code 0 = .ok (.iload_n 1, 1) := by decide +kernel
theorem d7_1 : decode jdk_52_method_15_code 1 = .ok (.aload_n 0, 1) := by decide +kernel
theorem d7_2 : decode jdk_52_method_15_code 2 = .ok (.arraylength, 1) := by decide +kernel
theorem d7_3 : decode jdk_52_method_15_code 3 = .ok (.isub, 1) := by decide +kernel
theorem d7_4 : decode jdk_52_method_15_code 4 = .ok (.bipush 31, 2) := by decide +kernel
theorem d7_6 : decode jdk_52_method_15_code 6 = .ok (.iushr, 1) := by decide +kernel
theorem d7_7 : decode jdk_52_method_15_code 7 = .ok (.i2b, 1) := by decide +kernel
theorem d7_8 : decode jdk_52_method_15_code 8 = .ok (.ireturn, 1) := by decide +kernel
theorem ef_rmCF_1 (m : MethodId) (x0 : Addr) (x1 : Int32) : entryFrame m #[(.ref x0), (.int x1)] 2 = mkF m 0 #[.val (.ref x0), .val (.int x1)] [] := by first | (simp [entryFrame, mkF, argsToLocals, Value.category]; done) | rfl
set_option maxRecDepth 65536 in
set_option maxHeartbeats 40000000 in
theorem rmCF_1 (l : Launch) (Z : State) (a0 : Array Value) (hw : ∀ d ∈ tables_1, d.before a0 Z = true) (b : Addr) (D : Nat → Int32) (h0 : Heap) (n0 : Nat) (AD : Ab Z h0 b .byte 1 D) :
    CM l Z (⟨"java/lang/StringUTF16", "coderFromArrayLen", "([BI)B"⟩ : MethodName) jdk_52_method_15_code 2 (some .byte) ({ frames := 0, cells := 0, slots := 0, locals := 0 } : Room) #[(.ref b), (.int (1 : Int32))] h0 n0 (fun v h => v = some (.int (0 : Int32)) ∧ h0 = h) := by
  refine own_enter (by decide +kernel) ?_
  intro p e s m below meth c T0 hx hby hml hown hnm hZ hret hlk H0
  replace hown : s.vm.findClass "java/lang/StringUTF16" = some m.cls := hown
  replace hret : meth.sig.returnType = some .byte := hret
  refine Go.via (fun t_ k_ => castTop (ef_rmCF_1 m b (1 : Int32)) k_) ?_
  show Go _ _ _ _ (T0.setTop (mkF m 0 #[.val (.ref b), .val (.int (1 : Int32))] []))
  refine Go.via (fun t_ k_ => XS.iloadN H0.here hx rfl (hb hby d7_0) rfl k_) ?_
  show Go _ _ _ _ (T0.setTop (mkF m 1 #[.val (.ref b), .val (.int (1 : Int32))] [(.int (1 : Int32))]))
  refine Go.via (fun t_ k_ => XS.aloadN H0.here hx rfl (hb hby d7_1) rfl rfl k_) ?_
  show Go _ _ _ _ (T0.setTop (mkF m 2 #[.val (.ref b), .val (.int (1 : Int32))] [(.ref b), (.int (1 : Int32))]))
  refine own_lenA H0 hx hZ AD (z := (1 : Int32)) (by decide) (g := (mkF m 2 #[.val (.ref b), .val (.int (1 : Int32))] [(.ref b), (.int (1 : Int32))])) rfl rfl (hb hby d7_2) ?_
  show Go _ _ _ _ (T0.setTop (mkF m 3 #[.val (.ref b), .val (.int (1 : Int32))] [(.int (1 : Int32)), (.int (1 : Int32))]))
  refine Go.via (fun t_ k_ => XS.isub H0.here hx rfl (hb hby d7_3) rfl k_) ?_
  show Go _ _ _ _ (T0.setTop (mkF m 4 #[.val (.ref b), .val (.int (1 : Int32))] [(.int ((1 : Int32) - (1 : Int32)))]))
  refine Go.via (fun t_ k_ => XS.bipush H0.here hx rfl (hb hby d7_4) k_) ?_
  show Go _ _ _ _ (T0.setTop (mkF m 6 #[.val (.ref b), .val (.int (1 : Int32))] [(.int (31 : Int32)), (.int ((1 : Int32) - (1 : Int32)))]))
  refine Go.via (fun t_ k_ => XS.iushr H0.here hx rfl (hb hby d7_6) rfl k_) ?_
  show Go _ _ _ _ (T0.setTop (mkF m 7 #[.val (.ref b), .val (.int (1 : Int32))] [(.int ((((1 : Int32) - (1 : Int32)).toUInt32 >>> ((31 : Int32) &&& 31).toUInt32).toInt32))]))
  refine Go.via (fun t_ k_ => XS.i2b H0.here hx rfl (hb hby d7_7) rfl k_) ?_
  show Go _ _ _ _ (T0.setTop (mkF m 8 #[.val (.ref b), .val (.int (1 : Int32))] [(.int (((((1 : Int32) - (1 : Int32)).toUInt32 >>> ((31 : Int32) &&& 31).toUInt32).toInt32).toInt8.toInt32))]))
  exact own_retN H0 hx hlk (by simp) hret (hb hby d7_8) ⟨congrArg (fun z => some (Value.int z)) (by decide), rfl⟩ (by decide) (by decide)
theorem ef_rmC6_2 (m : MethodId) (x0 : Addr) (x1 : Int32) (x2 : Addr) (x3 : Int32) (x4 : Int32) : entryFrame m #[(.ref x0), (.int x1), (.ref x2), (.int x3), (.int x4)] 7 = mkF m 0 #[.val (.ref x0), .val (.int x1), .val (.ref x2), .val (.int x3), .val (.int x4), .unset, .unset] [] := by first | (simp [entryFrame, mkF, argsToLocals, Value.category]; done) | rfl
set_option maxRecDepth 65536 in
set_option maxHeartbeats 40000000 in
theorem rmC6_2 (l : Launch) (Z : State) (a0 : Array Value) (hw : ∀ d ∈ tables_1, d.before a0 Z = true) (ar b : Addr) (B D : Nat → Int32) (h0 : Heap) (n0 : Nat) (AB : Ab Z h0 ar .char 2 B) (hB : ∀ j, j < 2 → ¬ (255 : Int32) < B j) (AD : Ab Z h0 b .byte 2 D) (nb : ar ≠ b) (g : n0 ≤ b) :
    CM l Z (⟨"java/lang/StringUTF16", "compress", "([CI[BII)I"⟩ : MethodName) jdk_52_method_21_code 7 (some .int) ({ frames := 0, cells := 0, slots := 0, locals := 0 } : Room) #[(.ref ar), (.int (0 : Int32)), (.ref b), (.int (0 : Int32)), (.int (2 : Int32))] h0 n0 (fun v h => v = some (.int (2 : Int32)) ∧ Keep h0 h [b] ∧ ∃ D', Ab Z h b .byte 2 D') := by
  refine own_enter (by decide +kernel) ?_
  intro p e s m below meth c T0 hx hby hml hown hnm hZ hret hlk H0
  replace hown : s.vm.findClass "java/lang/StringUTF16" = some m.cls := hown
  replace hret : meth.sig.returnType = some .int := hret
  refine Go.via (fun t_ k_ => castTop (ef_rmC6_2 m ar (0 : Int32) b (0 : Int32) (2 : Int32)) k_) ?_
  show Go _ _ _ _ (T0.setTop (mkF m 0 #[.val (.ref ar), .val (.int (0 : Int32)), .val (.ref b), .val (.int (0 : Int32)), .val (.int (2 : Int32)), .unset, .unset] []))
  refine Go.via (fun t_ k_ => XS.iconst H0.here hx rfl (hb hby d6_0) k_) ?_
  show Go _ _ _ _ (T0.setTop (mkF m 1 #[.val (.ref ar), .val (.int (0 : Int32)), .val (.ref b), .val (.int (0 : Int32)), .val (.int (2 : Int32)), .unset, .unset] [(.int (0 : Int32))]))
  refine Go.via (fun t_ k_ => XS.istore H0.here hx rfl (hb hby d6_1) rfl (l' := #[.val (.ref ar), .val (.int (0 : Int32)), .val (.ref b), .val (.int (0 : Int32)), .val (.int (2 : Int32)), .val (.int (0 : Int32)), .unset]) rfl k_) ?_
  show Go _ _ _ _ (T0.setTop (mkF m 3 #[.val (.ref ar), .val (.int (0 : Int32)), .val (.ref b), .val (.int (0 : Int32)), .val (.int (2 : Int32)), .val (.int (0 : Int32)), .unset] []))
  refine Go.via (fun t_ k_ => XS.iload H0.here hx rfl (hb hby d6_3) rfl k_) ?_
  show Go _ _ _ _ (T0.setTop (mkF m 5 #[.val (.ref ar), .val (.int (0 : Int32)), .val (.ref b), .val (.int (0 : Int32)), .val (.int (2 : Int32)), .val (.int (0 : Int32)), .unset] [(.int (0 : Int32))]))
  refine Go.via (fun t_ k_ => XS.iload H0.here hx rfl (hb hby d6_5) rfl k_) ?_
  show Go _ _ _ _ (T0.setTop (mkF m 7 #[.val (.ref ar), .val (.int (0 : Int32)), .val (.ref b), .val (.int (0 : Int32)), .val (.int (2 : Int32)), .val (.int (0 : Int32)), .unset] [(.int (2 : Int32)), (.int (0 : Int32))]))
  refine Go.via (fun t_ k_ => XS.icmpNo H0.here hx rfl (hb hby d6_7) rfl ((tlt (show (0 : Int32) < (2 : Int32) from (by decide))).2.1) k_) ?_
  show Go _ _ _ _ (T0.setTop (mkF m 10 #[.val (.ref ar), .val (.int (0 : Int32)), .val (.ref b), .val (.int (0 : Int32)), .val (.int (2 : Int32)), .val (.int (0 : Int32)), .unset] []))
  refine Go.via (fun t_ k_ => XS.aloadN H0.here hx rfl (hb hby d6_10) rfl rfl k_) ?_
  show Go _ _ _ _ (T0.setTop (mkF m 11 #[.val (.ref ar), .val (.int (0 : Int32)), .val (.ref b), .val (.int (0 : Int32)), .val (.int (2 : Int32)), .val (.int (0 : Int32)), .unset] [(.ref ar)]))
  refine Go.via (fun t_ k_ => XS.iloadN H0.here hx rfl (hb hby d6_11) rfl k_) ?_
  show Go _ _ _ _ (T0.setTop (mkF m 12 #[.val (.ref ar), .val (.int (0 : Int32)), .val (.ref b), .val (.int (0 : Int32)), .val (.int (2 : Int32)), .val (.int (0 : Int32)), .unset] [(.int (0 : Int32)), (.ref ar)]))
  refine own_ldCA H0 hx hZ AB (j := 0) (by decide) (by decide) (g := (mkF m 12 #[.val (.ref ar), .val (.int (0 : Int32)), .val (.ref b), .val (.int (0 : Int32)), .val (.int (2 : Int32)), .val (.int (0 : Int32)), .unset] [(.int (0 : Int32)), (.ref ar)])) rfl rfl (hb hby d6_12) ?_
  show Go _ _ _ _ (T0.setTop (mkF m 13 #[.val (.ref ar), .val (.int (0 : Int32)), .val (.ref b), .val (.int (0 : Int32)), .val (.int (2 : Int32)), .val (.int (0 : Int32)), .unset] [(.int (B 0))]))
  refine Go.via (fun t_ k_ => XS.istore H0.here hx rfl (hb hby d6_13) rfl (l' := #[.val (.ref ar), .val (.int (0 : Int32)), .val (.ref b), .val (.int (0 : Int32)), .val (.int (2 : Int32)), .val (.int (0 : Int32)), .val (.int (B 0))]) rfl k_) ?_
  show Go _ _ _ _ (T0.setTop (mkF m 15 #[.val (.ref ar), .val (.int (0 : Int32)), .val (.ref b), .val (.int (0 : Int32)), .val (.int (2 : Int32)), .val (.int (0 : Int32)), .val (.int (B 0))] []))
  refine Go.via (fun t_ k_ => XS.iload H0.here hx rfl (hb hby d6_15) rfl k_) ?_
  show Go _ _ _ _ (T0.setTop (mkF m 17 #[.val (.ref ar), .val (.int (0 : Int32)), .val (.ref b), .val (.int (0 : Int32)), .val (.int (2 : Int32)), .val (.int (0 : Int32)), .val (.int (B 0))] [(.int (B 0))]))
  refine Go.via (fun t_ k_ => XS.sipush H0.here hx rfl (hb hby d6_17) k_) ?_
  show Go _ _ _ _ (T0.setTop (mkF m 20 #[.val (.ref ar), .val (.int (0 : Int32)), .val (.ref b), .val (.int (0 : Int32)), .val (.int (2 : Int32)), .val (.int (0 : Int32)), .val (.int (B 0))] [(.int (255 : Int32)), (.int (B 0))]))
  refine Go.via (fun t_ k_ => XS.icmpYes H0.here hx rfl (pc0 := 20) (pc' := 26) rfl (hb hby d6_20) rfl ((flt (show ¬ ((255 : Int32) < (B 0)) from (hB 0 (by decide)))).2.2.2) (by decide) (by decide) k_) ?_
  show Go _ _ _ _ (T0.setTop (mkF m 26 #[.val (.ref ar), .val (.int (0 : Int32)), .val (.ref b), .val (.int (0 : Int32)), .val (.int (2 : Int32)), .val (.int (0 : Int32)), .val (.int (B 0))] []))
  refine Go.via (fun t_ k_ => XS.aloadN H0.here hx rfl (hb hby d6_26) rfl rfl k_) ?_
  show Go _ _ _ _ (T0.setTop (mkF m 27 #[.val (.ref ar), .val (.int (0 : Int32)), .val (.ref b), .val (.int (0 : Int32)), .val (.int (2 : Int32)), .val (.int (0 : Int32)), .val (.int (B 0))] [(.ref b)]))
  refine Go.via (fun t_ k_ => XS.iloadN H0.here hx rfl (hb hby d6_27) rfl k_) ?_
  show Go _ _ _ _ (T0.setTop (mkF m 28 #[.val (.ref ar), .val (.int (0 : Int32)), .val (.ref b), .val (.int (0 : Int32)), .val (.int (2 : Int32)), .val (.int (0 : Int32)), .val (.int (B 0))] [(.int (0 : Int32)), (.ref b)]))
  refine Go.via (fun t_ k_ => XS.iload H0.here hx rfl (hb hby d6_28) rfl k_) ?_
  show Go _ _ _ _ (T0.setTop (mkF m 30 #[.val (.ref ar), .val (.int (0 : Int32)), .val (.ref b), .val (.int (0 : Int32)), .val (.int (2 : Int32)), .val (.int (0 : Int32)), .val (.int (B 0))] [(.int (B 0)), (.int (0 : Int32)), (.ref b)]))
  refine Go.via (fun t_ k_ => XS.i2b H0.here hx rfl (hb hby d6_30) rfl k_) ?_
  show Go _ _ _ _ (T0.setTop (mkF m 31 #[.val (.ref ar), .val (.int (0 : Int32)), .val (.ref b), .val (.int (0 : Int32)), .val (.int (2 : Int32)), .val (.int (0 : Int32)), .val (.int (B 0))] [(.int ((B 0).toInt8.toInt32)), (.int (0 : Int32)), (.ref b)]))
  refine own_stBA H0 hx hZ AD (j := 0) (by decide) (by decide) g (g := (mkF m 31 #[.val (.ref ar), .val (.int (0 : Int32)), .val (.ref b), .val (.int (0 : Int32)), .val (.int (2 : Int32)), .val (.int (0 : Int32)), .val (.int (B 0))] [(.int ((B 0).toInt8.toInt32)), (.int (0 : Int32)), (.ref b)])) rfl rfl (hb hby d6_31) ?_
  intro T1 h1 W1 B1 H1
  have K1 := ((Keep.refl h0 [b])).wr W1 (Or.inl (List.mem_cons_self ..))
  show Go _ _ _ _ (T1.setTop (mkF m 32 #[.val (.ref ar), .val (.int (0 : Int32)), .val (.ref b), .val (.int (0 : Int32)), .val (.int (2 : Int32)), .val (.int (0 : Int32)), .val (.int (B 0))] []))
  refine Go.via (fun t_ k_ => XS.iinc H1.here hx rfl (hb hby d6_32) rfl (l' := #[.val (.ref ar), .val (.int (1 : Int32)), .val (.ref b), .val (.int (0 : Int32)), .val (.int (2 : Int32)), .val (.int (0 : Int32)), .val (.int (B 0))]) rfl k_) ?_
  show Go _ _ _ _ (T1.setTop (mkF m 35 #[.val (.ref ar), .val (.int (1 : Int32)), .val (.ref b), .val (.int (0 : Int32)), .val (.int (2 : Int32)), .val (.int (0 : Int32)), .val (.int (B 0))] []))
  refine Go.via (fun t_ k_ => XS.iinc H1.here hx rfl (hb hby d6_35) rfl (l' := #[.val (.ref ar), .val (.int (1 : Int32)), .val (.ref b), .val (.int (1 : Int32)), .val (.int (2 : Int32)), .val (.int (0 : Int32)), .val (.int (B 0))]) rfl k_) ?_
  show Go _ _ _ _ (T1.setTop (mkF m 38 #[.val (.ref ar), .val (.int (1 : Int32)), .val (.ref b), .val (.int (1 : Int32)), .val (.int (2 : Int32)), .val (.int (0 : Int32)), .val (.int (B 0))] []))
  refine Go.via (fun t_ k_ => XS.iinc H1.here hx rfl (hb hby d6_38) rfl (l' := #[.val (.ref ar), .val (.int (1 : Int32)), .val (.ref b), .val (.int (1 : Int32)), .val (.int (2 : Int32)), .val (.int (1 : Int32)), .val (.int (B 0))]) rfl k_) ?_
  show Go _ _ _ _ (T1.setTop (mkF m 41 #[.val (.ref ar), .val (.int (1 : Int32)), .val (.ref b), .val (.int (1 : Int32)), .val (.int (2 : Int32)), .val (.int (1 : Int32)), .val (.int (B 0))] []))
  refine Go.via (fun t_ k_ => XS.goto H1.here hx rfl (pc0 := 41) (pc' := 3) rfl (hb hby d6_41) (by decide) (by decide) k_) ?_
  show Go _ _ _ _ (T1.setTop (mkF m 3 #[.val (.ref ar), .val (.int (1 : Int32)), .val (.ref b), .val (.int (1 : Int32)), .val (.int (2 : Int32)), .val (.int (1 : Int32)), .val (.int (B 0))] []))
  refine Go.via (fun t_ k_ => XS.iload H1.here hx rfl (hb hby d6_3) rfl k_) ?_
  show Go _ _ _ _ (T1.setTop (mkF m 5 #[.val (.ref ar), .val (.int (1 : Int32)), .val (.ref b), .val (.int (1 : Int32)), .val (.int (2 : Int32)), .val (.int (1 : Int32)), .val (.int (B 0))] [(.int (1 : Int32))]))
  refine Go.via (fun t_ k_ => XS.iload H1.here hx rfl (hb hby d6_5) rfl k_) ?_
  show Go _ _ _ _ (T1.setTop (mkF m 7 #[.val (.ref ar), .val (.int (1 : Int32)), .val (.ref b), .val (.int (1 : Int32)), .val (.int (2 : Int32)), .val (.int (1 : Int32)), .val (.int (B 0))] [(.int (2 : Int32)), (.int (1 : Int32))]))
  refine Go.via (fun t_ k_ => XS.icmpNo H1.here hx rfl (hb hby d6_7) rfl ((tlt (show (1 : Int32) < (2 : Int32) from (by decide))).2.1) k_) ?_
  show Go _ _ _ _ (T1.setTop (mkF m 10 #[.val (.ref ar), .val (.int (1 : Int32)), .val (.ref b), .val (.int (1 : Int32)), .val (.int (2 : Int32)), .val (.int (1 : Int32)), .val (.int (B 0))] []))
  refine Go.via (fun t_ k_ => XS.aloadN H1.here hx rfl (hb hby d6_10) rfl rfl k_) ?_
  show Go _ _ _ _ (T1.setTop (mkF m 11 #[.val (.ref ar), .val (.int (1 : Int32)), .val (.ref b), .val (.int (1 : Int32)), .val (.int (2 : Int32)), .val (.int (1 : Int32)), .val (.int (B 0))] [(.ref ar)]))
  refine Go.via (fun t_ k_ => XS.iloadN H1.here hx rfl (hb hby d6_11) rfl k_) ?_
  show Go _ _ _ _ (T1.setTop (mkF m 12 #[.val (.ref ar), .val (.int (1 : Int32)), .val (.ref b), .val (.int (1 : Int32)), .val (.int (2 : Int32)), .val (.int (1 : Int32)), .val (.int (B 0))] [(.int (1 : Int32)), (.ref ar)]))
  refine own_ldCA H1 hx hZ (AB.other W1 nb) (j := 1) (by decide) (by decide) (g := (mkF m 12 #[.val (.ref ar), .val (.int (1 : Int32)), .val (.ref b), .val (.int (1 : Int32)), .val (.int (2 : Int32)), .val (.int (1 : Int32)), .val (.int (B 0))] [(.int (1 : Int32)), (.ref ar)])) rfl rfl (hb hby d6_12) ?_
  show Go _ _ _ _ (T1.setTop (mkF m 13 #[.val (.ref ar), .val (.int (1 : Int32)), .val (.ref b), .val (.int (1 : Int32)), .val (.int (2 : Int32)), .val (.int (1 : Int32)), .val (.int (B 0))] [(.int (B 1))]))
  refine Go.via (fun t_ k_ => XS.istore H1.here hx rfl (hb hby d6_13) rfl (l' := #[.val (.ref ar), .val (.int (1 : Int32)), .val (.ref b), .val (.int (1 : Int32)), .val (.int (2 : Int32)), .val (.int (1 : Int32)), .val (.int (B 1))]) rfl k_) ?_
  show Go _ _ _ _ (T1.setTop (mkF m 15 #[.val (.ref ar), .val (.int (1 : Int32)), .val (.ref b), .val (.int (1 : Int32)), .val (.int (2 : Int32)), .val (.int (1 : Int32)), .val (.int (B 1))] []))
  refine Go.via (fun t_ k_ => XS.iload H1.here hx rfl (hb hby d6_15) rfl k_) ?_
  show Go _ _ _ _ (T1.setTop (mkF m 17 #[.val (.ref ar), .val (.int (1 : Int32)), .val (.ref b), .val (.int (1 : Int32)), .val (.int (2 : Int32)), .val (.int (1 : Int32)), .val (.int (B 1))] [(.int (B 1))]))
  refine Go.via (fun t_ k_ => XS.sipush H1.here hx rfl (hb hby d6_17) k_) ?_
  show Go _ _ _ _ (T1.setTop (mkF m 20 #[.val (.ref ar), .val (.int (1 : Int32)), .val (.ref b), .val (.int (1 : Int32)), .val (.int (2 : Int32)), .val (.int (1 : Int32)), .val (.int (B 1))] [(.int (255 : Int32)), (.int (B 1))]))
  refine Go.via (fun t_ k_ => XS.icmpYes H1.here hx rfl (pc0 := 20) (pc' := 26) rfl (hb hby d6_20) rfl ((flt (show ¬ ((255 : Int32) < (B 1)) from (hB 1 (by decide)))).2.2.2) (by decide) (by decide) k_) ?_
  show Go _ _ _ _ (T1.setTop (mkF m 26 #[.val (.ref ar), .val (.int (1 : Int32)), .val (.ref b), .val (.int (1 : Int32)), .val (.int (2 : Int32)), .val (.int (1 : Int32)), .val (.int (B 1))] []))
  refine Go.via (fun t_ k_ => XS.aloadN H1.here hx rfl (hb hby d6_26) rfl rfl k_) ?_
  show Go _ _ _ _ (T1.setTop (mkF m 27 #[.val (.ref ar), .val (.int (1 : Int32)), .val (.ref b), .val (.int (1 : Int32)), .val (.int (2 : Int32)), .val (.int (1 : Int32)), .val (.int (B 1))] [(.ref b)]))
  refine Go.via (fun t_ k_ => XS.iloadN H1.here hx rfl (hb hby d6_27) rfl k_) ?_
  show Go _ _ _ _ (T1.setTop (mkF m 28 #[.val (.ref ar), .val (.int (1 : Int32)), .val (.ref b), .val (.int (1 : Int32)), .val (.int (2 : Int32)), .val (.int (1 : Int32)), .val (.int (B 1))] [(.int (1 : Int32)), (.ref b)]))
  refine Go.via (fun t_ k_ => XS.iload H1.here hx rfl (hb hby d6_28) rfl k_) ?_
  show Go _ _ _ _ (T1.setTop (mkF m 30 #[.val (.ref ar), .val (.int (1 : Int32)), .val (.ref b), .val (.int (1 : Int32)), .val (.int (2 : Int32)), .val (.int (1 : Int32)), .val (.int (B 1))] [(.int (B 1)), (.int (1 : Int32)), (.ref b)]))
  refine Go.via (fun t_ k_ => XS.i2b H1.here hx rfl (hb hby d6_30) rfl k_) ?_
  show Go _ _ _ _ (T1.setTop (mkF m 31 #[.val (.ref ar), .val (.int (1 : Int32)), .val (.ref b), .val (.int (1 : Int32)), .val (.int (2 : Int32)), .val (.int (1 : Int32)), .val (.int (B 1))] [(.int ((B 1).toInt8.toInt32)), (.int (1 : Int32)), (.ref b)]))
  refine own_stBA H1 hx hZ B1 (j := 1) (by decide) (by decide) g (g := (mkF m 31 #[.val (.ref ar), .val (.int (1 : Int32)), .val (.ref b), .val (.int (1 : Int32)), .val (.int (2 : Int32)), .val (.int (1 : Int32)), .val (.int (B 1))] [(.int ((B 1).toInt8.toInt32)), (.int (1 : Int32)), (.ref b)])) rfl rfl (hb hby d6_31) ?_
  intro T2 h2 W2 B2 H2
  have K2 := (K1).wr W2 (Or.inl (List.mem_cons_self ..))
  show Go _ _ _ _ (T2.setTop (mkF m 32 #[.val (.ref ar), .val (.int (1 : Int32)), .val (.ref b), .val (.int (1 : Int32)), .val (.int (2 : Int32)), .val (.int (1 : Int32)), .val (.int (B 1))] []))
  refine Go.via (fun t_ k_ => XS.iinc H2.here hx rfl (hb hby d6_32) rfl (l' := #[.val (.ref ar), .val (.int (2 : Int32)), .val (.ref b), .val (.int (1 : Int32)), .val (.int (2 : Int32)), .val (.int (1 : Int32)), .val (.int (B 1))]) rfl k_) ?_
  show Go _ _ _ _ (T2.setTop (mkF m 35 #[.val (.ref ar), .val (.int (2 : Int32)), .val (.ref b), .val (.int (1 : Int32)), .val (.int (2 : Int32)), .val (.int (1 : Int32)), .val (.int (B 1))] []))
  refine Go.via (fun t_ k_ => XS.iinc H2.here hx rfl (hb hby d6_35) rfl (l' := #[.val (.ref ar), .val (.int (2 : Int32)), .val (.ref b), .val (.int (2 : Int32)), .val (.int (2 : Int32)), .val (.int (1 : Int32)), .val (.int (B 1))]) rfl k_) ?_
  show Go _ _ _ _ (T2.setTop (mkF m 38 #[.val (.ref ar), .val (.int (2 : Int32)), .val (.ref b), .val (.int (2 : Int32)), .val (.int (2 : Int32)), .val (.int (1 : Int32)), .val (.int (B 1))] []))
  refine Go.via (fun t_ k_ => XS.iinc H2.here hx rfl (hb hby d6_38) rfl (l' := #[.val (.ref ar), .val (.int (2 : Int32)), .val (.ref b), .val (.int (2 : Int32)), .val (.int (2 : Int32)), .val (.int (2 : Int32)), .val (.int (B 1))]) rfl k_) ?_
  show Go _ _ _ _ (T2.setTop (mkF m 41 #[.val (.ref ar), .val (.int (2 : Int32)), .val (.ref b), .val (.int (2 : Int32)), .val (.int (2 : Int32)), .val (.int (2 : Int32)), .val (.int (B 1))] []))
  refine Go.via (fun t_ k_ => XS.goto H2.here hx rfl (pc0 := 41) (pc' := 3) rfl (hb hby d6_41) (by decide) (by decide) k_) ?_
  show Go _ _ _ _ (T2.setTop (mkF m 3 #[.val (.ref ar), .val (.int (2 : Int32)), .val (.ref b), .val (.int (2 : Int32)), .val (.int (2 : Int32)), .val (.int (2 : Int32)), .val (.int (B 1))] []))
  refine Go.via (fun t_ k_ => XS.iload H2.here hx rfl (hb hby d6_3) rfl k_) ?_
  show Go _ _ _ _ (T2.setTop (mkF m 5 #[.val (.ref ar), .val (.int (2 : Int32)), .val (.ref b), .val (.int (2 : Int32)), .val (.int (2 : Int32)), .val (.int (2 : Int32)), .val (.int (B 1))] [(.int (2 : Int32))]))
  refine Go.via (fun t_ k_ => XS.iload H2.here hx rfl (hb hby d6_5) rfl k_) ?_
  show Go _ _ _ _ (T2.setTop (mkF m 7 #[.val (.ref ar), .val (.int (2 : Int32)), .val (.ref b), .val (.int (2 : Int32)), .val (.int (2 : Int32)), .val (.int (2 : Int32)), .val (.int (B 1))] [(.int (2 : Int32)), (.int (2 : Int32))]))
  refine Go.via (fun t_ k_ => XS.icmpYes H2.here hx rfl (pc0 := 7) (pc' := 44) rfl (hb hby d6_7) rfl ((flt (show ¬ ((2 : Int32) < (2 : Int32)) from (by decide))).2.1) (by decide) (by decide) k_) ?_
  show Go _ _ _ _ (T2.setTop (mkF m 44 #[.val (.ref ar), .val (.int (2 : Int32)), .val (.ref b), .val (.int (2 : Int32)), .val (.int (2 : Int32)), .val (.int (2 : Int32)), .val (.int (B 1))] []))
  refine Go.via (fun t_ k_ => XS.iload H2.here hx rfl (hb hby d6_44) rfl k_) ?_
  show Go _ _ _ _ (T2.setTop (mkF m 46 #[.val (.ref ar), .val (.int (2 : Int32)), .val (.ref b), .val (.int (2 : Int32)), .val (.int (2 : Int32)), .val (.int (2 : Int32)), .val (.int (B 1))] [(.int (2 : Int32))]))
  exact own_retI H2 hx hlk hret (hb hby d6_46) ⟨rfl, K2, _, B2⟩ (by decide) (by decide)
theorem ef_rmC3_2 (m : MethodId) (x0 : Addr) (x1 : Int32) (x2 : Int32) : entryFrame m #[(.ref x0), (.int x1), (.int x2)] 6 = mkF m 0 #[.val (.ref x0), .val (.int x1), .val (.int x2), .unset, .unset, .unset] [] := by first | (simp [entryFrame, mkF, argsToLocals, Value.category]; done) | rfl
set_option maxRecDepth 65536 in
set_option maxHeartbeats 40000000 in
theorem rmC3_2 (l : Launch) (Z : State) (a0 : Array Value) (hw : ∀ d ∈ tables_1, d.before a0 Z = true) (ar : Addr) (B : Nat → Int32) (h0 : Heap) (n0 : Nat) (AB : Ab Z h0 ar .char 2 B) (hB : ∀ j, j < 2 → ¬ (255 : Int32) < B j) (hsz : n0 ≤ h0.size) :
    CM l Z (⟨"java/lang/StringUTF16", "compress", "([CII)[B"⟩ : MethodName) jdk_52_method_16_code 6 (some (.array .byte)) ({ frames := 1, cells := 1, slots := 2, locals := 18 } : Room) #[(.ref ar), (.int (0 : Int32)), (.int (2 : Int32))] h0 n0 (fun v h => ∃ b, v = some (.ref b) ∧ Keep h0 h [] ∧ ∃ D', Ab Z h b .byte 2 D') := by
  refine own_enter (by decide +kernel) ?_
  intro p e s m below meth c T0 hx hby hml hown hnm hZ hret hlk H0
  replace hown : s.vm.findClass "java/lang/StringUTF16" = some m.cls := hown
  replace hret : meth.sig.returnType = some (.array .byte) := hret
  refine Go.via (fun t_ k_ => castTop (ef_rmC3_2 m ar (0 : Int32) (2 : Int32)) k_) ?_
  show Go _ _ _ _ (T0.setTop (mkF m 0 #[.val (.ref ar), .val (.int (0 : Int32)), .val (.int (2 : Int32)), .unset, .unset, .unset] []))
  refine Go.via (fun t_ k_ => XS.iloadN H0.here hx rfl (hb hby d5_0) rfl k_) ?_
  show Go _ _ _ _ (T0.setTop (mkF m 1 #[.val (.ref ar), .val (.int (0 : Int32)), .val (.int (2 : Int32)), .unset, .unset, .unset] [(.int (2 : Int32))]))
  refine own_newA H0 hx hZ (aty := .byte) (hw _ (List.mem_of_getElem? (i := 23) rfl)) (g := (mkF m 1 #[.val (.ref ar), .val (.int (0 : Int32)), .val (.int (2 : Int32)), .unset, .unset, .unset] [(.int (2 : Int32))])) rfl (hb hby d5_1) rfl (by decide) 2 (by decide) rfl 2 (by decide) (by decide) (by decide) (by decide) ?_
  intro T1 h1 a1 ga1 E1 B1 H1
  replace B1 : Ab Z h1 a1 .byte 2 (fun _ => 0) := B1
  have ne_ar_a1 : ar ≠ a1 := by rw [ga1]; exact Nat.ne_of_lt AB.lt
  have g_a1 : n0 ≤ a1 := by rw [ga1]; exact hsz
  have sz1 : n0 ≤ h1.size := Nat.le_trans hsz E1.1
  have kin_a1 : h0.size ≤ a1 := by rw [ga1]; exact ((Keep.refl h0 [])).1
  have K1 := ((Keep.refl h0 [])).ext E1
  show Go _ _ _ _ (T1.setTop (mkF m 3 #[.val (.ref ar), .val (.int (0 : Int32)), .val (.int (2 : Int32)), .unset, .unset, .unset] [(.ref a1)]))
  refine Go.via (fun t_ k_ => XS.astoreN H1.here hx rfl (hb hby d5_3) rfl rfl (l' := #[.val (.ref ar), .val (.int (0 : Int32)), .val (.int (2 : Int32)), .val (.ref a1), .unset, .unset]) rfl k_) ?_
  show Go _ _ _ _ (T1.setTop (mkF m 4 #[.val (.ref ar), .val (.int (0 : Int32)), .val (.int (2 : Int32)), .val (.ref a1), .unset, .unset] []))
  refine Go.via (fun t_ k_ => XS.aloadN H1.here hx rfl (hb hby d5_4) rfl rfl k_) ?_
  show Go _ _ _ _ (T1.setTop (mkF m 5 #[.val (.ref ar), .val (.int (0 : Int32)), .val (.int (2 : Int32)), .val (.ref a1), .unset, .unset] [(.ref ar)]))
  refine Go.via (fun t_ k_ => XS.iloadN H1.here hx rfl (hb hby d5_5) rfl k_) ?_
  show Go _ _ _ _ (T1.setTop (mkF m 6 #[.val (.ref ar), .val (.int (0 : Int32)), .val (.int (2 : Int32)), .val (.ref a1), .unset, .unset] [(.int (0 : Int32)), (.ref ar)]))
  refine Go.via (fun t_ k_ => XS.aloadN H1.here hx rfl (hb hby d5_6) rfl rfl k_) ?_
  show Go _ _ _ _ (T1.setTop (mkF m 7 #[.val (.ref ar), .val (.int (0 : Int32)), .val (.int (2 : Int32)), .val (.ref a1), .unset, .unset] [(.ref a1), (.int (0 : Int32)), (.ref ar)]))
  refine Go.via (fun t_ k_ => XS.iconst H1.here hx rfl (hb hby d5_7) k_) ?_
  show Go _ _ _ _ (T1.setTop (mkF m 8 #[.val (.ref ar), .val (.int (0 : Int32)), .val (.int (2 : Int32)), .val (.ref a1), .unset, .unset] [(.int (0 : Int32)), (.ref a1), (.int (0 : Int32)), (.ref ar)]))
  refine Go.via (fun t_ k_ => XS.iloadN H1.here hx rfl (hb hby d5_8) rfl k_) ?_
  show Go _ _ _ _ (T1.setTop (mkF m 9 #[.val (.ref ar), .val (.int (0 : Int32)), .val (.int (2 : Int32)), .val (.ref a1), .unset, .unset] [(.int (2 : Int32)), (.int (0 : Int32)), (.ref a1), (.int (0 : Int32)), (.ref ar)]))
  refine own_callS H1 hx hZ (y := (⟨"java/lang/StringUTF16", "compress", "([CI[BII)I"⟩ : MethodName)) hown (hw _ (List.mem_of_getElem? (i := 24) rfl)) (hw _ (List.mem_of_getElem? (i := 25) rfl)) (hw _ (List.mem_of_getElem? (i := 21) rfl)) (hw _ (List.mem_of_getElem? (i := 26) rfl)) (by decide) (rmC6_2 l Z a0 hw ar a1 B (fun _ => (0 : Int32)) h1 n0 (AB.ext E1) hB B1 ne_ar_a1 g_a1) (g := (mkF m 9 #[.val (.ref ar), .val (.int (0 : Int32)), .val (.int (2 : Int32)), .val (.ref a1), .unset, .unset] [(.int (2 : Int32)), (.int (0 : Int32)), (.ref a1), (.int (0 : Int32)), (.ref ar)])) rfl (by rw [hml]; rfl) (argsL := [(.ref ar), (.int (0 : Int32)), (.ref a1), (.int (0 : Int32)), (.int (2 : Int32))]) (rest := []) (lenOf pd_0 rfl) rfl 0 (Nat.le_of_eq rfl) (hb hby d5_9) (by decide) (by decide) (by decide) (by decide) ?_
  rintro _ T2 h2 ⟨rfl, K2, D2, A2⟩ H2
  show Go _ _ _ _ (T2.setTop (mkF m 12 #[.val (.ref ar), .val (.int (0 : Int32)), .val (.int (2 : Int32)), .val (.ref a1), .unset, .unset] [(.int (2 : Int32))]))
  refine Go.via (fun t_ k_ => XS.istore H2.here hx rfl (hb hby d5_12) rfl (l' := #[.val (.ref ar), .val (.int (0 : Int32)), .val (.int (2 : Int32)), .val (.ref a1), .val (.int (2 : Int32)), .unset]) rfl k_) ?_
  show Go _ _ _ _ (T2.setTop (mkF m 14 #[.val (.ref ar), .val (.int (0 : Int32)), .val (.int (2 : Int32)), .val (.ref a1), .val (.int (2 : Int32)), .unset] []))
  refine Go.via (fun t_ k_ => XS.iload H2.here hx rfl (hb hby d5_14) rfl k_) ?_
  show Go _ _ _ _ (T2.setTop (mkF m 16 #[.val (.ref ar), .val (.int (0 : Int32)), .val (.int (2 : Int32)), .val (.ref a1), .val (.int (2 : Int32)), .unset] [(.int (2 : Int32))]))
  refine Go.via (fun t_ k_ => XS.iloadN H2.here hx rfl (hb hby d5_16) rfl k_) ?_
  show Go _ _ _ _ (T2.setTop (mkF m 17 #[.val (.ref ar), .val (.int (0 : Int32)), .val (.int (2 : Int32)), .val (.ref a1), .val (.int (2 : Int32)), .unset] [(.int (2 : Int32)), (.int (2 : Int32))]))
  refine Go.via (fun t_ k_ => XS.icmpYes H2.here hx rfl (pc0 := 17) (pc' := 57) rfl (hb hby d5_17) rfl ((teq (show (2 : Int32) = (2 : Int32) from (by decide))).1) (by decide) (by decide) k_) ?_
  show Go _ _ _ _ (T2.setTop (mkF m 57 #[.val (.ref ar), .val (.int (0 : Int32)), .val (.int (2 : Int32)), .val (.ref a1), .val (.int (2 : Int32)), .unset] []))
  refine Go.via (fun t_ k_ => XS.aloadN H2.here hx rfl (hb hby d5_57) rfl rfl k_) ?_
  show Go _ _ _ _ (T2.setTop (mkF m 58 #[.val (.ref ar), .val (.int (0 : Int32)), .val (.int (2 : Int32)), .val (.ref a1), .val (.int (2 : Int32)), .unset] [(.ref a1)]))
  exact own_retA H2 hx hlk rfl hret rfl rfl (hb hby d5_58) ⟨_, rfl, (K1.trans K2 (allS (Or.inr kin_a1) all0)), _, A2⟩ (by decide) (by decide)
theorem ef_rmCF_2 (m : MethodId) (x0 : Addr) (x1 : Int32) : entryFrame m #[(.ref x0), (.int x1)] 2 = mkF m 0 #[.val (.ref x0), .val (.int x1)] [] := by first | (simp [entryFrame, mkF, argsToLocals, Value.category]; done) | rfl
set_option maxRecDepth 65536 in
set_option maxHeartbeats 40000000 in
theorem rmCF_2 (l : Launch) (Z : State) (a0 : Array Value) (hw : ∀ d ∈ tables_1, d.before a0 Z = true) (b : Addr) (D : Nat → Int32) (h0 : Heap) (n0 : Nat) (AD : Ab Z h0 b .byte 2 D) :
    CM l Z (⟨"java/lang/StringUTF16", "coderFromArrayLen", "([BI)B"⟩ : MethodName) jdk_52_method_15_code 2 (some .byte) ({ frames := 0, cells := 0, slots := 0, locals := 0 } : Room) #[(.ref b), (.int (2 : Int32))] h0 n0 (fun v h => v = some (.int (0 : Int32)) ∧ h0 = h) := by
  refine own_enter (by decide +kernel) ?_
  intro p e s m below meth c T0 hx hby hml hown hnm hZ hret hlk H0
  replace hown : s.vm.findClass "java/lang/StringUTF16" = some m.cls := hown
  replace hret : meth.sig.returnType = some .byte := hret
  refine Go.via (fun t_ k_ => castTop (ef_rmCF_2 m b (2 : Int32)) k_) ?_
  show Go _ _ _ _ (T0.setTop (mkF m 0 #[.val (.ref b), .val (.int (2 : Int32))] []))
  refine Go.via (fun t_ k_ => XS.iloadN H0.here hx rfl (hb hby d7_0) rfl k_) ?_
  show Go _ _ _ _ (T0.setTop (mkF m 1 #[.val (.ref b), .val (.int (2 : Int32))] [(.int (2 : Int32))]))
  refine Go.via (fun t_ k_ => XS.aloadN H0.here hx rfl (hb hby d7_1) rfl rfl k_) ?_
  show Go _ _ _ _ (T0.setTop (mkF m 2 #[.val (.ref b), .val (.int (2 : Int32))] [(.ref b), (.int (2 : Int32))]))
  refine own_lenA H0 hx hZ AD (z := (2 : Int32)) (by decide) (g := (mkF m 2 #[.val (.ref b), .val (.int (2 : Int32))] [(.ref b), (.int (2 : Int32))])) rfl rfl (hb hby d7_2) ?_
  show Go _ _ _ _ (T0.setTop (mkF m 3 #[.val (.ref b), .val (.int (2 : Int32))] [(.int (2 : Int32)), (.int (2 : Int32))]))
  refine Go.via (fun t_ k_ => XS.isub H0.here hx rfl (hb hby d7_3) rfl k_) ?_
  show Go _ _ _ _ (T0.setTop (mkF m 4 #[.val (.ref b), .val (.int (2 : Int32))] [(.int ((2 : Int32) - (2 : Int32)))]))
  refine Go.via (fun t_ k_ => XS.bipush H0.here hx rfl (hb hby d7_4) k_) ?_
  show Go _ _ _ _ (T0.setTop (mkF m 6 #[.val (.ref b), .val (.int (2 : Int32))] [(.int (31 : Int32)), (.int ((2 : Int32) - (2 : Int32)))]))
  refine Go.via (fun t_ k_ => XS.iushr H0.here hx rfl (hb hby d7_6) rfl k_) ?_
  show Go _ _ _ _ (T0.setTop (mkF m 7 #[.val (.ref b), .val (.int (2 : Int32))] [(.int ((((2 : Int32) - (2 : Int32)).toUInt32 >>> ((31 : Int32) &&& 31).toUInt32).toInt32))]))
  refine Go.via (fun t_ k_ => XS.i2b H0.here hx rfl (hb hby d7_7) rfl k_) ?_
  show Go _ _ _ _ (T0.setTop (mkF m 8 #[.val (.ref b), .val (.int (2 : Int32))] [(.int (((((2 : Int32) - (2 : Int32)).toUInt32 >>> ((31 : Int32) &&& 31).toUInt32).toInt32).toInt8.toInt32))]))
  exact own_retN H0 hx hlk (by simp) hret (hb hby d7_8) ⟨congrArg (fun z => some (Value.int z)) (by decide), rfl⟩ (by decide) (by decide)
theorem ef_rmC6_3 (m : MethodId) (x0 : Addr) (x1 : Int32) (x2 : Addr) (x3 : Int32) (x4 : Int32) : entryFrame m #[(.ref x0), (.int x1), (.ref x2), (.int x3), (.int x4)] 7 = mkF m 0 #[.val (.ref x0), .val (.int x1), .val (.ref x2), .val (.int x3), .val (.int x4), .unset, .unset] [] := by first | (simp [entryFrame, mkF, argsToLocals, Value.category]; done) | rfl
set_option maxRecDepth 65536 in
set_option maxHeartbeats 40000000 in
theorem rmC6_3 (l : Launch) (Z : State) (a0 : Array Value) (hw : ∀ d ∈ tables_1, d.before a0 Z = true) (ar b : Addr) (B D : Nat → Int32) (h0 : Heap) (n0 : Nat) (AB : Ab Z h0 ar .char 3 B) (hB : ∀ j, j < 3 → ¬ (255 : Int32) < B j) (AD : Ab Z h0 b .byte 3 D) (nb : ar ≠ b) (g : n0 ≤ b) :
    CM l Z (⟨"java/lang/StringUTF16", "compress", "([CI[BII)I"⟩ : MethodName) jdk_52_method_21_code 7 (some .int) ({ frames := 0, cells := 0, slots := 0, locals := 0 } : Room) #[(.ref ar), (.int (0 : Int32)), (.ref b), (.int (0 : Int32)), (.int (3 : Int32))] h0 n0 (fun v h => v = some (.int (3 : Int32)) ∧ Keep h0 h [b] ∧ ∃ D', Ab Z h b .byte 3 D') := by
  refine own_enter (by decide +kernel) ?_
  intro p e s m below meth c T0 hx hby hml hown hnm hZ hret hlk H0
  replace hown : s.vm.findClass "java/lang/StringUTF16" = some m.cls := hown
  replace hret : meth.sig.returnType = some .int := hret
  refine Go.via (fun t_ k_ => castTop (ef_rmC6_3 m ar (0 : Int32) b (0 : Int32) (3 : Int32)) k_) ?_
  show Go _ _ _ _ (T0.setTop (mkF m 0 #[.val (.ref ar), .val (.int (0 : Int32)), .val (.ref b), .val (.int (0 : Int32)), .val (.int (3 : Int32)), .unset, .unset] []))
  refine Go.via (fun t_ k_ => XS.iconst H0.here hx rfl (hb hby d6_0) k_) ?_
  show Go _ _ _ _ (T0.setTop (mkF m 1 #[.val (.ref ar), .val (.int (0 : Int32)), .val (.ref b), .val (.int (0 : Int32)), .val (.int (3 : Int32)), .unset, .unset] [(.int (0 : Int32))]))
  refine Go.via (fun t_ k_ => XS.istore H0.here hx rfl (hb hby d6_1) rfl (l' := #[.val (.ref ar), .val (.int (0 : Int32)), .val (.ref b), .val (.int (0 : Int32)), .val (.int (3 : Int32)), .val (.int (0 : Int32)), .unset]) rfl k_) ?_
  show Go _ _ _ _ (T0.setTop (mkF m 3 #[.val (.ref ar), .val (.int (0 : Int32)), .val (.ref b), .val (.int (0 : Int32)), .val (.int (3 : Int32)), .val (.int (0 : Int32)), .unset] []))
  refine Go.via (fun t_ k_ => XS.iload H0.here hx rfl (hb hby d6_3) rfl k_) ?_
  show Go _ _ _ _ (T0.setTop (mkF m 5 #[.val (.ref ar), .val (.int (0 : Int32)), .val (.ref b), .val (.int (0 : Int32)), .val (.int (3 : Int32)), .val (.int (0 : Int32)), .unset] [(.int (0 : Int32))]))
  refine Go.via (fun t_ k_ => XS.iload H0.here hx rfl (hb hby d6_5) rfl k_) ?_
  show Go _ _ _ _ (T0.setTop (mkF m 7 #[.val (.ref ar), .val (.int (0 : Int32)), .val (.ref b), .val (.int (0 : Int32)), .val (.int (3 : Int32)), .val (.int (0 : Int32)), .unset] [(.int (3 : Int32)), (.int (0 : Int32))]))
  refine Go.via (fun t_ k_ => XS.icmpNo H0.here hx rfl (hb hby d6_7) rfl ((tlt (show (0 : Int32) < (3 : Int32) from (by decide))).2.1) k_) ?_
  show Go _ _ _ _ (T0.setTop (mkF m 10 #[.val (.ref ar), .val (.int (0 : Int32)), .val (.ref b), .val (.int (0 : Int32)), .val (.int (3 : Int32)), .val (.int (0 : Int32)), .unset] []))
  refine Go.via (fun t_ k_ => XS.aloadN H0.here hx rfl (hb hby d6_10) rfl rfl k_) ?_
  show Go _ _ _ _ (T0.setTop (mkF m 11 #[.val (.ref ar), .val (.int (0 : Int32)), .val (.ref b), .val (.int (0 : Int32)), .val (.int (3 : Int32)), .val (.int (0 : Int32)), .unset] [(.ref ar)]))
  refine Go.via (fun t_ k_ => XS.iloadN H0.here hx rfl (hb hby d6_11) rfl k_) ?_
  show Go _ _ _ _ (T0.setTop (mkF m 12 #[.val (.ref ar), .val (.int (0 : Int32)), .val (.ref b), .val (.int (0 : Int32)), .val (.int (3 : Int32)), .val (.int (0 : Int32)), .unset] [(.int (0 : Int32)), (.ref ar)]))
  refine own_ldCA H0 hx hZ AB (j := 0) (by decide) (by decide) (g := (mkF m 12 #[.val (.ref ar), .val (.int (0 : Int32)), .val (.ref b), .val (.int (0 : Int32)), .val (.int (3 : Int32)), .val (.int (0 : Int32)), .unset] [(.int (0 : Int32)), (.ref ar)])) rfl rfl (hb hby d6_12) ?_
  show Go _ _ _ _ (T0.setTop (mkF m 13 #[.val (.ref ar), .val (.int (0 : Int32)), .val (.ref b), .val (.int (0 : Int32)), .val (.int (3 : Int32)), .val (.int (0 : Int32)), .unset] [(.int (B 0))]))
  refine Go.via (fun t_ k_ => XS.istore H0.here hx rfl (hb hby d6_13) rfl (l' := #[.val (.ref ar), .val (.int (0 : Int32)), .val (.ref b), .val (.int (0 : Int32)), .val (.int (3 : Int32)), .val (.int (0 : Int32)), .val (.int (B 0))]) rfl k_) ?_
  show Go _ _ _ _ (T0.setTop (mkF m 15 #[.val (.ref ar), .val (.int (0 : Int32)), .val (.ref b), .val (.int (0 : Int32)), .val (.int (3 : Int32)), .val (.int (0 : Int32)), .val (.int (B 0))] []))
  refine Go.via (fun t_ k_ => XS.iload H0.here hx rfl (hb hby d6_15) rfl k_) ?_
  show Go _ _ _ _ (T0.setTop (mkF m 17 #[.val (.ref ar), .val (.int (0 : Int32)), .val (.ref b), .val (.int (0 : Int32)), .val (.int (3 : Int32)), .val (.int (0 : Int32)), .val (.int (B 0))] [(.int (B 0))]))
  refine Go.via (fun t_ k_ => XS.sipush H0.here hx rfl (hb hby d6_17) k_) ?_
  show Go _ _ _ _ (T0.setTop (mkF m 20 #[.val (.ref ar), .val (.int (0 : Int32)), .val (.ref b), .val (.int (0 : Int32)), .val (.int (3 : Int32)), .val (.int (0 : Int32)), .val (.int (B 0))] [(.int (255 : Int32)), (.int (B 0))]))
  refine Go.via (fun t_ k_ => XS.icmpYes H0.here hx rfl (pc0 := 20) (pc' := 26) rfl (hb hby d6_20) rfl ((flt (show ¬ ((255 : Int32) < (B 0)) from (hB 0 (by decide)))).2.2.2) (by decide) (by decide) k_) ?_
  show Go _ _ _ _ (T0.setTop (mkF m 26 #[.val (.ref ar), .val (.int (0 : Int32)), .val (.ref b), .val (.int (0 : Int32)), .val (.int (3 : Int32)), .val (.int (0 : Int32)), .val (.int (B 0))] []))
  refine Go.via (fun t_ k_ => XS.aloadN H0.here hx rfl (hb hby d6_26) rfl rfl k_) ?_
  show Go _ _ _ _ (T0.setTop (mkF m 27 #[.val (.ref ar), .val (.int (0 : Int32)), .val (.ref b), .val (.int (0 : Int32)), .val (.int (3 : Int32)), .val (.int (0 : Int32)), .val (.int (B 0))] [(.ref b)]))
  refine Go.via (fun t_ k_ => XS.iloadN H0.here hx rfl (hb hby d6_27) rfl k_) ?_
  show Go _ _ _ _ (T0.setTop (mkF m 28 #[.val (.ref ar), .val (.int (0 : Int32)), .val (.ref b), .val (.int (0 : Int32)), .val (.int (3 : Int32)), .val (.int (0 : Int32)), .val (.int (B 0))] [(.int (0 : Int32)), (.ref b)]))
  refine Go.via (fun t_ k_ => XS.iload H0.here hx rfl (hb hby d6_28) rfl k_) ?_
  show Go _ _ _ _ (T0.setTop (mkF m 30 #[.val (.ref ar), .val (.int (0 : Int32)), .val (.ref b), .val (.int (0 : Int32)), .val (.int (3 : Int32)), .val (.int (0 : Int32)), .val (.int (B 0))] [(.int (B 0)), (.int (0 : Int32)), (.ref b)]))
  refine Go.via (fun t_ k_ => XS.i2b H0.here hx rfl (hb hby d6_30) rfl k_) ?_
  show Go _ _ _ _ (T0.setTop (mkF m 31 #[.val (.ref ar), .val (.int (0 : Int32)), .val (.ref b), .val (.int (0 : Int32)), .val (.int (3 : Int32)), .val (.int (0 : Int32)), .val (.int (B 0))] [(.int ((B 0).toInt8.toInt32)), (.int (0 : Int32)), (.ref b)]))
  refine own_stBA H0 hx hZ AD (j := 0) (by decide) (by decide) g (g := (mkF m 31 #[.val (.ref ar), .val (.int (0 : Int32)), .val (.ref b), .val (.int (0 : Int32)), .val (.int (3 : Int32)), .val (.int (0 : Int32)), .val (.int (B 0))] [(.int ((B 0).toInt8.toInt32)), (.int (0 : Int32)), (.ref b)])) rfl rfl (hb hby d6_31) ?_
  intro T1 h1 W1 B1 H1
  have K1 := ((Keep.refl h0 [b])).wr W1 (Or.inl (List.mem_cons_self ..))
  show Go _ _ _ _ (T1.setTop (mkF m 32 #[.val (.ref ar), .val (.int (0 : Int32)), .val (.ref b), .val (.int (0 : Int32)), .val (.int (3 : Int32)), .val (.int (0 : Int32)), .val (.int (B 0))] []))
  refine Go.via (fun t_ k_ => XS.iinc H1.here hx rfl (hb hby d6_32) rfl (l' := #[.val (.ref ar), .val (.int (1 : Int32)), .val (.ref b), .val (.int (0 : Int32)), .val (.int (3 : Int32)), .val (.int (0 : Int32)), .val (.int (B 0))]) rfl k_) ?_
  show Go _ _ _ _ (T1.setTop (mkF m 35 #[.val (.ref ar), .val (.int (1 : Int32)), .val (.ref b), .val (.int (0 : Int32)), .val (.int (3 : Int32)), .val (.int (0 : Int32)), .val (.int (B 0))] []))
  refine Go.via (fun t_ k_ => XS.iinc H1.here hx rfl (hb hby d6_35) rfl (l' := #[.val (.ref ar), .val (.int (1 : Int32)), .val (.ref b), .val (.int (1 : Int32)), .val (.int (3 : Int32)), .val (.int (0 : Int32)), .val (.int (B 0))]) rfl k_) ?_
  show Go _ _ _ _ (T1.setTop (mkF m 38 #[.val (.ref ar), .val (.int (1 : Int32)), .val (.ref b), .val (.int (1 : Int32)), .val (.int (3 : Int32)), .val (.int (0 : Int32)), .val (.int (B 0))] []))
  refine Go.via (fun t_ k_ => XS.iinc H1.here hx rfl (hb hby d6_38) rfl (l' := #[.val (.ref ar), .val (.int (1 : Int32)), .val (.ref b), .val (.int (1 : Int32)), .val (.int (3 : Int32)), .val (.int (1 : Int32)), .val (.int (B 0))]) rfl k_) ?_
  show Go _ _ _ _ (T1.setTop (mkF m 41 #[.val (.ref ar), .val (.int (1 : Int32)), .val (.ref b), .val (.int (1 : Int32)), .val (.int (3 : Int32)), .val (.int (1 : Int32)), .val (.int (B 0))] []))
  refine Go.via (fun t_ k_ => XS.goto H1.here hx rfl (pc0 := 41) (pc' := 3) rfl (hb hby d6_41) (by decide) (by decide) k_) ?_
  show Go _ _ _ _ (T1.setTop (mkF m 3 #[.val (.ref ar), .val (.int (1 : Int32)), .val (.ref b), .val (.int (1 : Int32)), .val (.int (3 : Int32)), .val (.int (1 : Int32)), .val (.int (B 0))] []))
  refine Go.via (fun t_ k_ => XS.iload H1.here hx rfl (hb hby d6_3) rfl k_) ?_
  show Go _ _ _ _ (T1.setTop (mkF m 5 #[.val (.ref ar), .val (.int (1 : Int32)), .val (.ref b), .val (.int (1 : Int32)), .val (.int (3 : Int32)), .val (.int (1 : Int32)), .val (.int (B 0))] [(.int (1 : Int32))]))
  refine Go.via (fun t_ k_ => XS.iload H1.here hx rfl (hb hby d6_5) rfl k_) ?_
  show Go _ _ _ _ (T1.setTop (mkF m 7 #[.val (.ref ar), .val (.int (1 : Int32)), .val (.ref b), .val (.int (1 : Int32)), .val (.int (3 : Int32)), .val (.int (1 : Int32)), .val (.int (B 0))] [(.int (3 : Int32)), (.int (1 : Int32))]))
  refine Go.via (fun t_ k_ => XS.icmpNo H1.here hx rfl (hb hby d6_7) rfl ((tlt (show (1 : Int32) < (3 : Int32) from (by decide))).2.1) k_) ?_
  show Go _ _ _ _ (T1.setTop (mkF m 10 #[.val (.ref ar), .val (.int (1 : Int32)), .val (.ref b), .val (.int (1 : Int32)), .val (.int (3 : Int32)), .val (.int (1 : Int32)), .val (.int (B 0))] []))
  refine Go.via (fun t_ k_ => XS.aloadN H1.here hx rfl (hb hby d6_10) rfl rfl k_) ?_
  show Go _ _ _ _ (T1.setTop (mkF m 11 #[.val (.ref ar), .val (.int (1 : Int32)), .val (.ref b), .val (.int (1 : Int32)), .val (.int (3 : Int32)), .val (.int (1 : Int32)), .val (.int (B 0))] [(.ref ar)]))
  refine Go.via (fun t_ k_ => XS.iloadN H1.here hx rfl (hb hby d6_11) rfl k_) ?_
  show Go _ _ _ _ (T1.setTop (mkF m 12 #[.val (.ref ar), .val (.int (1 : Int32)), .val (.ref b), .val (.int (1 : Int32)), .val (.int (3 : Int32)), .val (.int (1 : Int32)), .val (.int (B 0))] [(.int (1 : Int32)), (.ref ar)]))
  refine own_ldCA H1 hx hZ (AB.other W1 nb) (j := 1) (by decide) (by decide) (g := (mkF m 12 #[.val (.ref ar), .val (.int (1 : Int32)), .val (.ref b), .val (.int (1 : Int32)), .val (.int (3 : Int32)), .val (.int (1 : Int32)), .val (.int (B 0))] [(.int (1 : Int32)), (.ref ar)])) rfl rfl (hb hby d6_12) ?_
  show Go _ _ _ _ (T1.setTop (mkF m 13 #[.val (.ref ar), .val (.int (1 : Int32)), .val (.ref b), .val (.int (1 : Int32)), .val (.int (3 : Int32)), .val (.int (1 : Int32)), .val (.int (B 0))] [(.int (B 1))]))
  refine Go.via (fun t_ k_ => XS.istore H1.here hx rfl (hb hby d6_13) rfl (l' := #[.val (.ref ar), .val (.int (1 : Int32)), .val (.ref b), .val (.int (1 : Int32)), .val (.int (3 : Int32)), .val (.int (1 : Int32)), .val (.int (B 1))]) rfl k_) ?_
  show Go _ _ _ _ (T1.setTop (mkF m 15 #[.val (.ref ar), .val (.int (1 : Int32)), .val (.ref b), .val (.int (1 : Int32)), .val (.int (3 : Int32)), .val (.int (1 : Int32)), .val (.int (B 1))] []))
  refine Go.via (fun t_ k_ => XS.iload H1.here hx rfl (hb hby d6_15) rfl k_) ?_
  show Go _ _ _ _ (T1.setTop (mkF m 17 #[.val (.ref ar), .val (.int (1 : Int32)), .val (.ref b), .val (.int (1 : Int32)), .val (.int (3 : Int32)), .val (.int (1 : Int32)), .val (.int (B 1))] [(.int (B 1))]))
  refine Go.via (fun t_ k_ => XS.sipush H1.here hx rfl (hb hby d6_17) k_) ?_
  show Go _ _ _ _ (T1.setTop (mkF m 20 #[.val (.ref ar), .val (.int (1 : Int32)), .val (.ref b), .val (.int (1 : Int32)), .val (.int (3 : Int32)), .val (.int (1 : Int32)), .val (.int (B 1))] [(.int (255 : Int32)), (.int (B 1))]))
  refine Go.via (fun t_ k_ => XS.icmpYes H1.here hx rfl (pc0 := 20) (pc' := 26) rfl (hb hby d6_20) rfl ((flt (show ¬ ((255 : Int32) < (B 1)) from (hB 1 (by decide)))).2.2.2) (by decide) (by decide) k_) ?_
  show Go _ _ _ _ (T1.setTop (mkF m 26 #[.val (.ref ar), .val (.int (1 : Int32)), .val (.ref b), .val (.int (1 : Int32)), .val (.int (3 : Int32)), .val (.int (1 : Int32)), .val (.int (B 1))] []))
  refine Go.via (fun t_ k_ => XS.aloadN H1.here hx rfl (hb hby d6_26) rfl rfl k_) ?_
  show Go _ _ _ _ (T1.setTop (mkF m 27 #[.val (.ref ar), .val (.int (1 : Int32)), .val (.ref b), .val (.int (1 : Int32)), .val (.int (3 : Int32)), .val (.int (1 : Int32)), .val (.int (B 1))] [(.ref b)]))
  refine Go.via (fun t_ k_ => XS.iloadN H1.here hx rfl (hb hby d6_27) rfl k_) ?_
  show Go _ _ _ _ (T1.setTop (mkF m 28 #[.val (.ref ar), .val (.int (1 : Int32)), .val (.ref b), .val (.int (1 : Int32)), .val (.int (3 : Int32)), .val (.int (1 : Int32)), .val (.int (B 1))] [(.int (1 : Int32)), (.ref b)]))
  refine Go.via (fun t_ k_ => XS.iload H1.here hx rfl (hb hby d6_28) rfl k_) ?_
  show Go _ _ _ _ (T1.setTop (mkF m 30 #[.val (.ref ar), .val (.int (1 : Int32)), .val (.ref b), .val (.int (1 : Int32)), .val (.int (3 : Int32)), .val (.int (1 : Int32)), .val (.int (B 1))] [(.int (B 1)), (.int (1 : Int32)), (.ref b)]))
  refine Go.via (fun t_ k_ => XS.i2b H1.here hx rfl (hb hby d6_30) rfl k_) ?_
  show Go _ _ _ _ (T1.setTop (mkF m 31 #[.val (.ref ar), .val (.int (1 : Int32)), .val (.ref b), .val (.int (1 : Int32)), .val (.int (3 : Int32)), .val (.int (1 : Int32)), .val (.int (B 1))] [(.int ((B 1).toInt8.toInt32)), (.int (1 : Int32)), (.ref b)]))
  refine own_stBA H1 hx hZ B1 (j := 1) (by decide) (by decide) g (g := (mkF m 31 #[.val (.ref ar), .val (.int (1 : Int32)), .val (.ref b), .val (.int (1 : Int32)), .val (.int (3 : Int32)), .val (.int (1 : Int32)), .val (.int (B 1))] [(.int ((B 1).toInt8.toInt32)), (.int (1 : Int32)), (.ref b)])) rfl rfl (hb hby d6_31) ?_
  intro T2 h2 W2 B2 H2
  have K2 := (K1).wr W2 (Or.inl (List.mem_cons_self ..))
  show Go _ _ _ _ (T2.setTop (mkF m 32 #[.val (.ref ar), .val (.int (1 : Int32)), .val (.ref b), .val (.int (1 : Int32)), .val (.int (3 : Int32)), .val (.int (1 : Int32)), .val (.int (B 1))] []))
  refine Go.via (fun t_ k_ => XS.iinc H2.here hx rfl (hb hby d6_32) rfl (l' := #[.val (.ref ar), .val (.int (2 : Int32)), .val (.ref b), .val (.int (1 : Int32)), .val (.int (3 : Int32)), .val (.int (1 : Int32)), .val (.int (B 1))]) rfl k_) ?_
  show Go _ _ _ _ (T2.setTop (mkF m 35 #[.val (.ref ar), .val (.int (2 : Int32)), .val (.ref b), .val (.int (1 : Int32)), .val (.int (3 : Int32)), .val (.int (1 : Int32)), .val (.int (B 1))] []))
  refine Go.via (fun t_ k_ => XS.iinc H2.here hx rfl (hb hby d6_35) rfl (l' := #[.val (.ref ar), .val (.int (2 : Int32)), .val (.ref b), .val (.int (2 : Int32)), .val (.int (3 : Int32)), .val (.int (1 : Int32)), .val (.int (B 1))]) rfl k_) ?_
  show Go _ _ _ _ (T2.setTop (mkF m 38 #[.val (.ref ar), .val (.int (2 : Int32)), .val (.ref b), .val (.int (2 : Int32)), .val (.int (3 : Int32)), .val (.int (1 : Int32)), .val (.int (B 1))] []))
  refine Go.via (fun t_ k_ => XS.iinc H2.here hx rfl (hb hby d6_38) rfl (l' := #[.val (.ref ar), .val (.int (2 : Int32)), .val (.ref b), .val (.int (2 : Int32)), .val (.int (3 : Int32)), .val (.int (2 : Int32)), .val (.int (B 1))]) rfl k_) ?_
  show Go _ _ _ _ (T2.setTop (mkF m 41 #[.val (.ref ar), .val (.int (2 : Int32)), .val (.ref b), .val (.int (2 : Int32)), .val (.int (3 : Int32)), .val (.int (2 : Int32)), .val (.int (B 1))] []))
  refine Go.via (fun t_ k_ => XS.goto H2.here hx rfl (pc0 := 41) (pc' := 3) rfl (hb hby d6_41) (by decide) (by decide) k_) ?_
  show Go _ _ _ _ (T2.setTop (mkF m 3 #[.val (.ref ar), .val (.int (2 : Int32)), .val (.ref b), .val (.int (2 : Int32)), .val (.int (3 : Int32)), .val (.int (2 : Int32)), .val (.int (B 1))] []))
  refine Go.via (fun t_ k_ => XS.iload H2.here hx rfl (hb hby d6_3) rfl k_) ?_
  show Go _ _ _ _ (T2.setTop (mkF m 5 #[.val (.ref ar), .val (.int (2 : Int32)), .val (.ref b), .val (.int (2 : Int32)), .val (.int (3 : Int32)), .val (.int (2 : Int32)), .val (.int (B 1))] [(.int (2 : Int32))]))
  refine Go.via (fun t_ k_ => XS.iload H2.here hx rfl (hb hby d6_5) rfl k_) ?_
  show Go _ _ _ _ (T2.setTop (mkF m 7 #[.val (.ref ar), .val (.int (2 : Int32)), .val (.ref b), .val (.int (2 : Int32)), .val (.int (3 : Int32)), .val (.int (2 : Int32)), .val (.int (B 1))] [(.int (3 : Int32)), (.int (2 : Int32))]))
  refine Go.via (fun t_ k_ => XS.icmpNo H2.here hx rfl (hb hby d6_7) rfl ((tlt (show (2 : Int32) < (3 : Int32) from (by decide))).2.1) k_) ?_
  show Go _ _ _ _ (T2.setTop (mkF m 10 #[.val (.ref ar), .val (.int (2 : Int32)), .val (.ref b), .val (.int (2 : Int32)), .val (.int (3 : Int32)), .val (.int (2 : Int32)), .val (.int (B 1))] []))
  refine Go.via (fun t_ k_ => XS.aloadN H2.here hx rfl (hb hby d6_10) rfl rfl k_) ?_
  show Go _ _ _ _ (T2.setTop (mkF m 11 #[.val (.ref ar), .val (.int (2 : Int32)), .val (.ref b), .val (.int (2 : Int32)), .val (.int (3 : Int32)), .val (.int (2 : Int32)), .val (.int (B 1))] [(.ref ar)]))
  refine Go.via (fun t_ k_ => XS.iloadN H2.here hx rfl (hb hby d6_11) rfl k_) ?_
  show Go _ _ _ _ (T2.setTop (mkF m 12 #[.val (.ref ar), .val (.int (2 : Int32)), .val (.ref b), .val (.int (2 : Int32)), .val (.int (3 : Int32)), .val (.int (2 : Int32)), .val (.int (B 1))] [(.int (2 : Int32)), (.ref ar)]))
  refine own_ldCA H2 hx hZ ((AB.other W1 nb).other W2 nb) (j := 2) (by decide) (by decide) (g := (mkF m 12 #[.val (.ref ar), .val (.int (2 : Int32)), .val (.ref b), .val (.int (2 : Int32)), .val (.int (3 : Int32)), .val (.int (2 : Int32)), .val (.int (B 1))] [(.int (2 : Int32)), (.ref ar)])) rfl rfl (hb hby d6_12) ?_
  show Go _ _ _ _ (T2.setTop (mkF m 13 #[.val (.ref ar), .val (.int (2 : Int32)), .val (.ref b), .val (.int (2 : Int32)), .val (.int (3 : Int32)), .val (.int (2 : Int32)), .val (.int (B 1))] [(.int (B 2))]))
  refine Go.via (fun t_ k_ => XS.istore H2.here hx rfl (hb hby d6_13) rfl (l' := #[.val (.ref ar), .val (.int (2 : Int32)), .val (.ref b), .val (.int (2 : Int32)), .val (.int (3 : Int32)), .val (.int (2 : Int32)), .val (.int (B 2))]) rfl k_) ?_
  show Go _ _ _ _ (T2.setTop (mkF m 15 #[.val (.ref ar), .val (.int (2 : Int32)), .val (.ref b), .val (.int (2 : Int32)), .val (.int (3 : Int32)), .val (.int (2 : Int32)), .val (.int (B 2))] []))
  refine Go.via (fun t_ k_ => XS.iload H2.here hx rfl (hb hby d6_15) rfl k_) ?_
  show Go _ _ _ _ (T2.setTop (mkF m 17 #[.val (.ref ar), .val (.int (2 : Int32)), .val (.ref b), .val (.int (2 : Int32)), .val (.int (3 : Int32)), .val (.int (2 : Int32)), .val (.int (B 2))] [(.int (B 2))]))
  refine Go.via (fun t_ k_ => XS.sipush H2.here hx rfl (hb hby d6_17) k_) ?_
  show Go _ _ _ _ (T2.setTop (mkF m 20 #[.val (.ref ar), .val (.int (2 : Int32)), .val (.ref b), .val (.int (2 : Int32)), .val (.int (3 : Int32)), .val (.int (2 : Int32)), .val (.int (B 2))] [(.int (255 : Int32)), (.int (B 2))]))
  refine Go.via (fun t_ k_ => XS.icmpYes H2.here hx rfl (pc0 := 20) (pc' := 26) rfl (hb hby d6_20) rfl ((flt (show ¬ ((255 : Int32) < (B 2)) from (hB 2 (by decide)))).2.2.2) (by decide) (by decide) k_) ?_
  show Go _ _ _ _ (T2.setTop (mkF m 26 #[.val (.ref ar), .val (.int (2 : Int32)), .val (.ref b), .val (.int (2 : Int32)), .val (.int (3 : Int32)), .val (.int (2 : Int32)), .val (.int (B 2))] []))
  refine Go.via (fun t_ k_ => XS.aloadN H2.here hx rfl (hb hby d6_26) rfl rfl k_) ?_
  show Go _ _ _ _ (T2.setTop (mkF m 27 #[.val (.ref ar), .val (.int (2 : Int32)), .val (.ref b), .val (.int (2 : Int32)), .val (.int (3 : Int32)), .val (.int (2 : Int32)), .val (.int (B 2))] [(.ref b)]))
  refine Go.via (fun t_ k_ => XS.iloadN H2.here hx rfl (hb hby d6_27) rfl k_) ?_
  show Go _ _ _ _ (T2.setTop (mkF m 28 #[.val (.ref ar), .val (.int (2 : Int32)), .val (.ref b), .val (.int (2 : Int32)), .val (.int (3 : Int32)), .val (.int (2 : Int32)), .val (.int (B 2))] [(.int (2 : Int32)), (.ref b)]))
  refine Go.via (fun t_ k_ => XS.iload H2.here hx rfl (hb hby d6_28) rfl k_) ?_
  show Go _ _ _ _ (T2.setTop (mkF m 30 #[.val (.ref ar), .val (.int (2 : Int32)), .val (.ref b), .val (.int (2 : Int32)), .val (.int (3 : Int32)), .val (.int (2 : Int32)), .val (.int (B 2))] [(.int (B 2)), (.int (2 : Int32)), (.ref b)]))
  refine Go.via (fun t_ k_ => XS.i2b H2.here hx rfl (hb hby d6_30) rfl k_) ?_
  show Go _ _ _ _ (T2.setTop (mkF m 31 #[.val (.ref ar), .val (.int (2 : Int32)), .val (.ref b), .val (.int (2 : Int32)), .val (.int (3 : Int32)), .val (.int (2 : Int32)), .val (.int (B 2))] [(.int ((B 2).toInt8.toInt32)), (.int (2 : Int32)), (.ref b)]))
  refine own_stBA H2 hx hZ B2 (j := 2) (by decide) (by decide) g (g := (mkF m 31 #[.val (.ref ar), .val (.int (2 : Int32)), .val (.ref b), .val (.int (2 : Int32)), .val (.int (3 : Int32)), .val (.int (2 : Int32)), .val (.int (B 2))] [(.int ((B 2).toInt8.toInt32)), (.int (2 : Int32)), (.ref b)])) rfl rfl (hb hby d6_31) ?_
  intro T3 h3 W3 B3 H3
  have K3 := (K2).wr W3 (Or.inl (List.mem_cons_self ..))
  show Go _ _ _ _ (T3.setTop (mkF m 32 #[.val (.ref ar), .val (.int (2 : Int32)), .val (.ref b), .val (.int (2 : Int32)), .val (.int (3 : Int32)), .val (.int (2 : Int32)), .val (.int (B 2))] []))
  refine Go.via (fun t_ k_ => XS.iinc H3.here hx rfl (hb hby d6_32) rfl (l' := #[.val (.ref ar), .val (.int (3 : Int32)), .val (.ref b), .val (.int (2 : Int32)), .val (.int (3 : Int32)), .val (.int (2 : Int32)), .val (.int (B 2))]) rfl k_) ?_
  show Go _ _ _ _ (T3.setTop (mkF m 35 #[.val (.ref ar), .val (.int (3 : Int32)), .val (.ref b), .val (.int (2 : Int32)), .val (.int (3 : Int32)), .val (.int (2 : Int32)), .val (.int (B 2))] []))
  refine Go.via (fun t_ k_ => XS.iinc H3.here hx rfl (hb hby d6_35) rfl (l' := #[.val (.ref ar), .val (.int (3 : Int32)), .val (.ref b), .val (.int (3 : Int32)), .val (.int (3 : Int32)), .val (.int (2 : Int32)), .val (.int (B 2))]) rfl k_) ?_
  show Go _ _ _ _ (T3.setTop (mkF m 38 #[.val (.ref ar), .val (.int (3 : Int32)), .val (.ref b), .val (.int (3 : Int32)), .val (.int (3 : Int32)), .val (.int (2 : Int32)), .val (.int (B 2))] []))
  refine Go.via (fun t_ k_ => XS.iinc H3.here hx rfl (hb hby d6_38) rfl (l' := #[.val (.ref ar), .val (.int (3 : Int32)), .val (.ref b), .val (.int (3 : Int32)), .val (.int (3 : Int32)), .val (.int (3 : Int32)), .val (.int (B 2))]) rfl k_) ?_
  show Go _ _ _ _ (T3.setTop (mkF m 41 #[.val (.ref ar), .val (.int (3 : Int32)), .val (.ref b), .val (.int (3 : Int32)), .val (.int (3 : Int32)), .val (.int (3 : Int32)), .val (.int (B 2))] []))
  refine Go.via (fun t_ k_ => XS.goto H3.here hx rfl (pc0 := 41) (pc' := 3) rfl (hb hby d6_41) (by decide) (by decide) k_) ?_
  show Go _ _ _ _ (T3.setTop (mkF m 3 #[.val (.ref ar), .val (.int (3 : Int32)), .val (.ref b), .val (.int (3 : Int32)), .val (.int (3 : Int32)), .val (.int (3 : Int32)), .val (.int (B 2))] []))
  refine Go.via (fun t_ k_ => XS.iload H3.here hx rfl (hb hby d6_3) rfl k_) ?_
  show Go _ _ _ _ (T3.setTop (mkF m 5 #[.val (.ref ar), .val (.int (3 : Int32)), .val (.ref b), .val (.int (3 : Int32)), .val (.int (3 : Int32)), .val (.int (3 : Int32)), .val (.int (B 2))] [(.int (3 : Int32))]))
  refine Go.via (fun t_ k_ => XS.iload H3.here hx rfl (hb hby d6_5) rfl k_) ?_
  show Go _ _ _ _ (T3.setTop (mkF m 7 #[.val (.ref ar), .val (.int (3 : Int32)), .val (.ref b), .val (.int (3 : Int32)), .val (.int (3 : Int32)), .val (.int (3 : Int32)), .val (.int (B 2))] [(.int (3 : Int32)), (.int (3 : Int32))]))
  refine Go.via (fun t_ k_ => XS.icmpYes H3.here hx rfl (pc0 := 7) (pc' := 44) rfl (hb hby d6_7) rfl ((flt (show ¬ ((3 : Int32) < (3 : Int32)) from (by decide))).2.1) (by decide) (by decide) k_) ?_
  show Go _ _ _ _ (T3.setTop (mkF m 44 #[.val (.ref ar), .val (.int (3 : Int32)), .val (.ref b), .val (.int (3 : Int32)), .val (.int (3 : Int32)), .val (.int (3 : Int32)), .val (.int (B 2))] []))
  refine Go.via (fun t_ k_ => XS.iload H3.here hx rfl (hb hby d6_44) rfl k_) ?_
  show Go _ _ _ _ (T3.setTop (mkF m 46 #[.val (.ref ar), .val (.int (3 : Int32)), .val (.ref b), .val (.int (3 : Int32)), .val (.int (3 : Int32)), .val (.int (3 : Int32)), .val (.int (B 2))] [(.int (3 : Int32))]))
  exact own_retI H3 hx hlk hret (hb hby d6_46) ⟨rfl, K3, _, B3⟩ (by decide) (by decide)
theorem ef_rmC3_3 (m : MethodId) (x0 : Addr) (x1 : Int32) (x2 : Int32) : entryFrame m #[(.ref x0), (.int x1), (.int x2)] 6 = mkF m 0 #[.val (.ref x0), .val (.int x1), .val (.int x2), .unset, .unset, .unset] [] := by first | (simp [entryFrame, mkF, argsToLocals, Value.category]; done) | rfl
set_option maxRecDepth 65536 in
set_option maxHeartbeats 40000000 in
theorem rmC3_3 (l : Launch) (Z : State) (a0 : Array Value) (hw : ∀ d ∈ tables_1, d.before a0 Z = true) (ar : Addr) (B : Nat → Int32) (h0 : Heap) (n0 : Nat) (AB : Ab Z h0 ar .char 3 B) (hB : ∀ j, j < 3 → ¬ (255 : Int32) < B j) (hsz : n0 ≤ h0.size) :
    CM l Z (⟨"java/lang/StringUTF16", "compress", "([CII)[B"⟩ : MethodName) jdk_52_method_16_code 6 (some (.array .byte)) ({ frames := 1, cells := 1, slots := 3, locals := 18 } : Room) #[(.ref ar), (.int (0 : Int32)), (.int (3 : Int32))] h0 n0 (fun v h => ∃ b, v = some (.ref b) ∧ Keep h0 h [] ∧ ∃ D', Ab Z h b .byte 3 D') := by
  refine own_enter (by decide +kernel) ?_
  intro p e s m below meth c T0 hx hby hml hown hnm hZ hret hlk H0
  replace hown : s.vm.findClass "java/lang/StringUTF16" = some m.cls := hown
  replace hret : meth.sig.returnType = some (.array .byte) := hret
  refine Go.via (fun t_ k_ => castTop (ef_rmC3_3 m ar (0 : Int32) (3 : Int32)) k_) ?_
  show Go _ _ _ _ (T0.setTop (mkF m 0 #[.val (.ref ar), .val (.int (0 : Int32)), .val (.int (3 : Int32)), .unset, .unset, .unset] []))
  refine Go.via (fun t_ k_ => XS.iloadN H0.here hx rfl (hb hby d5_0) rfl k_) ?_
  show Go _ _ _ _ (T0.setTop (mkF m 1 #[.val (.ref ar), .val (.int (0 : Int32)), .val (.int (3 : Int32)), .unset, .unset, .unset] [(.int (3 : Int32))]))
  refine own_newA H0 hx hZ (aty := .byte) (hw _ (List.mem_of_getElem? (i := 23) rfl)) (g := (mkF m 1 #[.val (.ref ar), .val (.int (0 : Int32)), .val (.int (3 : Int32)), .unset, .unset, .unset] [(.int (3 : Int32))])) rfl (hb hby d5_1) rfl (by decide) 3 (by decide) rfl 3 (by decide) (by decide) (by decide) (by decide) ?_
  intro T1 h1 a1 ga1 E1 B1 H1
  replace B1 : Ab Z h1 a1 .byte 3 (fun _ => 0) := B1
  have ne_ar_a1 : ar ≠ a1 := by rw [ga1]; exact Nat.ne_of_lt AB.lt
  have g_a1 : n0 ≤ a1 := by rw [ga1]; exact hsz
  have sz1 : n0 ≤ h1.size := Nat.le_trans hsz E1.1
  have kin_a1 : h0.size ≤ a1 := by rw [ga1]; exact ((Keep.refl h0 [])).1
  have K1 := ((Keep.refl h0 [])).ext E1
  show Go _ _ _ _ (T1.setTop (mkF m 3 #[.val (.ref ar), .val (.int (0 : Int32)), .val (.int (3 : Int32)), .unset, .unset, .unset] [(.ref a1)]))
  refine Go.via (fun t_ k_ => XS.astoreN H1.here hx rfl (hb hby d5_3) rfl rfl (l' := #[.val (.ref ar), .val (.int (0 : Int32)), .val (.int (3 : Int32)), .val (.ref a1), .unset, .unset]) rfl k_) ?_
  show Go _ _ _ _ (T1.setTop (mkF m 4 #[.val (.ref ar), .val (.int (0 : Int32)), .val (.int (3 : Int32)), .val (.ref a1), .unset, .unset] []))
  refine Go.via (fun t_ k_ => XS.aloadN H1.here hx rfl (hb hby d5_4) rfl rfl k_) ?_
  show Go _ _ _ _ (T1.setTop (mkF m 5 #[.val (.ref ar), .val (.int (0 : Int32)), .val (.int (3 : Int32)), .val (.ref a1), .unset, .unset] [(.ref ar)]))
  refine Go.via (fun t_ k_ => XS.iloadN H1.here hx rfl (hb hby d5_5) rfl k_) ?_
  show Go _ _ _ _ (T1.setTop (mkF m 6 #[.val (.ref ar), .val (.int (0 : Int32)), .val (.int (3 : Int32)), .val (.ref a1), .unset, .unset] [(.int (0 : Int32)), (.ref ar)]))
  refine Go.via (fun t_ k_ => XS.aloadN H1.here hx rfl (hb hby d5_6) rfl rfl k_) ?_
  show Go _ _ _ _ (T1.setTop (mkF m 7 #[.val (.ref ar), .val (.int (0 : Int32)), .val (.int (3 : Int32)), .val (.ref a1), .unset, .unset] [(.ref a1), (.int (0 : Int32)), (.ref ar)]))
  refine Go.via (fun t_ k_ => XS.iconst H1.here hx rfl (hb hby d5_7) k_) ?_
  show Go _ _ _ _ (T1.setTop (mkF m 8 #[.val (.ref ar), .val (.int (0 : Int32)), .val (.int (3 : Int32)), .val (.ref a1), .unset, .unset] [(.int (0 : Int32)), (.ref a1), (.int (0 : Int32)), (.ref ar)]))
  refine Go.via (fun t_ k_ => XS.iloadN H1.here hx rfl (hb hby d5_8) rfl k_) ?_
  show Go _ _ _ _ (T1.setTop (mkF m 9 #[.val (.ref ar), .val (.int (0 : Int32)), .val (.int (3 : Int32)), .val (.ref a1), .unset, .unset] [(.int (3 : Int32)), (.int (0 : Int32)), (.ref a1), (.int (0 : Int32)), (.ref ar)]))
  refine own_callS H1 hx hZ (y := (⟨"java/lang/StringUTF16", "compress", "([CI[BII)I"⟩ : MethodName)) hown (hw _ (List.mem_of_getElem? (i := 24) rfl)) (hw _ (List.mem_of_getElem? (i := 25) rfl)) (hw _ (List.mem_of_getElem? (i := 21) rfl)) (hw _ (List.mem_of_getElem? (i := 26) rfl)) (by decide) (rmC6_3 l Z a0 hw ar a1 B (fun _ => (0 : Int32)) h1 n0 (AB.ext E1) hB B1 ne_ar_a1 g_a1) (g := (mkF m 9 #[.val (.ref ar), .val (.int (0 : Int32)), .val (.int (3 : Int32)), .val (.ref a1), .unset, .unset] [(.int (3 : Int32)), (.int (0 : Int32)), (.ref a1), (.int (0 : Int32)), (.ref ar)])) rfl (by rw [hml]; rfl) (argsL := [(.ref ar), (.int (0 : Int32)), (.ref a1), (.int (0 : Int32)), (.int (3 : Int32))]) (rest := []) (lenOf pd_0 rfl) rfl 0 (Nat.le_of_eq rfl) (hb hby d5_9) (by decide) (by decide) (by decide) (by decide) ?_
  rintro _ T2 h2 ⟨rfl, K2, D2, A2⟩ H2
  show Go _ _ _ _ (T2.setTop (mkF m 12 #[.val (.ref ar), .val (.int (0 : Int32)), .val (.int (3 : Int32)), .val (.ref a1), .unset, .unset] [(.int (3 : Int32))]))
  refine Go.via (fun t_ k_ => XS.istore H2.here hx rfl (hb hby d5_12) rfl (l' := #[.val (.ref ar), .val (.int (0 : Int32)), .val (.int (3 : Int32)), .val (.ref a1), .val (.int (3 : Int32)), .unset]) rfl k_) ?_
  show Go _ _ _ _ (T2.setTop (mkF m 14 #[.val (.ref ar), .val (.int (0 : Int32)), .val (.int (3 : Int32)), .val (.ref a1), .val (.int (3 : Int32)), .unset] []))
  refine Go.via (fun t_ k_ => XS.iload H2.here hx rfl (hb hby d5_14) rfl k_) ?_
  show Go _ _ _ _ (T2.setTop (mkF m 16 #[.val (.ref ar), .val (.int (0 : Int32)), .val (.int (3 : Int32)), .val (.ref a1), .val (.int (3 : Int32)), .unset] [(.int (3 : Int32))]))
  refine Go.via (fun t_ k_ => XS.iloadN H2.here hx rfl (hb hby d5_16) rfl k_) ?_
  show Go _ _ _ _ (T2.setTop (mkF m 17 #[.val (.ref ar), .val (.int (0 : Int32)), .val (.int (3 : Int32)), .val (.ref a1), .val (.int (3 : Int32)), .unset] [(.int (3 : Int32)), (.int (3 : Int32))]))
  refine Go.via (fun t_ k_ => XS.icmpYes H2.here hx rfl (pc0 := 17) (pc' := 57) rfl (hb hby d5_17) rfl ((teq (show (3 : Int32) = (3 : Int32) from (by decide))).1) (by decide) (by decide) k_) ?_
  show Go _ _ _ _ (T2.setTop (mkF m 57 #[.val (.ref ar), .val (.int (0 : Int32)), .val (.int (3 : Int32)), .val (.ref a1), .val (.int (3 : Int32)), .unset] []))
  refine Go.via (fun t_ k_ => XS.aloadN H2.here hx rfl (hb hby d5_57) rfl rfl k_) ?_
  show Go _ _ _ _ (T2.setTop (mkF m 58 #[.val (.ref ar), .val (.int (0 : Int32)), .val (.int (3 : Int32)), .val (.ref a1), .val (.int (3 : Int32)), .unset] [(.ref a1)]))
  exact own_retA H2 hx hlk rfl hret rfl rfl (hb hby d5_58) ⟨_, rfl, (K1.trans K2 (allS (Or.inr kin_a1) all0)), _, A2⟩ (by decide) (by decide)
theorem ef_rmCF_3 (m : MethodId) (x0 : Addr) (x1 : Int32) : entryFrame m #[(.ref x0), (.int x1)] 2 = mkF m 0 #[.val (.ref x0), .val (.int x1)] [] := by first | (simp [entryFrame, mkF, argsToLocals, Value.category]; done) | rfl
set_option maxRecDepth 65536 in
set_option maxHeartbeats 40000000 in
theorem rmCF_3 (l : Launch) (Z : State) (a0 : Array Value) (hw : ∀ d ∈ tables_1, d.before a0 Z = true) (b : Addr) (D : Nat → Int32) (h0 : Heap) (n0 : Nat) (AD : Ab Z h0 b .byte 3 D) :
    CM l Z (⟨"java/lang/StringUTF16", "coderFromArrayLen", "([BI)B"⟩ : MethodName) jdk_52_method_15_code 2 (some .byte) ({ frames := 0, cells := 0, slots := 0, locals := 0 } : Room) #[(.ref b), (.int (3 : Int32))] h0 n0 (fun v h => v = some (.int (0 : Int32)) ∧ h0 = h) := by
  refine own_enter (by decide +kernel) ?_
  intro p e s m below meth c T0 hx hby hml hown hnm hZ hret hlk H0
  replace hown : s.vm.findClass "java/lang/StringUTF16" = some m.cls := hown
  replace hret : meth.sig.returnType = some .byte := hret
  refine Go.via (fun t_ k_ => castTop (ef_rmCF_3 m b (3 : Int32)) k_) ?_
  show Go _ _ _ _ (T0.setTop (mkF m 0 #[.val (.ref b), .val (.int (3 : Int32))] []))
  refine Go.via (fun t_ k_ => XS.iloadN H0.here hx rfl (hb hby d7_0) rfl k_) ?_
  show Go _ _ _ _ (T0.setTop (mkF m 1 #[.val (.ref b), .val (.int (3 : Int32))] [(.int (3 : Int32))]))
  refine Go.via (fun t_ k_ => XS.aloadN H0.here hx rfl (hb hby d7_1) rfl rfl k_) ?_
  show Go _ _ _ _ (T0.setTop (mkF m 2 #[.val (.ref b), .val (.int (3 : Int32))] [(.ref b), (.int (3 : Int32))]))
  refine own_lenA H0 hx hZ AD (z := (3 : Int32)) (by decide) (g := (mkF m 2 #[.val (.ref b), .val (.int (3 : Int32))] [(.ref b), (.int (3 : Int32))])) rfl rfl (hb hby d7_2) ?_
  show Go _ _ _ _ (T0.setTop (mkF m 3 #[.val (.ref b), .val (.int (3 : Int32))] [(.int (3 : Int32)), (.int (3 : Int32))]))
  refine Go.via (fun t_ k_ => XS.isub H0.here hx rfl (hb hby d7_3) rfl k_) ?_
  show Go _ _ _ _ (T0.setTop (mkF m 4 #[.val (.ref b), .val (.int (3 : Int32))] [(.int ((3 : Int32) - (3 : Int32)))]))
  refine Go.via (fun t_ k_ => XS.bipush H0.here hx rfl (hb hby d7_4) k_) ?_
  show Go _ _ _ _ (T0.setTop (mkF m 6 #[.val (.ref b), .val (.int (3 : Int32))] [(.int (31 : Int32)), (.int ((3 : Int32) - (3 : Int32)))]))
  refine Go.via (fun t_ k_ => XS.iushr H0.here hx rfl (hb hby d7_6) rfl k_) ?_
  show Go _ _ _ _ (T0.setTop (mkF m 7 #[.val (.ref b), .val (.int (3 : Int32))] [(.int ((((3 : Int32) - (3 : Int32)).toUInt32 >>> ((31 : Int32) &&& 31).toUInt32).toInt32))]))
  refine Go.via (fun t_ k_ => XS.i2b H0.here hx rfl (hb hby d7_7) rfl k_) ?_
  show Go _ _ _ _ (T0.setTop (mkF m 8 #[.val (.ref b), .val (.int (3 : Int32))] [(.int (((((3 : Int32) - (3 : Int32)).toUInt32 >>> ((31 : Int32) &&& 31).toUInt32).toInt32).toInt8.toInt32))]))
  exact own_retN H0 hx hlk (by simp) hret (hb hby d7_8) ⟨congrArg (fun z => some (Value.int z)) (by decide), rfl⟩ (by decide) (by decide)
theorem d3_0 : decode jdk_42_method_149_code 0 = .ok (.aload_n 0, 1) := by decide +kernel
theorem d3_1 : decode jdk_42_method_149_code 1 = .ok (.invokespecial 1, 3) := by decide +kernel
theorem d3_4 : decode jdk_42_method_149_code 4 = .ok (.iload_n 3, 1) := by decide +kernel
theorem d3_5 : decode jdk_42_method_149_code 5 = .ok (.ifCond .ne 22, 3) := by decide +kernel
theorem d3_8 : decode jdk_42_method_149_code 8 = .ok (.aload_n 0, 1) := by decide +kernel
theorem d3_9 : decode jdk_42_method_149_code 9 = .ok (.ldc 7, 2) := by decide +kernel
theorem d3_11 : decode jdk_42_method_149_code 11 = .ok (.getfield 9, 3) := by decide +kernel
theorem d3_14 : decode jdk_42_method_149_code 14 = .ok (.putfield 9, 3) := by decide +kernel
theorem d3_17 : decode jdk_42_method_149_code 17 = .ok (.aload_n 0, 1) := by decide +kernel
theorem d3_18 : decode jdk_42_method_149_code 18 = .ok (.ldc 7, 2) := by decide +kernel
theorem d3_20 : decode jdk_42_method_149_code 20 = .ok (.getfield 15, 3) := by decide +kernel
theorem d3_23 : decode jdk_42_method_149_code 23 = .ok (.putfield 15, 3) := by decide +kernel
theorem d3_26 : decode jdk_42_method_149_code 26 = .ok (.return_, 1) := by decide +kernel
theorem d3_27 : decode jdk_42_method_149_code 27 = .ok (.getstatic 38, 3) := by decide +kernel
theorem d3_30 : decode jdk_42_method_149_code 30 = .ok (.ifCond .eq 28, 3) := by decide +kernel
theorem d3_33 : decode jdk_42_method_149_code 33 = .ok (.aload_n 1, 1) := by decide +kernel
theorem d3_34 : decode jdk_42_method_149_code 34 = .ok (.iload_n 2, 1) := by decide +kernel
theorem d3_35 : decode jdk_42_method_149_code 35 = .ok (.iload_n 3, 1) := by decide +kernel
theorem d3_36 : decode jdk_42_method_149_code 36 = .ok (.invokestatic 177, 3) := by decide +kernel
theorem d3_39 : decode jdk_42_method_149_code 39 = .ok (.astore 5, 2) := by decide +kernel
theorem d3_41 : decode jdk_42_method_149_code 41 = .ok (.aload_n 0, 1) := by decide +kernel
theorem d3_42 : decode jdk_42_method_149_code 42 = .ok (.aload 5, 2) := by decide +kernel
theorem d3_44 : decode jdk_42_method_149_code 44 = .ok (.iload_n 3, 1) := by decide +kernel
theorem d3_45 : decode jdk_42_method_149_code 45 = .ok (.invokestatic 47, 3) := by decide +kernel
theorem d3_48 : decode jdk_42_method_149_code 48 = .ok (.putfield 15, 3) := by decide +kernel
theorem d3_51 : decode jdk_42_method_149_code 51 = .ok (.aload_n 0, 1) := by decide +kernel
theorem d3_52 : decode jdk_42_method_149_code 52 = .ok (.aload 5, 2) := by decide +kernel
theorem d3_54 : decode jdk_42_method_149_code 54 = .ok (.putfield 9, 3) := by decide +kernel
theorem d3_57 : decode jdk_42_method_149_code 57 = .ok (.return_, 1) := by decide +kernel
theorem d3_58 : decode jdk_42_method_149_code 58 = .ok (.aload_n 0, 1) := by decide +kernel
theorem d3_59 : decode jdk_42_method_149_code 59 = .ok (.iconst 1, 1) := by decide +kernel
theorem d3_60 : decode jdk_42_method_149_code 60 = .ok (.putfield 15, 3) := by decide +kernel
theorem d3_63 : decode jdk_42_method_149_code 63 = .ok (.aload_n 0, 1) := by decide +kernel
theorem d3_64 : decode jdk_42_method_149_code 64 = .ok (.aload_n 1, 1) := by decide +kernel
theorem d3_65 : decode jdk_42_method_149_code 65 = .ok (.iload_n 2, 1) := by decide +kernel
theorem d3_66 : decode jdk_42_method_149_code 66 = .ok (.iload_n 3, 1) := by decide +kernel
theorem d3_67 : decode jdk_42_method_149_code 67 = .ok (.invokestatic 180, 3) := by decide +kernel
theorem d3_70 : decode jdk_42_method_149_code 70 = .ok (.putfield 9, 3) := by decide +kernel
theorem d3_73 : decode jdk_42_method_149_code 73 = .ok (.return_, 1) := by decide +kernel
theorem ef_rmI4_0 (m : MethodId) (x0 : Addr) (x1 : Addr) (x2 : Int32) (x3 : Int32) : entryFrame m #[(.ref x0), (.ref x1), (.int x2), (.int x3), .null] 6 = mkF m 0 #[.val (.ref x0), .val (.ref x1), .val (.int x2), .val (.int x3), .val .null, .unset] [] := by first | (simp [entryFrame, mkF, argsToLocals, Value.category]; done) | rfl
set_option maxRecDepth 65536 in
set_option maxHeartbeats 40000000 in
theorem rmI4_0 (l : Launch) (Z : State) (a0 : Array Value) (hw : ∀ d ∈ tables_1, d.before a0 Z = true) (a ar : Addr) (h0 : Heap) (n0 : Nat) (hEL : EW Z a0 consts_1) (wS : ∀ a ∈ Bundle.stringAtoms, a.before a0 Z = true) (E : Exa Z h0 a "java/lang/String") (FV : Fld Z h0 a "java/lang/String" "value" "[B" .null) (FC : Fld Z h0 a "java/lang/String" "coder" "B" (.int (0 : Int32))) (g : n0 ≤ a) :
    CMH consts_1 l Z (⟨"java/lang/String", "<init>", "([CIILjava/lang/Void;)V"⟩ : MethodName) jdk_42_method_149_code 6 none ({ frames := 1, cells := 4, slots := 8, locals := 12 } : Room) #[(.ref a), (.ref ar), (.int (0 : Int32)), (.int (0 : Int32)), .null] h0 n0 (fun v h => v = none ∧ Keep h0 h [a]) := by
  refine own_enterH (by decide +kernel) ?_
  intro p e s m below meth c T0 hx hby hml hown hnm hZ hret hlk H0 LB CH
  replace hown : (s.setVm s.vm).vm.findClass "java/lang/String" = some m.cls := hown
  replace hret : meth.sig.returnType = none := hret
  refine Go.via (fun t_ k_ => castTop (ef_rmI4_0 m a ar (0 : Int32) (0 : Int32)) k_) ?_
  have S0 : Safe Z consts_1 s.vm h0 a := own_safe hZ.alike E FV
  show Go _ _ _ _ (T0.setTop (mkF m 0 #[.val (.ref a), .val (.ref ar), .val (.int (0 : Int32)), .val (.int (0 : Int32)), .val .null, .unset] []))
  refine Go.via (fun t_ k_ => XS.aloadN H0.here hx rfl (hb hby d3_0) rfl rfl k_) ?_
  show Go _ _ _ _ (T0.setTop (mkF m 1 #[.val (.ref a), .val (.ref ar), .val (.int (0 : Int32)), .val (.int (0 : Int32)), .val .null, .unset] [(.ref a)]))
  refine own_initO H0 hx hZ hown (hw _ (List.mem_of_getElem? (i := 15) rfl)) (hw _ (List.mem_of_getElem? (i := 16) rfl)) (hw _ (List.mem_of_getElem? (i := 17) rfl)) (g := (mkF m 1 #[.val (.ref a), .val (.ref ar), .val (.int (0 : Int32)), .val (.int (0 : Int32)), .val .null, .unset] [(.ref a)])) rfl (by rw [hml]; rfl) rfl (hb hby d3_1) (by decide) 0 (Nat.le_of_eq rfl) (by decide) ?_
  intro T1 H1
  show Go _ _ _ _ (T1.setTop (mkF m 4 #[.val (.ref a), .val (.ref ar), .val (.int (0 : Int32)), .val (.int (0 : Int32)), .val .null, .unset] []))
  refine Go.via (fun t_ k_ => XS.iloadN H1.here hx rfl (hb hby d3_4) rfl k_) ?_
  show Go _ _ _ _ (T1.setTop (mkF m 5 #[.val (.ref a), .val (.ref ar), .val (.int (0 : Int32)), .val (.int (0 : Int32)), .val .null, .unset] [(.int (0 : Int32))]))
  refine Go.via (fun t_ k_ => XS.ifNo H1.here hx rfl (hb hby d3_5) rfl ((if0 _ _).trans (teq (show (0 : Int32) = (0 : Int32) from (by decide))).2) k_) ?_
  show Go _ _ _ _ (T1.setTop (mkF m 8 #[.val (.ref a), .val (.ref ar), .val (.int (0 : Int32)), .val (.int (0 : Int32)), .val .null, .unset] []))
  refine Go.via (fun t_ k_ => XS.aloadN H1.here hx rfl (hb hby d3_8) rfl rfl k_) ?_
  show Go _ _ _ _ (T1.setTop (mkF m 9 #[.val (.ref a), .val (.ref ar), .val (.int (0 : Int32)), .val (.int (0 : Int32)), .val .null, .unset] [(.ref a)]))
  refine own_ldcH H1 LB CH hEL hx hZ hown (hw _ (List.mem_of_getElem? (i := 59) rfl)) wS (List.mem_of_getElem? (i := 0) rfl) ([] : List Int32) (0 : Int32) ⟨by decide, by decide⟩ (by decide) (by decide) (g := (mkF m 9 #[.val (.ref a), .val (.ref ar), .val (.int (0 : Int32)), .val (.int (0 : Int32)), .val .null, .unset] [(.ref a)])) rfl (hb hby d3_9) 0 (by decide) (by decide) (by decide) (by decide) ?_
  intro a2 b2 T2 h2 E2 C2 V2 ne2 R2 LB2 CH2 hZ hown H2
  have S2_a := R2.safe E.lt S0
  show Go _ _ _ _ (T2.setTop (mkF m 11 #[.val (.ref a), .val (.ref ar), .val (.int (0 : Int32)), .val (.int (0 : Int32)), .val .null, .unset] [(.ref a2), (.ref a)]))
  refine own_getF H2 hx hZ hown (hw _ (List.mem_of_getElem? (i := 32) rfl)) V2 (g := (mkF m 11 #[.val (.ref a), .val (.ref ar), .val (.int (0 : Int32)), .val (.int (0 : Int32)), .val .null, .unset] [(.ref a2), (.ref a)])) rfl rfl (hb hby d3_11) ?_
  intro T3 H3
  show Go _ _ _ _ (T3.setTop (mkF m 14 #[.val (.ref a), .val (.ref ar), .val (.int (0 : Int32)), .val (.int (0 : Int32)), .val .null, .unset] [(.ref b2), (.ref a)]))
  refine own_putF H3 hx hZ hown (hw _ (List.mem_of_getElem? (i := 32) rfl)) (FV.ext E2) (E.ext E2) (Or.inr ⟨(hw _ (List.mem_of_getElem? (i := 33) rfl)), rfl, hnm⟩) (hw _ (List.mem_of_getElem? (i := 5) rfl)) g (ty := (.array .byte)) (by decide) rfl rfl (g := (mkF m 14 #[.val (.ref a), .val (.ref ar), .val (.int (0 : Int32)), .val (.int (0 : Int32)), .val .null, .unset] [(.ref b2), (.ref a)])) rfl rfl (hb hby d3_14) ?_
  intro T4 h4 W4 H4
  have F4_value := (FV.ext E2).same W4
  have K4 := (((Keep.refl h0 [a]).ext E2)).wr W4 (Or.inl (List.mem_cons_self ..))
  have CH5 := CH2.trans (CHr.wr W4 S2_a CH2.1)
  have S5_a := Safe.wr W4 S2_a CH2.1 S2_a
  show Go _ _ _ _ (T4.setTop (mkF m 17 #[.val (.ref a), .val (.ref ar), .val (.int (0 : Int32)), .val (.int (0 : Int32)), .val .null, .unset] []))
  refine Go.via (fun t_ k_ => XS.aloadN H4.here hx rfl (hb hby d3_17) rfl rfl k_) ?_
  show Go _ _ _ _ (T4.setTop (mkF m 18 #[.val (.ref a), .val (.ref ar), .val (.int (0 : Int32)), .val (.int (0 : Int32)), .val .null, .unset] [(.ref a)]))
  refine own_ldcH H4 (LB2.grow (Keep.of_wr W4).1) CH5 hEL hx hZ hown (hw _ (List.mem_of_getElem? (i := 59) rfl)) wS (List.mem_of_getElem? (i := 0) rfl) ([] : List Int32) (0 : Int32) ⟨by decide, by decide⟩ (by decide) (by decide) (g := (mkF m 18 #[.val (.ref a), .val (.ref ar), .val (.int (0 : Int32)), .val (.int (0 : Int32)), .val .null, .unset] [(.ref a)])) rfl (hb hby d3_18) 0 (by decide) (by decide) (by decide) (by decide) ?_
  intro a6 b6 T6 h6 E6 C6 V6 ne6 R6 LB6 CH6 hZ hown H6
  have S6_a := R6.safe ((E.ext E2).wr W4).lt S5_a
  show Go _ _ _ _ (T6.setTop (mkF m 20 #[.val (.ref a), .val (.ref ar), .val (.int (0 : Int32)), .val (.int (0 : Int32)), .val .null, .unset] [(.ref a6), (.ref a)]))
  refine own_getF H6 hx hZ hown (hw _ (List.mem_of_getElem? (i := 30) rfl)) C6 (g := (mkF m 20 #[.val (.ref a), .val (.ref ar), .val (.int (0 : Int32)), .val (.int (0 : Int32)), .val .null, .unset] [(.ref a6), (.ref a)])) rfl rfl (hb hby d3_20) ?_
  intro T7 H7
  show Go _ _ _ _ (T7.setTop (mkF m 23 #[.val (.ref a), .val (.ref ar), .val (.int (0 : Int32)), .val (.int (0 : Int32)), .val .null, .unset] [(.int (0 : Int32)), (.ref a)]))
  refine own_putFN H7 hx hZ hown (hw _ (List.mem_of_getElem? (i := 30) rfl)) (((FC.ext E2).other W4 (Or.inr (slot_ne (Or.inr (hw _ (List.mem_of_getElem? (i := 31) rfl))) (Or.inr (hw _ (List.mem_of_getElem? (i := 33) rfl))) (by decide) (t := .byte) (t' := (.array .byte)) (by decide) (by decide)))).ext E6) (((E.ext E2).wr W4).ext E6) (Or.inr ⟨(hw _ (List.mem_of_getElem? (i := 31) rfl)), rfl, hnm⟩) (hw _ (List.mem_of_getElem? (i := 5) rfl)) g (ty := .byte) (v' := .int (nar .byte (0 : Int32))) (by decide) rfl (fits_nar_byte _) (g := (mkF m 23 #[.val (.ref a), .val (.ref ar), .val (.int (0 : Int32)), .val (.int (0 : Int32)), .val .null, .unset] [(.int (0 : Int32)), (.ref a)])) rfl rfl (hb hby d3_23) ?_
  intro T8 h8 W8 H8
  have F8_coder := (((FC.ext E2).other W4 (Or.inr (slot_ne (Or.inr (hw _ (List.mem_of_getElem? (i := 31) rfl))) (Or.inr (hw _ (List.mem_of_getElem? (i := 33) rfl))) (by decide) (t := .byte) (t' := (.array .byte)) (by decide) (by decide)))).ext E6).same W8
  have K8 := ((K4.ext E6)).wr W8 (Or.inl (List.mem_cons_self ..))
  have CH9 := CH6.trans (CHr.wr W8 S6_a CH6.1)
  have S9_a := Safe.wr W8 S6_a CH6.1 S6_a
  show Go _ _ _ _ (T8.setTop (mkF m 26 #[.val (.ref a), .val (.ref ar), .val (.int (0 : Int32)), .val (.int (0 : Int32)), .val .null, .unset] []))
  exact own_retVH H8 (LB6.grow (Keep.of_wr W8).1) CH9 hZ hEL hx hlk hret (hb hby d3_26) ⟨rfl, K8⟩ (by decide) (by decide)
theorem ef_rmI4_1 (m : MethodId) (x0 : Addr) (x1 : Addr) (x2 : Int32) (x3 : Int32) : entryFrame m #[(.ref x0), (.ref x1), (.int x2), (.int x3), .null] 6 = mkF m 0 #[.val (.ref x0), .val (.ref x1), .val (.int x2), .val (.int x3), .val .null, .unset] [] := by first | (simp [entryFrame, mkF, argsToLocals, Value.category]; done) | rfl
theorem pd_1 : parseMethodDescriptor "([CII)[B" = some ⟨[(.array .char), .int, .int], some (.array .byte)⟩ := by decide +kernel
theorem pd_2 : parseMethodDescriptor "([BI)B" = some ⟨[(.array .byte), .int], some .byte⟩ := by decide +kernel
set_option maxRecDepth 65536 in
set_option maxHeartbeats 40000000 in
theorem rmI4_1 (l : Launch) (Z : State) (a0 : Array Value) (hw : ∀ d ∈ tables_1, d.before a0 Z = true) (a ar : Addr) (B : Nat → Int32) (cs : Int32) (h0 : Heap) (n0 : Nat) (OL : Old Z n0 h0) (SC : Sta Z Z.heap "java/lang/String" "COMPACT_STRINGS" "Z" (.int cs)) (hcs : ¬ cs = 0) (E : Exa Z h0 a "java/lang/String") (FV : Fld Z h0 a "java/lang/String" "value" "[B" .null) (FC : Fld Z h0 a "java/lang/String" "coder" "B" (.int (0 : Int32))) (g : n0 ≤ a) (AB : Ab Z h0 ar .char 1 B) (hB : ∀ j, j < 1 → ¬ (255 : Int32) < B j) :
    CM l Z (⟨"java/lang/String", "<init>", "([CIILjava/lang/Void;)V"⟩ : MethodName) jdk_42_method_149_code 6 none ({ frames := 2, cells := 1, slots := 1, locals := 36 } : Room) #[(.ref a), (.ref ar), (.int (0 : Int32)), (.int (1 : Int32)), .null] h0 n0 (fun v h => v = none ∧ Keep h0 h [a]) := by
  refine own_enter (by decide +kernel) ?_
  intro p e s m below meth c T0 hx hby hml hown hnm hZ hret hlk H0
  replace hown : s.vm.findClass "java/lang/String" = some m.cls := hown
  replace hret : meth.sig.returnType = none := hret
  refine Go.via (fun t_ k_ => castTop (ef_rmI4_1 m a ar (0 : Int32) (1 : Int32)) k_) ?_
  show Go _ _ _ _ (T0.setTop (mkF m 0 #[.val (.ref a), .val (.ref ar), .val (.int (0 : Int32)), .val (.int (1 : Int32)), .val .null, .unset] []))
  refine Go.via (fun t_ k_ => XS.aloadN H0.here hx rfl (hb hby d3_0) rfl rfl k_) ?_
  show Go _ _ _ _ (T0.setTop (mkF m 1 #[.val (.ref a), .val (.ref ar), .val (.int (0 : Int32)), .val (.int (1 : Int32)), .val .null, .unset] [(.ref a)]))
  refine own_initO H0 hx hZ hown (hw _ (List.mem_of_getElem? (i := 15) rfl)) (hw _ (List.mem_of_getElem? (i := 16) rfl)) (hw _ (List.mem_of_getElem? (i := 17) rfl)) (g := (mkF m 1 #[.val (.ref a), .val (.ref ar), .val (.int (0 : Int32)), .val (.int (1 : Int32)), .val .null, .unset] [(.ref a)])) rfl (by rw [hml]; rfl) rfl (hb hby d3_1) (by decide) 0 (Nat.le_of_eq rfl) (by decide) ?_
  intro T1 H1
  show Go _ _ _ _ (T1.setTop (mkF m 4 #[.val (.ref a), .val (.ref ar), .val (.int (0 : Int32)), .val (.int (1 : Int32)), .val .null, .unset] []))
  refine Go.via (fun t_ k_ => XS.iloadN H1.here hx rfl (hb hby d3_4) rfl k_) ?_
  show Go _ _ _ _ (T1.setTop (mkF m 5 #[.val (.ref a), .val (.ref ar), .val (.int (0 : Int32)), .val (.int (1 : Int32)), .val .null, .unset] [(.int (1 : Int32))]))
  refine Go.via (fun t_ k_ => XS.ifYes H1.here hx rfl (pc0 := 5) (pc' := 27) rfl (hb hby d3_5) rfl ((if0 _ _).trans (feq (show ¬ ((1 : Int32) = (0 : Int32)) from (by decide))).2) (by decide) (by decide) k_) ?_
  show Go _ _ _ _ (T1.setTop (mkF m 27 #[.val (.ref a), .val (.ref ar), .val (.int (0 : Int32)), .val (.int (1 : Int32)), .val .null, .unset] []))
  refine own_getS H1 hx hZ hown (hw _ (List.mem_of_getElem? (i := 18) rfl)) (SC.ext OL.2) (g := (mkF m 27 #[.val (.ref a), .val (.ref ar), .val (.int (0 : Int32)), .val (.int (1 : Int32)), .val .null, .unset] [])) rfl (hb hby d3_27) ?_
  intro T2 H2
  show Go _ _ _ _ (T2.setTop (mkF m 30 #[.val (.ref a), .val (.ref ar), .val (.int (0 : Int32)), .val (.int (1 : Int32)), .val .null, .unset] [(.int cs)]))
  refine Go.via (fun t_ k_ => XS.ifNo H2.here hx rfl (hb hby d3_30) rfl ((if0 _ _).trans (feq (show ¬ (cs = (0 : Int32)) from hcs)).1) k_) ?_
  show Go _ _ _ _ (T2.setTop (mkF m 33 #[.val (.ref a), .val (.ref ar), .val (.int (0 : Int32)), .val (.int (1 : Int32)), .val .null, .unset] []))
  refine Go.via (fun t_ k_ => XS.aloadN H2.here hx rfl (hb hby d3_33) rfl rfl k_) ?_
  show Go _ _ _ _ (T2.setTop (mkF m 34 #[.val (.ref a), .val (.ref ar), .val (.int (0 : Int32)), .val (.int (1 : Int32)), .val .null, .unset] [(.ref ar)]))
  refine Go.via (fun t_ k_ => XS.iloadN H2.here hx rfl (hb hby d3_34) rfl k_) ?_
  show Go _ _ _ _ (T2.setTop (mkF m 35 #[.val (.ref a), .val (.ref ar), .val (.int (0 : Int32)), .val (.int (1 : Int32)), .val .null, .unset] [(.int (0 : Int32)), (.ref ar)]))
  refine Go.via (fun t_ k_ => XS.iloadN H2.here hx rfl (hb hby d3_35) rfl k_) ?_
  show Go _ _ _ _ (T2.setTop (mkF m 36 #[.val (.ref a), .val (.ref ar), .val (.int (0 : Int32)), .val (.int (1 : Int32)), .val .null, .unset] [(.int (1 : Int32)), (.int (0 : Int32)), (.ref ar)]))
  refine own_callS H2 hx hZ (y := (⟨"java/lang/StringUTF16", "compress", "([CII)[B"⟩ : MethodName)) hown (hw _ (List.mem_of_getElem? (i := 19) rfl)) (hw _ (List.mem_of_getElem? (i := 20) rfl)) (hw _ (List.mem_of_getElem? (i := 21) rfl)) (hw _ (List.mem_of_getElem? (i := 22) rfl)) (by decide) (rmC3_1 l Z a0 hw ar B h0 n0 AB hB (Nat.le_trans (Nat.le_of_eq OL.1.symm) OL.2.1)) (g := (mkF m 36 #[.val (.ref a), .val (.ref ar), .val (.int (0 : Int32)), .val (.int (1 : Int32)), .val .null, .unset] [(.int (1 : Int32)), (.int (0 : Int32)), (.ref ar)])) rfl (by rw [hml]; rfl) (argsL := [(.ref ar), (.int (0 : Int32)), (.int (1 : Int32))]) (rest := []) (lenOf pd_1 rfl) rfl 0 (Nat.le_of_eq rfl) (hb hby d3_36) (by decide) (by decide) (by decide) (by decide) ?_
  rintro _ T3 h3 ⟨b3, rfl, K3, D3, A3⟩ H3
  show Go _ _ _ _ (T3.setTop (mkF m 39 #[.val (.ref a), .val (.ref ar), .val (.int (0 : Int32)), .val (.int (1 : Int32)), .val .null, .unset] [(.ref b3)]))
  refine Go.via (fun t_ k_ => XS.astore H3.here hx rfl (hb hby d3_39) rfl rfl (l' := #[.val (.ref a), .val (.ref ar), .val (.int (0 : Int32)), .val (.int (1 : Int32)), .val .null, .val (.ref b3)]) rfl k_) ?_
  show Go _ _ _ _ (T3.setTop (mkF m 41 #[.val (.ref a), .val (.ref ar), .val (.int (0 : Int32)), .val (.int (1 : Int32)), .val .null, .val (.ref b3)] []))
  refine Go.via (fun t_ k_ => XS.aloadN H3.here hx rfl (hb hby d3_41) rfl rfl k_) ?_
  show Go _ _ _ _ (T3.setTop (mkF m 42 #[.val (.ref a), .val (.ref ar), .val (.int (0 : Int32)), .val (.int (1 : Int32)), .val .null, .val (.ref b3)] [(.ref a)]))
  refine Go.via (fun t_ k_ => XS.aload H3.here hx rfl (hb hby d3_42) rfl rfl k_) ?_
  show Go _ _ _ _ (T3.setTop (mkF m 44 #[.val (.ref a), .val (.ref ar), .val (.int (0 : Int32)), .val (.int (1 : Int32)), .val .null, .val (.ref b3)] [(.ref b3), (.ref a)]))
  refine Go.via (fun t_ k_ => XS.iloadN H3.here hx rfl (hb hby d3_44) rfl k_) ?_
  show Go _ _ _ _ (T3.setTop (mkF m 45 #[.val (.ref a), .val (.ref ar), .val (.int (0 : Int32)), .val (.int (1 : Int32)), .val .null, .val (.ref b3)] [(.int (1 : Int32)), (.ref b3), (.ref a)]))
  refine own_callS H3 hx hZ (y := (⟨"java/lang/StringUTF16", "coderFromArrayLen", "([BI)B"⟩ : MethodName)) hown (hw _ (List.mem_of_getElem? (i := 27) rfl)) (hw _ (List.mem_of_getElem? (i := 28) rfl)) (hw _ (List.mem_of_getElem? (i := 21) rfl)) (hw _ (List.mem_of_getElem? (i := 29) rfl)) (by decide) (rmCF_1 l Z a0 hw b3 D3 h3 n0 A3) (g := (mkF m 45 #[.val (.ref a), .val (.ref ar), .val (.int (0 : Int32)), .val (.int (1 : Int32)), .val .null, .val (.ref b3)] [(.int (1 : Int32)), (.ref b3), (.ref a)])) rfl (by rw [hml]; rfl) (argsL := [(.ref b3), (.int (1 : Int32))]) (rest := [(.ref a)]) (lenOf pd_2 rfl) rfl 1 (Nat.le_of_eq rfl) (hb hby d3_45) (by decide) (by decide) (by decide) (by decide) ?_
  rintro _ T4 _ ⟨rfl, rfl⟩ H4
  show Go _ _ _ _ (T4.setTop (mkF m 48 #[.val (.ref a), .val (.ref ar), .val (.int (0 : Int32)), .val (.int (1 : Int32)), .val .null, .val (.ref b3)] [(.int (0 : Int32)), (.ref a)]))
  refine own_putFN H4 hx hZ hown (hw _ (List.mem_of_getElem? (i := 30) rfl)) (FC.keep K3 nin0) (E.keep K3) (Or.inr ⟨(hw _ (List.mem_of_getElem? (i := 31) rfl)), rfl, hnm⟩) (hw _ (List.mem_of_getElem? (i := 5) rfl)) g (ty := .byte) (v' := .int (nar .byte (0 : Int32))) (by decide) rfl (fits_nar_byte _) (g := (mkF m 48 #[.val (.ref a), .val (.ref ar), .val (.int (0 : Int32)), .val (.int (1 : Int32)), .val .null, .val (.ref b3)] [(.int (0 : Int32)), (.ref a)])) rfl rfl (hb hby d3_48) ?_
  intro T5 h5 W5 H5
  have F5_coder := (FC.keep K3 nin0).same W5
  have K5 := (((Keep.refl h0 [a]).trans K3 all0)).wr W5 (Or.inl (List.mem_cons_self ..))
  show Go _ _ _ _ (T5.setTop (mkF m 51 #[.val (.ref a), .val (.ref ar), .val (.int (0 : Int32)), .val (.int (1 : Int32)), .val .null, .val (.ref b3)] []))
  refine Go.via (fun t_ k_ => XS.aloadN H5.here hx rfl (hb hby d3_51) rfl rfl k_) ?_
  show Go _ _ _ _ (T5.setTop (mkF m 52 #[.val (.ref a), .val (.ref ar), .val (.int (0 : Int32)), .val (.int (1 : Int32)), .val .null, .val (.ref b3)] [(.ref a)]))
  refine Go.via (fun t_ k_ => XS.aload H5.here hx rfl (hb hby d3_52) rfl rfl k_) ?_
  show Go _ _ _ _ (T5.setTop (mkF m 54 #[.val (.ref a), .val (.ref ar), .val (.int (0 : Int32)), .val (.int (1 : Int32)), .val .null, .val (.ref b3)] [(.ref b3), (.ref a)]))
  refine own_putF H5 hx hZ hown (hw _ (List.mem_of_getElem? (i := 32) rfl)) ((FV.keep K3 nin0).other W5 (Or.inr (slot_ne (Or.inr (hw _ (List.mem_of_getElem? (i := 33) rfl))) (Or.inr (hw _ (List.mem_of_getElem? (i := 31) rfl))) (by decide) (t := (.array .byte)) (t' := .byte) (by decide) (by decide)))) ((E.keep K3).wr W5) (Or.inr ⟨(hw _ (List.mem_of_getElem? (i := 33) rfl)), rfl, hnm⟩) (hw _ (List.mem_of_getElem? (i := 5) rfl)) g (ty := (.array .byte)) (by decide) rfl rfl (g := (mkF m 54 #[.val (.ref a), .val (.ref ar), .val (.int (0 : Int32)), .val (.int (1 : Int32)), .val .null, .val (.ref b3)] [(.ref b3), (.ref a)])) rfl rfl (hb hby d3_54) ?_
  intro T6 h6 W6 H6
  have F6_value := ((FV.keep K3 nin0).other W5 (Or.inr (slot_ne (Or.inr (hw _ (List.mem_of_getElem? (i := 33) rfl))) (Or.inr (hw _ (List.mem_of_getElem? (i := 31) rfl))) (by decide) (t := (.array .byte)) (t' := .byte) (by decide) (by decide)))).same W6
  have K6 := (K5).wr W6 (Or.inl (List.mem_cons_self ..))
  show Go _ _ _ _ (T6.setTop (mkF m 57 #[.val (.ref a), .val (.ref ar), .val (.int (0 : Int32)), .val (.int (1 : Int32)), .val .null, .val (.ref b3)] []))
  exact own_retV H6 hx hlk hret (hb hby d3_57) ⟨rfl, K6⟩ (by decide) (by decide)
theorem ef_rmI4_2 (m : MethodId) (x0 : Addr) (x1 : Addr) (x2 : Int32) (x3 : Int32) : entryFrame m #[(.ref x0), (.ref x1), (.int x2), (.int x3), .null] 6 = mkF m 0 #[.val (.ref x0), .val (.ref x1), .val (.int x2), .val (.int x3), .val .null, .unset] [] := by first | (simp [entryFrame, mkF, argsToLocals, Value.category]; done) | rfl
set_option maxRecDepth 65536 in
set_option maxHeartbeats 40000000 in
theorem rmI4_2 (l : Launch) (Z : State) (a0 : Array Value) (hw : ∀ d ∈ tables_1, d.before a0 Z = true) (a ar : Addr) (B : Nat → Int32) (cs : Int32) (h0 : Heap) (n0 : Nat) (OL : Old Z n0 h0) (SC : Sta Z Z.heap "java/lang/String" "COMPACT_STRINGS" "Z" (.int cs)) (hcs : ¬ cs = 0) (E : Exa Z h0 a "java/lang/String") (FV : Fld Z h0 a "java/lang/String" "value" "[B" .null) (FC : Fld Z h0 a "java/lang/String" "coder" "B" (.int (0 : Int32))) (g : n0 ≤ a) (AB : Ab Z h0 ar .char 2 B) (hB : ∀ j, j < 2 → ¬ (255 : Int32) < B j) :
    CM l Z (⟨"java/lang/String", "<init>", "([CIILjava/lang/Void;)V"⟩ : MethodName) jdk_42_method_149_code 6 none ({ frames := 2, cells := 1, slots := 2, locals := 36 } : Room) #[(.ref a), (.ref ar), (.int (0 : Int32)), (.int (2 : Int32)), .null] h0 n0 (fun v h => v = none ∧ Keep h0 h [a]) := by
  refine own_enter (by decide +kernel) ?_
  intro p e s m below meth c T0 hx hby hml hown hnm hZ hret hlk H0
  replace hown : s.vm.findClass "java/lang/String" = some m.cls := hown
  replace hret : meth.sig.returnType = none := hret
  refine Go.via (fun t_ k_ => castTop (ef_rmI4_2 m a ar (0 : Int32) (2 : Int32)) k_) ?_
  show Go _ _ _ _ (T0.setTop (mkF m 0 #[.val (.ref a), .val (.ref ar), .val (.int (0 : Int32)), .val (.int (2 : Int32)), .val .null, .unset] []))
  refine Go.via (fun t_ k_ => XS.aloadN H0.here hx rfl (hb hby d3_0) rfl rfl k_) ?_
  show Go _ _ _ _ (T0.setTop (mkF m 1 #[.val (.ref a), .val (.ref ar), .val (.int (0 : Int32)), .val (.int (2 : Int32)), .val .null, .unset] [(.ref a)]))
  refine own_initO H0 hx hZ hown (hw _ (List.mem_of_getElem? (i := 15) rfl)) (hw _ (List.mem_of_getElem? (i := 16) rfl)) (hw _ (List.mem_of_getElem? (i := 17) rfl)) (g := (mkF m 1 #[.val (.ref a), .val (.ref ar), .val (.int (0 : Int32)), .val (.int (2 : Int32)), .val .null, .unset] [(.ref a)])) rfl (by rw [hml]; rfl) rfl (hb hby d3_1) (by decide) 0 (Nat.le_of_eq rfl) (by decide) ?_
  intro T1 H1
  show Go _ _ _ _ (T1.setTop (mkF m 4 #[.val (.ref a), .val (.ref ar), .val (.int (0 : Int32)), .val (.int (2 : Int32)), .val .null, .unset] []))
  refine Go.via (fun t_ k_ => XS.iloadN H1.here hx rfl (hb hby d3_4) rfl k_) ?_
  show Go _ _ _ _ (T1.setTop (mkF m 5 #[.val (.ref a), .val (.ref ar), .val (.int (0 : Int32)), .val (.int (2 : Int32)), .val .null, .unset] [(.int (2 : Int32))]))
  refine Go.via (fun t_ k_ => XS.ifYes H1.here hx rfl (pc0 := 5) (pc' := 27) rfl (hb hby d3_5) rfl ((if0 _ _).trans (feq (show ¬ ((2 : Int32) = (0 : Int32)) from (by decide))).2) (by decide) (by decide) k_) ?_
  show Go _ _ _ _ (T1.setTop (mkF m 27 #[.val (.ref a), .val (.ref ar), .val (.int (0 : Int32)), .val (.int (2 : Int32)), .val .null, .unset] []))
  refine own_getS H1 hx hZ hown (hw _ (List.mem_of_getElem? (i := 18) rfl)) (SC.ext OL.2) (g := (mkF m 27 #[.val (.ref a), .val (.ref ar), .val (.int (0 : Int32)), .val (.int (2 : Int32)), .val .null, .unset] [])) rfl (hb hby d3_27) ?_
  intro T2 H2
  show Go _ _ _ _ (T2.setTop (mkF m 30 #[.val (.ref a), .val (.ref ar), .val (.int (0 : Int32)), .val (.int (2 : Int32)), .val .null, .unset] [(.int cs)]))
  refine Go.via (fun t_ k_ => XS.ifNo H2.here hx rfl (hb hby d3_30) rfl ((if0 _ _).trans (feq (show ¬ (cs = (0 : Int32)) from hcs)).1) k_) ?_
  show Go _ _ _ _ (T2.setTop (mkF m 33 #[.val (.ref a), .val (.ref ar), .val (.int (0 : Int32)), .val (.int (2 : Int32)), .val .null, .unset] []))
  refine Go.via (fun t_ k_ => XS.aloadN H2.here hx rfl (hb hby d3_33) rfl rfl k_) ?_
  show Go _ _ _ _ (T2.setTop (mkF m 34 #[.val (.ref a), .val (.ref ar), .val (.int (0 : Int32)), .val (.int (2 : Int32)), .val .null, .unset] [(.ref ar)]))
  refine Go.via (fun t_ k_ => XS.iloadN H2.here hx rfl (hb hby d3_34) rfl k_) ?_
  show Go _ _ _ _ (T2.setTop (mkF m 35 #[.val (.ref a), .val (.ref ar), .val (.int (0 : Int32)), .val (.int (2 : Int32)), .val .null, .unset] [(.int (0 : Int32)), (.ref ar)]))
  refine Go.via (fun t_ k_ => XS.iloadN H2.here hx rfl (hb hby d3_35) rfl k_) ?_
  show Go _ _ _ _ (T2.setTop (mkF m 36 #[.val (.ref a), .val (.ref ar), .val (.int (0 : Int32)), .val (.int (2 : Int32)), .val .null, .unset] [(.int (2 : Int32)), (.int (0 : Int32)), (.ref ar)]))
  refine own_callS H2 hx hZ (y := (⟨"java/lang/StringUTF16", "compress", "([CII)[B"⟩ : MethodName)) hown (hw _ (List.mem_of_getElem? (i := 19) rfl)) (hw _ (List.mem_of_getElem? (i := 20) rfl)) (hw _ (List.mem_of_getElem? (i := 21) rfl)) (hw _ (List.mem_of_getElem? (i := 22) rfl)) (by decide) (rmC3_2 l Z a0 hw ar B h0 n0 AB hB (Nat.le_trans (Nat.le_of_eq OL.1.symm) OL.2.1)) (g := (mkF m 36 #[.val (.ref a), .val (.ref ar), .val (.int (0 : Int32)), .val (.int (2 : Int32)), .val .null, .unset] [(.int (2 : Int32)), (.int (0 : Int32)), (.ref ar)])) rfl (by rw [hml]; rfl) (argsL := [(.ref ar), (.int (0 : Int32)), (.int (2 : Int32))]) (rest := []) (lenOf pd_1 rfl) rfl 0 (Nat.le_of_eq rfl) (hb hby d3_36) (by decide) (by decide) (by decide) (by decide) ?_
  rintro _ T3 h3 ⟨b3, rfl, K3, D3, A3⟩ H3
  show Go _ _ _ _ (T3.setTop (mkF m 39 #[.val (.ref a), .val (.ref ar), .val (.int (0 : Int32)), .val (.int (2 : Int32)), .val .null, .unset] [(.ref b3)]))
  refine Go.via (fun t_ k_ => XS.astore H3.here hx rfl (hb hby d3_39) rfl rfl (l' := #[.val (.ref a), .val (.ref ar), .val (.int (0 : Int32)), .val (.int (2 : Int32)), .val .null, .val (.ref b3)]) rfl k_) ?_
  show Go _ _ _ _ (T3.setTop (mkF m 41 #[.val (.ref a), .val (.ref ar), .val (.int (0 : Int32)), .val (.int (2 : Int32)), .val .null, .val (.ref b3)] []))
  refine Go.via (fun t_ k_ => XS.aloadN H3.here hx rfl (hb hby d3_41) rfl rfl k_) ?_
  show Go _ _ _ _ (T3.setTop (mkF m 42 #[.val (.ref a), .val (.ref ar), .val (.int (0 : Int32)), .val (.int (2 : Int32)), .val .null, .val (.ref b3)] [(.ref a)]))
  refine Go.via (fun t_ k_ => XS.aload H3.here hx rfl (hb hby d3_42) rfl rfl k_) ?_
  show Go _ _ _ _ (T3.setTop (mkF m 44 #[.val (.ref a), .val (.ref ar), .val (.int (0 : Int32)), .val (.int (2 : Int32)), .val .null, .val (.ref b3)] [(.ref b3), (.ref a)]))
  refine Go.via (fun t_ k_ => XS.iloadN H3.here hx rfl (hb hby d3_44) rfl k_) ?_
  show Go _ _ _ _ (T3.setTop (mkF m 45 #[.val (.ref a), .val (.ref ar), .val (.int (0 : Int32)), .val (.int (2 : Int32)), .val .null, .val (.ref b3)] [(.int (2 : Int32)), (.ref b3), (.ref a)]))
  refine own_callS H3 hx hZ (y := (⟨"java/lang/StringUTF16", "coderFromArrayLen", "([BI)B"⟩ : MethodName)) hown (hw _ (List.mem_of_getElem? (i := 27) rfl)) (hw _ (List.mem_of_getElem? (i := 28) rfl)) (hw _ (List.mem_of_getElem? (i := 21) rfl)) (hw _ (List.mem_of_getElem? (i := 29) rfl)) (by decide) (rmCF_2 l Z a0 hw b3 D3 h3 n0 A3) (g := (mkF m 45 #[.val (.ref a), .val (.ref ar), .val (.int (0 : Int32)), .val (.int (2 : Int32)), .val .null, .val (.ref b3)] [(.int (2 : Int32)), (.ref b3), (.ref a)])) rfl (by rw [hml]; rfl) (argsL := [(.ref b3), (.int (2 : Int32))]) (rest := [(.ref a)]) (lenOf pd_2 rfl) rfl 1 (Nat.le_of_eq rfl) (hb hby d3_45) (by decide) (by decide) (by decide) (by decide) ?_
  rintro _ T4 _ ⟨rfl, rfl⟩ H4
  show Go _ _ _ _ (T4.setTop (mkF m 48 #[.val (.ref a), .val (.ref ar), .val (.int (0 : Int32)), .val (.int (2 : Int32)), .val .null, .val (.ref b3)] [(.int (0 : Int32)), (.ref a)]))
  refine own_putFN H4 hx hZ hown (hw _ (List.mem_of_getElem? (i := 30) rfl)) (FC.keep K3 nin0) (E.keep K3) (Or.inr ⟨(hw _ (List.mem_of_getElem? (i := 31) rfl)), rfl, hnm⟩) (hw _ (List.mem_of_getElem? (i := 5) rfl)) g (ty := .byte) (v' := .int (nar .byte (0 : Int32))) (by decide) rfl (fits_nar_byte _) (g := (mkF m 48 #[.val (.ref a), .val (.ref ar), .val (.int (0 : Int32)), .val (.int (2 : Int32)), .val .null, .val (.ref b3)] [(.int (0 : Int32)), (.ref a)])) rfl rfl (hb hby d3_48) ?_
  intro T5 h5 W5 H5
  have F5_coder := (FC.keep K3 nin0).same W5
  have K5 := (((Keep.refl h0 [a]).trans K3 all0)).wr W5 (Or.inl (List.mem_cons_self ..))
  show Go _ _ _ _ (T5.setTop (mkF m 51 #[.val (.ref a), .val (.ref ar), .val (.int (0 : Int32)), .val (.int (2 : Int32)), .val .null, .val (.ref b3)] []))
  refine Go.via (fun t_ k_ => XS.aloadN H5.here hx rfl (hb hby d3_51) rfl rfl k_) ?_
  show Go _ _ _ _ (T5.setTop (mkF m 52 #[.val (.ref a), .val (.ref ar), .val (.int (0 : Int32)), .val (.int (2 : Int32)), .val .null, .val (.ref b3)] [(.ref a)]))
  refine Go.via (fun t_ k_ => XS.aload H5.here hx rfl (hb hby d3_52) rfl rfl k_) ?_
  show Go _ _ _ _ (T5.setTop (mkF m 54 #[.val (.ref a), .val (.ref ar), .val (.int (0 : Int32)), .val (.int (2 : Int32)), .val .null, .val (.ref b3)] [(.ref b3), (.ref a)]))
  refine own_putF H5 hx hZ hown (hw _ (List.mem_of_getElem? (i := 32) rfl)) ((FV.keep K3 nin0).other W5 (Or.inr (slot_ne (Or.inr (hw _ (List.mem_of_getElem? (i := 33) rfl))) (Or.inr (hw _ (List.mem_of_getElem? (i := 31) rfl))) (by decide) (t := (.array .byte)) (t' := .byte) (by decide) (by decide)))) ((E.keep K3).wr W5) (Or.inr ⟨(hw _ (List.mem_of_getElem? (i := 33) rfl)), rfl, hnm⟩) (hw _ (List.mem_of_getElem? (i := 5) rfl)) g (ty := (.array .byte)) (by decide) rfl rfl (g := (mkF m 54 #[.val (.ref a), .val (.ref ar), .val (.int (0 : Int32)), .val (.int (2 : Int32)), .val .null, .val (.ref b3)] [(.ref b3), (.ref a)])) rfl rfl (hb hby d3_54) ?_
  intro T6 h6 W6 H6
  have F6_value := ((FV.keep K3 nin0).other W5 (Or.inr (slot_ne (Or.inr (hw _ (List.mem_of_getElem? (i := 33) rfl))) (Or.inr (hw _ (List.mem_of_getElem? (i := 31) rfl))) (by decide) (t := (.array .byte)) (t' := .byte) (by decide) (by decide)))).same W6
  have K6 := (K5).wr W6 (Or.inl (List.mem_cons_self ..))
  show Go _ _ _ _ (T6.setTop (mkF m 57 #[.val (.ref a), .val (.ref ar), .val (.int (0 : Int32)), .val (.int (2 : Int32)), .val .null, .val (.ref b3)] []))
  exact own_retV H6 hx hlk hret (hb hby d3_57) ⟨rfl, K6⟩ (by decide) (by decide)
theorem ef_rmI4_3 (m : MethodId) (x0 : Addr) (x1 : Addr) (x2 : Int32) (x3 : Int32) : entryFrame m #[(.ref x0), (.ref x1), (.int x2), (.int x3), .null] 6 = mkF m 0 #[.val (.ref x0), .val (.ref x1), .val (.int x2), .val (.int x3), .val .null, .unset] [] := by first | (simp [entryFrame, mkF, argsToLocals, Value.category]; done) | rfl
set_option maxRecDepth 65536 in
set_option maxHeartbeats 40000000 in
theorem rmI4_3 (l : Launch) (Z : State) (a0 : Array Value) (hw : ∀ d ∈ tables_1, d.before a0 Z = true) (a ar : Addr) (B : Nat → Int32) (cs : Int32) (h0 : Heap) (n0 : Nat) (OL : Old Z n0 h0) (SC : Sta Z Z.heap "java/lang/String" "COMPACT_STRINGS" "Z" (.int cs)) (hcs : ¬ cs = 0) (E : Exa Z h0 a "java/lang/String") (FV : Fld Z h0 a "java/lang/String" "value" "[B" .null) (FC : Fld Z h0 a "java/lang/String" "coder" "B" (.int (0 : Int32))) (g : n0 ≤ a) (AB : Ab Z h0 ar .char 3 B) (hB : ∀ j, j < 3 → ¬ (255 : Int32) < B j) :
    CM l Z (⟨"java/lang/String", "<init>", "([CIILjava/lang/Void;)V"⟩ : MethodName) jdk_42_method_149_code 6 none ({ frames := 2, cells := 1, slots := 3, locals := 36 } : Room) #[(.ref a), (.ref ar), (.int (0 : Int32)), (.int (3 : Int32)), .null] h0 n0 (fun v h => v = none ∧ Keep h0 h [a]) := by
  refine own_enter (by decide +kernel) ?_
  intro p e s m below meth c T0 hx hby hml hown hnm hZ hret hlk H0
  replace hown : s.vm.findClass "java/lang/String" = some m.cls := hown
  replace hret : meth.sig.returnType = none := hret
  refine Go.via (fun t_ k_ => castTop (ef_rmI4_3 m a ar (0 : Int32) (3 : Int32)) k_) ?_
  show Go _ _ _ _ (T0.setTop (mkF m 0 #[.val (.ref a), .val (.ref ar), .val (.int (0 : Int32)), .val (.int (3 : Int32)), .val .null, .unset] []))
  refine Go.via (fun t_ k_ => XS.aloadN H0.here hx rfl (hb hby d3_0) rfl rfl k_) ?_
  show Go _ _ _ _ (T0.setTop (mkF m 1 #[.val (.ref a), .val (.ref ar), .val (.int (0 : Int32)), .val (.int (3 : Int32)), .val .null, .unset] [(.ref a)]))
  refine own_initO H0 hx hZ hown (hw _ (List.mem_of_getElem? (i := 15) rfl)) (hw _ (List.mem_of_getElem? (i := 16) rfl)) (hw _ (List.mem_of_getElem? (i := 17) rfl)) (g := (mkF m 1 #[.val (.ref a), .val (.ref ar), .val (.int (0 : Int32)), .val (.int (3 : Int32)), .val .null, .unset] [(.ref a)])) rfl (by rw [hml]; rfl) rfl (hb hby d3_1) (by decide) 0 (Nat.le_of_eq rfl) (by decide) ?_
  intro T1 H1
  show Go _ _ _ _ (T1.setTop (mkF m 4 #[.val (.ref a), .val (.ref ar), .val (.int (0 : Int32)), .val (.int (3 : Int32)), .val .null, .unset] []))
  refine Go.via (fun t_ k_ => XS.iloadN H1.here hx rfl (hb hby d3_4) rfl k_) ?_
  show Go _ _ _ _ (T1.setTop (mkF m 5 #[.val (.ref a), .val (.ref ar), .val (.int (0 : Int32)), .val (.int (3 : Int32)), .val .null, .unset] [(.int (3 : Int32))]))
  refine Go.via (fun t_ k_ => XS.ifYes H1.here hx rfl (pc0 := 5) (pc' := 27) rfl (hb hby d3_5) rfl ((if0 _ _).trans (feq (show ¬ ((3 : Int32) = (0 : Int32)) from (by decide))).2) (by decide) (by decide) k_) ?_
  show Go _ _ _ _ (T1.setTop (mkF m 27 #[.val (.ref a), .val (.ref ar), .val (.int (0 : Int32)), .val (.int (3 : Int32)), .val .null, .unset] []))
  refine own_getS H1 hx hZ hown (hw _ (List.mem_of_getElem? (i := 18) rfl)) (SC.ext OL.2) (g := (mkF m 27 #[.val (.ref a), .val (.ref ar), .val (.int (0 : Int32)), .val (.int (3 : Int32)), .val .null, .unset] [])) rfl (hb hby d3_27) ?_
  intro T2 H2
  show Go _ _ _ _ (T2.setTop (mkF m 30 #[.val (.ref a), .val (.ref ar), .val (.int (0 : Int32)), .val (.int (3 : Int32)), .val .null, .unset] [(.int cs)]))
  refine Go.via (fun t_ k_ => XS.ifNo H2.here hx rfl (hb hby d3_30) rfl ((if0 _ _).trans (feq (show ¬ (cs = (0 : Int32)) from hcs)).1) k_) ?_
  show Go _ _ _ _ (T2.setTop (mkF m 33 #[.val (.ref a), .val (.ref ar), .val (.int (0 : Int32)), .val (.int (3 : Int32)), .val .null, .unset] []))
  refine Go.via (fun t_ k_ => XS.aloadN H2.here hx rfl (hb hby d3_33) rfl rfl k_) ?_
  show Go _ _ _ _ (T2.setTop (mkF m 34 #[.val (.ref a), .val (.ref ar), .val (.int (0 : Int32)), .val (.int (3 : Int32)), .val .null, .unset] [(.ref ar)]))
  refine Go.via (fun t_ k_ => XS.iloadN H2.here hx rfl (hb hby d3_34) rfl k_) ?_
  show Go _ _ _ _ (T2.setTop (mkF m 35 #[.val (.ref a), .val (.ref ar), .val (.int (0 : Int32)), .val (.int (3 : Int32)), .val .null, .unset] [(.int (0 : Int32)), (.ref ar)]))
  refine Go.via (fun t_ k_ => XS.iloadN H2.here hx rfl (hb hby d3_35) rfl k_) ?_
  show Go _ _ _ _ (T2.setTop (mkF m 36 #[.val (.ref a), .val (.ref ar), .val (.int (0 : Int32)), .val (.int (3 : Int32)), .val .null, .unset] [(.int (3 : Int32)), (.int (0 : Int32)), (.ref ar)]))
  refine own_callS H2 hx hZ (y := (⟨"java/lang/StringUTF16", "compress", "([CII)[B"⟩ : MethodName)) hown (hw _ (List.mem_of_getElem? (i := 19) rfl)) (hw _ (List.mem_of_getElem? (i := 20) rfl)) (hw _ (List.mem_of_getElem? (i := 21) rfl)) (hw _ (List.mem_of_getElem? (i := 22) rfl)) (by decide) (rmC3_3 l Z a0 hw ar B h0 n0 AB hB (Nat.le_trans (Nat.le_of_eq OL.1.symm) OL.2.1)) (g := (mkF m 36 #[.val (.ref a), .val (.ref ar), .val (.int (0 : Int32)), .val (.int (3 : Int32)), .val .null, .unset] [(.int (3 : Int32)), (.int (0 : Int32)), (.ref ar)])) rfl (by rw [hml]; rfl) (argsL := [(.ref ar), (.int (0 : Int32)), (.int (3 : Int32))]) (rest := []) (lenOf pd_1 rfl) rfl 0 (Nat.le_of_eq rfl) (hb hby d3_36) (by decide) (by decide) (by decide) (by decide) ?_
  rintro _ T3 h3 ⟨b3, rfl, K3, D3, A3⟩ H3
  show Go _ _ _ _ (T3.setTop (mkF m 39 #[.val (.ref a), .val (.ref ar), .val (.int (0 : Int32)), .val (.int (3 : Int32)), .val .null, .unset] [(.ref b3)]))
  refine Go.via (fun t_ k_ => XS.astore H3.here hx rfl (hb hby d3_39) rfl rfl (l' := #[.val (.ref a), .val (.ref ar), .val (.int (0 : Int32)), .val (.int (3 : Int32)), .val .null, .val (.ref b3)]) rfl k_) ?_
  show Go _ _ _ _ (T3.setTop (mkF m 41 #[.val (.ref a), .val (.ref ar), .val (.int (0 : Int32)), .val (.int (3 : Int32)), .val .null, .val (.ref b3)] []))
  refine Go.via (fun t_ k_ => XS.aloadN H3.here hx rfl (hb hby d3_41) rfl rfl k_) ?_
  show Go _ _ _ _ (T3.setTop (mkF m 42 #[.val (.ref a), .val (.ref ar), .val (.int (0 : Int32)), .val (.int (3 : Int32)), .val .null, .val (.ref b3)] [(.ref a)]))
  refine Go.via (fun t_ k_ => XS.aload H3.here hx rfl (hb hby d3_42) rfl rfl k_) ?_
  show Go _ _ _ _ (T3.setTop (mkF m 44 #[.val (.ref a), .val (.ref ar), .val (.int (0 : Int32)), .val (.int (3 : Int32)), .val .null, .val (.ref b3)] [(.ref b3), (.ref a)]))
  refine Go.via (fun t_ k_ => XS.iloadN H3.here hx rfl (hb hby d3_44) rfl k_) ?_
  show Go _ _ _ _ (T3.setTop (mkF m 45 #[.val (.ref a), .val (.ref ar), .val (.int (0 : Int32)), .val (.int (3 : Int32)), .val .null, .val (.ref b3)] [(.int (3 : Int32)), (.ref b3), (.ref a)]))
  refine own_callS H3 hx hZ (y := (⟨"java/lang/StringUTF16", "coderFromArrayLen", "([BI)B"⟩ : MethodName)) hown (hw _ (List.mem_of_getElem? (i := 27) rfl)) (hw _ (List.mem_of_getElem? (i := 28) rfl)) (hw _ (List.mem_of_getElem? (i := 21) rfl)) (hw _ (List.mem_of_getElem? (i := 29) rfl)) (by decide) (rmCF_3 l Z a0 hw b3 D3 h3 n0 A3) (g := (mkF m 45 #[.val (.ref a), .val (.ref ar), .val (.int (0 : Int32)), .val (.int (3 : Int32)), .val .null, .val (.ref b3)] [(.int (3 : Int32)), (.ref b3), (.ref a)])) rfl (by rw [hml]; rfl) (argsL := [(.ref b3), (.int (3 : Int32))]) (rest := [(.ref a)]) (lenOf pd_2 rfl) rfl 1 (Nat.le_of_eq rfl) (hb hby d3_45) (by decide) (by decide) (by decide) (by decide) ?_
  rintro _ T4 _ ⟨rfl, rfl⟩ H4
  show Go _ _ _ _ (T4.setTop (mkF m 48 #[.val (.ref a), .val (.ref ar), .val (.int (0 : Int32)), .val (.int (3 : Int32)), .val .null, .val (.ref b3)] [(.int (0 : Int32)), (.ref a)]))
  refine own_putFN H4 hx hZ hown (hw _ (List.mem_of_getElem? (i := 30) rfl)) (FC.keep K3 nin0) (E.keep K3) (Or.inr ⟨(hw _ (List.mem_of_getElem? (i := 31) rfl)), rfl, hnm⟩) (hw _ (List.mem_of_getElem? (i := 5) rfl)) g (ty := .byte) (v' := .int (nar .byte (0 : Int32))) (by decide) rfl (fits_nar_byte _) (g := (mkF m 48 #[.val (.ref a), .val (.ref ar), .val (.int (0 : Int32)), .val (.int (3 : Int32)), .val .null, .val (.ref b3)] [(.int (0 : Int32)), (.ref a)])) rfl rfl (hb hby d3_48) ?_
  intro T5 h5 W5 H5
  have F5_coder := (FC.keep K3 nin0).same W5
  have K5 := (((Keep.refl h0 [a]).trans K3 all0)).wr W5 (Or.inl (List.mem_cons_self ..))
  show Go _ _ _ _ (T5.setTop (mkF m 51 #[.val (.ref a), .val (.ref ar), .val (.int (0 : Int32)), .val (.int (3 : Int32)), .val .null, .val (.ref b3)] []))
  refine Go.via (fun t_ k_ => XS.aloadN H5.here hx rfl (hb hby d3_51) rfl rfl k_) ?_
  show Go _ _ _ _ (T5.setTop (mkF m 52 #[.val (.ref a), .val (.ref ar), .val (.int (0 : Int32)), .val (.int (3 : Int32)), .val .null, .val (.ref b3)] [(.ref a)]))
  refine Go.via (fun t_ k_ => XS.aload H5.here hx rfl (hb hby d3_52) rfl rfl k_) ?_
  show Go _ _ _ _ (T5.setTop (mkF m 54 #[.val (.ref a), .val (.ref ar), .val (.int (0 : Int32)), .val (.int (3 : Int32)), .val .null, .val (.ref b3)] [(.ref b3), (.ref a)]))
  refine own_putF H5 hx hZ hown (hw _ (List.mem_of_getElem? (i := 32) rfl)) ((FV.keep K3 nin0).other W5 (Or.inr (slot_ne (Or.inr (hw _ (List.mem_of_getElem? (i := 33) rfl))) (Or.inr (hw _ (List.mem_of_getElem? (i := 31) rfl))) (by decide) (t := (.array .byte)) (t' := .byte) (by decide) (by decide)))) ((E.keep K3).wr W5) (Or.inr ⟨(hw _ (List.mem_of_getElem? (i := 33) rfl)), rfl, hnm⟩) (hw _ (List.mem_of_getElem? (i := 5) rfl)) g (ty := (.array .byte)) (by decide) rfl rfl (g := (mkF m 54 #[.val (.ref a), .val (.ref ar), .val (.int (0 : Int32)), .val (.int (3 : Int32)), .val .null, .val (.ref b3)] [(.ref b3), (.ref a)])) rfl rfl (hb hby d3_54) ?_
  intro T6 h6 W6 H6
  have F6_value := ((FV.keep K3 nin0).other W5 (Or.inr (slot_ne (Or.inr (hw _ (List.mem_of_getElem? (i := 33) rfl))) (Or.inr (hw _ (List.mem_of_getElem? (i := 31) rfl))) (by decide) (t := (.array .byte)) (t' := .byte) (by decide) (by decide)))).same W6
  have K6 := (K5).wr W6 (Or.inl (List.mem_cons_self ..))
  show Go _ _ _ _ (T6.setTop (mkF m 57 #[.val (.ref a), .val (.ref ar), .val (.int (0 : Int32)), .val (.int (3 : Int32)), .val .null, .val (.ref b3)] []))
  exact own_retV H6 hx hlk hret (hb hby d3_57) ⟨rfl, K6⟩ (by decide) (by decide)
theorem d2_0 : decode jdk_42_method_3_code 0 = .ok (.aload_n 0, 1) := by decide +kernel
theorem d2_1 : decode jdk_42_method_3_code 1 = .ok (.aload_n 1, 1) := by decide +kernel
theorem d2_2 : decode jdk_42_method_3_code 2 = .ok (.iconst 0, 1) := by decide +kernel
theorem d2_3 : decode jdk_42_method_3_code 3 = .ok (.aload_n 1, 1) := by decide +kernel
theorem d2_4 : decode jdk_42_method_3_code 4 = .ok (.arraylength, 1) := by decide +kernel
theorem d2_5 : decode jdk_42_method_3_code 5 = .ok (.aconst_null, 1) := by decide +kernel
theorem d2_6 : decode jdk_42_method_3_code 6 = .ok (.invokespecial 27, 3) := by decide +kernel
theorem d2_9 : decode jdk_42_method_3_code 9 = .ok (.return_, 1) := by decide +kernel
theorem ef_rmI1_0 (m : MethodId) (x0 : Addr) (x1 : Addr) : entryFrame m #[(.ref x0), (.ref x1)] 2 = mkF m 0 #[.val (.ref x0), .val (.ref x1)] [] := by first | (simp [entryFrame, mkF, argsToLocals, Value.category]; done) | rfl
theorem pd_3 : parseMethodDescriptor "([CIILjava/lang/Void;)V" = some ⟨[(.array .char), .int, .int, (.object "java/lang/Void")], none⟩ := by decide +kernel
set_option maxRecDepth 65536 in
set_option maxHeartbeats 40000000 in
theorem rmI1_0 (l : Launch) (Z : State) (a0 : Array Value) (hw : ∀ d ∈ tables_1, d.before a0 Z = true) (a ar : Addr) (h0 : Heap) (n0 : Nat) (hEL : EW Z a0 consts_1) (wS : ∀ a ∈ Bundle.stringAtoms, a.before a0 Z = true) (E : Exa Z h0 a "java/lang/String") (FV : Fld Z h0 a "java/lang/String" "value" "[B" .null) (FC : Fld Z h0 a "java/lang/String" "coder" "B" (.int (0 : Int32))) (g : n0 ≤ a) (AB : Ab Z h0 ar .char 0 (fun _ => (0 : Int32))) :
    CMH consts_1 l Z (⟨"java/lang/String", "<init>", "([C)V"⟩ : MethodName) jdk_42_method_3_code 2 none ({ frames := 2, cells := 4, slots := 8, locals := 30 } : Room) #[(.ref a), (.ref ar)] h0 n0 (fun v h => v = none ∧ Keep h0 h [a]) := by
  refine own_enterH (by decide +kernel) ?_
  intro p e s m below meth c T0 hx hby hml hown hnm hZ hret hlk H0 LB CH
  replace hown : (s.setVm s.vm).vm.findClass "java/lang/String" = some m.cls := hown
  replace hret : meth.sig.returnType = none := hret
  refine Go.via (fun t_ k_ => castTop (ef_rmI1_0 m a ar) k_) ?_
  show Go _ _ _ _ (T0.setTop (mkF m 0 #[.val (.ref a), .val (.ref ar)] []))
  refine Go.via (fun t_ k_ => XS.aloadN H0.here hx rfl (hb hby d2_0) rfl rfl k_) ?_
  show Go _ _ _ _ (T0.setTop (mkF m 1 #[.val (.ref a), .val (.ref ar)] [(.ref a)]))
  refine Go.via (fun t_ k_ => XS.aloadN H0.here hx rfl (hb hby d2_1) rfl rfl k_) ?_
  show Go _ _ _ _ (T0.setTop (mkF m 2 #[.val (.ref a), .val (.ref ar)] [(.ref ar), (.ref a)]))
  refine Go.via (fun t_ k_ => XS.iconst H0.here hx rfl (hb hby d2_2) k_) ?_
  show Go _ _ _ _ (T0.setTop (mkF m 3 #[.val (.ref a), .val (.ref ar)] [(.int (0 : Int32)), (.ref ar), (.ref a)]))
  refine Go.via (fun t_ k_ => XS.aloadN H0.here hx rfl (hb hby d2_3) rfl rfl k_) ?_
  show Go _ _ _ _ (T0.setTop (mkF m 4 #[.val (.ref a), .val (.ref ar)] [(.ref ar), (.int (0 : Int32)), (.ref ar), (.ref a)]))
  refine own_lenA H0 hx hZ AB (z := (0 : Int32)) (by decide) (g := (mkF m 4 #[.val (.ref a), .val (.ref ar)] [(.ref ar), (.int (0 : Int32)), (.ref ar), (.ref a)])) rfl rfl (hb hby d2_4) ?_
  show Go _ _ _ _ (T0.setTop (mkF m 5 #[.val (.ref a), .val (.ref ar)] [(.int (0 : Int32)), (.int (0 : Int32)), (.ref ar), (.ref a)]))
  refine Go.via (fun t_ k_ => XS.aconstNull H0.here hx rfl (hb hby d2_5) k_) ?_
  show Go _ _ _ _ (T0.setTop (mkF m 6 #[.val (.ref a), .val (.ref ar)] [.null, (.int (0 : Int32)), (.int (0 : Int32)), (.ref ar), (.ref a)]))
  refine own_callIH H0 LB CH hEL hx hZ (y := (⟨"java/lang/String", "<init>", "([CIILjava/lang/Void;)V"⟩ : MethodName)) (a := a) rfl hown (hw _ (List.mem_of_getElem? (i := 11) rfl)) (hw _ (List.mem_of_getElem? (i := 12) rfl)) (hw _ (List.mem_of_getElem? (i := 6) rfl)) (hw _ (List.mem_of_getElem? (i := 14) rfl)) (by decide) (rmI4_0 l Z a0 hw a ar h0 n0 hEL wS E FV FC g) (g := (mkF m 6 #[.val (.ref a), .val (.ref ar)] [.null, (.int (0 : Int32)), (.int (0 : Int32)), (.ref ar), (.ref a)])) rfl (by rw [hml]; rfl) (argsL := [(.ref ar), (.int (0 : Int32)), (.int (0 : Int32)), .null]) (rest := []) (lenOf pd_3 rfl) rfl 0 (Nat.le_of_eq rfl) (hb hby d2_6) (by decide) (by decide) (by decide) (by decide) ?_
  rintro _ T1 h1 ⟨rfl, K1⟩ R1 LB1 CH1 hZ hown H1
  show Go _ _ _ _ (T1.setTop (mkF m 9 #[.val (.ref a), .val (.ref ar)] []))
  exact own_retVH H1 LB1 CH1 hZ hEL hx hlk hret (hb hby d2_9) ⟨rfl, K1⟩ (by decide) (by decide)
theorem ef_rmI1_1 (m : MethodId) (x0 : Addr) (x1 : Addr) : entryFrame m #[(.ref x0), (.ref x1)] 2 = mkF m 0 #[.val (.ref x0), .val (.ref x1)] [] := by first | (simp [entryFrame, mkF, argsToLocals, Value.category]; done) | rfl
set_option maxRecDepth 65536 in
set_option maxHeartbeats 40000000 in
theorem rmI1_1 (l : Launch) (Z : State) (a0 : Array Value) (hw : ∀ d ∈ tables_1, d.before a0 Z = true) (a ar : Addr) (B : Nat → Int32) (cs : Int32) (h0 : Heap) (n0 : Nat) (OL : Old Z n0 h0) (SC : Sta Z Z.heap "java/lang/String" "COMPACT_STRINGS" "Z" (.int cs)) (hcs : ¬ cs = 0) (E : Exa Z h0 a "java/lang/String") (FV : Fld Z h0 a "java/lang/String" "value" "[B" .null) (FC : Fld Z h0 a "java/lang/String" "coder" "B" (.int (0 : Int32))) (g : n0 ≤ a) (AB : Ab Z h0 ar .char 1 B) (hB : ∀ j, j < 1 → ¬ (255 : Int32) < B j) :
    CM l Z (⟨"java/lang/String", "<init>", "([C)V"⟩ : MethodName) jdk_42_method_3_code 2 none ({ frames := 3, cells := 1, slots := 1, locals := 54 } : Room) #[(.ref a), (.ref ar)] h0 n0 (fun v h => v = none ∧ Keep h0 h [a]) := by
  refine own_enter (by decide +kernel) ?_
  intro p e s m below meth c T0 hx hby hml hown hnm hZ hret hlk H0
  replace hown : s.vm.findClass "java/lang/String" = some m.cls := hown
  replace hret : meth.sig.returnType = none := hret
  refine Go.via (fun t_ k_ => castTop (ef_rmI1_1 m a ar) k_) ?_
  show Go _ _ _ _ (T0.setTop (mkF m 0 #[.val (.ref a), .val (.ref ar)] []))
  refine Go.via (fun t_ k_ => XS.aloadN H0.here hx rfl (hb hby d2_0) rfl rfl k_) ?_
  show Go _ _ _ _ (T0.setTop (mkF m 1 #[.val (.ref a), .val (.ref ar)] [(.ref a)]))
  refine Go.via (fun t_ k_ => XS.aloadN H0.here hx rfl (hb hby d2_1) rfl rfl k_) ?_
  show Go _ _ _ _ (T0.setTop (mkF m 2 #[.val (.ref a), .val (.ref ar)] [(.ref ar), (.ref a)]))
  refine Go.via (fun t_ k_ => XS.iconst H0.here hx rfl (hb hby d2_2) k_) ?_
  show Go _ _ _ _ (T0.setTop (mkF m 3 #[.val (.ref a), .val (.ref ar)] [(.int (0 : Int32)), (.ref ar), (.ref a)]))
  refine Go.via (fun t_ k_ => XS.aloadN H0.here hx rfl (hb hby d2_3) rfl rfl k_) ?_
  show Go _ _ _ _ (T0.setTop (mkF m 4 #[.val (.ref a), .val (.ref ar)] [(.ref ar), (.int (0 : Int32)), (.ref ar), (.ref a)]))
  refine own_lenA H0 hx hZ AB (z := (1 : Int32)) (by decide) (g := (mkF m 4 #[.val (.ref a), .val (.ref ar)] [(.ref ar), (.int (0 : Int32)), (.ref ar), (.ref a)])) rfl rfl (hb hby d2_4) ?_
  show Go _ _ _ _ (T0.setTop (mkF m 5 #[.val (.ref a), .val (.ref ar)] [(.int (1 : Int32)), (.int (0 : Int32)), (.ref ar), (.ref a)]))
  refine Go.via (fun t_ k_ => XS.aconstNull H0.here hx rfl (hb hby d2_5) k_) ?_
  show Go _ _ _ _ (T0.setTop (mkF m 6 #[.val (.ref a), .val (.ref ar)] [.null, (.int (1 : Int32)), (.int (0 : Int32)), (.ref ar), (.ref a)]))
  refine own_callI H0 hx hZ (y := (⟨"java/lang/String", "<init>", "([CIILjava/lang/Void;)V"⟩ : MethodName)) (a := a) rfl hown (hw _ (List.mem_of_getElem? (i := 11) rfl)) (hw _ (List.mem_of_getElem? (i := 12) rfl)) (hw _ (List.mem_of_getElem? (i := 6) rfl)) (hw _ (List.mem_of_getElem? (i := 14) rfl)) (by decide) (rmI4_1 l Z a0 hw a ar B cs h0 n0 OL SC hcs E FV FC g AB hB) (g := (mkF m 6 #[.val (.ref a), .val (.ref ar)] [.null, (.int (1 : Int32)), (.int (0 : Int32)), (.ref ar), (.ref a)])) rfl (by rw [hml]; rfl) (argsL := [(.ref ar), (.int (0 : Int32)), (.int (1 : Int32)), .null]) (rest := []) (lenOf pd_3 rfl) rfl 0 (Nat.le_of_eq rfl) (hb hby d2_6) (by decide) (by decide) (by decide) (by decide) ?_
  rintro _ T1 h1 ⟨rfl, K1⟩ H1
  show Go _ _ _ _ (T1.setTop (mkF m 9 #[.val (.ref a), .val (.ref ar)] []))
  exact own_retV H1 hx hlk hret (hb hby d2_9) ⟨rfl, K1⟩ (by decide) (by decide)
theorem ef_rmI1_2 (m : MethodId) (x0 : Addr) (x1 : Addr) : entryFrame m #[(.ref x0), (.ref x1)] 2 = mkF m 0 #[.val (.ref x0), .val (.ref x1)] [] := by first | (simp [entryFrame, mkF, argsToLocals, Value.category]; done) | rfl
set_option maxRecDepth 65536 in
set_option maxHeartbeats 40000000 in
theorem rmI1_2 (l : Launch) (Z : State) (a0 : Array Value) (hw : ∀ d ∈ tables_1, d.before a0 Z = true) (a ar : Addr) (B : Nat → Int32) (cs : Int32) (h0 : Heap) (n0 : Nat) (OL : Old Z n0 h0) (SC : Sta Z Z.heap "java/lang/String" "COMPACT_STRINGS" "Z" (.int cs)) (hcs : ¬ cs = 0) (E : Exa Z h0 a "java/lang/String") (FV : Fld Z h0 a "java/lang/String" "value" "[B" .null) (FC : Fld Z h0 a "java/lang/String" "coder" "B" (.int (0 : Int32))) (g : n0 ≤ a) (AB : Ab Z h0 ar .char 2 B) (hB : ∀ j, j < 2 → ¬ (255 : Int32) < B j) :
    CM l Z (⟨"java/lang/String", "<init>", "([C)V"⟩ : MethodName) jdk_42_method_3_code 2 none ({ frames := 3, cells := 1, slots := 2, locals := 54 } : Room) #[(.ref a), (.ref ar)] h0 n0 (fun v h => v = none ∧ Keep h0 h [a]) := by
  refine own_enter (by decide +kernel) ?_
  intro p e s m below meth c T0 hx hby hml hown hnm hZ hret hlk H0
  replace hown : s.vm.findClass "java/lang/String" = some m.cls := hown
  replace hret : meth.sig.returnType = none := hret
  refine Go.via (fun t_ k_ => castTop (ef_rmI1_2 m a ar) k_) ?_
  show Go _ _ _ _ (T0.setTop (mkF m 0 #[.val (.ref a), .val (.ref ar)] []))
  refine Go.via (fun t_ k_ => XS.aloadN H0.here hx rfl (hb hby d2_0) rfl rfl k_) ?_
  show Go _ _ _ _ (T0.setTop (mkF m 1 #[.val (.ref a), .val (.ref ar)] [(.ref a)]))
  refine Go.via (fun t_ k_ => XS.aloadN H0.here hx rfl (hb hby d2_1) rfl rfl k_) ?_
  show Go _ _ _ _ (T0.setTop (mkF m 2 #[.val (.ref a), .val (.ref ar)] [(.ref ar), (.ref a)]))
  refine Go.via (fun t_ k_ => XS.iconst H0.here hx rfl (hb hby d2_2) k_) ?_
  show Go _ _ _ _ (T0.setTop (mkF m 3 #[.val (.ref a), .val (.ref ar)] [(.int (0 : Int32)), (.ref ar), (.ref a)]))
  refine Go.via (fun t_ k_ => XS.aloadN H0.here hx rfl (hb hby d2_3) rfl rfl k_) ?_
  show Go _ _ _ _ (T0.setTop (mkF m 4 #[.val (.ref a), .val (.ref ar)] [(.ref ar), (.int (0 : Int32)), (.ref ar), (.ref a)]))
  refine own_lenA H0 hx hZ AB (z := (2 : Int32)) (by decide) (g := (mkF m 4 #[.val (.ref a), .val (.ref ar)] [(.ref ar), (.int (0 : Int32)), (.ref ar), (.ref a)])) rfl rfl (hb hby d2_4) ?_
  show Go _ _ _ _ (T0.setTop (mkF m 5 #[.val (.ref a), .val (.ref ar)] [(.int (2 : Int32)), (.int (0 : Int32)), (.ref ar), (.ref a)]))
  refine Go.via (fun t_ k_ => XS.aconstNull H0.here hx rfl (hb hby d2_5) k_) ?_
  show Go _ _ _ _ (T0.setTop (mkF m 6 #[.val (.ref a), .val (.ref ar)] [.null, (.int (2 : Int32)), (.int (0 : Int32)), (.ref ar), (.ref a)]))
  refine own_callI H0 hx hZ (y := (⟨"java/lang/String", "<init>", "([CIILjava/lang/Void;)V"⟩ : MethodName)) (a := a) rfl hown (hw _ (List.mem_of_getElem? (i := 11) rfl)) (hw _ (List.mem_of_getElem? (i := 12) rfl)) (hw _ (List.mem_of_getElem? (i := 6) rfl)) (hw _ (List.mem_of_getElem? (i := 14) rfl)) (by decide) (rmI4_2 l Z a0 hw a ar B cs h0 n0 OL SC hcs E FV FC g AB hB) (g := (mkF m 6 #[.val (.ref a), .val (.ref ar)] [.null, (.int (2 : Int32)), (.int (0 : Int32)), (.ref ar), (.ref a)])) rfl (by rw [hml]; rfl) (argsL := [(.ref ar), (.int (0 : Int32)), (.int (2 : Int32)), .null]) (rest := []) (lenOf pd_3 rfl) rfl 0 (Nat.le_of_eq rfl) (hb hby d2_6) (by decide) (by decide) (by decide) (by decide) ?_
  rintro _ T1 h1 ⟨rfl, K1⟩ H1
  show Go _ _ _ _ (T1.setTop (mkF m 9 #[.val (.ref a), .val (.ref ar)] []))
  exact own_retV H1 hx hlk hret (hb hby d2_9) ⟨rfl, K1⟩ (by decide) (by decide)
theorem ef_rmI1_3 (m : MethodId) (x0 : Addr) (x1 : Addr) : entryFrame m #[(.ref x0), (.ref x1)] 2 = mkF m 0 #[.val (.ref x0), .val (.ref x1)] [] := by first | (simp [entryFrame, mkF, argsToLocals, Value.category]; done) | rfl
set_option maxRecDepth 65536 in
set_option maxHeartbeats 40000000 in
theorem rmI1_3 (l : Launch) (Z : State) (a0 : Array Value) (hw : ∀ d ∈ tables_1, d.before a0 Z = true) (a ar : Addr) (B : Nat → Int32) (cs : Int32) (h0 : Heap) (n0 : Nat) (OL : Old Z n0 h0) (SC : Sta Z Z.heap "java/lang/String" "COMPACT_STRINGS" "Z" (.int cs)) (hcs : ¬ cs = 0) (E : Exa Z h0 a "java/lang/String") (FV : Fld Z h0 a "java/lang/String" "value" "[B" .null) (FC : Fld Z h0 a "java/lang/String" "coder" "B" (.int (0 : Int32))) (g : n0 ≤ a) (AB : Ab Z h0 ar .char 3 B) (hB : ∀ j, j < 3 → ¬ (255 : Int32) < B j) :
    CM l Z (⟨"java/lang/String", "<init>", "([C)V"⟩ : MethodName) jdk_42_method_3_code 2 none ({ frames := 3, cells := 1, slots := 3, locals := 54 } : Room) #[(.ref a), (.ref ar)] h0 n0 (fun v h => v = none ∧ Keep h0 h [a]) := by
  refine own_enter (by decide +kernel) ?_
  intro p e s m below meth c T0 hx hby hml hown hnm hZ hret hlk H0
  replace hown : s.vm.findClass "java/lang/String" = some m.cls := hown
  replace hret : meth.sig.returnType = none := hret
  refine Go.via (fun t_ k_ => castTop (ef_rmI1_3 m a ar) k_) ?_
  show Go _ _ _ _ (T0.setTop (mkF m 0 #[.val (.ref a), .val (.ref ar)] []))
  refine Go.via (fun t_ k_ => XS.aloadN H0.here hx rfl (hb hby d2_0) rfl rfl k_) ?_
  show Go _ _ _ _ (T0.setTop (mkF m 1 #[.val (.ref a), .val (.ref ar)] [(.ref a)]))
  refine Go.via (fun t_ k_ => XS.aloadN H0.here hx rfl (hb hby d2_1) rfl rfl k_) ?_
  show Go _ _ _ _ (T0.setTop (mkF m 2 #[.val (.ref a), .val (.ref ar)] [(.ref ar), (.ref a)]))
  refine Go.via (fun t_ k_ => XS.iconst H0.here hx rfl (hb hby d2_2) k_) ?_
  show Go _ _ _ _ (T0.setTop (mkF m 3 #[.val (.ref a), .val (.ref ar)] [(.int (0 : Int32)), (.ref ar), (.ref a)]))
  refine Go.via (fun t_ k_ => XS.aloadN H0.here hx rfl (hb hby d2_3) rfl rfl k_) ?_
  show Go _ _ _ _ (T0.setTop (mkF m 4 #[.val (.ref a), .val (.ref ar)] [(.ref ar), (.int (0 : Int32)), (.ref ar), (.ref a)]))
  refine own_lenA H0 hx hZ AB (z := (3 : Int32)) (by decide) (g := (mkF m 4 #[.val (.ref a), .val (.ref ar)] [(.ref ar), (.int (0 : Int32)), (.ref ar), (.ref a)])) rfl rfl (hb hby d2_4) ?_
  show Go _ _ _ _ (T0.setTop (mkF m 5 #[.val (.ref a), .val (.ref ar)] [(.int (3 : Int32)), (.int (0 : Int32)), (.ref ar), (.ref a)]))
  refine Go.via (fun t_ k_ => XS.aconstNull H0.here hx rfl (hb hby d2_5) k_) ?_
  show Go _ _ _ _ (T0.setTop (mkF m 6 #[.val (.ref a), .val (.ref ar)] [.null, (.int (3 : Int32)), (.int (0 : Int32)), (.ref ar), (.ref a)]))
  refine own_callI H0 hx hZ (y := (⟨"java/lang/String", "<init>", "([CIILjava/lang/Void;)V"⟩ : MethodName)) (a := a) rfl hown (hw _ (List.mem_of_getElem? (i := 11) rfl)) (hw _ (List.mem_of_getElem? (i := 12) rfl)) (hw _ (List.mem_of_getElem? (i := 6) rfl)) (hw _ (List.mem_of_getElem? (i := 14) rfl)) (by decide) (rmI4_3 l Z a0 hw a ar B cs h0 n0 OL SC hcs E FV FC g AB hB) (g := (mkF m 6 #[.val (.ref a), .val (.ref ar)] [.null, (.int (3 : Int32)), (.int (0 : Int32)), (.ref ar), (.ref a)])) rfl (by rw [hml]; rfl) (argsL := [(.ref ar), (.int (0 : Int32)), (.int (3 : Int32)), .null]) (rest := []) (lenOf pd_3 rfl) rfl 0 (Nat.le_of_eq rfl) (hb hby d2_6) (by decide) (by decide) (by decide) (by decide) ?_
  rintro _ T1 h1 ⟨rfl, K1⟩ H1
  show Go _ _ _ _ (T1.setTop (mkF m 9 #[.val (.ref a), .val (.ref ar)] []))
  exact own_retV H1 hx hlk hret (hb hby d2_9) ⟨rfl, K1⟩ (by decide) (by decide)
theorem d1_0 : decode method_3_code 0 = .ok (.iload_n 1, 1) := by decide +kernel
theorem d1_1 : decode method_3_code 1 = .ok (.sipush 255, 3) := by decide +kernel
theorem d1_4 : decode method_3_code 4 = .ok (.iand, 1) := by decide +kernel
theorem d1_5 : decode method_3_code 5 = .ok (.i2c, 1) := by decide +kernel
theorem d1_6 : decode method_3_code 6 = .ok (.istore_n 3, 1) := by decide +kernel
theorem d1_7 : decode method_3_code 7 = .ok (.iload_n 1, 1) := by decide +kernel
theorem d1_8 : decode method_3_code 8 = .ok (.bipush 8, 2) := by decide +kernel
theorem d1_10 : decode method_3_code 10 = .ok (.iushr, 1) := by decide +kernel
theorem d1_11 : decode method_3_code 11 = .ok (.sipush 255, 3) := by decide +kernel
theorem d1_14 : decode method_3_code 14 = .ok (.iand, 1) := by decide +kernel
theorem d1_15 : decode method_3_code 15 = .ok (.i2c, 1) := by decide +kernel
theorem d1_16 : decode method_3_code 16 = .ok (.istore 4, 2) := by decide +kernel
theorem d1_18 : decode method_3_code 18 = .ok (.iload_n 2, 1) := by decide +kernel
theorem d1_19 : decode method_3_code 19 = .ok (.sipush 255, 3) := by decide +kernel
theorem d1_22 : decode method_3_code 22 = .ok (.iand, 1) := by decide +kernel
theorem d1_23 : decode method_3_code 23 = .ok (.i2c, 1) := by decide +kernel
theorem d1_24 : decode method_3_code 24 = .ok (.istore 5, 2) := by decide +kernel
theorem d1_26 : decode method_3_code 26 = .ok (.iload_n 0, 1) := by decide +kernel
theorem d1_27 : decode method_3_code 27 = .ok (.ifCond .ne 14, 3) := by decide +kernel
theorem d1_30 : decode method_3_code 30 = .ok (.new 26, 3) := by decide +kernel
theorem d1_33 : decode method_3_code 33 = .ok (.dup, 1) := by decide +kernel
theorem d1_34 : decode method_3_code 34 = .ok (.iconst 0, 1) := by decide +kernel
theorem d1_35 : decode method_3_code 35 = .ok (.newarray .char, 2) := by decide +kernel
theorem d1_37 : decode method_3_code 37 = .ok (.invokespecial 28, 3) := by decide +kernel
theorem d1_40 : decode method_3_code 40 = .ok (.areturn, 1) := by decide +kernel
theorem d1_41 : decode method_3_code 41 = .ok (.iload_n 0, 1) := by decide +kernel
theorem d1_42 : decode method_3_code 42 = .ok (.iconst 1, 1) := by decide +kernel
theorem d1_43 : decode method_3_code 43 = .ok (.if_icmp .ne 18, 3) := by decide +kernel
theorem d1_46 : decode method_3_code 46 = .ok (.new 26, 3) := by decide +kernel
theorem d1_49 : decode method_3_code 49 = .ok (.dup, 1) := by decide +kernel
theorem d1_50 : decode method_3_code 50 = .ok (.iconst 1, 1) := by decide +kernel
theorem d1_51 : decode method_3_code 51 = .ok (.newarray .char, 2) := by decide +kernel
theorem d1_53 : decode method_3_code 53 = .ok (.dup, 1) := by decide +kernel
theorem d1_54 : decode method_3_code 54 = .ok (.iconst 0, 1) := by decide +kernel
theorem d1_55 : decode method_3_code 55 = .ok (.iload_n 3, 1) := by decide +kernel
theorem d1_56 : decode method_3_code 56 = .ok (.castore, 1) := by decide +kernel
theorem d1_57 : decode method_3_code 57 = .ok (.invokespecial 28, 3) := by decide +kernel
theorem d1_60 : decode method_3_code 60 = .ok (.areturn, 1) := by decide +kernel
theorem d1_61 : decode method_3_code 61 = .ok (.iload_n 0, 1) := by decide +kernel
theorem d1_62 : decode method_3_code 62 = .ok (.iconst 2, 1) := by decide +kernel
theorem d1_63 : decode method_3_code 63 = .ok (.if_icmp .ne 23, 3) := by decide +kernel
theorem d1_66 : decode method_3_code 66 = .ok (.new 26, 3) := by decide +kernel
theorem d1_69 : decode method_3_code 69 = .ok (.dup, 1) := by decide +kernel
theorem d1_70 : decode method_3_code 70 = .ok (.iconst 2, 1) := by decide +kernel
theorem d1_71 : decode method_3_code 71 = .ok (.newarray .char, 2) := by decide +kernel
theorem d1_73 : decode method_3_code 73 = .ok (.dup, 1) := by decide +kernel
theorem d1_74 : decode method_3_code 74 = .ok (.iconst 0, 1) := by decide +kernel
theorem d1_75 : decode method_3_code 75 = .ok (.iload_n 3, 1) := by decide +kernel
theorem d1_76 : decode method_3_code 76 = .ok (.castore, 1) := by decide +kernel
theorem d1_77 : decode method_3_code 77 = .ok (.dup, 1) := by decide +kernel
theorem d1_78 : decode method_3_code 78 = .ok (.iconst 1, 1) := by decide +kernel
theorem d1_79 : decode method_3_code 79 = .ok (.iload 4, 2) := by decide +kernel
theorem d1_81 : decode method_3_code 81 = .ok (.castore, 1) := by decide +kernel
theorem d1_82 : decode method_3_code 82 = .ok (.invokespecial 28, 3) := by decide +kernel
theorem d1_85 : decode method_3_code 85 = .ok (.areturn, 1) := by decide +kernel
theorem d1_86 : decode method_3_code 86 = .ok (.new 26, 3) := by decide +kernel
theorem d1_89 : decode method_3_code 89 = .ok (.dup, 1) := by decide +kernel
theorem d1_90 : decode method_3_code 90 = .ok (.iconst 3, 1) := by decide +kernel
theorem d1_91 : decode method_3_code 91 = .ok (.newarray .char, 2) := by decide +kernel
theorem d1_93 : decode method_3_code 93 = .ok (.dup, 1) := by decide +kernel
theorem d1_94 : decode method_3_code 94 = .ok (.iconst 0, 1) := by decide +kernel
theorem d1_95 : decode method_3_code 95 = .ok (.iload_n 3, 1) := by decide +kernel
theorem d1_96 : decode method_3_code 96 = .ok (.castore, 1) := by decide +kernel
theorem d1_97 : decode method_3_code 97 = .ok (.dup, 1) := by decide +kernel
theorem d1_98 : decode method_3_code 98 = .ok (.iconst 1, 1) := by decide +kernel
theorem d1_99 : decode method_3_code 99 = .ok (.iload 4, 2) := by decide +kernel
theorem d1_101 : decode method_3_code 101 = .ok (.castore, 1) := by decide +kernel
theorem d1_102 : decode method_3_code 102 = .ok (.dup, 1) := by decide +kernel
theorem d1_103 : decode method_3_code 103 = .ok (.iconst 2, 1) := by decide +kernel
theorem d1_104 : decode method_3_code 104 = .ok (.iload 5, 2) := by decide +kernel
theorem d1_106 : decode method_3_code 106 = .ok (.castore, 1) := by decide +kernel
theorem d1_107 : decode method_3_code 107 = .ok (.invokespecial 28, 3) := by decide +kernel
theorem d1_110 : decode method_3_code 110 = .ok (.areturn, 1) := by decide +kernel
theorem ef_rmDr (m : MethodId) (x0 : Int32) (x1 : Int32) (x2 : Int32) : entryFrame m #[(.int x0), (.int x1), (.int x2)] 6 = mkF m 0 #[.val (.int x0), .val (.int x1), .val (.int x2), .unset, .unset, .unset] [] := by first | (simp [entryFrame, mkF, argsToLocals, Value.category]; done) | rfl
theorem pd_4 : parseMethodDescriptor "([C)V" = some ⟨[(.array .char)], none⟩ := by decide +kernel
set_option maxRecDepth 65536 in
set_option maxHeartbeats 40000000 in
theorem rmDr (l : Launch) (Z : State) (a0 : Array Value) (hw : ∀ d ∈ tables_1, d.before a0 Z = true) (n p1 p2 cs : Int32) (h0 : Heap) (n0 : Nat) (hEL : EW Z a0 consts_1) (wS : ∀ a ∈ Bundle.stringAtoms, a.before a0 Z = true) (OL : Old Z n0 h0) (SC : Sta Z Z.heap "java/lang/String" "COMPACT_STRINGS" "Z" (.int cs)) (hcs : ¬ cs = 0) :
    CMH consts_1 l Z (⟨"com/example/equisetum/equisetum/PreemptingReadPinLaw", "drawn", "(III)Ljava/lang/String;"⟩ : MethodName) method_3_code 6 (some (.object "java/lang/String")) ({ frames := 4, cells := 6, slots := 12, locals := 70 } : Room) #[(.int n), (.int p1), (.int p2)] h0 n0 (fun v h => ∃ b, v = some (.ref b) ∧ Keep h0 h []) := by
  refine own_enterH (by decide +kernel) ?_
  intro p e s m below meth c T0 hx hby hml hown hnm hZ hret hlk H0 LB CH
  replace hown : (s.setVm s.vm).vm.findClass "com/example/equisetum/equisetum/PreemptingReadPinLaw" = some m.cls := hown
  replace hret : meth.sig.returnType = some (.object "java/lang/String") := hret
  refine Go.via (fun t_ k_ => castTop (ef_rmDr m n p1 p2) k_) ?_
  show Go _ _ _ _ (T0.setTop (mkF m 0 #[.val (.int n), .val (.int p1), .val (.int p2), .unset, .unset, .unset] []))
  refine Go.via (fun t_ k_ => XS.iloadN H0.here hx rfl (hb hby d1_0) rfl k_) ?_
  show Go _ _ _ _ (T0.setTop (mkF m 1 #[.val (.int n), .val (.int p1), .val (.int p2), .unset, .unset, .unset] [(.int p1)]))
  refine Go.via (fun t_ k_ => XS.sipush H0.here hx rfl (hb hby d1_1) k_) ?_
  show Go _ _ _ _ (T0.setTop (mkF m 4 #[.val (.int n), .val (.int p1), .val (.int p2), .unset, .unset, .unset] [(.int (255 : Int32)), (.int p1)]))
  refine Go.via (fun t_ k_ => XS.iand H0.here hx rfl (hb hby d1_4) rfl k_) ?_
  show Go _ _ _ _ (T0.setTop (mkF m 5 #[.val (.int n), .val (.int p1), .val (.int p2), .unset, .unset, .unset] [(.int (p1 &&& (255 : Int32)))]))
  refine Go.via (fun t_ k_ => XS.i2c H0.here hx rfl (hb hby d1_5) rfl k_) ?_
  show Go _ _ _ _ (T0.setTop (mkF m 6 #[.val (.int n), .val (.int p1), .val (.int p2), .unset, .unset, .unset] [(.int ((p1 &&& (255 : Int32)).toUInt32.toUInt16.toUInt32.toInt32))]))
  refine Go.via (fun t_ k_ => XS.istoreN H0.here hx rfl (hb hby d1_6) rfl (l' := #[.val (.int n), .val (.int p1), .val (.int p2), .val (.int ((p1 &&& (255 : Int32)).toUInt32.toUInt16.toUInt32.toInt32)), .unset, .unset]) rfl k_) ?_
  show Go _ _ _ _ (T0.setTop (mkF m 7 #[.val (.int n), .val (.int p1), .val (.int p2), .val (.int ((p1 &&& (255 : Int32)).toUInt32.toUInt16.toUInt32.toInt32)), .unset, .unset] []))
  refine Go.via (fun t_ k_ => XS.iloadN H0.here hx rfl (hb hby d1_7) rfl k_) ?_
  show Go _ _ _ _ (T0.setTop (mkF m 8 #[.val (.int n), .val (.int p1), .val (.int p2), .val (.int ((p1 &&& (255 : Int32)).toUInt32.toUInt16.toUInt32.toInt32)), .unset, .unset] [(.int p1)]))
  refine Go.via (fun t_ k_ => XS.bipush H0.here hx rfl (hb hby d1_8) k_) ?_
  show Go _ _ _ _ (T0.setTop (mkF m 10 #[.val (.int n), .val (.int p1), .val (.int p2), .val (.int ((p1 &&& (255 : Int32)).toUInt32.toUInt16.toUInt32.toInt32)), .unset, .unset] [(.int (8 : Int32)), (.int p1)]))
  refine Go.via (fun t_ k_ => XS.iushr H0.here hx rfl (hb hby d1_10) rfl k_) ?_
  show Go _ _ _ _ (T0.setTop (mkF m 11 #[.val (.int n), .val (.int p1), .val (.int p2), .val (.int ((p1 &&& (255 : Int32)).toUInt32.toUInt16.toUInt32.toInt32)), .unset, .unset] [(.int ((p1.toUInt32 >>> ((8 : Int32) &&& 31).toUInt32).toInt32))]))
  refine Go.via (fun t_ k_ => XS.sipush H0.here hx rfl (hb hby d1_11) k_) ?_
  show Go _ _ _ _ (T0.setTop (mkF m 14 #[.val (.int n), .val (.int p1), .val (.int p2), .val (.int ((p1 &&& (255 : Int32)).toUInt32.toUInt16.toUInt32.toInt32)), .unset, .unset] [(.int (255 : Int32)), (.int ((p1.toUInt32 >>> ((8 : Int32) &&& 31).toUInt32).toInt32))]))
  refine Go.via (fun t_ k_ => XS.iand H0.here hx rfl (hb hby d1_14) rfl k_) ?_
  show Go _ _ _ _ (T0.setTop (mkF m 15 #[.val (.int n), .val (.int p1), .val (.int p2), .val (.int ((p1 &&& (255 : Int32)).toUInt32.toUInt16.toUInt32.toInt32)), .unset, .unset] [(.int (((p1.toUInt32 >>> ((8 : Int32) &&& 31).toUInt32).toInt32) &&& (255 : Int32)))]))
  refine Go.via (fun t_ k_ => XS.i2c H0.here hx rfl (hb hby d1_15) rfl k_) ?_
  show Go _ _ _ _ (T0.setTop (mkF m 16 #[.val (.int n), .val (.int p1), .val (.int p2), .val (.int ((p1 &&& (255 : Int32)).toUInt32.toUInt16.toUInt32.toInt32)), .unset, .unset] [(.int ((((p1.toUInt32 >>> ((8 : Int32) &&& 31).toUInt32).toInt32) &&& (255 : Int32)).toUInt32.toUInt16.toUInt32.toInt32))]))
  refine Go.via (fun t_ k_ => XS.istore H0.here hx rfl (hb hby d1_16) rfl (l' := #[.val (.int n), .val (.int p1), .val (.int p2), .val (.int ((p1 &&& (255 : Int32)).toUInt32.toUInt16.toUInt32.toInt32)), .val (.int ((((p1.toUInt32 >>> ((8 : Int32) &&& 31).toUInt32).toInt32) &&& (255 : Int32)).toUInt32.toUInt16.toUInt32.toInt32)), .unset]) rfl k_) ?_
  show Go _ _ _ _ (T0.setTop (mkF m 18 #[.val (.int n), .val (.int p1), .val (.int p2), .val (.int ((p1 &&& (255 : Int32)).toUInt32.toUInt16.toUInt32.toInt32)), .val (.int ((((p1.toUInt32 >>> ((8 : Int32) &&& 31).toUInt32).toInt32) &&& (255 : Int32)).toUInt32.toUInt16.toUInt32.toInt32)), .unset] []))
  refine Go.via (fun t_ k_ => XS.iloadN H0.here hx rfl (hb hby d1_18) rfl k_) ?_
  show Go _ _ _ _ (T0.setTop (mkF m 19 #[.val (.int n), .val (.int p1), .val (.int p2), .val (.int ((p1 &&& (255 : Int32)).toUInt32.toUInt16.toUInt32.toInt32)), .val (.int ((((p1.toUInt32 >>> ((8 : Int32) &&& 31).toUInt32).toInt32) &&& (255 : Int32)).toUInt32.toUInt16.toUInt32.toInt32)), .unset] [(.int p2)]))
  refine Go.via (fun t_ k_ => XS.sipush H0.here hx rfl (hb hby d1_19) k_) ?_
  show Go _ _ _ _ (T0.setTop (mkF m 22 #[.val (.int n), .val (.int p1), .val (.int p2), .val (.int ((p1 &&& (255 : Int32)).toUInt32.toUInt16.toUInt32.toInt32)), .val (.int ((((p1.toUInt32 >>> ((8 : Int32) &&& 31).toUInt32).toInt32) &&& (255 : Int32)).toUInt32.toUInt16.toUInt32.toInt32)), .unset] [(.int (255 : Int32)), (.int p2)]))
  refine Go.via (fun t_ k_ => XS.iand H0.here hx rfl (hb hby d1_22) rfl k_) ?_
  show Go _ _ _ _ (T0.setTop (mkF m 23 #[.val (.int n), .val (.int p1), .val (.int p2), .val (.int ((p1 &&& (255 : Int32)).toUInt32.toUInt16.toUInt32.toInt32)), .val (.int ((((p1.toUInt32 >>> ((8 : Int32) &&& 31).toUInt32).toInt32) &&& (255 : Int32)).toUInt32.toUInt16.toUInt32.toInt32)), .unset] [(.int (p2 &&& (255 : Int32)))]))
  refine Go.via (fun t_ k_ => XS.i2c H0.here hx rfl (hb hby d1_23) rfl k_) ?_
  show Go _ _ _ _ (T0.setTop (mkF m 24 #[.val (.int n), .val (.int p1), .val (.int p2), .val (.int ((p1 &&& (255 : Int32)).toUInt32.toUInt16.toUInt32.toInt32)), .val (.int ((((p1.toUInt32 >>> ((8 : Int32) &&& 31).toUInt32).toInt32) &&& (255 : Int32)).toUInt32.toUInt16.toUInt32.toInt32)), .unset] [(.int ((p2 &&& (255 : Int32)).toUInt32.toUInt16.toUInt32.toInt32))]))
  refine Go.via (fun t_ k_ => XS.istore H0.here hx rfl (hb hby d1_24) rfl (l' := #[.val (.int n), .val (.int p1), .val (.int p2), .val (.int ((p1 &&& (255 : Int32)).toUInt32.toUInt16.toUInt32.toInt32)), .val (.int ((((p1.toUInt32 >>> ((8 : Int32) &&& 31).toUInt32).toInt32) &&& (255 : Int32)).toUInt32.toUInt16.toUInt32.toInt32)), .val (.int ((p2 &&& (255 : Int32)).toUInt32.toUInt16.toUInt32.toInt32))]) rfl k_) ?_
  show Go _ _ _ _ (T0.setTop (mkF m 26 #[.val (.int n), .val (.int p1), .val (.int p2), .val (.int ((p1 &&& (255 : Int32)).toUInt32.toUInt16.toUInt32.toInt32)), .val (.int ((((p1.toUInt32 >>> ((8 : Int32) &&& 31).toUInt32).toInt32) &&& (255 : Int32)).toUInt32.toUInt16.toUInt32.toInt32)), .val (.int ((p2 &&& (255 : Int32)).toUInt32.toUInt16.toUInt32.toInt32))] []))
  refine Go.via (fun t_ k_ => XS.iloadN H0.here hx rfl (hb hby d1_26) rfl k_) ?_
  show Go _ _ _ _ (T0.setTop (mkF m 27 #[.val (.int n), .val (.int p1), .val (.int p2), .val (.int ((p1 &&& (255 : Int32)).toUInt32.toUInt16.toUInt32.toInt32)), .val (.int ((((p1.toUInt32 >>> ((8 : Int32) &&& 31).toUInt32).toInt32) &&& (255 : Int32)).toUInt32.toUInt16.toUInt32.toInt32)), .val (.int ((p2 &&& (255 : Int32)).toUInt32.toUInt16.toUInt32.toInt32))] [(.int n)]))
  by_cases hc27 : n = (0 : Int32)
  · refine Go.via (fun t_ k_ => XS.ifNo H0.here hx rfl (hb hby d1_27) rfl ((if0 _ _).trans (teq hc27).2) k_) ?_
    show Go _ _ _ _ (T0.setTop (mkF m 30 #[.val (.int n), .val (.int p1), .val (.int p2), .val (.int ((p1 &&& (255 : Int32)).toUInt32.toUInt16.toUInt32.toInt32)), .val (.int ((((p1.toUInt32 >>> ((8 : Int32) &&& 31).toUInt32).toInt32) &&& (255 : Int32)).toUInt32.toUInt16.toUInt32.toInt32)), .val (.int ((p2 &&& (255 : Int32)).toUInt32.toUInt16.toUInt32.toInt32))] []))
    refine own_newO H0 hx hZ hown (hw _ (List.mem_of_getElem? (i := 4) rfl)) (hw _ (List.mem_of_getElem? (i := 5) rfl)) (hw _ (List.mem_of_getElem? (i := 6) rfl)) (g := (mkF m 30 #[.val (.int n), .val (.int p1), .val (.int p2), .val (.int ((p1 &&& (255 : Int32)).toUInt32.toUInt16.toUInt32.toInt32)), .val (.int ((((p1.toUInt32 >>> ((8 : Int32) &&& 31).toUInt32).toInt32) &&& (255 : Int32)).toUInt32.toUInt16.toUInt32.toInt32)), .val (.int ((p2 &&& (255 : Int32)).toUInt32.toUInt16.toUInt32.toInt32))] [])) rfl (hb hby d1_30) (by decide) (by decide) ?_
    intro T1 h1 a1 ga1 E1 A1 D1 H1
    have Sn_a1 := Safe.ext E1 CH.1 (Safe.new (Nat.le_of_eq ga1.symm))
    have g_a1 : n0 ≤ a1 := by rw [ga1]; exact (Nat.le_trans (Nat.le_of_eq OL.1.symm) OL.2.1)
    have sz1 : n0 ≤ h1.size := Nat.le_trans (Nat.le_trans (Nat.le_of_eq OL.1.symm) OL.2.1) E1.1
    have kin_a1 : h0.size ≤ a1 := by rw [ga1]; exact ((Keep.refl h0 [])).1
    have K1 := ((Keep.refl h0 [])).ext E1
    have F1_coder : Fld Z h1 a1 "java/lang/String" "coder" "B" (.int (0 : Int32)) := D1 (Or.inr (hw _ (List.mem_of_getElem? (i := 31) rfl))) (ty := .byte) (by decide)
    have F1_value : Fld Z h1 a1 "java/lang/String" "value" "[B" .null := D1 (Or.inr (hw _ (List.mem_of_getElem? (i := 33) rfl))) (ty := (.array .byte)) (by decide)
    have CH2 := CH.trans (CHr.ext E1 CH.1)
    show Go _ _ _ _ (T1.setTop (mkF m 33 #[.val (.int n), .val (.int p1), .val (.int p2), .val (.int ((p1 &&& (255 : Int32)).toUInt32.toUInt16.toUInt32.toInt32)), .val (.int ((((p1.toUInt32 >>> ((8 : Int32) &&& 31).toUInt32).toInt32) &&& (255 : Int32)).toUInt32.toUInt16.toUInt32.toInt32)), .val (.int ((p2 &&& (255 : Int32)).toUInt32.toUInt16.toUInt32.toInt32))] [(.ref a1)]))
    refine Go.via (fun t_ k_ => XS.dup H1.here hx rfl (hb hby d1_33) rfl rfl k_) ?_
    show Go _ _ _ _ (T1.setTop (mkF m 34 #[.val (.int n), .val (.int p1), .val (.int p2), .val (.int ((p1 &&& (255 : Int32)).toUInt32.toUInt16.toUInt32.toInt32)), .val (.int ((((p1.toUInt32 >>> ((8 : Int32) &&& 31).toUInt32).toInt32) &&& (255 : Int32)).toUInt32.toUInt16.toUInt32.toInt32)), .val (.int ((p2 &&& (255 : Int32)).toUInt32.toUInt16.toUInt32.toInt32))] [(.ref a1), (.ref a1)]))
    refine Go.via (fun t_ k_ => XS.iconst H1.here hx rfl (hb hby d1_34) k_) ?_
    show Go _ _ _ _ (T1.setTop (mkF m 35 #[.val (.int n), .val (.int p1), .val (.int p2), .val (.int ((p1 &&& (255 : Int32)).toUInt32.toUInt16.toUInt32.toInt32)), .val (.int ((((p1.toUInt32 >>> ((8 : Int32) &&& 31).toUInt32).toInt32) &&& (255 : Int32)).toUInt32.toUInt16.toUInt32.toInt32)), .val (.int ((p2 &&& (255 : Int32)).toUInt32.toUInt16.toUInt32.toInt32))] [(.int (0 : Int32)), (.ref a1), (.ref a1)]))
    refine own_newA H1 hx hZ (aty := .char) (hw _ (List.mem_of_getElem? (i := 7) rfl)) (g := (mkF m 35 #[.val (.int n), .val (.int p1), .val (.int p2), .val (.int ((p1 &&& (255 : Int32)).toUInt32.toUInt16.toUInt32.toInt32)), .val (.int ((((p1.toUInt32 >>> ((8 : Int32) &&& 31).toUInt32).toInt32) &&& (255 : Int32)).toUInt32.toUInt16.toUInt32.toInt32)), .val (.int ((p2 &&& (255 : Int32)).toUInt32.toUInt16.toUInt32.toInt32))] [(.int (0 : Int32)), (.ref a1), (.ref a1)])) rfl (hb hby d1_35) rfl (by decide) 0 (by decide) rfl 0 (by decide) (by decide) (by decide) (by decide) ?_
    intro T3 h3 a3 ga3 E3 B3 H3
    replace B3 : Ab Z h3 a3 .char 0 (fun _ => 0) := B3
    have ne_a1_a3 : a1 ≠ a3 := by rw [ga3]; exact Nat.ne_of_lt A1.lt
    have Sn_a3 := Safe.ext E3 CH2.1 (Safe.new (Nat.le_of_eq ga3.symm))
    have g_a3 : n0 ≤ a3 := by rw [ga3]; exact sz1
    have sz3 : n0 ≤ h3.size := Nat.le_trans sz1 E3.1
    have kin_a3 : h0.size ≤ a3 := by rw [ga3]; exact (K1).1
    have K3 := (K1).ext E3
    have CH4 := CH2.trans (CHr.ext E3 CH2.1)
    have S4_a1 := Safe.ext E3 CH2.1 Sn_a1
    show Go _ _ _ _ (T3.setTop (mkF m 37 #[.val (.int n), .val (.int p1), .val (.int p2), .val (.int ((p1 &&& (255 : Int32)).toUInt32.toUInt16.toUInt32.toInt32)), .val (.int ((((p1.toUInt32 >>> ((8 : Int32) &&& 31).toUInt32).toInt32) &&& (255 : Int32)).toUInt32.toUInt16.toUInt32.toInt32)), .val (.int ((p2 &&& (255 : Int32)).toUInt32.toUInt16.toUInt32.toInt32))] [(.ref a3), (.ref a1), (.ref a1)]))
    refine own_callIH H3 ((LB.grow E1.1).grow E3.1) CH4 hEL hx hZ (y := (⟨"java/lang/String", "<init>", "([C)V"⟩ : MethodName)) (a := a1) rfl hown (hw _ (List.mem_of_getElem? (i := 8) rfl)) (hw _ (List.mem_of_getElem? (i := 9) rfl)) (hw _ (List.mem_of_getElem? (i := 6) rfl)) (hw _ (List.mem_of_getElem? (i := 10) rfl)) (by decide) (rmI1_0 l Z a0 hw a1 a3 h3 n0 hEL wS (A1.ext E3) (F1_value.ext E3) (F1_coder.ext E3) g_a1 B3) (g := (mkF m 37 #[.val (.int n), .val (.int p1), .val (.int p2), .val (.int ((p1 &&& (255 : Int32)).toUInt32.toUInt16.toUInt32.toInt32)), .val (.int ((((p1.toUInt32 >>> ((8 : Int32) &&& 31).toUInt32).toInt32) &&& (255 : Int32)).toUInt32.toUInt16.toUInt32.toInt32)), .val (.int ((p2 &&& (255 : Int32)).toUInt32.toUInt16.toUInt32.toInt32))] [(.ref a3), (.ref a1), (.ref a1)])) rfl (by rw [hml]; rfl) (argsL := [(.ref a3)]) (rest := [(.ref a1)]) (lenOf pd_4 rfl) rfl 1 (Nat.le_of_eq rfl) (hb hby d1_37) (by decide) (by decide) (by decide) (by decide) ?_
    rintro _ T5 h5 ⟨rfl, K5⟩ R5 LB5 CH5 hZ hown H5
    show Go _ _ _ _ (T5.setTop (mkF m 40 #[.val (.int n), .val (.int p1), .val (.int p2), .val (.int ((p1 &&& (255 : Int32)).toUInt32.toUInt16.toUInt32.toInt32)), .val (.int ((((p1.toUInt32 >>> ((8 : Int32) &&& 31).toUInt32).toInt32) &&& (255 : Int32)).toUInt32.toUInt16.toUInt32.toInt32)), .val (.int ((p2 &&& (255 : Int32)).toUInt32.toUInt16.toUInt32.toInt32))] [(.ref a1)]))
    exact own_retAH H5 LB5 CH5 hZ hEL hx hlk rfl hret rfl rfl (hb hby d1_40) ⟨_, rfl, (K3.trans K5 (allS (Or.inr kin_a1) all0))⟩ (by decide) (by decide)
  · refine Go.via (fun t_ k_ => XS.ifYes H0.here hx rfl (pc0 := 27) (pc' := 41) rfl (hb hby d1_27) rfl ((if0 _ _).trans (feq hc27).2) (by decide) (by decide) k_) ?_
    show Go _ _ _ _ (T0.setTop (mkF m 41 #[.val (.int n), .val (.int p1), .val (.int p2), .val (.int ((p1 &&& (255 : Int32)).toUInt32.toUInt16.toUInt32.toInt32)), .val (.int ((((p1.toUInt32 >>> ((8 : Int32) &&& 31).toUInt32).toInt32) &&& (255 : Int32)).toUInt32.toUInt16.toUInt32.toInt32)), .val (.int ((p2 &&& (255 : Int32)).toUInt32.toUInt16.toUInt32.toInt32))] []))
    refine Go.via (fun t_ k_ => XS.iloadN H0.here hx rfl (hb hby d1_41) rfl k_) ?_
    show Go _ _ _ _ (T0.setTop (mkF m 42 #[.val (.int n), .val (.int p1), .val (.int p2), .val (.int ((p1 &&& (255 : Int32)).toUInt32.toUInt16.toUInt32.toInt32)), .val (.int ((((p1.toUInt32 >>> ((8 : Int32) &&& 31).toUInt32).toInt32) &&& (255 : Int32)).toUInt32.toUInt16.toUInt32.toInt32)), .val (.int ((p2 &&& (255 : Int32)).toUInt32.toUInt16.toUInt32.toInt32))] [(.int n)]))
    refine Go.via (fun t_ k_ => XS.iconst H0.here hx rfl (hb hby d1_42) k_) ?_
    show Go _ _ _ _ (T0.setTop (mkF m 43 #[.val (.int n), .val (.int p1), .val (.int p2), .val (.int ((p1 &&& (255 : Int32)).toUInt32.toUInt16.toUInt32.toInt32)), .val (.int ((((p1.toUInt32 >>> ((8 : Int32) &&& 31).toUInt32).toInt32) &&& (255 : Int32)).toUInt32.toUInt16.toUInt32.toInt32)), .val (.int ((p2 &&& (255 : Int32)).toUInt32.toUInt16.toUInt32.toInt32))] [(.int (1 : Int32)), (.int n)]))
    by_cases hc43 : n = (1 : Int32)
    · refine Go.via (fun t_ k_ => XS.icmpNo H0.here hx rfl (hb hby d1_43) rfl ((teq hc43).2) k_) ?_
      show Go _ _ _ _ (T0.setTop (mkF m 46 #[.val (.int n), .val (.int p1), .val (.int p2), .val (.int ((p1 &&& (255 : Int32)).toUInt32.toUInt16.toUInt32.toInt32)), .val (.int ((((p1.toUInt32 >>> ((8 : Int32) &&& 31).toUInt32).toInt32) &&& (255 : Int32)).toUInt32.toUInt16.toUInt32.toInt32)), .val (.int ((p2 &&& (255 : Int32)).toUInt32.toUInt16.toUInt32.toInt32))] []))
      refine own_newO H0 hx hZ hown (hw _ (List.mem_of_getElem? (i := 4) rfl)) (hw _ (List.mem_of_getElem? (i := 5) rfl)) (hw _ (List.mem_of_getElem? (i := 6) rfl)) (g := (mkF m 46 #[.val (.int n), .val (.int p1), .val (.int p2), .val (.int ((p1 &&& (255 : Int32)).toUInt32.toUInt16.toUInt32.toInt32)), .val (.int ((((p1.toUInt32 >>> ((8 : Int32) &&& 31).toUInt32).toInt32) &&& (255 : Int32)).toUInt32.toUInt16.toUInt32.toInt32)), .val (.int ((p2 &&& (255 : Int32)).toUInt32.toUInt16.toUInt32.toInt32))] [])) rfl (hb hby d1_46) (by decide) (by decide) ?_
      intro T6 h6 a6 ga6 E6 A6 D6 H6
      have Sn_a6 := Safe.ext E6 CH.1 (Safe.new (Nat.le_of_eq ga6.symm))
      have g_a6 : n0 ≤ a6 := by rw [ga6]; exact (Nat.le_trans (Nat.le_of_eq OL.1.symm) OL.2.1)
      have sz6 : n0 ≤ h6.size := Nat.le_trans (Nat.le_trans (Nat.le_of_eq OL.1.symm) OL.2.1) E6.1
      have kin_a6 : h0.size ≤ a6 := by rw [ga6]; exact ((Keep.refl h0 [])).1
      have K6 := ((Keep.refl h0 [])).ext E6
      have F6_coder : Fld Z h6 a6 "java/lang/String" "coder" "B" (.int (0 : Int32)) := D6 (Or.inr (hw _ (List.mem_of_getElem? (i := 31) rfl))) (ty := .byte) (by decide)
      have F6_value : Fld Z h6 a6 "java/lang/String" "value" "[B" .null := D6 (Or.inr (hw _ (List.mem_of_getElem? (i := 33) rfl))) (ty := (.array .byte)) (by decide)
      have CH7 := CH.trans (CHr.ext E6 CH.1)
      show Go _ _ _ _ (T6.setTop (mkF m 49 #[.val (.int n), .val (.int p1), .val (.int p2), .val (.int ((p1 &&& (255 : Int32)).toUInt32.toUInt16.toUInt32.toInt32)), .val (.int ((((p1.toUInt32 >>> ((8 : Int32) &&& 31).toUInt32).toInt32) &&& (255 : Int32)).toUInt32.toUInt16.toUInt32.toInt32)), .val (.int ((p2 &&& (255 : Int32)).toUInt32.toUInt16.toUInt32.toInt32))] [(.ref a6)]))
      refine Go.via (fun t_ k_ => XS.dup H6.here hx rfl (hb hby d1_49) rfl rfl k_) ?_
      show Go _ _ _ _ (T6.setTop (mkF m 50 #[.val (.int n), .val (.int p1), .val (.int p2), .val (.int ((p1 &&& (255 : Int32)).toUInt32.toUInt16.toUInt32.toInt32)), .val (.int ((((p1.toUInt32 >>> ((8 : Int32) &&& 31).toUInt32).toInt32) &&& (255 : Int32)).toUInt32.toUInt16.toUInt32.toInt32)), .val (.int ((p2 &&& (255 : Int32)).toUInt32.toUInt16.toUInt32.toInt32))] [(.ref a6), (.ref a6)]))
      refine Go.via (fun t_ k_ => XS.iconst H6.here hx rfl (hb hby d1_50) k_) ?_
      show Go _ _ _ _ (T6.setTop (mkF m 51 #[.val (.int n), .val (.int p1), .val (.int p2), .val (.int ((p1 &&& (255 : Int32)).toUInt32.toUInt16.toUInt32.toInt32)), .val (.int ((((p1.toUInt32 >>> ((8 : Int32) &&& 31).toUInt32).toInt32) &&& (255 : Int32)).toUInt32.toUInt16.toUInt32.toInt32)), .val (.int ((p2 &&& (255 : Int32)).toUInt32.toUInt16.toUInt32.toInt32))] [(.int (1 : Int32)), (.ref a6), (.ref a6)]))
      refine own_newA H6 hx hZ (aty := .char) (hw _ (List.mem_of_getElem? (i := 7) rfl)) (g := (mkF m 51 #[.val (.int n), .val (.int p1), .val (.int p2), .val (.int ((p1 &&& (255 : Int32)).toUInt32.toUInt16.toUInt32.toInt32)), .val (.int ((((p1.toUInt32 >>> ((8 : Int32) &&& 31).toUInt32).toInt32) &&& (255 : Int32)).toUInt32.toUInt16.toUInt32.toInt32)), .val (.int ((p2 &&& (255 : Int32)).toUInt32.toUInt16.toUInt32.toInt32))] [(.int (1 : Int32)), (.ref a6), (.ref a6)])) rfl (hb hby d1_51) rfl (by decide) 1 (by decide) rfl 1 (by decide) (by decide) (by decide) (by decide) ?_
      intro T8 h8 a8 ga8 E8 B8 H8
      replace B8 : Ab Z h8 a8 .char 1 (fun _ => 0) := B8
      have ne_a6_a8 : a6 ≠ a8 := by rw [ga8]; exact Nat.ne_of_lt A6.lt
      have Sn_a8 := Safe.ext E8 CH7.1 (Safe.new (Nat.le_of_eq ga8.symm))
      have g_a8 : n0 ≤ a8 := by rw [ga8]; exact sz6
      have sz8 : n0 ≤ h8.size := Nat.le_trans sz6 E8.1
      have kin_a8 : h0.size ≤ a8 := by rw [ga8]; exact (K6).1
      have K8 := (K6).ext E8
      have CH9 := CH7.trans (CHr.ext E8 CH7.1)
      have S9_a6 := Safe.ext E8 CH7.1 Sn_a6
      show Go _ _ _ _ (T8.setTop (mkF m 53 #[.val (.int n), .val (.int p1), .val (.int p2), .val (.int ((p1 &&& (255 : Int32)).toUInt32.toUInt16.toUInt32.toInt32)), .val (.int ((((p1.toUInt32 >>> ((8 : Int32) &&& 31).toUInt32).toInt32) &&& (255 : Int32)).toUInt32.toUInt16.toUInt32.toInt32)), .val (.int ((p2 &&& (255 : Int32)).toUInt32.toUInt16.toUInt32.toInt32))] [(.ref a8), (.ref a6), (.ref a6)]))
      refine Go.via (fun t_ k_ => XS.dup H8.here hx rfl (hb hby d1_53) rfl rfl k_) ?_
      show Go _ _ _ _ (T8.setTop (mkF m 54 #[.val (.int n), .val (.int p1), .val (.int p2), .val (.int ((p1 &&& (255 : Int32)).toUInt32.toUInt16.toUInt32.toInt32)), .val (.int ((((p1.toUInt32 >>> ((8 : Int32) &&& 31).toUInt32).toInt32) &&& (255 : Int32)).toUInt32.toUInt16.toUInt32.toInt32)), .val (.int ((p2 &&& (255 : Int32)).toUInt32.toUInt16.toUInt32.toInt32))] [(.ref a8), (.ref a8), (.ref a6), (.ref a6)]))
      refine Go.via (fun t_ k_ => XS.iconst H8.here hx rfl (hb hby d1_54) k_) ?_
      show Go _ _ _ _ (T8.setTop (mkF m 55 #[.val (.int n), .val (.int p1), .val (.int p2), .val (.int ((p1 &&& (255 : Int32)).toUInt32.toUInt16.toUInt32.toInt32)), .val (.int ((((p1.toUInt32 >>> ((8 : Int32) &&& 31).toUInt32).toInt32) &&& (255 : Int32)).toUInt32.toUInt16.toUInt32.toInt32)), .val (.int ((p2 &&& (255 : Int32)).toUInt32.toUInt16.toUInt32.toInt32))] [(.int (0 : Int32)), (.ref a8), (.ref a8), (.ref a6), (.ref a6)]))
      refine Go.via (fun t_ k_ => XS.iloadN H8.here hx rfl (hb hby d1_55) rfl k_) ?_
      show Go _ _ _ _ (T8.setTop (mkF m 56 #[.val (.int n), .val (.int p1), .val (.int p2), .val (.int ((p1 &&& (255 : Int32)).toUInt32.toUInt16.toUInt32.toInt32)), .val (.int ((((p1.toUInt32 >>> ((8 : Int32) &&& 31).toUInt32).toInt32) &&& (255 : Int32)).toUInt32.toUInt16.toUInt32.toInt32)), .val (.int ((p2 &&& (255 : Int32)).toUInt32.toUInt16.toUInt32.toInt32))] [(.int ((p1 &&& (255 : Int32)).toUInt32.toUInt16.toUInt32.toInt32)), (.int (0 : Int32)), (.ref a8), (.ref a8), (.ref a6), (.ref a6)]))
      refine own_stCA H8 hx hZ B8 (j := 0) (by decide) (by decide) g_a8 (g := (mkF m 56 #[.val (.int n), .val (.int p1), .val (.int p2), .val (.int ((p1 &&& (255 : Int32)).toUInt32.toUInt16.toUInt32.toInt32)), .val (.int ((((p1.toUInt32 >>> ((8 : Int32) &&& 31).toUInt32).toInt32) &&& (255 : Int32)).toUInt32.toUInt16.toUInt32.toInt32)), .val (.int ((p2 &&& (255 : Int32)).toUInt32.toUInt16.toUInt32.toInt32))] [(.int ((p1 &&& (255 : Int32)).toUInt32.toUInt16.toUInt32.toInt32)), (.int (0 : Int32)), (.ref a8), (.ref a8), (.ref a6), (.ref a6)])) rfl rfl (hb hby d1_56) ?_
      intro T10 h10 W10 B10 H10
      have sz10 : n0 ≤ h10.size := Nat.le_trans sz8 (Keep.of_wr W10).1
      have K10 := (K8).wr W10 (Or.inr kin_a8)
      have CH11 := CH9.trans (CHr.wr W10 Sn_a8 CH9.1)
      have S11_a6 := Safe.wr W10 Sn_a8 CH9.1 S9_a6
      have S11_a8 := Safe.wr W10 Sn_a8 CH9.1 Sn_a8
      show Go _ _ _ _ (T10.setTop (mkF m 57 #[.val (.int n), .val (.int p1), .val (.int p2), .val (.int ((p1 &&& (255 : Int32)).toUInt32.toUInt16.toUInt32.toInt32)), .val (.int ((((p1.toUInt32 >>> ((8 : Int32) &&& 31).toUInt32).toInt32) &&& (255 : Int32)).toUInt32.toUInt16.toUInt32.toInt32)), .val (.int ((p2 &&& (255 : Int32)).toUInt32.toUInt16.toUInt32.toInt32))] [(.ref a8), (.ref a6), (.ref a6)]))
      refine own_callI H10 hx hZ (y := (⟨"java/lang/String", "<init>", "([C)V"⟩ : MethodName)) (a := a6) rfl hown (hw _ (List.mem_of_getElem? (i := 8) rfl)) (hw _ (List.mem_of_getElem? (i := 9) rfl)) (hw _ (List.mem_of_getElem? (i := 6) rfl)) (hw _ (List.mem_of_getElem? (i := 10) rfl)) (by decide) (rmI1_1 l Z a0 hw a6 a8 (upd (fun _ => (0 : Int32)) 0 (nar .char ((p1 &&& (255 : Int32)).toUInt32.toUInt16.toUInt32.toInt32))) cs h10 n0 (((OL.ext E6).ext E8).wr W10 g_a8) SC hcs ((A6.ext E8).wr W10) ((F6_value.ext E8).other W10 (Or.inl ne_a6_a8)) ((F6_coder.ext E8).other W10 (Or.inl ne_a6_a8)) g_a6 B10 (by intro j hj; rcases Nat.lt_succ_iff_lt_or_eq.mp hj with hj | rfl; rotate_left; exact own_le _; exact absurd hj (Nat.not_lt_zero _))) (g := (mkF m 57 #[.val (.int n), .val (.int p1), .val (.int p2), .val (.int ((p1 &&& (255 : Int32)).toUInt32.toUInt16.toUInt32.toInt32)), .val (.int ((((p1.toUInt32 >>> ((8 : Int32) &&& 31).toUInt32).toInt32) &&& (255 : Int32)).toUInt32.toUInt16.toUInt32.toInt32)), .val (.int ((p2 &&& (255 : Int32)).toUInt32.toUInt16.toUInt32.toInt32))] [(.ref a8), (.ref a6), (.ref a6)])) rfl (by rw [hml]; rfl) (argsL := [(.ref a8)]) (rest := [(.ref a6)]) (lenOf pd_4 rfl) rfl 1 (Nat.le_of_eq rfl) (hb hby d1_57) (by decide) (by decide) (by decide) (by decide) ?_
      rintro _ T12 h12 ⟨rfl, K12⟩ H12
      show Go _ _ _ _ (T12.setTop (mkF m 60 #[.val (.int n), .val (.int p1), .val (.int p2), .val (.int ((p1 &&& (255 : Int32)).toUInt32.toUInt16.toUInt32.toInt32)), .val (.int ((((p1.toUInt32 >>> ((8 : Int32) &&& 31).toUInt32).toInt32) &&& (255 : Int32)).toUInt32.toUInt16.toUInt32.toInt32)), .val (.int ((p2 &&& (255 : Int32)).toUInt32.toUInt16.toUInt32.toInt32))] [(.ref a6)]))
      have CH13 := CH11.trans (CHr.keep K12 (allS S11_a6 all0) CH11.1)
      have S13_a6 := Safe.keep K12 (allS S11_a6 all0) CH11.1 S11_a6
      have S13_a8 := Safe.keep K12 (allS S11_a6 all0) CH11.1 S11_a8
      exact own_retAH H12 ((((LB.grow E6.1).grow E8.1).grow (Keep.of_wr W10).1).grow K12.1) CH13 hZ hEL hx hlk rfl hret rfl rfl (hb hby d1_60) ⟨_, rfl, (K10.trans K12 (allS (Or.inr kin_a6) all0))⟩ (by decide) (by decide)
    · refine Go.via (fun t_ k_ => XS.icmpYes H0.here hx rfl (pc0 := 43) (pc' := 61) rfl (hb hby d1_43) rfl ((feq hc43).2) (by decide) (by decide) k_) ?_
      show Go _ _ _ _ (T0.setTop (mkF m 61 #[.val (.int n), .val (.int p1), .val (.int p2), .val (.int ((p1 &&& (255 : Int32)).toUInt32.toUInt16.toUInt32.toInt32)), .val (.int ((((p1.toUInt32 >>> ((8 : Int32) &&& 31).toUInt32).toInt32) &&& (255 : Int32)).toUInt32.toUInt16.toUInt32.toInt32)), .val (.int ((p2 &&& (255 : Int32)).toUInt32.toUInt16.toUInt32.toInt32))] []))
      refine Go.via (fun t_ k_ => XS.iloadN H0.here hx rfl (hb hby d1_61) rfl k_) ?_
      show Go _ _ _ _ (T0.setTop (mkF m 62 #[.val (.int n), .val (.int p1), .val (.int p2), .val (.int ((p1 &&& (255 : Int32)).toUInt32.toUInt16.toUInt32.toInt32)), .val (.int ((((p1.toUInt32 >>> ((8 : Int32) &&& 31).toUInt32).toInt32) &&& (255 : Int32)).toUInt32.toUInt16.toUInt32.toInt32)), .val (.int ((p2 &&& (255 : Int32)).toUInt32.toUInt16.toUInt32.toInt32))] [(.int n)]))
      refine Go.via (fun t_ k_ => XS.iconst H0.here hx rfl (hb hby d1_62) k_) ?_
      show Go _ _ _ _ (T0.setTop (mkF m 63 #[.val (.int n), .val (.int p1), .val (.int p2), .val (.int ((p1 &&& (255 : Int32)).toUInt32.toUInt16.toUInt32.toInt32)), .val (.int ((((p1.toUInt32 >>> ((8 : Int32) &&& 31).toUInt32).toInt32) &&& (255 : Int32)).toUInt32.toUInt16.toUInt32.toInt32)), .val (.int ((p2 &&& (255 : Int32)).toUInt32.toUInt16.toUInt32.toInt32))] [(.int (2 : Int32)), (.int n)]))
      by_cases hc63 : n = (2 : Int32)
      · refine Go.via (fun t_ k_ => XS.icmpNo H0.here hx rfl (hb hby d1_63) rfl ((teq hc63).2) k_) ?_
        show Go _ _ _ _ (T0.setTop (mkF m 66 #[.val (.int n), .val (.int p1), .val (.int p2), .val (.int ((p1 &&& (255 : Int32)).toUInt32.toUInt16.toUInt32.toInt32)), .val (.int ((((p1.toUInt32 >>> ((8 : Int32) &&& 31).toUInt32).toInt32) &&& (255 : Int32)).toUInt32.toUInt16.toUInt32.toInt32)), .val (.int ((p2 &&& (255 : Int32)).toUInt32.toUInt16.toUInt32.toInt32))] []))
        refine own_newO H0 hx hZ hown (hw _ (List.mem_of_getElem? (i := 4) rfl)) (hw _ (List.mem_of_getElem? (i := 5) rfl)) (hw _ (List.mem_of_getElem? (i := 6) rfl)) (g := (mkF m 66 #[.val (.int n), .val (.int p1), .val (.int p2), .val (.int ((p1 &&& (255 : Int32)).toUInt32.toUInt16.toUInt32.toInt32)), .val (.int ((((p1.toUInt32 >>> ((8 : Int32) &&& 31).toUInt32).toInt32) &&& (255 : Int32)).toUInt32.toUInt16.toUInt32.toInt32)), .val (.int ((p2 &&& (255 : Int32)).toUInt32.toUInt16.toUInt32.toInt32))] [])) rfl (hb hby d1_66) (by decide) (by decide) ?_
        intro T14 h14 a14 ga14 E14 A14 D14 H14
        have Sn_a14 := Safe.ext E14 CH.1 (Safe.new (Nat.le_of_eq ga14.symm))
        have g_a14 : n0 ≤ a14 := by rw [ga14]; exact (Nat.le_trans (Nat.le_of_eq OL.1.symm) OL.2.1)
        have sz14 : n0 ≤ h14.size := Nat.le_trans (Nat.le_trans (Nat.le_of_eq OL.1.symm) OL.2.1) E14.1
        have kin_a14 : h0.size ≤ a14 := by rw [ga14]; exact ((Keep.refl h0 [])).1
        have K14 := ((Keep.refl h0 [])).ext E14
        have F14_coder : Fld Z h14 a14 "java/lang/String" "coder" "B" (.int (0 : Int32)) := D14 (Or.inr (hw _ (List.mem_of_getElem? (i := 31) rfl))) (ty := .byte) (by decide)
        have F14_value : Fld Z h14 a14 "java/lang/String" "value" "[B" .null := D14 (Or.inr (hw _ (List.mem_of_getElem? (i := 33) rfl))) (ty := (.array .byte)) (by decide)
        have CH15 := CH.trans (CHr.ext E14 CH.1)
        show Go _ _ _ _ (T14.setTop (mkF m 69 #[.val (.int n), .val (.int p1), .val (.int p2), .val (.int ((p1 &&& (255 : Int32)).toUInt32.toUInt16.toUInt32.toInt32)), .val (.int ((((p1.toUInt32 >>> ((8 : Int32) &&& 31).toUInt32).toInt32) &&& (255 : Int32)).toUInt32.toUInt16.toUInt32.toInt32)), .val (.int ((p2 &&& (255 : Int32)).toUInt32.toUInt16.toUInt32.toInt32))] [(.ref a14)]))
        refine Go.via (fun t_ k_ => XS.dup H14.here hx rfl (hb hby d1_69) rfl rfl k_) ?_
        show Go _ _ _ _ (T14.setTop (mkF m 70 #[.val (.int n), .val (.int p1), .val (.int p2), .val (.int ((p1 &&& (255 : Int32)).toUInt32.toUInt16.toUInt32.toInt32)), .val (.int ((((p1.toUInt32 >>> ((8 : Int32) &&& 31).toUInt32).toInt32) &&& (255 : Int32)).toUInt32.toUInt16.toUInt32.toInt32)), .val (.int ((p2 &&& (255 : Int32)).toUInt32.toUInt16.toUInt32.toInt32))] [(.ref a14), (.ref a14)]))
        refine Go.via (fun t_ k_ => XS.iconst H14.here hx rfl (hb hby d1_70) k_) ?_
        show Go _ _ _ _ (T14.setTop (mkF m 71 #[.val (.int n), .val (.int p1), .val (.int p2), .val (.int ((p1 &&& (255 : Int32)).toUInt32.toUInt16.toUInt32.toInt32)), .val (.int ((((p1.toUInt32 >>> ((8 : Int32) &&& 31).toUInt32).toInt32) &&& (255 : Int32)).toUInt32.toUInt16.toUInt32.toInt32)), .val (.int ((p2 &&& (255 : Int32)).toUInt32.toUInt16.toUInt32.toInt32))] [(.int (2 : Int32)), (.ref a14), (.ref a14)]))
        refine own_newA H14 hx hZ (aty := .char) (hw _ (List.mem_of_getElem? (i := 7) rfl)) (g := (mkF m 71 #[.val (.int n), .val (.int p1), .val (.int p2), .val (.int ((p1 &&& (255 : Int32)).toUInt32.toUInt16.toUInt32.toInt32)), .val (.int ((((p1.toUInt32 >>> ((8 : Int32) &&& 31).toUInt32).toInt32) &&& (255 : Int32)).toUInt32.toUInt16.toUInt32.toInt32)), .val (.int ((p2 &&& (255 : Int32)).toUInt32.toUInt16.toUInt32.toInt32))] [(.int (2 : Int32)), (.ref a14), (.ref a14)])) rfl (hb hby d1_71) rfl (by decide) 2 (by decide) rfl 2 (by decide) (by decide) (by decide) (by decide) ?_
        intro T16 h16 a16 ga16 E16 B16 H16
        replace B16 : Ab Z h16 a16 .char 2 (fun _ => 0) := B16
        have ne_a14_a16 : a14 ≠ a16 := by rw [ga16]; exact Nat.ne_of_lt A14.lt
        have Sn_a16 := Safe.ext E16 CH15.1 (Safe.new (Nat.le_of_eq ga16.symm))
        have g_a16 : n0 ≤ a16 := by rw [ga16]; exact sz14
        have sz16 : n0 ≤ h16.size := Nat.le_trans sz14 E16.1
        have kin_a16 : h0.size ≤ a16 := by rw [ga16]; exact (K14).1
        have K16 := (K14).ext E16
        have CH17 := CH15.trans (CHr.ext E16 CH15.1)
        have S17_a14 := Safe.ext E16 CH15.1 Sn_a14
        show Go _ _ _ _ (T16.setTop (mkF m 73 #[.val (.int n), .val (.int p1), .val (.int p2), .val (.int ((p1 &&& (255 : Int32)).toUInt32.toUInt16.toUInt32.toInt32)), .val (.int ((((p1.toUInt32 >>> ((8 : Int32) &&& 31).toUInt32).toInt32) &&& (255 : Int32)).toUInt32.toUInt16.toUInt32.toInt32)), .val (.int ((p2 &&& (255 : Int32)).toUInt32.toUInt16.toUInt32.toInt32))] [(.ref a16), (.ref a14), (.ref a14)]))
        refine Go.via (fun t_ k_ => XS.dup H16.here hx rfl (hb hby d1_73) rfl rfl k_) ?_
        show Go _ _ _ _ (T16.setTop (mkF m 74 #[.val (.int n), .val (.int p1), .val (.int p2), .val (.int ((p1 &&& (255 : Int32)).toUInt32.toUInt16.toUInt32.toInt32)), .val (.int ((((p1.toUInt32 >>> ((8 : Int32) &&& 31).toUInt32).toInt32) &&& (255 : Int32)).toUInt32.toUInt16.toUInt32.toInt32)), .val (.int ((p2 &&& (255 : Int32)).toUInt32.toUInt16.toUInt32.toInt32))] [(.ref a16), (.ref a16), (.ref a14), (.ref a14)]))
        refine Go.via (fun t_ k_ => XS.iconst H16.here hx rfl (hb hby d1_74) k_) ?_
        show Go _ _ _ _ (T16.setTop (mkF m 75 #[.val (.int n), .val (.int p1), .val (.int p2), .val (.int ((p1 &&& (255 : Int32)).toUInt32.toUInt16.toUInt32.toInt32)), .val (.int ((((p1.toUInt32 >>> ((8 : Int32) &&& 31).toUInt32).toInt32) &&& (255 : Int32)).toUInt32.toUInt16.toUInt32.toInt32)), .val (.int ((p2 &&& (255 : Int32)).toUInt32.toUInt16.toUInt32.toInt32))] [(.int (0 : Int32)), (.ref a16), (.ref a16), (.ref a14), (.ref a14)]))
        refine Go.via (fun t_ k_ => XS.iloadN H16.here hx rfl (hb hby d1_75) rfl k_) ?_
        show Go _ _ _ _ (T16.setTop (mkF m 76 #[.val (.int n), .val (.int p1), .val (.int p2), .val (.int ((p1 &&& (255 : Int32)).toUInt32.toUInt16.toUInt32.toInt32)), .val (.int ((((p1.toUInt32 >>> ((8 : Int32) &&& 31).toUInt32).toInt32) &&& (255 : Int32)).toUInt32.toUInt16.toUInt32.toInt32)), .val (.int ((p2 &&& (255 : Int32)).toUInt32.toUInt16.toUInt32.toInt32))] [(.int ((p1 &&& (255 : Int32)).toUInt32.toUInt16.toUInt32.toInt32)), (.int (0 : Int32)), (.ref a16), (.ref a16), (.ref a14), (.ref a14)]))
        refine own_stCA H16 hx hZ B16 (j := 0) (by decide) (by decide) g_a16 (g := (mkF m 76 #[.val (.int n), .val (.int p1), .val (.int p2), .val (.int ((p1 &&& (255 : Int32)).toUInt32.toUInt16.toUInt32.toInt32)), .val (.int ((((p1.toUInt32 >>> ((8 : Int32) &&& 31).toUInt32).toInt32) &&& (255 : Int32)).toUInt32.toUInt16.toUInt32.toInt32)), .val (.int ((p2 &&& (255 : Int32)).toUInt32.toUInt16.toUInt32.toInt32))] [(.int ((p1 &&& (255 : Int32)).toUInt32.toUInt16.toUInt32.toInt32)), (.int (0 : Int32)), (.ref a16), (.ref a16), (.ref a14), (.ref a14)])) rfl rfl (hb hby d1_76) ?_
        intro T18 h18 W18 B18 H18
        have sz18 : n0 ≤ h18.size := Nat.le_trans sz16 (Keep.of_wr W18).1
        have K18 := (K16).wr W18 (Or.inr kin_a16)
        have CH19 := CH17.trans (CHr.wr W18 Sn_a16 CH17.1)
        have S19_a14 := Safe.wr W18 Sn_a16 CH17.1 S17_a14
        have S19_a16 := Safe.wr W18 Sn_a16 CH17.1 Sn_a16
        show Go _ _ _ _ (T18.setTop (mkF m 77 #[.val (.int n), .val (.int p1), .val (.int p2), .val (.int ((p1 &&& (255 : Int32)).toUInt32.toUInt16.toUInt32.toInt32)), .val (.int ((((p1.toUInt32 >>> ((8 : Int32) &&& 31).toUInt32).toInt32) &&& (255 : Int32)).toUInt32.toUInt16.toUInt32.toInt32)), .val (.int ((p2 &&& (255 : Int32)).toUInt32.toUInt16.toUInt32.toInt32))] [(.ref a16), (.ref a14), (.ref a14)]))
        refine Go.via (fun t_ k_ => XS.dup H18.here hx rfl (hb hby d1_77) rfl rfl k_) ?_
        show Go _ _ _ _ (T18.setTop (mkF m 78 #[.val (.int n), .val (.int p1), .val (.int p2), .val (.int ((p1 &&& (255 : Int32)).toUInt32.toUInt16.toUInt32.toInt32)), .val (.int ((((p1.toUInt32 >>> ((8 : Int32) &&& 31).toUInt32).toInt32) &&& (255 : Int32)).toUInt32.toUInt16.toUInt32.toInt32)), .val (.int ((p2 &&& (255 : Int32)).toUInt32.toUInt16.toUInt32.toInt32))] [(.ref a16), (.ref a16), (.ref a14), (.ref a14)]))
        refine Go.via (fun t_ k_ => XS.iconst H18.here hx rfl (hb hby d1_78) k_) ?_
        show Go _ _ _ _ (T18.setTop (mkF m 79 #[.val (.int n), .val (.int p1), .val (.int p2), .val (.int ((p1 &&& (255 : Int32)).toUInt32.toUInt16.toUInt32.toInt32)), .val (.int ((((p1.toUInt32 >>> ((8 : Int32) &&& 31).toUInt32).toInt32) &&& (255 : Int32)).toUInt32.toUInt16.toUInt32.toInt32)), .val (.int ((p2 &&& (255 : Int32)).toUInt32.toUInt16.toUInt32.toInt32))] [(.int (1 : Int32)), (.ref a16), (.ref a16), (.ref a14), (.ref a14)]))
        refine Go.via (fun t_ k_ => XS.iload H18.here hx rfl (hb hby d1_79) rfl k_) ?_
        show Go _ _ _ _ (T18.setTop (mkF m 81 #[.val (.int n), .val (.int p1), .val (.int p2), .val (.int ((p1 &&& (255 : Int32)).toUInt32.toUInt16.toUInt32.toInt32)), .val (.int ((((p1.toUInt32 >>> ((8 : Int32) &&& 31).toUInt32).toInt32) &&& (255 : Int32)).toUInt32.toUInt16.toUInt32.toInt32)), .val (.int ((p2 &&& (255 : Int32)).toUInt32.toUInt16.toUInt32.toInt32))] [(.int ((((p1.toUInt32 >>> ((8 : Int32) &&& 31).toUInt32).toInt32) &&& (255 : Int32)).toUInt32.toUInt16.toUInt32.toInt32)), (.int (1 : Int32)), (.ref a16), (.ref a16), (.ref a14), (.ref a14)]))
        refine own_stCA H18 hx hZ B18 (j := 1) (by decide) (by decide) g_a16 (g := (mkF m 81 #[.val (.int n), .val (.int p1), .val (.int p2), .val (.int ((p1 &&& (255 : Int32)).toUInt32.toUInt16.toUInt32.toInt32)), .val (.int ((((p1.toUInt32 >>> ((8 : Int32) &&& 31).toUInt32).toInt32) &&& (255 : Int32)).toUInt32.toUInt16.toUInt32.toInt32)), .val (.int ((p2 &&& (255 : Int32)).toUInt32.toUInt16.toUInt32.toInt32))] [(.int ((((p1.toUInt32 >>> ((8 : Int32) &&& 31).toUInt32).toInt32) &&& (255 : Int32)).toUInt32.toUInt16.toUInt32.toInt32)), (.int (1 : Int32)), (.ref a16), (.ref a16), (.ref a14), (.ref a14)])) rfl rfl (hb hby d1_81) ?_
        intro T20 h20 W20 B20 H20
        have sz20 : n0 ≤ h20.size := Nat.le_trans sz18 (Keep.of_wr W20).1
        have K20 := (K18).wr W20 (Or.inr kin_a16)
        have CH21 := CH19.trans (CHr.wr W20 S19_a16 CH19.1)
        have S21_a14 := Safe.wr W20 S19_a16 CH19.1 S19_a14
        have S21_a16 := Safe.wr W20 S19_a16 CH19.1 S19_a16
        show Go _ _ _ _ (T20.setTop (mkF m 82 #[.val (.int n), .val (.int p1), .val (.int p2), .val (.int ((p1 &&& (255 : Int32)).toUInt32.toUInt16.toUInt32.toInt32)), .val (.int ((((p1.toUInt32 >>> ((8 : Int32) &&& 31).toUInt32).toInt32) &&& (255 : Int32)).toUInt32.toUInt16.toUInt32.toInt32)), .val (.int ((p2 &&& (255 : Int32)).toUInt32.toUInt16.toUInt32.toInt32))] [(.ref a16), (.ref a14), (.ref a14)]))
        refine own_callI H20 hx hZ (y := (⟨"java/lang/String", "<init>", "([C)V"⟩ : MethodName)) (a := a14) rfl hown (hw _ (List.mem_of_getElem? (i := 8) rfl)) (hw _ (List.mem_of_getElem? (i := 9) rfl)) (hw _ (List.mem_of_getElem? (i := 6) rfl)) (hw _ (List.mem_of_getElem? (i := 10) rfl)) (by decide) (rmI1_2 l Z a0 hw a14 a16 (upd (upd (fun _ => (0 : Int32)) 0 (nar .char ((p1 &&& (255 : Int32)).toUInt32.toUInt16.toUInt32.toInt32))) 1 (nar .char ((((p1.toUInt32 >>> ((8 : Int32) &&& 31).toUInt32).toInt32) &&& (255 : Int32)).toUInt32.toUInt16.toUInt32.toInt32))) cs h20 n0 ((((OL.ext E14).ext E16).wr W18 g_a16).wr W20 g_a16) SC hcs (((A14.ext E16).wr W18).wr W20) (((F14_value.ext E16).other W18 (Or.inl ne_a14_a16)).other W20 (Or.inl ne_a14_a16)) (((F14_coder.ext E16).other W18 (Or.inl ne_a14_a16)).other W20 (Or.inl ne_a14_a16)) g_a14 B20 (by intro j hj; rcases Nat.lt_succ_iff_lt_or_eq.mp hj with hj | rfl; rotate_left; exact own_le _; rcases Nat.lt_succ_iff_lt_or_eq.mp hj with hj | rfl; rotate_left; exact own_le _; exact absurd hj (Nat.not_lt_zero _))) (g := (mkF m 82 #[.val (.int n), .val (.int p1), .val (.int p2), .val (.int ((p1 &&& (255 : Int32)).toUInt32.toUInt16.toUInt32.toInt32)), .val (.int ((((p1.toUInt32 >>> ((8 : Int32) &&& 31).toUInt32).toInt32) &&& (255 : Int32)).toUInt32.toUInt16.toUInt32.toInt32)), .val (.int ((p2 &&& (255 : Int32)).toUInt32.toUInt16.toUInt32.toInt32))] [(.ref a16), (.ref a14), (.ref a14)])) rfl (by rw [hml]; rfl) (argsL := [(.ref a16)]) (rest := [(.ref a14)]) (lenOf pd_4 rfl) rfl 1 (Nat.le_of_eq rfl) (hb hby d1_82) (by decide) (by decide) (by decide) (by decide) ?_
        rintro _ T22 h22 ⟨rfl, K22⟩ H22
        show Go _ _ _ _ (T22.setTop (mkF m 85 #[.val (.int n), .val (.int p1), .val (.int p2), .val (.int ((p1 &&& (255 : Int32)).toUInt32.toUInt16.toUInt32.toInt32)), .val (.int ((((p1.toUInt32 >>> ((8 : Int32) &&& 31).toUInt32).toInt32) &&& (255 : Int32)).toUInt32.toUInt16.toUInt32.toInt32)), .val (.int ((p2 &&& (255 : Int32)).toUInt32.toUInt16.toUInt32.toInt32))] [(.ref a14)]))
        have CH23 := CH21.trans (CHr.keep K22 (allS S21_a14 all0) CH21.1)
        have S23_a14 := Safe.keep K22 (allS S21_a14 all0) CH21.1 S21_a14
        have S23_a16 := Safe.keep K22 (allS S21_a14 all0) CH21.1 S21_a16
        exact own_retAH H22 (((((LB.grow E14.1).grow E16.1).grow (Keep.of_wr W18).1).grow (Keep.of_wr W20).1).grow K22.1) CH23 hZ hEL hx hlk rfl hret rfl rfl (hb hby d1_85) ⟨_, rfl, (K20.trans K22 (allS (Or.inr kin_a14) all0))⟩ (by decide) (by decide)
      · refine Go.via (fun t_ k_ => XS.icmpYes H0.here hx rfl (pc0 := 63) (pc' := 86) rfl (hb hby d1_63) rfl ((feq hc63).2) (by decide) (by decide) k_) ?_
        show Go _ _ _ _ (T0.setTop (mkF m 86 #[.val (.int n), .val (.int p1), .val (.int p2), .val (.int ((p1 &&& (255 : Int32)).toUInt32.toUInt16.toUInt32.toInt32)), .val (.int ((((p1.toUInt32 >>> ((8 : Int32) &&& 31).toUInt32).toInt32) &&& (255 : Int32)).toUInt32.toUInt16.toUInt32.toInt32)), .val (.int ((p2 &&& (255 : Int32)).toUInt32.toUInt16.toUInt32.toInt32))] []))
        refine own_newO H0 hx hZ hown (hw _ (List.mem_of_getElem? (i := 4) rfl)) (hw _ (List.mem_of_getElem? (i := 5) rfl)) (hw _ (List.mem_of_getElem? (i := 6) rfl)) (g := (mkF m 86 #[.val (.int n), .val (.int p1), .val (.int p2), .val (.int ((p1 &&& (255 : Int32)).toUInt32.toUInt16.toUInt32.toInt32)), .val (.int ((((p1.toUInt32 >>> ((8 : Int32) &&& 31).toUInt32).toInt32) &&& (255 : Int32)).toUInt32.toUInt16.toUInt32.toInt32)), .val (.int ((p2 &&& (255 : Int32)).toUInt32.toUInt16.toUInt32.toInt32))] [])) rfl (hb hby d1_86) (by decide) (by decide) ?_
        intro T24 h24 a24 ga24 E24 A24 D24 H24
        have Sn_a24 := Safe.ext E24 CH.1 (Safe.new (Nat.le_of_eq ga24.symm))
        have g_a24 : n0 ≤ a24 := by rw [ga24]; exact (Nat.le_trans (Nat.le_of_eq OL.1.symm) OL.2.1)
        have sz24 : n0 ≤ h24.size := Nat.le_trans (Nat.le_trans (Nat.le_of_eq OL.1.symm) OL.2.1) E24.1
        have kin_a24 : h0.size ≤ a24 := by rw [ga24]; exact ((Keep.refl h0 [])).1
        have K24 := ((Keep.refl h0 [])).ext E24
        have F24_coder : Fld Z h24 a24 "java/lang/String" "coder" "B" (.int (0 : Int32)) := D24 (Or.inr (hw _ (List.mem_of_getElem? (i := 31) rfl))) (ty := .byte) (by decide)
        have F24_value : Fld Z h24 a24 "java/lang/String" "value" "[B" .null := D24 (Or.inr (hw _ (List.mem_of_getElem? (i := 33) rfl))) (ty := (.array .byte)) (by decide)
        have CH25 := CH.trans (CHr.ext E24 CH.1)
        show Go _ _ _ _ (T24.setTop (mkF m 89 #[.val (.int n), .val (.int p1), .val (.int p2), .val (.int ((p1 &&& (255 : Int32)).toUInt32.toUInt16.toUInt32.toInt32)), .val (.int ((((p1.toUInt32 >>> ((8 : Int32) &&& 31).toUInt32).toInt32) &&& (255 : Int32)).toUInt32.toUInt16.toUInt32.toInt32)), .val (.int ((p2 &&& (255 : Int32)).toUInt32.toUInt16.toUInt32.toInt32))] [(.ref a24)]))
        refine Go.via (fun t_ k_ => XS.dup H24.here hx rfl (hb hby d1_89) rfl rfl k_) ?_
        show Go _ _ _ _ (T24.setTop (mkF m 90 #[.val (.int n), .val (.int p1), .val (.int p2), .val (.int ((p1 &&& (255 : Int32)).toUInt32.toUInt16.toUInt32.toInt32)), .val (.int ((((p1.toUInt32 >>> ((8 : Int32) &&& 31).toUInt32).toInt32) &&& (255 : Int32)).toUInt32.toUInt16.toUInt32.toInt32)), .val (.int ((p2 &&& (255 : Int32)).toUInt32.toUInt16.toUInt32.toInt32))] [(.ref a24), (.ref a24)]))
        refine Go.via (fun t_ k_ => XS.iconst H24.here hx rfl (hb hby d1_90) k_) ?_
        show Go _ _ _ _ (T24.setTop (mkF m 91 #[.val (.int n), .val (.int p1), .val (.int p2), .val (.int ((p1 &&& (255 : Int32)).toUInt32.toUInt16.toUInt32.toInt32)), .val (.int ((((p1.toUInt32 >>> ((8 : Int32) &&& 31).toUInt32).toInt32) &&& (255 : Int32)).toUInt32.toUInt16.toUInt32.toInt32)), .val (.int ((p2 &&& (255 : Int32)).toUInt32.toUInt16.toUInt32.toInt32))] [(.int (3 : Int32)), (.ref a24), (.ref a24)]))
        refine own_newA H24 hx hZ (aty := .char) (hw _ (List.mem_of_getElem? (i := 7) rfl)) (g := (mkF m 91 #[.val (.int n), .val (.int p1), .val (.int p2), .val (.int ((p1 &&& (255 : Int32)).toUInt32.toUInt16.toUInt32.toInt32)), .val (.int ((((p1.toUInt32 >>> ((8 : Int32) &&& 31).toUInt32).toInt32) &&& (255 : Int32)).toUInt32.toUInt16.toUInt32.toInt32)), .val (.int ((p2 &&& (255 : Int32)).toUInt32.toUInt16.toUInt32.toInt32))] [(.int (3 : Int32)), (.ref a24), (.ref a24)])) rfl (hb hby d1_91) rfl (by decide) 3 (by decide) rfl 3 (by decide) (by decide) (by decide) (by decide) ?_
        intro T26 h26 a26 ga26 E26 B26 H26
        replace B26 : Ab Z h26 a26 .char 3 (fun _ => 0) := B26
        have ne_a24_a26 : a24 ≠ a26 := by rw [ga26]; exact Nat.ne_of_lt A24.lt
        have Sn_a26 := Safe.ext E26 CH25.1 (Safe.new (Nat.le_of_eq ga26.symm))
        have g_a26 : n0 ≤ a26 := by rw [ga26]; exact sz24
        have sz26 : n0 ≤ h26.size := Nat.le_trans sz24 E26.1
        have kin_a26 : h0.size ≤ a26 := by rw [ga26]; exact (K24).1
        have K26 := (K24).ext E26
        have CH27 := CH25.trans (CHr.ext E26 CH25.1)
        have S27_a24 := Safe.ext E26 CH25.1 Sn_a24
        show Go _ _ _ _ (T26.setTop (mkF m 93 #[.val (.int n), .val (.int p1), .val (.int p2), .val (.int ((p1 &&& (255 : Int32)).toUInt32.toUInt16.toUInt32.toInt32)), .val (.int ((((p1.toUInt32 >>> ((8 : Int32) &&& 31).toUInt32).toInt32) &&& (255 : Int32)).toUInt32.toUInt16.toUInt32.toInt32)), .val (.int ((p2 &&& (255 : Int32)).toUInt32.toUInt16.toUInt32.toInt32))] [(.ref a26), (.ref a24), (.ref a24)]))
        refine Go.via (fun t_ k_ => XS.dup H26.here hx rfl (hb hby d1_93) rfl rfl k_) ?_
        show Go _ _ _ _ (T26.setTop (mkF m 94 #[.val (.int n), .val (.int p1), .val (.int p2), .val (.int ((p1 &&& (255 : Int32)).toUInt32.toUInt16.toUInt32.toInt32)), .val (.int ((((p1.toUInt32 >>> ((8 : Int32) &&& 31).toUInt32).toInt32) &&& (255 : Int32)).toUInt32.toUInt16.toUInt32.toInt32)), .val (.int ((p2 &&& (255 : Int32)).toUInt32.toUInt16.toUInt32.toInt32))] [(.ref a26), (.ref a26), (.ref a24), (.ref a24)]))
        refine Go.via (fun t_ k_ => XS.iconst H26.here hx rfl (hb hby d1_94) k_) ?_
        show Go _ _ _ _ (T26.setTop (mkF m 95 #[.val (.int n), .val (.int p1), .val (.int p2), .val (.int ((p1 &&& (255 : Int32)).toUInt32.toUInt16.toUInt32.toInt32)), .val (.int ((((p1.toUInt32 >>> ((8 : Int32) &&& 31).toUInt32).toInt32) &&& (255 : Int32)).toUInt32.toUInt16.toUInt32.toInt32)), .val (.int ((p2 &&& (255 : Int32)).toUInt32.toUInt16.toUInt32.toInt32))] [(.int (0 : Int32)), (.ref a26), (.ref a26), (.ref a24), (.ref a24)]))
        refine Go.via (fun t_ k_ => XS.iloadN H26.here hx rfl (hb hby d1_95) rfl k_) ?_
        show Go _ _ _ _ (T26.setTop (mkF m 96 #[.val (.int n), .val (.int p1), .val (.int p2), .val (.int ((p1 &&& (255 : Int32)).toUInt32.toUInt16.toUInt32.toInt32)), .val (.int ((((p1.toUInt32 >>> ((8 : Int32) &&& 31).toUInt32).toInt32) &&& (255 : Int32)).toUInt32.toUInt16.toUInt32.toInt32)), .val (.int ((p2 &&& (255 : Int32)).toUInt32.toUInt16.toUInt32.toInt32))] [(.int ((p1 &&& (255 : Int32)).toUInt32.toUInt16.toUInt32.toInt32)), (.int (0 : Int32)), (.ref a26), (.ref a26), (.ref a24), (.ref a24)]))
        refine own_stCA H26 hx hZ B26 (j := 0) (by decide) (by decide) g_a26 (g := (mkF m 96 #[.val (.int n), .val (.int p1), .val (.int p2), .val (.int ((p1 &&& (255 : Int32)).toUInt32.toUInt16.toUInt32.toInt32)), .val (.int ((((p1.toUInt32 >>> ((8 : Int32) &&& 31).toUInt32).toInt32) &&& (255 : Int32)).toUInt32.toUInt16.toUInt32.toInt32)), .val (.int ((p2 &&& (255 : Int32)).toUInt32.toUInt16.toUInt32.toInt32))] [(.int ((p1 &&& (255 : Int32)).toUInt32.toUInt16.toUInt32.toInt32)), (.int (0 : Int32)), (.ref a26), (.ref a26), (.ref a24), (.ref a24)])) rfl rfl (hb hby d1_96) ?_
        intro T28 h28 W28 B28 H28
        have sz28 : n0 ≤ h28.size := Nat.le_trans sz26 (Keep.of_wr W28).1
        have K28 := (K26).wr W28 (Or.inr kin_a26)
        have CH29 := CH27.trans (CHr.wr W28 Sn_a26 CH27.1)
        have S29_a24 := Safe.wr W28 Sn_a26 CH27.1 S27_a24
        have S29_a26 := Safe.wr W28 Sn_a26 CH27.1 Sn_a26
        show Go _ _ _ _ (T28.setTop (mkF m 97 #[.val (.int n), .val (.int p1), .val (.int p2), .val (.int ((p1 &&& (255 : Int32)).toUInt32.toUInt16.toUInt32.toInt32)), .val (.int ((((p1.toUInt32 >>> ((8 : Int32) &&& 31).toUInt32).toInt32) &&& (255 : Int32)).toUInt32.toUInt16.toUInt32.toInt32)), .val (.int ((p2 &&& (255 : Int32)).toUInt32.toUInt16.toUInt32.toInt32))] [(.ref a26), (.ref a24), (.ref a24)]))
        refine Go.via (fun t_ k_ => XS.dup H28.here hx rfl (hb hby d1_97) rfl rfl k_) ?_
        show Go _ _ _ _ (T28.setTop (mkF m 98 #[.val (.int n), .val (.int p1), .val (.int p2), .val (.int ((p1 &&& (255 : Int32)).toUInt32.toUInt16.toUInt32.toInt32)), .val (.int ((((p1.toUInt32 >>> ((8 : Int32) &&& 31).toUInt32).toInt32) &&& (255 : Int32)).toUInt32.toUInt16.toUInt32.toInt32)), .val (.int ((p2 &&& (255 : Int32)).toUInt32.toUInt16.toUInt32.toInt32))] [(.ref a26), (.ref a26), (.ref a24), (.ref a24)]))
        refine Go.via (fun t_ k_ => XS.iconst H28.here hx rfl (hb hby d1_98) k_) ?_
        show Go _ _ _ _ (T28.setTop (mkF m 99 #[.val (.int n), .val (.int p1), .val (.int p2), .val (.int ((p1 &&& (255 : Int32)).toUInt32.toUInt16.toUInt32.toInt32)), .val (.int ((((p1.toUInt32 >>> ((8 : Int32) &&& 31).toUInt32).toInt32) &&& (255 : Int32)).toUInt32.toUInt16.toUInt32.toInt32)), .val (.int ((p2 &&& (255 : Int32)).toUInt32.toUInt16.toUInt32.toInt32))] [(.int (1 : Int32)), (.ref a26), (.ref a26), (.ref a24), (.ref a24)]))
        refine Go.via (fun t_ k_ => XS.iload H28.here hx rfl (hb hby d1_99) rfl k_) ?_
        show Go _ _ _ _ (T28.setTop (mkF m 101 #[.val (.int n), .val (.int p1), .val (.int p2), .val (.int ((p1 &&& (255 : Int32)).toUInt32.toUInt16.toUInt32.toInt32)), .val (.int ((((p1.toUInt32 >>> ((8 : Int32) &&& 31).toUInt32).toInt32) &&& (255 : Int32)).toUInt32.toUInt16.toUInt32.toInt32)), .val (.int ((p2 &&& (255 : Int32)).toUInt32.toUInt16.toUInt32.toInt32))] [(.int ((((p1.toUInt32 >>> ((8 : Int32) &&& 31).toUInt32).toInt32) &&& (255 : Int32)).toUInt32.toUInt16.toUInt32.toInt32)), (.int (1 : Int32)), (.ref a26), (.ref a26), (.ref a24), (.ref a24)]))
        refine own_stCA H28 hx hZ B28 (j := 1) (by decide) (by decide) g_a26 (g := (mkF m 101 #[.val (.int n), .val (.int p1), .val (.int p2), .val (.int ((p1 &&& (255 : Int32)).toUInt32.toUInt16.toUInt32.toInt32)), .val (.int ((((p1.toUInt32 >>> ((8 : Int32) &&& 31).toUInt32).toInt32) &&& (255 : Int32)).toUInt32.toUInt16.toUInt32.toInt32)), .val (.int ((p2 &&& (255 : Int32)).toUInt32.toUInt16.toUInt32.toInt32))] [(.int ((((p1.toUInt32 >>> ((8 : Int32) &&& 31).toUInt32).toInt32) &&& (255 : Int32)).toUInt32.toUInt16.toUInt32.toInt32)), (.int (1 : Int32)), (.ref a26), (.ref a26), (.ref a24), (.ref a24)])) rfl rfl (hb hby d1_101) ?_
        intro T30 h30 W30 B30 H30
        have sz30 : n0 ≤ h30.size := Nat.le_trans sz28 (Keep.of_wr W30).1
        have K30 := (K28).wr W30 (Or.inr kin_a26)
        have CH31 := CH29.trans (CHr.wr W30 S29_a26 CH29.1)
        have S31_a24 := Safe.wr W30 S29_a26 CH29.1 S29_a24
        have S31_a26 := Safe.wr W30 S29_a26 CH29.1 S29_a26
        show Go _ _ _ _ (T30.setTop (mkF m 102 #[.val (.int n), .val (.int p1), .val (.int p2), .val (.int ((p1 &&& (255 : Int32)).toUInt32.toUInt16.toUInt32.toInt32)), .val (.int ((((p1.toUInt32 >>> ((8 : Int32) &&& 31).toUInt32).toInt32) &&& (255 : Int32)).toUInt32.toUInt16.toUInt32.toInt32)), .val (.int ((p2 &&& (255 : Int32)).toUInt32.toUInt16.toUInt32.toInt32))] [(.ref a26), (.ref a24), (.ref a24)]))
        refine Go.via (fun t_ k_ => XS.dup H30.here hx rfl (hb hby d1_102) rfl rfl k_) ?_
        show Go _ _ _ _ (T30.setTop (mkF m 103 #[.val (.int n), .val (.int p1), .val (.int p2), .val (.int ((p1 &&& (255 : Int32)).toUInt32.toUInt16.toUInt32.toInt32)), .val (.int ((((p1.toUInt32 >>> ((8 : Int32) &&& 31).toUInt32).toInt32) &&& (255 : Int32)).toUInt32.toUInt16.toUInt32.toInt32)), .val (.int ((p2 &&& (255 : Int32)).toUInt32.toUInt16.toUInt32.toInt32))] [(.ref a26), (.ref a26), (.ref a24), (.ref a24)]))
        refine Go.via (fun t_ k_ => XS.iconst H30.here hx rfl (hb hby d1_103) k_) ?_
        show Go _ _ _ _ (T30.setTop (mkF m 104 #[.val (.int n), .val (.int p1), .val (.int p2), .val (.int ((p1 &&& (255 : Int32)).toUInt32.toUInt16.toUInt32.toInt32)), .val (.int ((((p1.toUInt32 >>> ((8 : Int32) &&& 31).toUInt32).toInt32) &&& (255 : Int32)).toUInt32.toUInt16.toUInt32.toInt32)), .val (.int ((p2 &&& (255 : Int32)).toUInt32.toUInt16.toUInt32.toInt32))] [(.int (2 : Int32)), (.ref a26), (.ref a26), (.ref a24), (.ref a24)]))
        refine Go.via (fun t_ k_ => XS.iload H30.here hx rfl (hb hby d1_104) rfl k_) ?_
        show Go _ _ _ _ (T30.setTop (mkF m 106 #[.val (.int n), .val (.int p1), .val (.int p2), .val (.int ((p1 &&& (255 : Int32)).toUInt32.toUInt16.toUInt32.toInt32)), .val (.int ((((p1.toUInt32 >>> ((8 : Int32) &&& 31).toUInt32).toInt32) &&& (255 : Int32)).toUInt32.toUInt16.toUInt32.toInt32)), .val (.int ((p2 &&& (255 : Int32)).toUInt32.toUInt16.toUInt32.toInt32))] [(.int ((p2 &&& (255 : Int32)).toUInt32.toUInt16.toUInt32.toInt32)), (.int (2 : Int32)), (.ref a26), (.ref a26), (.ref a24), (.ref a24)]))
        refine own_stCA H30 hx hZ B30 (j := 2) (by decide) (by decide) g_a26 (g := (mkF m 106 #[.val (.int n), .val (.int p1), .val (.int p2), .val (.int ((p1 &&& (255 : Int32)).toUInt32.toUInt16.toUInt32.toInt32)), .val (.int ((((p1.toUInt32 >>> ((8 : Int32) &&& 31).toUInt32).toInt32) &&& (255 : Int32)).toUInt32.toUInt16.toUInt32.toInt32)), .val (.int ((p2 &&& (255 : Int32)).toUInt32.toUInt16.toUInt32.toInt32))] [(.int ((p2 &&& (255 : Int32)).toUInt32.toUInt16.toUInt32.toInt32)), (.int (2 : Int32)), (.ref a26), (.ref a26), (.ref a24), (.ref a24)])) rfl rfl (hb hby d1_106) ?_
        intro T32 h32 W32 B32 H32
        have sz32 : n0 ≤ h32.size := Nat.le_trans sz30 (Keep.of_wr W32).1
        have K32 := (K30).wr W32 (Or.inr kin_a26)
        have CH33 := CH31.trans (CHr.wr W32 S31_a26 CH31.1)
        have S33_a24 := Safe.wr W32 S31_a26 CH31.1 S31_a24
        have S33_a26 := Safe.wr W32 S31_a26 CH31.1 S31_a26
        show Go _ _ _ _ (T32.setTop (mkF m 107 #[.val (.int n), .val (.int p1), .val (.int p2), .val (.int ((p1 &&& (255 : Int32)).toUInt32.toUInt16.toUInt32.toInt32)), .val (.int ((((p1.toUInt32 >>> ((8 : Int32) &&& 31).toUInt32).toInt32) &&& (255 : Int32)).toUInt32.toUInt16.toUInt32.toInt32)), .val (.int ((p2 &&& (255 : Int32)).toUInt32.toUInt16.toUInt32.toInt32))] [(.ref a26), (.ref a24), (.ref a24)]))
        refine own_callI H32 hx hZ (y := (⟨"java/lang/String", "<init>", "([C)V"⟩ : MethodName)) (a := a24) rfl hown (hw _ (List.mem_of_getElem? (i := 8) rfl)) (hw _ (List.mem_of_getElem? (i := 9) rfl)) (hw _ (List.mem_of_getElem? (i := 6) rfl)) (hw _ (List.mem_of_getElem? (i := 10) rfl)) (by decide) (rmI1_3 l Z a0 hw a24 a26 (upd (upd (upd (fun _ => (0 : Int32)) 0 (nar .char ((p1 &&& (255 : Int32)).toUInt32.toUInt16.toUInt32.toInt32))) 1 (nar .char ((((p1.toUInt32 >>> ((8 : Int32) &&& 31).toUInt32).toInt32) &&& (255 : Int32)).toUInt32.toUInt16.toUInt32.toInt32))) 2 (nar .char ((p2 &&& (255 : Int32)).toUInt32.toUInt16.toUInt32.toInt32))) cs h32 n0 (((((OL.ext E24).ext E26).wr W28 g_a26).wr W30 g_a26).wr W32 g_a26) SC hcs ((((A24.ext E26).wr W28).wr W30).wr W32) ((((F24_value.ext E26).other W28 (Or.inl ne_a24_a26)).other W30 (Or.inl ne_a24_a26)).other W32 (Or.inl ne_a24_a26)) ((((F24_coder.ext E26).other W28 (Or.inl ne_a24_a26)).other W30 (Or.inl ne_a24_a26)).other W32 (Or.inl ne_a24_a26)) g_a24 B32 (by intro j hj; rcases Nat.lt_succ_iff_lt_or_eq.mp hj with hj | rfl; rotate_left; exact own_le _; rcases Nat.lt_succ_iff_lt_or_eq.mp hj with hj | rfl; rotate_left; exact own_le _; rcases Nat.lt_succ_iff_lt_or_eq.mp hj with hj | rfl; rotate_left; exact own_le _; exact absurd hj (Nat.not_lt_zero _))) (g := (mkF m 107 #[.val (.int n), .val (.int p1), .val (.int p2), .val (.int ((p1 &&& (255 : Int32)).toUInt32.toUInt16.toUInt32.toInt32)), .val (.int ((((p1.toUInt32 >>> ((8 : Int32) &&& 31).toUInt32).toInt32) &&& (255 : Int32)).toUInt32.toUInt16.toUInt32.toInt32)), .val (.int ((p2 &&& (255 : Int32)).toUInt32.toUInt16.toUInt32.toInt32))] [(.ref a26), (.ref a24), (.ref a24)])) rfl (by rw [hml]; rfl) (argsL := [(.ref a26)]) (rest := [(.ref a24)]) (lenOf pd_4 rfl) rfl 1 (Nat.le_of_eq rfl) (hb hby d1_107) (by decide) (by decide) (by decide) (by decide) ?_
        rintro _ T34 h34 ⟨rfl, K34⟩ H34
        show Go _ _ _ _ (T34.setTop (mkF m 110 #[.val (.int n), .val (.int p1), .val (.int p2), .val (.int ((p1 &&& (255 : Int32)).toUInt32.toUInt16.toUInt32.toInt32)), .val (.int ((((p1.toUInt32 >>> ((8 : Int32) &&& 31).toUInt32).toInt32) &&& (255 : Int32)).toUInt32.toUInt16.toUInt32.toInt32)), .val (.int ((p2 &&& (255 : Int32)).toUInt32.toUInt16.toUInt32.toInt32))] [(.ref a24)]))
        have CH35 := CH33.trans (CHr.keep K34 (allS S33_a24 all0) CH33.1)
        have S35_a24 := Safe.keep K34 (allS S33_a24 all0) CH33.1 S33_a24
        have S35_a26 := Safe.keep K34 (allS S33_a24 all0) CH33.1 S33_a26
        exact own_retAH H34 ((((((LB.grow E24.1).grow E26.1).grow (Keep.of_wr W28).1).grow (Keep.of_wr W30).1).grow (Keep.of_wr W32).1).grow K34.1) CH35 hZ hEL hx hlk rfl hret rfl rfl (hb hby d1_110) ⟨_, rfl, (K32.trans K34 (allS (Or.inr kin_a24) all0))⟩ (by decide) (by decide)
theorem d9_0 : decode jdk_30_method_1_code 0 = .ok (.aload_n 0, 1) := by decide +kernel
theorem d9_1 : decode jdk_30_method_1_code 1 = .ok (.invokespecial 1, 3) := by decide +kernel
theorem d9_4 : decode jdk_30_method_1_code 4 = .ok (.return_, 1) := by decide +kernel
theorem ef_rmRec (m : MethodId) (x0 : Addr) : entryFrame m #[(.ref x0)] 1 = mkF m 0 #[.val (.ref x0)] [] := by first | (simp [entryFrame, mkF, argsToLocals, Value.category]; done) | rfl
set_option maxRecDepth 65536 in
set_option maxHeartbeats 40000000 in
theorem rmRec (l : Launch) (Z : State) (a0 : Array Value) (hw : ∀ d ∈ tables_1, d.before a0 Z = true) (a : Addr) (h0 : Heap) (n0 : Nat)  :
    CM l Z (⟨"java/lang/Record", "<init>", "()V"⟩ : MethodName) jdk_30_method_1_code 1 none ({ frames := 1, cells := 0, slots := 0, locals := 12 } : Room) #[(.ref a)] h0 n0 (fun v h => v = none ∧ h0 = h) := by
  refine own_enter (by decide +kernel) ?_
  intro p e s m below meth c T0 hx hby hml hown hnm hZ hret hlk H0
  replace hown : s.vm.findClass "java/lang/Record" = some m.cls := hown
  replace hret : meth.sig.returnType = none := hret
  refine Go.via (fun t_ k_ => castTop (ef_rmRec m a) k_) ?_
  show Go _ _ _ _ (T0.setTop (mkF m 0 #[.val (.ref a)] []))
  refine Go.via (fun t_ k_ => XS.aloadN H0.here hx rfl (hb hby d9_0) rfl rfl k_) ?_
  show Go _ _ _ _ (T0.setTop (mkF m 1 #[.val (.ref a)] [(.ref a)]))
  refine own_initO H0 hx hZ hown (hw _ (List.mem_of_getElem? (i := 45) rfl)) (hw _ (List.mem_of_getElem? (i := 16) rfl)) (hw _ (List.mem_of_getElem? (i := 17) rfl)) (g := (mkF m 1 #[.val (.ref a)] [(.ref a)])) rfl (by rw [hml]; rfl) rfl (hb hby d9_1) (by decide) 0 (Nat.le_of_eq rfl) (by decide) ?_
  intro T1 H1
  show Go _ _ _ _ (T1.setTop (mkF m 4 #[.val (.ref a)] []))
  exact own_retV H1 hx hlk hret (hb hby d9_4) ⟨rfl, rfl⟩ (by decide) (by decide)
theorem d8_0 : decode prog_67_method_1_code 0 = .ok (.aload_n 0, 1) := by decide +kernel
theorem d8_1 : decode prog_67_method_1_code 1 = .ok (.invokespecial 1, 3) := by decide +kernel
theorem d8_4 : decode prog_67_method_1_code 4 = .ok (.aload_n 0, 1) := by decide +kernel
theorem d8_5 : decode prog_67_method_1_code 5 = .ok (.iload_n 1, 1) := by decide +kernel
theorem d8_6 : decode prog_67_method_1_code 6 = .ok (.putfield 7, 3) := by decide +kernel
theorem d8_9 : decode prog_67_method_1_code 9 = .ok (.aload_n 0, 1) := by decide +kernel
theorem d8_10 : decode prog_67_method_1_code 10 = .ok (.aload_n 2, 1) := by decide +kernel
theorem d8_11 : decode prog_67_method_1_code 11 = .ok (.putfield 13, 3) := by decide +kernel
theorem d8_14 : decode prog_67_method_1_code 14 = .ok (.aload_n 0, 1) := by decide +kernel
theorem d8_15 : decode prog_67_method_1_code 15 = .ok (.aload_n 3, 1) := by decide +kernel
theorem d8_16 : decode prog_67_method_1_code 16 = .ok (.putfield 17, 3) := by decide +kernel
theorem d8_19 : decode prog_67_method_1_code 19 = .ok (.return_, 1) := by decide +kernel
theorem ef_rmPI (m : MethodId) (x0 : Addr) (x1 : Int32) (x2 : Addr) (x3 : Addr) : entryFrame m #[(.ref x0), (.int x1), (.ref x2), (.ref x3)] 4 = mkF m 0 #[.val (.ref x0), .val (.int x1), .val (.ref x2), .val (.ref x3)] [] := by first | (simp [entryFrame, mkF, argsToLocals, Value.category]; done) | rfl
theorem pd_5 : parseMethodDescriptor "()V" = some ⟨[], none⟩ := by decide +kernel
set_option maxRecDepth 65536 in
set_option maxHeartbeats 40000000 in
theorem rmPI (l : Launch) (Z : State) (a0 : Array Value) (hw : ∀ d ∈ tables_1, d.before a0 Z = true) (a b1 b2 : Addr) (i : Int32) (h0 : Heap) (n0 : Nat) (E : Exa Z h0 a "com/example/equisetum/equisetum/ExternalEntities$Preempting") (F_entity : Fld Z h0 a "com/example/equisetum/equisetum/ExternalEntities$Preempting" "entity" "I" (.int (0 : Int32))) (F_declarations : Fld Z h0 a "com/example/equisetum/equisetum/ExternalEntities$Preempting" "declarations" "Ljava/lang/String;" .null) (F_ownText : Fld Z h0 a "com/example/equisetum/equisetum/ExternalEntities$Preempting" "ownText" "Ljava/lang/String;" .null) (g : n0 ≤ a) :
    CM l Z (⟨"com/example/equisetum/equisetum/ExternalEntities$Preempting", "<init>", "(ILjava/lang/String;Ljava/lang/String;)V"⟩ : MethodName) prog_67_method_1_code 4 none ({ frames := 2, cells := 0, slots := 0, locals := 24 } : Room) #[(.ref a), (.int i), (.ref b1), (.ref b2)] h0 n0 (fun v h => v = none ∧ Keep h0 h [a] ∧ Exa Z h a "com/example/equisetum/equisetum/ExternalEntities$Preempting" ∧ Fld Z h a "com/example/equisetum/equisetum/ExternalEntities$Preempting" "ownText" "Ljava/lang/String;" (.ref b2)) := by
  refine own_enter (by decide +kernel) ?_
  intro p e s m below meth c T0 hx hby hml hown hnm hZ hret hlk H0
  replace hown : s.vm.findClass "com/example/equisetum/equisetum/ExternalEntities$Preempting" = some m.cls := hown
  replace hret : meth.sig.returnType = none := hret
  refine Go.via (fun t_ k_ => castTop (ef_rmPI m a i b1 b2) k_) ?_
  show Go _ _ _ _ (T0.setTop (mkF m 0 #[.val (.ref a), .val (.int i), .val (.ref b1), .val (.ref b2)] []))
  refine Go.via (fun t_ k_ => XS.aloadN H0.here hx rfl (hb hby d8_0) rfl rfl k_) ?_
  show Go _ _ _ _ (T0.setTop (mkF m 1 #[.val (.ref a), .val (.int i), .val (.ref b1), .val (.ref b2)] [(.ref a)]))
  refine own_callI H0 hx hZ (y := (⟨"java/lang/Record", "<init>", "()V"⟩ : MethodName)) (a := a) rfl hown (hw _ (List.mem_of_getElem? (i := 40) rfl)) (hw _ (List.mem_of_getElem? (i := 41) rfl)) (hw _ (List.mem_of_getElem? (i := 43) rfl)) (hw _ (List.mem_of_getElem? (i := 44) rfl)) (by decide) (rmRec l Z a0 hw a h0 n0) (g := (mkF m 1 #[.val (.ref a), .val (.int i), .val (.ref b1), .val (.ref b2)] [(.ref a)])) rfl (by rw [hml]; rfl) (argsL := []) (rest := []) (lenOf pd_5 rfl) rfl 0 (Nat.le_of_eq rfl) (hb hby d8_1) (by decide) (by decide) (by decide) (by decide) ?_
  rintro _ T1 _ ⟨rfl, rfl⟩ H1
  show Go _ _ _ _ (T1.setTop (mkF m 4 #[.val (.ref a), .val (.int i), .val (.ref b1), .val (.ref b2)] []))
  refine Go.via (fun t_ k_ => XS.aloadN H1.here hx rfl (hb hby d8_4) rfl rfl k_) ?_
  show Go _ _ _ _ (T1.setTop (mkF m 5 #[.val (.ref a), .val (.int i), .val (.ref b1), .val (.ref b2)] [(.ref a)]))
  refine Go.via (fun t_ k_ => XS.iloadN H1.here hx rfl (hb hby d8_5) rfl k_) ?_
  show Go _ _ _ _ (T1.setTop (mkF m 6 #[.val (.ref a), .val (.int i), .val (.ref b1), .val (.ref b2)] [(.int i), (.ref a)]))
  refine own_putF H1 hx hZ hown (hw _ (List.mem_of_getElem? (i := 46) rfl)) F_entity E (Or.inr ⟨(hw _ (List.mem_of_getElem? (i := 47) rfl)), rfl, hnm⟩) (hw _ (List.mem_of_getElem? (i := 35) rfl)) g (ty := .int) (by decide) rfl rfl (g := (mkF m 6 #[.val (.ref a), .val (.int i), .val (.ref b1), .val (.ref b2)] [(.int i), (.ref a)])) rfl rfl (hb hby d8_6) ?_
  intro T2 h2 W2 H2
  have F2_entity := F_entity.same W2
  have K2 := ((Keep.refl h0 [a])).wr W2 (Or.inl (List.mem_cons_self ..))
  show Go _ _ _ _ (T2.setTop (mkF m 9 #[.val (.ref a), .val (.int i), .val (.ref b1), .val (.ref b2)] []))
  refine Go.via (fun t_ k_ => XS.aloadN H2.here hx rfl (hb hby d8_9) rfl rfl k_) ?_
  show Go _ _ _ _ (T2.setTop (mkF m 10 #[.val (.ref a), .val (.int i), .val (.ref b1), .val (.ref b2)] [(.ref a)]))
  refine Go.via (fun t_ k_ => XS.aloadN H2.here hx rfl (hb hby d8_10) rfl rfl k_) ?_
  show Go _ _ _ _ (T2.setTop (mkF m 11 #[.val (.ref a), .val (.int i), .val (.ref b1), .val (.ref b2)] [(.ref b1), (.ref a)]))
  refine own_putF H2 hx hZ hown (hw _ (List.mem_of_getElem? (i := 48) rfl)) (F_declarations.other W2 (Or.inr (slot_ne (Or.inr (hw _ (List.mem_of_getElem? (i := 49) rfl))) (Or.inr (hw _ (List.mem_of_getElem? (i := 47) rfl))) (by decide) (t := (.object "java/lang/String")) (t' := .int) (by decide) (by decide)))) (E.wr W2) (Or.inr ⟨(hw _ (List.mem_of_getElem? (i := 49) rfl)), rfl, hnm⟩) (hw _ (List.mem_of_getElem? (i := 35) rfl)) g (ty := (.object "java/lang/String")) (by decide) rfl rfl (g := (mkF m 11 #[.val (.ref a), .val (.int i), .val (.ref b1), .val (.ref b2)] [(.ref b1), (.ref a)])) rfl rfl (hb hby d8_11) ?_
  intro T3 h3 W3 H3
  have F3_declarations := (F_declarations.other W2 (Or.inr (slot_ne (Or.inr (hw _ (List.mem_of_getElem? (i := 49) rfl))) (Or.inr (hw _ (List.mem_of_getElem? (i := 47) rfl))) (by decide) (t := (.object "java/lang/String")) (t' := .int) (by decide) (by decide)))).same W3
  have K3 := (K2).wr W3 (Or.inl (List.mem_cons_self ..))
  show Go _ _ _ _ (T3.setTop (mkF m 14 #[.val (.ref a), .val (.int i), .val (.ref b1), .val (.ref b2)] []))
  refine Go.via (fun t_ k_ => XS.aloadN H3.here hx rfl (hb hby d8_14) rfl rfl k_) ?_
  show Go _ _ _ _ (T3.setTop (mkF m 15 #[.val (.ref a), .val (.int i), .val (.ref b1), .val (.ref b2)] [(.ref a)]))
  refine Go.via (fun t_ k_ => XS.aloadN H3.here hx rfl (hb hby d8_15) rfl rfl k_) ?_
  show Go _ _ _ _ (T3.setTop (mkF m 16 #[.val (.ref a), .val (.int i), .val (.ref b1), .val (.ref b2)] [(.ref b2), (.ref a)]))
  refine own_putF H3 hx hZ hown (hw _ (List.mem_of_getElem? (i := 50) rfl)) ((F_ownText.other W2 (Or.inr (slot_ne (Or.inr (hw _ (List.mem_of_getElem? (i := 51) rfl))) (Or.inr (hw _ (List.mem_of_getElem? (i := 47) rfl))) (by decide) (t := (.object "java/lang/String")) (t' := .int) (by decide) (by decide)))).other W3 (Or.inr (slot_ne (Or.inr (hw _ (List.mem_of_getElem? (i := 51) rfl))) (Or.inr (hw _ (List.mem_of_getElem? (i := 49) rfl))) (by decide) (t := (.object "java/lang/String")) (t' := (.object "java/lang/String")) (by decide) (by decide)))) ((E.wr W2).wr W3) (Or.inr ⟨(hw _ (List.mem_of_getElem? (i := 51) rfl)), rfl, hnm⟩) (hw _ (List.mem_of_getElem? (i := 35) rfl)) g (ty := (.object "java/lang/String")) (by decide) rfl rfl (g := (mkF m 16 #[.val (.ref a), .val (.int i), .val (.ref b1), .val (.ref b2)] [(.ref b2), (.ref a)])) rfl rfl (hb hby d8_16) ?_
  intro T4 h4 W4 H4
  have F4_ownText := ((F_ownText.other W2 (Or.inr (slot_ne (Or.inr (hw _ (List.mem_of_getElem? (i := 51) rfl))) (Or.inr (hw _ (List.mem_of_getElem? (i := 47) rfl))) (by decide) (t := (.object "java/lang/String")) (t' := .int) (by decide) (by decide)))).other W3 (Or.inr (slot_ne (Or.inr (hw _ (List.mem_of_getElem? (i := 51) rfl))) (Or.inr (hw _ (List.mem_of_getElem? (i := 49) rfl))) (by decide) (t := (.object "java/lang/String")) (t' := (.object "java/lang/String")) (by decide) (by decide)))).same W4
  have K4 := (K3).wr W4 (Or.inl (List.mem_cons_self ..))
  show Go _ _ _ _ (T4.setTop (mkF m 19 #[.val (.ref a), .val (.int i), .val (.ref b1), .val (.ref b2)] []))
  exact own_retV H4 hx hlk hret (hb hby d8_19) ⟨rfl, K4, (((E.wr W2).wr W3).wr W4), F4_ownText⟩ (by decide) (by decide)
theorem ef_rmPIn (m : MethodId) (x0 : Addr) (x1 : Int32) (x2 : Addr) : entryFrame m #[(.ref x0), (.int x1), (.ref x2), .null] 4 = mkF m 0 #[.val (.ref x0), .val (.int x1), .val (.ref x2), .val .null] [] := by first | (simp [entryFrame, mkF, argsToLocals, Value.category]; done) | rfl
set_option maxRecDepth 65536 in
set_option maxHeartbeats 40000000 in
theorem rmPIn (l : Launch) (Z : State) (a0 : Array Value) (hw : ∀ d ∈ tables_1, d.before a0 Z = true) (a b1 : Addr) (i : Int32) (h0 : Heap) (n0 : Nat) (E : Exa Z h0 a "com/example/equisetum/equisetum/ExternalEntities$Preempting") (F_entity : Fld Z h0 a "com/example/equisetum/equisetum/ExternalEntities$Preempting" "entity" "I" (.int (0 : Int32))) (F_declarations : Fld Z h0 a "com/example/equisetum/equisetum/ExternalEntities$Preempting" "declarations" "Ljava/lang/String;" .null) (F_ownText : Fld Z h0 a "com/example/equisetum/equisetum/ExternalEntities$Preempting" "ownText" "Ljava/lang/String;" .null) (g : n0 ≤ a) :
    CM l Z (⟨"com/example/equisetum/equisetum/ExternalEntities$Preempting", "<init>", "(ILjava/lang/String;Ljava/lang/String;)V"⟩ : MethodName) prog_67_method_1_code 4 none ({ frames := 2, cells := 0, slots := 0, locals := 24 } : Room) #[(.ref a), (.int i), (.ref b1), .null] h0 n0 (fun v h => v = none ∧ Keep h0 h [a] ∧ Exa Z h a "com/example/equisetum/equisetum/ExternalEntities$Preempting" ∧ Fld Z h a "com/example/equisetum/equisetum/ExternalEntities$Preempting" "ownText" "Ljava/lang/String;" .null) := by
  refine own_enter (by decide +kernel) ?_
  intro p e s m below meth c T0 hx hby hml hown hnm hZ hret hlk H0
  replace hown : s.vm.findClass "com/example/equisetum/equisetum/ExternalEntities$Preempting" = some m.cls := hown
  replace hret : meth.sig.returnType = none := hret
  refine Go.via (fun t_ k_ => castTop (ef_rmPIn m a i b1) k_) ?_
  show Go _ _ _ _ (T0.setTop (mkF m 0 #[.val (.ref a), .val (.int i), .val (.ref b1), .val .null] []))
  refine Go.via (fun t_ k_ => XS.aloadN H0.here hx rfl (hb hby d8_0) rfl rfl k_) ?_
  show Go _ _ _ _ (T0.setTop (mkF m 1 #[.val (.ref a), .val (.int i), .val (.ref b1), .val .null] [(.ref a)]))
  refine own_callI H0 hx hZ (y := (⟨"java/lang/Record", "<init>", "()V"⟩ : MethodName)) (a := a) rfl hown (hw _ (List.mem_of_getElem? (i := 40) rfl)) (hw _ (List.mem_of_getElem? (i := 41) rfl)) (hw _ (List.mem_of_getElem? (i := 43) rfl)) (hw _ (List.mem_of_getElem? (i := 44) rfl)) (by decide) (rmRec l Z a0 hw a h0 n0) (g := (mkF m 1 #[.val (.ref a), .val (.int i), .val (.ref b1), .val .null] [(.ref a)])) rfl (by rw [hml]; rfl) (argsL := []) (rest := []) (lenOf pd_5 rfl) rfl 0 (Nat.le_of_eq rfl) (hb hby d8_1) (by decide) (by decide) (by decide) (by decide) ?_
  rintro _ T1 _ ⟨rfl, rfl⟩ H1
  show Go _ _ _ _ (T1.setTop (mkF m 4 #[.val (.ref a), .val (.int i), .val (.ref b1), .val .null] []))
  refine Go.via (fun t_ k_ => XS.aloadN H1.here hx rfl (hb hby d8_4) rfl rfl k_) ?_
  show Go _ _ _ _ (T1.setTop (mkF m 5 #[.val (.ref a), .val (.int i), .val (.ref b1), .val .null] [(.ref a)]))
  refine Go.via (fun t_ k_ => XS.iloadN H1.here hx rfl (hb hby d8_5) rfl k_) ?_
  show Go _ _ _ _ (T1.setTop (mkF m 6 #[.val (.ref a), .val (.int i), .val (.ref b1), .val .null] [(.int i), (.ref a)]))
  refine own_putF H1 hx hZ hown (hw _ (List.mem_of_getElem? (i := 46) rfl)) F_entity E (Or.inr ⟨(hw _ (List.mem_of_getElem? (i := 47) rfl)), rfl, hnm⟩) (hw _ (List.mem_of_getElem? (i := 35) rfl)) g (ty := .int) (by decide) rfl rfl (g := (mkF m 6 #[.val (.ref a), .val (.int i), .val (.ref b1), .val .null] [(.int i), (.ref a)])) rfl rfl (hb hby d8_6) ?_
  intro T2 h2 W2 H2
  have F2_entity := F_entity.same W2
  have K2 := ((Keep.refl h0 [a])).wr W2 (Or.inl (List.mem_cons_self ..))
  show Go _ _ _ _ (T2.setTop (mkF m 9 #[.val (.ref a), .val (.int i), .val (.ref b1), .val .null] []))
  refine Go.via (fun t_ k_ => XS.aloadN H2.here hx rfl (hb hby d8_9) rfl rfl k_) ?_
  show Go _ _ _ _ (T2.setTop (mkF m 10 #[.val (.ref a), .val (.int i), .val (.ref b1), .val .null] [(.ref a)]))
  refine Go.via (fun t_ k_ => XS.aloadN H2.here hx rfl (hb hby d8_10) rfl rfl k_) ?_
  show Go _ _ _ _ (T2.setTop (mkF m 11 #[.val (.ref a), .val (.int i), .val (.ref b1), .val .null] [(.ref b1), (.ref a)]))
  refine own_putF H2 hx hZ hown (hw _ (List.mem_of_getElem? (i := 48) rfl)) (F_declarations.other W2 (Or.inr (slot_ne (Or.inr (hw _ (List.mem_of_getElem? (i := 49) rfl))) (Or.inr (hw _ (List.mem_of_getElem? (i := 47) rfl))) (by decide) (t := (.object "java/lang/String")) (t' := .int) (by decide) (by decide)))) (E.wr W2) (Or.inr ⟨(hw _ (List.mem_of_getElem? (i := 49) rfl)), rfl, hnm⟩) (hw _ (List.mem_of_getElem? (i := 35) rfl)) g (ty := (.object "java/lang/String")) (by decide) rfl rfl (g := (mkF m 11 #[.val (.ref a), .val (.int i), .val (.ref b1), .val .null] [(.ref b1), (.ref a)])) rfl rfl (hb hby d8_11) ?_
  intro T3 h3 W3 H3
  have F3_declarations := (F_declarations.other W2 (Or.inr (slot_ne (Or.inr (hw _ (List.mem_of_getElem? (i := 49) rfl))) (Or.inr (hw _ (List.mem_of_getElem? (i := 47) rfl))) (by decide) (t := (.object "java/lang/String")) (t' := .int) (by decide) (by decide)))).same W3
  have K3 := (K2).wr W3 (Or.inl (List.mem_cons_self ..))
  show Go _ _ _ _ (T3.setTop (mkF m 14 #[.val (.ref a), .val (.int i), .val (.ref b1), .val .null] []))
  refine Go.via (fun t_ k_ => XS.aloadN H3.here hx rfl (hb hby d8_14) rfl rfl k_) ?_
  show Go _ _ _ _ (T3.setTop (mkF m 15 #[.val (.ref a), .val (.int i), .val (.ref b1), .val .null] [(.ref a)]))
  refine Go.via (fun t_ k_ => XS.aloadN H3.here hx rfl (hb hby d8_15) rfl rfl k_) ?_
  show Go _ _ _ _ (T3.setTop (mkF m 16 #[.val (.ref a), .val (.int i), .val (.ref b1), .val .null] [.null, (.ref a)]))
  refine own_putF H3 hx hZ hown (hw _ (List.mem_of_getElem? (i := 50) rfl)) ((F_ownText.other W2 (Or.inr (slot_ne (Or.inr (hw _ (List.mem_of_getElem? (i := 51) rfl))) (Or.inr (hw _ (List.mem_of_getElem? (i := 47) rfl))) (by decide) (t := (.object "java/lang/String")) (t' := .int) (by decide) (by decide)))).other W3 (Or.inr (slot_ne (Or.inr (hw _ (List.mem_of_getElem? (i := 51) rfl))) (Or.inr (hw _ (List.mem_of_getElem? (i := 49) rfl))) (by decide) (t := (.object "java/lang/String")) (t' := (.object "java/lang/String")) (by decide) (by decide)))) ((E.wr W2).wr W3) (Or.inr ⟨(hw _ (List.mem_of_getElem? (i := 51) rfl)), rfl, hnm⟩) (hw _ (List.mem_of_getElem? (i := 35) rfl)) g (ty := (.object "java/lang/String")) (by decide) rfl rfl (g := (mkF m 16 #[.val (.ref a), .val (.int i), .val (.ref b1), .val .null] [.null, (.ref a)])) rfl rfl (hb hby d8_16) ?_
  intro T4 h4 W4 H4
  have F4_ownText := ((F_ownText.other W2 (Or.inr (slot_ne (Or.inr (hw _ (List.mem_of_getElem? (i := 51) rfl))) (Or.inr (hw _ (List.mem_of_getElem? (i := 47) rfl))) (by decide) (t := (.object "java/lang/String")) (t' := .int) (by decide) (by decide)))).other W3 (Or.inr (slot_ne (Or.inr (hw _ (List.mem_of_getElem? (i := 51) rfl))) (Or.inr (hw _ (List.mem_of_getElem? (i := 49) rfl))) (by decide) (t := (.object "java/lang/String")) (t' := (.object "java/lang/String")) (by decide) (by decide)))).same W4
  have K4 := (K3).wr W4 (Or.inl (List.mem_cons_self ..))
  show Go _ _ _ _ (T4.setTop (mkF m 19 #[.val (.ref a), .val (.int i), .val (.ref b1), .val .null] []))
  exact own_retV H4 hx hlk hret (hb hby d8_19) ⟨rfl, K4, (((E.wr W2).wr W3).wr W4), F4_ownText⟩ (by decide) (by decide)
theorem d10_0 : decode prog_67_method_2_code 0 = .ok (.aload_n 0, 1) := by decide +kernel
theorem d10_1 : decode prog_67_method_2_code 1 = .ok (.getfield 17, 3) := by decide +kernel
theorem d10_4 : decode prog_67_method_2_code 4 = .ok (.ifnull 7, 3) := by decide +kernel
theorem d10_7 : decode prog_67_method_2_code 7 = .ok (.iconst 1, 1) := by decide +kernel
theorem d10_8 : decode prog_67_method_2_code 8 = .ok (.goto 4, 3) := by decide +kernel
theorem d10_11 : decode prog_67_method_2_code 11 = .ok (.iconst 0, 1) := by decide +kernel
theorem d10_12 : decode prog_67_method_2_code 12 = .ok (.ireturn, 1) := by decide +kernel
theorem ef_rmRd (m : MethodId) (x0 : Addr) : entryFrame m #[(.ref x0)] 1 = mkF m 0 #[.val (.ref x0)] [] := by first | (simp [entryFrame, mkF, argsToLocals, Value.category]; done) | rfl
set_option maxRecDepth 65536 in
set_option maxHeartbeats 40000000 in
theorem rmRd (l : Launch) (Z : State) (a0 : Array Value) (hw : ∀ d ∈ tables_1, d.before a0 Z = true) (a b : Addr) (h0 : Heap) (n0 : Nat) (F : Fld Z h0 a "com/example/equisetum/equisetum/ExternalEntities$Preempting" "ownText" "Ljava/lang/String;" (.ref b)) :
    CM l Z (⟨"com/example/equisetum/equisetum/ExternalEntities$Preempting", "read", "()Z"⟩ : MethodName) prog_67_method_2_code 1 (some .boolean) ({ frames := 0, cells := 0, slots := 0, locals := 0 } : Room) #[(.ref a)] h0 n0 (fun v h => v = some (.int (1 : Int32)) ∧ h0 = h) := by
  refine own_enter (by decide +kernel) ?_
  intro p e s m below meth c T0 hx hby hml hown hnm hZ hret hlk H0
  replace hown : s.vm.findClass "com/example/equisetum/equisetum/ExternalEntities$Preempting" = some m.cls := hown
  replace hret : meth.sig.returnType = some .boolean := hret
  refine Go.via (fun t_ k_ => castTop (ef_rmRd m a) k_) ?_
  show Go _ _ _ _ (T0.setTop (mkF m 0 #[.val (.ref a)] []))
  refine Go.via (fun t_ k_ => XS.aloadN H0.here hx rfl (hb hby d10_0) rfl rfl k_) ?_
  show Go _ _ _ _ (T0.setTop (mkF m 1 #[.val (.ref a)] [(.ref a)]))
  refine own_getF H0 hx hZ hown (hw _ (List.mem_of_getElem? (i := 50) rfl)) F (g := (mkF m 1 #[.val (.ref a)] [(.ref a)])) rfl rfl (hb hby d10_1) ?_
  intro T1 H1
  show Go _ _ _ _ (T1.setTop (mkF m 4 #[.val (.ref a)] [(.ref b)]))
  refine Go.via (fun t_ k_ => XS.ifnullNo H1.here hx rfl (hb hby d10_4) rfl k_) ?_
  show Go _ _ _ _ (T1.setTop (mkF m 7 #[.val (.ref a)] []))
  refine Go.via (fun t_ k_ => XS.iconst H1.here hx rfl (hb hby d10_7) k_) ?_
  show Go _ _ _ _ (T1.setTop (mkF m 8 #[.val (.ref a)] [(.int (1 : Int32))]))
  refine Go.via (fun t_ k_ => XS.goto H1.here hx rfl (pc0 := 8) (pc' := 12) rfl (hb hby d10_8) (by decide) (by decide) k_) ?_
  show Go _ _ _ _ (T1.setTop (mkF m 12 #[.val (.ref a)] [(.int (1 : Int32))]))
  exact own_retN H1 hx hlk (by simp) hret (hb hby d10_12) ⟨rfl, rfl⟩ (by decide) (by decide)
theorem ef_rmRdn (m : MethodId) (x0 : Addr) : entryFrame m #[(.ref x0)] 1 = mkF m 0 #[.val (.ref x0)] [] := by first | (simp [entryFrame, mkF, argsToLocals, Value.category]; done) | rfl
set_option maxRecDepth 65536 in
set_option maxHeartbeats 40000000 in
theorem rmRdn (l : Launch) (Z : State) (a0 : Array Value) (hw : ∀ d ∈ tables_1, d.before a0 Z = true) (a : Addr) (h0 : Heap) (n0 : Nat) (F : Fld Z h0 a "com/example/equisetum/equisetum/ExternalEntities$Preempting" "ownText" "Ljava/lang/String;" .null) :
    CM l Z (⟨"com/example/equisetum/equisetum/ExternalEntities$Preempting", "read", "()Z"⟩ : MethodName) prog_67_method_2_code 1 (some .boolean) ({ frames := 0, cells := 0, slots := 0, locals := 0 } : Room) #[(.ref a)] h0 n0 (fun v h => v = some (.int (0 : Int32)) ∧ h0 = h) := by
  refine own_enter (by decide +kernel) ?_
  intro p e s m below meth c T0 hx hby hml hown hnm hZ hret hlk H0
  replace hown : s.vm.findClass "com/example/equisetum/equisetum/ExternalEntities$Preempting" = some m.cls := hown
  replace hret : meth.sig.returnType = some .boolean := hret
  refine Go.via (fun t_ k_ => castTop (ef_rmRdn m a) k_) ?_
  show Go _ _ _ _ (T0.setTop (mkF m 0 #[.val (.ref a)] []))
  refine Go.via (fun t_ k_ => XS.aloadN H0.here hx rfl (hb hby d10_0) rfl rfl k_) ?_
  show Go _ _ _ _ (T0.setTop (mkF m 1 #[.val (.ref a)] [(.ref a)]))
  refine own_getF H0 hx hZ hown (hw _ (List.mem_of_getElem? (i := 50) rfl)) F (g := (mkF m 1 #[.val (.ref a)] [(.ref a)])) rfl rfl (hb hby d10_1) ?_
  intro T1 H1
  show Go _ _ _ _ (T1.setTop (mkF m 4 #[.val (.ref a)] [.null]))
  refine Go.via (fun t_ k_ => XS.ifnullYes H1.here hx rfl (pc0 := 4) (pc' := 11) rfl (hb hby d10_4) rfl (by decide) (by decide) k_) ?_
  show Go _ _ _ _ (T1.setTop (mkF m 11 #[.val (.ref a)] []))
  refine Go.via (fun t_ k_ => XS.iconst H1.here hx rfl (hb hby d10_11) k_) ?_
  show Go _ _ _ _ (T1.setTop (mkF m 12 #[.val (.ref a)] [(.int (0 : Int32))]))
  exact own_retN H1 hx hlk (by simp) hret (hb hby d10_12) ⟨rfl, rfl⟩ (by decide) (by decide)
theorem ef_rm0 (m : MethodId) (x0 : Int32) (x1 : Int32) (x2 : Int32) (x3 : Int32) : entryFrame m #[(.int x0), (.int x1), (.int x2), (.int x3)] maxLocals = mkF m 0 #[.val (.int x0), .val (.int x1), .val (.int x2), .val (.int x3), .unset, .unset, .unset, .unset, .unset, .unset, .unset] [] := by first | (simp [entryFrame, mkF, argsToLocals, Value.category, maxLocals]; done) | rfl
theorem pd_6 : parseMethodDescriptor "(III)Ljava/lang/String;" = some ⟨[.int, .int, .int], some (.object "java/lang/String")⟩ := by decide +kernel
theorem pd_7 : parseMethodDescriptor "(ILjava/lang/String;Ljava/lang/String;)V" = some ⟨[.int, (.object "java/lang/String"), (.object "java/lang/String")], none⟩ := by decide +kernel
theorem pd_8 : parseMethodDescriptor "()Z" = some ⟨[], some .boolean⟩ := by decide +kernel
set_option maxRecDepth 65536 in
set_option maxHeartbeats 40000000 in
theorem rm0 (l : Launch) (Z : State) (a0 : Array Value) (hw : ∀ d ∈ tables_1, d.before a0 Z = true) (p1 p2 p3 p4 cs : Int32) (nn : Addr) (h0 : Heap) (n0 : Nat) (hn0 : n0 = Z.heap.size) (hh0 : h0 = Z.heap) (hEL : EW Z a0 consts_1) (wS : ∀ a ∈ Bundle.stringAtoms, a.before a0 Z = true) (hheld : ∀ p ∈ consts_1, Jvm.Lit.constHeld Z p.1 p.2) (hcw : Jvm.Lit.compactW.before a0 Z = true) (OL : Old Z n0 h0) (SC : Sta Z Z.heap "java/lang/String" "COMPACT_STRINGS" "Z" (.int cs)) (hcs : ¬ cs = 0) (SN : Sta Z Z.heap "com/example/equisetum/equisetum/ExternalEntities$Preempting" "NONE" "Lcom/example/equisetum/equisetum/ExternalEntities$Preempting;" (.ref nn)) (EN : Exa Z Z.heap nn "com/example/equisetum/equisetum/ExternalEntities$Preempting") (FN : Fld Z Z.heap nn "com/example/equisetum/equisetum/ExternalEntities$Preempting" "ownText" "Ljava/lang/String;" .null) :
    ∀ ws, MetFree l x (head1 (Jvm.Cond.code x code maxLocals ret :: ws) room_1) (fun a U => a = #[(.int p1), (.int p2), (.int p3), (.int p4)] ∧ U = Z) (fun _ _ _ _ _ => True) (fun _ U o U' => ∃ v L, o = .returned v ∧ ((fun v h => v = some (.int (1 : Int32))) v U'.heap ∧ Fr n0 L) ∧ ReturnedEndW U o U' L room_1.cells room_1.slots) := by
  intro ws
  refine own_enterW (Q := (fun v h => v = some (.int (1 : Int32)))) (by decide +kernel) hn0 hh0 ?_
  intro p e m below meth c T0 hx hby hml hown hnm hZ hret hlk H0 LB
  replace hown : (Z.setVm Z.vm).vm.findClass "com/example/equisetum/equisetum/PreemptingReadPinLaw" = some m.cls := hown
  replace hret : meth.sig.returnType = some .boolean := hret
  replace hml : c.maxLocals = 11 := hml
  refine Go.via (fun t_ k_ => castTop (ef_rm0 m p1 p2 p3 p4) k_) ?_
  replace LB : Lw Z Z.vm h0 := LB.1
  have CH : CHr Z consts_1 Z.vm Z.heap Z.vm h0 := by rw [hh0]; exact CHr.refl (CHv.start hEL hheld hcw (hw _ (List.mem_of_getElem? (i := 23) rfl)) (hw _ (List.mem_of_getElem? (i := 5) rfl)))
  show Go _ _ _ _ (T0.setTop (mkF m 0 #[.val (.int p1), .val (.int p2), .val (.int p3), .val (.int p4), .unset, .unset, .unset, .unset, .unset, .unset, .unset] []))
  refine Go.via (fun t_ k_ => XS.iloadN H0.here hx rfl (hb hby at_0) rfl k_) ?_
  show Go _ _ _ _ (T0.setTop (mkF m 1 #[.val (.int p1), .val (.int p2), .val (.int p3), .val (.int p4), .unset, .unset, .unset, .unset, .unset, .unset, .unset] [(.int p2)]))
  refine Go.via (fun t_ k_ => XS.iconst H0.here hx rfl (hb hby at_1) k_) ?_
  show Go _ _ _ _ (T0.setTop (mkF m 2 #[.val (.int p1), .val (.int p2), .val (.int p3), .val (.int p4), .unset, .unset, .unset, .unset, .unset, .unset, .unset] [(.int (3 : Int32)), (.int p2)]))
  refine Go.via (fun t_ k_ => XS.iand H0.here hx rfl (hb hby at_2) rfl k_) ?_
  show Go _ _ _ _ (T0.setTop (mkF m 3 #[.val (.int p1), .val (.int p2), .val (.int p3), .val (.int p4), .unset, .unset, .unset, .unset, .unset, .unset, .unset] [(.int (p2 &&& (3 : Int32)))]))
  refine Go.via (fun t_ k_ => XS.istore H0.here hx rfl (hb hby at_3) rfl (l' := #[.val (.int p1), .val (.int p2), .val (.int p3), .val (.int p4), .val (.int (p2 &&& (3 : Int32))), .unset, .unset, .unset, .unset, .unset, .unset]) rfl k_) ?_
  show Go _ _ _ _ (T0.setTop (mkF m 5 #[.val (.int p1), .val (.int p2), .val (.int p3), .val (.int p4), .val (.int (p2 &&& (3 : Int32))), .unset, .unset, .unset, .unset, .unset, .unset] []))
  refine Go.via (fun t_ k_ => XS.iloadN H0.here hx rfl (hb hby at_5) rfl k_) ?_
  show Go _ _ _ _ (T0.setTop (mkF m 6 #[.val (.int p1), .val (.int p2), .val (.int p3), .val (.int p4), .val (.int (p2 &&& (3 : Int32))), .unset, .unset, .unset, .unset, .unset, .unset] [(.int p2)]))
  refine Go.via (fun t_ k_ => XS.iconst H0.here hx rfl (hb hby at_6) k_) ?_
  show Go _ _ _ _ (T0.setTop (mkF m 7 #[.val (.int p1), .val (.int p2), .val (.int p3), .val (.int p4), .val (.int (p2 &&& (3 : Int32))), .unset, .unset, .unset, .unset, .unset, .unset] [(.int (2 : Int32)), (.int p2)]))
  refine Go.via (fun t_ k_ => XS.iushr H0.here hx rfl (hb hby at_7) rfl k_) ?_
  show Go _ _ _ _ (T0.setTop (mkF m 8 #[.val (.int p1), .val (.int p2), .val (.int p3), .val (.int p4), .val (.int (p2 &&& (3 : Int32))), .unset, .unset, .unset, .unset, .unset, .unset] [(.int ((p2.toUInt32 >>> ((2 : Int32) &&& 31).toUInt32).toInt32))]))
  refine Go.via (fun t_ k_ => XS.iconst H0.here hx rfl (hb hby at_8) k_) ?_
  show Go _ _ _ _ (T0.setTop (mkF m 9 #[.val (.int p1), .val (.int p2), .val (.int p3), .val (.int p4), .val (.int (p2 &&& (3 : Int32))), .unset, .unset, .unset, .unset, .unset, .unset] [(.int (3 : Int32)), (.int ((p2.toUInt32 >>> ((2 : Int32) &&& 31).toUInt32).toInt32))]))
  refine Go.via (fun t_ k_ => XS.iand H0.here hx rfl (hb hby at_9) rfl k_) ?_
  show Go _ _ _ _ (T0.setTop (mkF m 10 #[.val (.int p1), .val (.int p2), .val (.int p3), .val (.int p4), .val (.int (p2 &&& (3 : Int32))), .unset, .unset, .unset, .unset, .unset, .unset] [(.int (((p2.toUInt32 >>> ((2 : Int32) &&& 31).toUInt32).toInt32) &&& (3 : Int32)))]))
  refine Go.via (fun t_ k_ => XS.istore H0.here hx rfl (hb hby at_10) rfl (l' := #[.val (.int p1), .val (.int p2), .val (.int p3), .val (.int p4), .val (.int (p2 &&& (3 : Int32))), .val (.int (((p2.toUInt32 >>> ((2 : Int32) &&& 31).toUInt32).toInt32) &&& (3 : Int32))), .unset, .unset, .unset, .unset, .unset]) rfl k_) ?_
  show Go _ _ _ _ (T0.setTop (mkF m 12 #[.val (.int p1), .val (.int p2), .val (.int p3), .val (.int p4), .val (.int (p2 &&& (3 : Int32))), .val (.int (((p2.toUInt32 >>> ((2 : Int32) &&& 31).toUInt32).toInt32) &&& (3 : Int32))), .unset, .unset, .unset, .unset, .unset] []))
  refine Go.via (fun t_ k_ => XS.iload H0.here hx rfl (hb hby at_12) rfl k_) ?_
  show Go _ _ _ _ (T0.setTop (mkF m 14 #[.val (.int p1), .val (.int p2), .val (.int p3), .val (.int p4), .val (.int (p2 &&& (3 : Int32))), .val (.int (((p2.toUInt32 >>> ((2 : Int32) &&& 31).toUInt32).toInt32) &&& (3 : Int32))), .unset, .unset, .unset, .unset, .unset] [(.int (p2 &&& (3 : Int32)))]))
  refine Go.via (fun t_ k_ => XS.iloadN H0.here hx rfl (hb hby at_14) rfl k_) ?_
  show Go _ _ _ _ (T0.setTop (mkF m 15 #[.val (.int p1), .val (.int p2), .val (.int p3), .val (.int p4), .val (.int (p2 &&& (3 : Int32))), .val (.int (((p2.toUInt32 >>> ((2 : Int32) &&& 31).toUInt32).toInt32) &&& (3 : Int32))), .unset, .unset, .unset, .unset, .unset] [(.int p3), (.int (p2 &&& (3 : Int32)))]))
  refine Go.via (fun t_ k_ => XS.iloadN H0.here hx rfl (hb hby at_15) rfl k_) ?_
  show Go _ _ _ _ (T0.setTop (mkF m 16 #[.val (.int p1), .val (.int p2), .val (.int p3), .val (.int p4), .val (.int (p2 &&& (3 : Int32))), .val (.int (((p2.toUInt32 >>> ((2 : Int32) &&& 31).toUInt32).toInt32) &&& (3 : Int32))), .unset, .unset, .unset, .unset, .unset] [(.int p4), (.int p3), (.int (p2 &&& (3 : Int32)))]))
  refine own_callSH H0 LB CH hEL hx hZ (y := (⟨"com/example/equisetum/equisetum/PreemptingReadPinLaw", "drawn", "(III)Ljava/lang/String;"⟩ : MethodName)) hown (hw _ (List.mem_of_getElem? (i := 0) rfl)) (hw _ (List.mem_of_getElem? (i := 1) rfl)) (hw _ (List.mem_of_getElem? (i := 2) rfl)) (hw _ (List.mem_of_getElem? (i := 3) rfl)) (by decide) (rmDr l Z a0 hw (p2 &&& (3 : Int32)) p3 p4 cs h0 n0 hEL wS OL SC hcs) (g := (mkF m 16 #[.val (.int p1), .val (.int p2), .val (.int p3), .val (.int p4), .val (.int (p2 &&& (3 : Int32))), .val (.int (((p2.toUInt32 >>> ((2 : Int32) &&& 31).toUInt32).toInt32) &&& (3 : Int32))), .unset, .unset, .unset, .unset, .unset] [(.int p4), (.int p3), (.int (p2 &&& (3 : Int32)))])) rfl (by rw [hml]; rfl) (argsL := [(.int (p2 &&& (3 : Int32))), (.int p3), (.int p4)]) (rest := []) (lenOf pd_6 rfl) rfl 0 (Nat.le_of_eq rfl) (hb hby at_16) (by decide) (by decide) (by decide) (by decide) ?_
  rintro _ T1 h1 ⟨b1, rfl, K1⟩ R1 LB1 CH1 hZ hown H1
  show Go _ _ _ _ (T1.setTop (mkF m 19 #[.val (.int p1), .val (.int p2), .val (.int p3), .val (.int p4), .val (.int (p2 &&& (3 : Int32))), .val (.int (((p2.toUInt32 >>> ((2 : Int32) &&& 31).toUInt32).toInt32) &&& (3 : Int32))), .unset, .unset, .unset, .unset, .unset] [(.ref b1)]))
  refine Go.via (fun t_ k_ => XS.astore H1.here hx rfl (hb hby at_19) rfl rfl (l' := #[.val (.int p1), .val (.int p2), .val (.int p3), .val (.int p4), .val (.int (p2 &&& (3 : Int32))), .val (.int (((p2.toUInt32 >>> ((2 : Int32) &&& 31).toUInt32).toInt32) &&& (3 : Int32))), .val (.ref b1), .unset, .unset, .unset, .unset]) rfl k_) ?_
  show Go _ _ _ _ (T1.setTop (mkF m 21 #[.val (.int p1), .val (.int p2), .val (.int p3), .val (.int p4), .val (.int (p2 &&& (3 : Int32))), .val (.int (((p2.toUInt32 >>> ((2 : Int32) &&& 31).toUInt32).toInt32) &&& (3 : Int32))), .val (.ref b1), .unset, .unset, .unset, .unset] []))
  refine Go.via (fun t_ k_ => XS.iload H1.here hx rfl (hb hby at_21) rfl k_) ?_
  show Go _ _ _ _ (T1.setTop (mkF m 23 #[.val (.int p1), .val (.int p2), .val (.int p3), .val (.int p4), .val (.int (p2 &&& (3 : Int32))), .val (.int (((p2.toUInt32 >>> ((2 : Int32) &&& 31).toUInt32).toInt32) &&& (3 : Int32))), .val (.ref b1), .unset, .unset, .unset, .unset] [(.int (((p2.toUInt32 >>> ((2 : Int32) &&& 31).toUInt32).toInt32) &&& (3 : Int32)))]))
  by_cases hc23 : (((p2.toUInt32 >>> ((2 : Int32) &&& 31).toUInt32).toInt32) &&& (3 : Int32)) = (0 : Int32)
  · refine Go.via (fun t_ k_ => XS.ifNo H1.here hx rfl (hb hby at_23) rfl ((if0 _ _).trans (teq hc23).2) k_) ?_
    show Go _ _ _ _ (T1.setTop (mkF m 26 #[.val (.int p1), .val (.int p2), .val (.int p3), .val (.int p4), .val (.int (p2 &&& (3 : Int32))), .val (.int (((p2.toUInt32 >>> ((2 : Int32) &&& 31).toUInt32).toInt32) &&& (3 : Int32))), .val (.ref b1), .unset, .unset, .unset, .unset] []))
    refine Go.via (fun t_ k_ => XS.aconstNull H1.here hx rfl (hb hby at_26) k_) ?_
    show Go _ _ _ _ (T1.setTop (mkF m 27 #[.val (.int p1), .val (.int p2), .val (.int p3), .val (.int p4), .val (.int (p2 &&& (3 : Int32))), .val (.int (((p2.toUInt32 >>> ((2 : Int32) &&& 31).toUInt32).toInt32) &&& (3 : Int32))), .val (.ref b1), .unset, .unset, .unset, .unset] [.null]))
    refine Go.via (fun t_ k_ => XS.goto H1.here hx rfl (pc0 := 27) (pc' := 39) rfl (hb hby at_27) (by decide) (by decide) k_) ?_
    show Go _ _ _ _ (T1.setTop (mkF m 39 #[.val (.int p1), .val (.int p2), .val (.int p3), .val (.int p4), .val (.int (p2 &&& (3 : Int32))), .val (.int (((p2.toUInt32 >>> ((2 : Int32) &&& 31).toUInt32).toInt32) &&& (3 : Int32))), .val (.ref b1), .unset, .unset, .unset, .unset] [.null]))
    refine Go.via (fun t_ k_ => XS.astore H1.here hx rfl (hb hby at_39) rfl rfl (l' := #[.val (.int p1), .val (.int p2), .val (.int p3), .val (.int p4), .val (.int (p2 &&& (3 : Int32))), .val (.int (((p2.toUInt32 >>> ((2 : Int32) &&& 31).toUInt32).toInt32) &&& (3 : Int32))), .val (.ref b1), .val .null, .unset, .unset, .unset]) rfl k_) ?_
    show Go _ _ _ _ (T1.setTop (mkF m 41 #[.val (.int p1), .val (.int p2), .val (.int p3), .val (.int p4), .val (.int (p2 &&& (3 : Int32))), .val (.int (((p2.toUInt32 >>> ((2 : Int32) &&& 31).toUInt32).toInt32) &&& (3 : Int32))), .val (.ref b1), .val .null, .unset, .unset, .unset] []))
    refine own_newO H1 hx hZ hown (hw _ (List.mem_of_getElem? (i := 34) rfl)) (hw _ (List.mem_of_getElem? (i := 35) rfl)) (hw _ (List.mem_of_getElem? (i := 36) rfl)) (g := (mkF m 41 #[.val (.int p1), .val (.int p2), .val (.int p3), .val (.int p4), .val (.int (p2 &&& (3 : Int32))), .val (.int (((p2.toUInt32 >>> ((2 : Int32) &&& 31).toUInt32).toInt32) &&& (3 : Int32))), .val (.ref b1), .val .null, .unset, .unset, .unset] [])) rfl (hb hby at_41) (by decide) (by decide) ?_
    intro T2 h2 a2 ga2 E2 A2 D2 H2
    have g_a2 : n0 ≤ a2 := by rw [ga2]; exact (Nat.le_trans (Nat.le_of_eq (hn0.trans (by rw [hh0]))) K1.1)
    have sz2 : n0 ≤ h2.size := Nat.le_trans (Nat.le_trans (Nat.le_of_eq (hn0.trans (by rw [hh0]))) K1.1) E2.1
    have F2_entity : Fld Z h2 a2 "com/example/equisetum/equisetum/ExternalEntities$Preempting" "entity" "I" (.int (0 : Int32)) := D2 (Or.inr (hw _ (List.mem_of_getElem? (i := 47) rfl))) (ty := .int) (by decide)
    have F2_declarations : Fld Z h2 a2 "com/example/equisetum/equisetum/ExternalEntities$Preempting" "declarations" "Ljava/lang/String;" .null := D2 (Or.inr (hw _ (List.mem_of_getElem? (i := 49) rfl))) (ty := (.object "java/lang/String")) (by decide)
    have F2_ownText : Fld Z h2 a2 "com/example/equisetum/equisetum/ExternalEntities$Preempting" "ownText" "Ljava/lang/String;" .null := D2 (Or.inr (hw _ (List.mem_of_getElem? (i := 51) rfl))) (ty := (.object "java/lang/String")) (by decide)
    show Go _ _ _ _ (T2.setTop (mkF m 44 #[.val (.int p1), .val (.int p2), .val (.int p3), .val (.int p4), .val (.int (p2 &&& (3 : Int32))), .val (.int (((p2.toUInt32 >>> ((2 : Int32) &&& 31).toUInt32).toInt32) &&& (3 : Int32))), .val (.ref b1), .val .null, .unset, .unset, .unset] [(.ref a2)]))
    refine Go.via (fun t_ k_ => XS.dup H2.here hx rfl (hb hby at_44) rfl rfl k_) ?_
    show Go _ _ _ _ (T2.setTop (mkF m 45 #[.val (.int p1), .val (.int p2), .val (.int p3), .val (.int p4), .val (.int (p2 &&& (3 : Int32))), .val (.int (((p2.toUInt32 >>> ((2 : Int32) &&& 31).toUInt32).toInt32) &&& (3 : Int32))), .val (.ref b1), .val .null, .unset, .unset, .unset] [(.ref a2), (.ref a2)]))
    refine Go.via (fun t_ k_ => XS.iloadN H2.here hx rfl (hb hby at_45) rfl k_) ?_
    show Go _ _ _ _ (T2.setTop (mkF m 46 #[.val (.int p1), .val (.int p2), .val (.int p3), .val (.int p4), .val (.int (p2 &&& (3 : Int32))), .val (.int (((p2.toUInt32 >>> ((2 : Int32) &&& 31).toUInt32).toInt32) &&& (3 : Int32))), .val (.ref b1), .val .null, .unset, .unset, .unset] [(.int p1), (.ref a2), (.ref a2)]))
    refine Go.via (fun t_ k_ => XS.aload H2.here hx rfl (hb hby at_46) rfl rfl k_) ?_
    show Go _ _ _ _ (T2.setTop (mkF m 48 #[.val (.int p1), .val (.int p2), .val (.int p3), .val (.int p4), .val (.int (p2 &&& (3 : Int32))), .val (.int (((p2.toUInt32 >>> ((2 : Int32) &&& 31).toUInt32).toInt32) &&& (3 : Int32))), .val (.ref b1), .val .null, .unset, .unset, .unset] [(.ref b1), (.int p1), (.ref a2), (.ref a2)]))
    refine Go.via (fun t_ k_ => XS.aload H2.here hx rfl (hb hby at_48) rfl rfl k_) ?_
    show Go _ _ _ _ (T2.setTop (mkF m 50 #[.val (.int p1), .val (.int p2), .val (.int p3), .val (.int p4), .val (.int (p2 &&& (3 : Int32))), .val (.int (((p2.toUInt32 >>> ((2 : Int32) &&& 31).toUInt32).toInt32) &&& (3 : Int32))), .val (.ref b1), .val .null, .unset, .unset, .unset] [.null, (.ref b1), (.int p1), (.ref a2), (.ref a2)]))
    refine own_callI H2 hx hZ (y := (⟨"com/example/equisetum/equisetum/ExternalEntities$Preempting", "<init>", "(ILjava/lang/String;Ljava/lang/String;)V"⟩ : MethodName)) (a := a2) rfl hown (hw _ (List.mem_of_getElem? (i := 37) rfl)) (hw _ (List.mem_of_getElem? (i := 38) rfl)) (hw _ (List.mem_of_getElem? (i := 36) rfl)) (hw _ (List.mem_of_getElem? (i := 39) rfl)) (by decide) (rmPIn l Z a0 hw a2 b1 p1 h2 n0 A2 F2_entity F2_declarations F2_ownText g_a2) (g := (mkF m 50 #[.val (.int p1), .val (.int p2), .val (.int p3), .val (.int p4), .val (.int (p2 &&& (3 : Int32))), .val (.int (((p2.toUInt32 >>> ((2 : Int32) &&& 31).toUInt32).toInt32) &&& (3 : Int32))), .val (.ref b1), .val .null, .unset, .unset, .unset] [.null, (.ref b1), (.int p1), (.ref a2), (.ref a2)])) rfl (by rw [hml]; rfl) (argsL := [(.int p1), (.ref b1), .null]) (rest := [(.ref a2)]) (lenOf pd_7 rfl) rfl 1 (Nat.le_of_eq rfl) (hb hby at_50) (by decide) (by decide) (by decide) (by decide) ?_
    rintro _ T3 h3 ⟨rfl, K3, E3, F3⟩ H3
    show Go _ _ _ _ (T3.setTop (mkF m 53 #[.val (.int p1), .val (.int p2), .val (.int p3), .val (.int p4), .val (.int (p2 &&& (3 : Int32))), .val (.int (((p2.toUInt32 >>> ((2 : Int32) &&& 31).toUInt32).toInt32) &&& (3 : Int32))), .val (.ref b1), .val .null, .unset, .unset, .unset] [(.ref a2)]))
    refine Go.via (fun t_ k_ => XS.astore H3.here hx rfl (hb hby at_53) rfl rfl (l' := #[.val (.int p1), .val (.int p2), .val (.int p3), .val (.int p4), .val (.int (p2 &&& (3 : Int32))), .val (.int (((p2.toUInt32 >>> ((2 : Int32) &&& 31).toUInt32).toInt32) &&& (3 : Int32))), .val (.ref b1), .val .null, .val (.ref a2), .unset, .unset]) rfl k_) ?_
    show Go _ _ _ _ (T3.setTop (mkF m 55 #[.val (.int p1), .val (.int p2), .val (.int p3), .val (.int p4), .val (.int (p2 &&& (3 : Int32))), .val (.int (((p2.toUInt32 >>> ((2 : Int32) &&& 31).toUInt32).toInt32) &&& (3 : Int32))), .val (.ref b1), .val .null, .val (.ref a2), .unset, .unset] []))
    refine Go.via (fun t_ k_ => XS.iload H3.here hx rfl (hb hby at_55) rfl k_) ?_
    show Go _ _ _ _ (T3.setTop (mkF m 57 #[.val (.int p1), .val (.int p2), .val (.int p3), .val (.int p4), .val (.int (p2 &&& (3 : Int32))), .val (.int (((p2.toUInt32 >>> ((2 : Int32) &&& 31).toUInt32).toInt32) &&& (3 : Int32))), .val (.ref b1), .val .null, .val (.ref a2), .unset, .unset] [(.int (((p2.toUInt32 >>> ((2 : Int32) &&& 31).toUInt32).toInt32) &&& (3 : Int32)))]))
    refine Go.via (fun t_ k_ => XS.ifYes H3.here hx rfl (pc0 := 57) (pc' := 64) rfl (hb hby at_57) rfl ((if0 _ _).trans (teq (show (((p2.toUInt32 >>> ((2 : Int32) &&& 31).toUInt32).toInt32) &&& (3 : Int32)) = (0 : Int32) from hc23)).1) (by decide) (by decide) k_) ?_
    show Go _ _ _ _ (T3.setTop (mkF m 64 #[.val (.int p1), .val (.int p2), .val (.int p3), .val (.int p4), .val (.int (p2 &&& (3 : Int32))), .val (.int (((p2.toUInt32 >>> ((2 : Int32) &&& 31).toUInt32).toInt32) &&& (3 : Int32))), .val (.ref b1), .val .null, .val (.ref a2), .unset, .unset] []))
    refine Go.via (fun t_ k_ => XS.iconst H3.here hx rfl (hb hby at_64) k_) ?_
    show Go _ _ _ _ (T3.setTop (mkF m 65 #[.val (.int p1), .val (.int p2), .val (.int p3), .val (.int p4), .val (.int (p2 &&& (3 : Int32))), .val (.int (((p2.toUInt32 >>> ((2 : Int32) &&& 31).toUInt32).toInt32) &&& (3 : Int32))), .val (.ref b1), .val .null, .val (.ref a2), .unset, .unset] [(.int (0 : Int32))]))
    refine Go.via (fun t_ k_ => XS.istore H3.here hx rfl (hb hby at_65) rfl (l' := #[.val (.int p1), .val (.int p2), .val (.int p3), .val (.int p4), .val (.int (p2 &&& (3 : Int32))), .val (.int (((p2.toUInt32 >>> ((2 : Int32) &&& 31).toUInt32).toInt32) &&& (3 : Int32))), .val (.ref b1), .val .null, .val (.ref a2), .val (.int (0 : Int32)), .unset]) rfl k_) ?_
    show Go _ _ _ _ (T3.setTop (mkF m 67 #[.val (.int p1), .val (.int p2), .val (.int p3), .val (.int p4), .val (.int (p2 &&& (3 : Int32))), .val (.int (((p2.toUInt32 >>> ((2 : Int32) &&& 31).toUInt32).toInt32) &&& (3 : Int32))), .val (.ref b1), .val .null, .val (.ref a2), .val (.int (0 : Int32)), .unset] []))
    refine own_getS H3 hx hZ hown (hw _ (List.mem_of_getElem? (i := 52) rfl)) (SN.ext (((OL.keep K1 all0).ext E2).keep K3 (allS g_a2 all0)).2) (g := (mkF m 67 #[.val (.int p1), .val (.int p2), .val (.int p3), .val (.int p4), .val (.int (p2 &&& (3 : Int32))), .val (.int (((p2.toUInt32 >>> ((2 : Int32) &&& 31).toUInt32).toInt32) &&& (3 : Int32))), .val (.ref b1), .val .null, .val (.ref a2), .val (.int (0 : Int32)), .unset] [])) rfl (hb hby at_67) ?_
    intro T4 H4
    show Go _ _ _ _ (T4.setTop (mkF m 70 #[.val (.int p1), .val (.int p2), .val (.int p3), .val (.int p4), .val (.int (p2 &&& (3 : Int32))), .val (.int (((p2.toUInt32 >>> ((2 : Int32) &&& 31).toUInt32).toInt32) &&& (3 : Int32))), .val (.ref b1), .val .null, .val (.ref a2), .val (.int (0 : Int32)), .unset] [(.ref nn)]))
    refine own_callV H4 hx hZ (C := "com/example/equisetum/equisetum/ExternalEntities$Preempting") (y := (⟨"com/example/equisetum/equisetum/ExternalEntities$Preempting", "read", "()Z"⟩ : MethodName)) (a := nn) hown (hw _ (List.mem_of_getElem? (i := 54) rfl)) (hw _ (List.mem_of_getElem? (i := 55) rfl)) (hw _ (List.mem_of_getElem? (i := 57) rfl)) (hw _ (List.mem_of_getElem? (i := 56) rfl)) (hw _ (List.mem_of_getElem? (i := 36) rfl)) (hw _ (List.mem_of_getElem? (i := 58) rfl)) (by decide) (EN.ext (((OL.keep K1 all0).ext E2).keep K3 (allS g_a2 all0)).2) (rmRdn l Z a0 hw nn h3 n0 (FN.ext (((OL.keep K1 all0).ext E2).keep K3 (allS g_a2 all0)).2)) (g := (mkF m 70 #[.val (.int p1), .val (.int p2), .val (.int p3), .val (.int p4), .val (.int (p2 &&& (3 : Int32))), .val (.int (((p2.toUInt32 >>> ((2 : Int32) &&& 31).toUInt32).toInt32) &&& (3 : Int32))), .val (.ref b1), .val .null, .val (.ref a2), .val (.int (0 : Int32)), .unset] [(.ref nn)])) rfl (by rw [hml]; rfl) (argsL := []) (rest := []) (lenOf pd_8 rfl) rfl 0 (Nat.le_of_eq rfl) (hb hby at_70) (by decide) (by decide) (by decide) (by decide) ?_
    rintro _ T5 _ ⟨rfl, rfl⟩ H5
    show Go _ _ _ _ (T5.setTop (mkF m 73 #[.val (.int p1), .val (.int p2), .val (.int p3), .val (.int p4), .val (.int (p2 &&& (3 : Int32))), .val (.int (((p2.toUInt32 >>> ((2 : Int32) &&& 31).toUInt32).toInt32) &&& (3 : Int32))), .val (.ref b1), .val .null, .val (.ref a2), .val (.int (0 : Int32)), .unset] [(.int (0 : Int32))]))
    refine Go.via (fun t_ k_ => XS.ifNo H5.here hx rfl (hb hby at_73) rfl ((if0 _ _).trans (teq (show (0 : Int32) = (0 : Int32) from (by decide))).2) k_) ?_
    show Go _ _ _ _ (T5.setTop (mkF m 76 #[.val (.int p1), .val (.int p2), .val (.int p3), .val (.int p4), .val (.int (p2 &&& (3 : Int32))), .val (.int (((p2.toUInt32 >>> ((2 : Int32) &&& 31).toUInt32).toInt32) &&& (3 : Int32))), .val (.ref b1), .val .null, .val (.ref a2), .val (.int (0 : Int32)), .unset] []))
    refine Go.via (fun t_ k_ => XS.iconst H5.here hx rfl (hb hby at_76) k_) ?_
    show Go _ _ _ _ (T5.setTop (mkF m 77 #[.val (.int p1), .val (.int p2), .val (.int p3), .val (.int p4), .val (.int (p2 &&& (3 : Int32))), .val (.int (((p2.toUInt32 >>> ((2 : Int32) &&& 31).toUInt32).toInt32) &&& (3 : Int32))), .val (.ref b1), .val .null, .val (.ref a2), .val (.int (0 : Int32)), .unset] [(.int (1 : Int32))]))
    refine Go.via (fun t_ k_ => XS.goto H5.here hx rfl (pc0 := 77) (pc' := 81) rfl (hb hby at_77) (by decide) (by decide) k_) ?_
    show Go _ _ _ _ (T5.setTop (mkF m 81 #[.val (.int p1), .val (.int p2), .val (.int p3), .val (.int p4), .val (.int (p2 &&& (3 : Int32))), .val (.int (((p2.toUInt32 >>> ((2 : Int32) &&& 31).toUInt32).toInt32) &&& (3 : Int32))), .val (.ref b1), .val .null, .val (.ref a2), .val (.int (0 : Int32)), .unset] [(.int (1 : Int32))]))
    refine Go.via (fun t_ k_ => XS.istore H5.here hx rfl (hb hby at_81) rfl (l' := #[.val (.int p1), .val (.int p2), .val (.int p3), .val (.int p4), .val (.int (p2 &&& (3 : Int32))), .val (.int (((p2.toUInt32 >>> ((2 : Int32) &&& 31).toUInt32).toInt32) &&& (3 : Int32))), .val (.ref b1), .val .null, .val (.ref a2), .val (.int (0 : Int32)), .val (.int (1 : Int32))]) rfl k_) ?_
    show Go _ _ _ _ (T5.setTop (mkF m 83 #[.val (.int p1), .val (.int p2), .val (.int p3), .val (.int p4), .val (.int (p2 &&& (3 : Int32))), .val (.int (((p2.toUInt32 >>> ((2 : Int32) &&& 31).toUInt32).toInt32) &&& (3 : Int32))), .val (.ref b1), .val .null, .val (.ref a2), .val (.int (0 : Int32)), .val (.int (1 : Int32))] []))
    refine Go.via (fun t_ k_ => XS.aload H5.here hx rfl (hb hby at_83) rfl rfl k_) ?_
    show Go _ _ _ _ (T5.setTop (mkF m 85 #[.val (.int p1), .val (.int p2), .val (.int p3), .val (.int p4), .val (.int (p2 &&& (3 : Int32))), .val (.int (((p2.toUInt32 >>> ((2 : Int32) &&& 31).toUInt32).toInt32) &&& (3 : Int32))), .val (.ref b1), .val .null, .val (.ref a2), .val (.int (0 : Int32)), .val (.int (1 : Int32))] [(.ref a2)]))
    refine own_callV H5 hx hZ (C := "com/example/equisetum/equisetum/ExternalEntities$Preempting") (y := (⟨"com/example/equisetum/equisetum/ExternalEntities$Preempting", "read", "()Z"⟩ : MethodName)) (a := a2) hown (hw _ (List.mem_of_getElem? (i := 54) rfl)) (hw _ (List.mem_of_getElem? (i := 55) rfl)) (hw _ (List.mem_of_getElem? (i := 57) rfl)) (hw _ (List.mem_of_getElem? (i := 56) rfl)) (hw _ (List.mem_of_getElem? (i := 36) rfl)) (hw _ (List.mem_of_getElem? (i := 58) rfl)) (by decide) E3 (rmRdn l Z a0 hw a2 h3 n0 F3) (g := (mkF m 85 #[.val (.int p1), .val (.int p2), .val (.int p3), .val (.int p4), .val (.int (p2 &&& (3 : Int32))), .val (.int (((p2.toUInt32 >>> ((2 : Int32) &&& 31).toUInt32).toInt32) &&& (3 : Int32))), .val (.ref b1), .val .null, .val (.ref a2), .val (.int (0 : Int32)), .val (.int (1 : Int32))] [(.ref a2)])) rfl (by rw [hml]; rfl) (argsL := []) (rest := []) (lenOf pd_8 rfl) rfl 0 (Nat.le_of_eq rfl) (hb hby at_85) (by decide) (by decide) (by decide) (by decide) ?_
    rintro _ T6 _ ⟨rfl, rfl⟩ H6
    show Go _ _ _ _ (T6.setTop (mkF m 88 #[.val (.int p1), .val (.int p2), .val (.int p3), .val (.int p4), .val (.int (p2 &&& (3 : Int32))), .val (.int (((p2.toUInt32 >>> ((2 : Int32) &&& 31).toUInt32).toInt32) &&& (3 : Int32))), .val (.ref b1), .val .null, .val (.ref a2), .val (.int (0 : Int32)), .val (.int (1 : Int32))] [(.int (0 : Int32))]))
    refine Go.via (fun t_ k_ => XS.iload H6.here hx rfl (hb hby at_88) rfl k_) ?_
    show Go _ _ _ _ (T6.setTop (mkF m 90 #[.val (.int p1), .val (.int p2), .val (.int p3), .val (.int p4), .val (.int (p2 &&& (3 : Int32))), .val (.int (((p2.toUInt32 >>> ((2 : Int32) &&& 31).toUInt32).toInt32) &&& (3 : Int32))), .val (.ref b1), .val .null, .val (.ref a2), .val (.int (0 : Int32)), .val (.int (1 : Int32))] [(.int (0 : Int32)), (.int (0 : Int32))]))
    refine Go.via (fun t_ k_ => XS.icmpNo H6.here hx rfl (hb hby at_90) rfl ((teq (show (0 : Int32) = (0 : Int32) from (by decide))).2) k_) ?_
    show Go _ _ _ _ (T6.setTop (mkF m 93 #[.val (.int p1), .val (.int p2), .val (.int p3), .val (.int p4), .val (.int (p2 &&& (3 : Int32))), .val (.int (((p2.toUInt32 >>> ((2 : Int32) &&& 31).toUInt32).toInt32) &&& (3 : Int32))), .val (.ref b1), .val .null, .val (.ref a2), .val (.int (0 : Int32)), .val (.int (1 : Int32))] []))
    refine Go.via (fun t_ k_ => XS.iload H6.here hx rfl (hb hby at_93) rfl k_) ?_
    show Go _ _ _ _ (T6.setTop (mkF m 95 #[.val (.int p1), .val (.int p2), .val (.int p3), .val (.int p4), .val (.int (p2 &&& (3 : Int32))), .val (.int (((p2.toUInt32 >>> ((2 : Int32) &&& 31).toUInt32).toInt32) &&& (3 : Int32))), .val (.ref b1), .val .null, .val (.ref a2), .val (.int (0 : Int32)), .val (.int (1 : Int32))] [(.int (1 : Int32))]))
    refine Go.via (fun t_ k_ => XS.ifNo H6.here hx rfl (hb hby at_95) rfl ((if0 _ _).trans (feq (show ¬ ((1 : Int32) = (0 : Int32)) from (by decide))).1) k_) ?_
    show Go _ _ _ _ (T6.setTop (mkF m 98 #[.val (.int p1), .val (.int p2), .val (.int p3), .val (.int p4), .val (.int (p2 &&& (3 : Int32))), .val (.int (((p2.toUInt32 >>> ((2 : Int32) &&& 31).toUInt32).toInt32) &&& (3 : Int32))), .val (.ref b1), .val .null, .val (.ref a2), .val (.int (0 : Int32)), .val (.int (1 : Int32))] []))
    refine Go.via (fun t_ k_ => XS.iconst H6.here hx rfl (hb hby at_98) k_) ?_
    show Go _ _ _ _ (T6.setTop (mkF m 99 #[.val (.int p1), .val (.int p2), .val (.int p3), .val (.int p4), .val (.int (p2 &&& (3 : Int32))), .val (.int (((p2.toUInt32 >>> ((2 : Int32) &&& 31).toUInt32).toInt32) &&& (3 : Int32))), .val (.ref b1), .val .null, .val (.ref a2), .val (.int (0 : Int32)), .val (.int (1 : Int32))] [(.int (1 : Int32))]))
    refine Go.via (fun t_ k_ => XS.goto H6.here hx rfl (pc0 := 99) (pc' := 103) rfl (hb hby at_99) (by decide) (by decide) k_) ?_
    show Go _ _ _ _ (T6.setTop (mkF m 103 #[.val (.int p1), .val (.int p2), .val (.int p3), .val (.int p4), .val (.int (p2 &&& (3 : Int32))), .val (.int (((p2.toUInt32 >>> ((2 : Int32) &&& 31).toUInt32).toInt32) &&& (3 : Int32))), .val (.ref b1), .val .null, .val (.ref a2), .val (.int (0 : Int32)), .val (.int (1 : Int32))] [(.int (1 : Int32))]))
    exact own_retNC H6 ((LB1.grow E2.1).grow K3.1) hx hlk (by simp) hret (hb hby at_103) rfl (by decide) (by decide)
  · refine Go.via (fun t_ k_ => XS.ifYes H1.here hx rfl (pc0 := 23) (pc' := 30) rfl (hb hby at_23) rfl ((if0 _ _).trans (feq hc23).2) (by decide) (by decide) k_) ?_
    show Go _ _ _ _ (T1.setTop (mkF m 30 #[.val (.int p1), .val (.int p2), .val (.int p3), .val (.int p4), .val (.int (p2 &&& (3 : Int32))), .val (.int (((p2.toUInt32 >>> ((2 : Int32) &&& 31).toUInt32).toInt32) &&& (3 : Int32))), .val (.ref b1), .unset, .unset, .unset, .unset] []))
    refine Go.via (fun t_ k_ => XS.iload H1.here hx rfl (hb hby at_30) rfl k_) ?_
    show Go _ _ _ _ (T1.setTop (mkF m 32 #[.val (.int p1), .val (.int p2), .val (.int p3), .val (.int p4), .val (.int (p2 &&& (3 : Int32))), .val (.int (((p2.toUInt32 >>> ((2 : Int32) &&& 31).toUInt32).toInt32) &&& (3 : Int32))), .val (.ref b1), .unset, .unset, .unset, .unset] [(.int (((p2.toUInt32 >>> ((2 : Int32) &&& 31).toUInt32).toInt32) &&& (3 : Int32)))]))
    refine Go.via (fun t_ k_ => XS.iconst H1.here hx rfl (hb hby at_32) k_) ?_
    show Go _ _ _ _ (T1.setTop (mkF m 33 #[.val (.int p1), .val (.int p2), .val (.int p3), .val (.int p4), .val (.int (p2 &&& (3 : Int32))), .val (.int (((p2.toUInt32 >>> ((2 : Int32) &&& 31).toUInt32).toInt32) &&& (3 : Int32))), .val (.ref b1), .unset, .unset, .unset, .unset] [(.int (1 : Int32)), (.int (((p2.toUInt32 >>> ((2 : Int32) &&& 31).toUInt32).toInt32) &&& (3 : Int32)))]))
    refine Go.via (fun t_ k_ => XS.isub H1.here hx rfl (hb hby at_33) rfl k_) ?_
    show Go _ _ _ _ (T1.setTop (mkF m 34 #[.val (.int p1), .val (.int p2), .val (.int p3), .val (.int p4), .val (.int (p2 &&& (3 : Int32))), .val (.int (((p2.toUInt32 >>> ((2 : Int32) &&& 31).toUInt32).toInt32) &&& (3 : Int32))), .val (.ref b1), .unset, .unset, .unset, .unset] [(.int ((((p2.toUInt32 >>> ((2 : Int32) &&& 31).toUInt32).toInt32) &&& (3 : Int32)) - (1 : Int32)))]))
    refine Go.via (fun t_ k_ => XS.iloadN H1.here hx rfl (hb hby at_34) rfl k_) ?_
    show Go _ _ _ _ (T1.setTop (mkF m 35 #[.val (.int p1), .val (.int p2), .val (.int p3), .val (.int p4), .val (.int (p2 &&& (3 : Int32))), .val (.int (((p2.toUInt32 >>> ((2 : Int32) &&& 31).toUInt32).toInt32) &&& (3 : Int32))), .val (.ref b1), .unset, .unset, .unset, .unset] [(.int p4), (.int ((((p2.toUInt32 >>> ((2 : Int32) &&& 31).toUInt32).toInt32) &&& (3 : Int32)) - (1 : Int32)))]))
    refine Go.via (fun t_ k_ => XS.iloadN H1.here hx rfl (hb hby at_35) rfl k_) ?_
    show Go _ _ _ _ (T1.setTop (mkF m 36 #[.val (.int p1), .val (.int p2), .val (.int p3), .val (.int p4), .val (.int (p2 &&& (3 : Int32))), .val (.int (((p2.toUInt32 >>> ((2 : Int32) &&& 31).toUInt32).toInt32) &&& (3 : Int32))), .val (.ref b1), .unset, .unset, .unset, .unset] [(.int p3), (.int p4), (.int ((((p2.toUInt32 >>> ((2 : Int32) &&& 31).toUInt32).toInt32) &&& (3 : Int32)) - (1 : Int32)))]))
    refine own_callSH H1 LB1 CH1 hEL hx hZ (y := (⟨"com/example/equisetum/equisetum/PreemptingReadPinLaw", "drawn", "(III)Ljava/lang/String;"⟩ : MethodName)) hown (hw _ (List.mem_of_getElem? (i := 0) rfl)) (hw _ (List.mem_of_getElem? (i := 1) rfl)) (hw _ (List.mem_of_getElem? (i := 2) rfl)) (hw _ (List.mem_of_getElem? (i := 3) rfl)) (by decide) (rmDr l Z a0 hw ((((p2.toUInt32 >>> ((2 : Int32) &&& 31).toUInt32).toInt32) &&& (3 : Int32)) - (1 : Int32)) p4 p3 cs h1 n0 hEL wS (OL.keep K1 all0) SC hcs) (g := (mkF m 36 #[.val (.int p1), .val (.int p2), .val (.int p3), .val (.int p4), .val (.int (p2 &&& (3 : Int32))), .val (.int (((p2.toUInt32 >>> ((2 : Int32) &&& 31).toUInt32).toInt32) &&& (3 : Int32))), .val (.ref b1), .unset, .unset, .unset, .unset] [(.int p3), (.int p4), (.int ((((p2.toUInt32 >>> ((2 : Int32) &&& 31).toUInt32).toInt32) &&& (3 : Int32)) - (1 : Int32)))])) rfl (by rw [hml]; rfl) (argsL := [(.int ((((p2.toUInt32 >>> ((2 : Int32) &&& 31).toUInt32).toInt32) &&& (3 : Int32)) - (1 : Int32))), (.int p4), (.int p3)]) (rest := []) (lenOf pd_6 rfl) rfl 0 (Nat.le_of_eq rfl) (hb hby at_36) (by decide) (by decide) (by decide) (by decide) ?_
    rintro _ T7 h7 ⟨b7, rfl, K7⟩ R7 LB7 CH7 hZ hown H7
    show Go _ _ _ _ (T7.setTop (mkF m 39 #[.val (.int p1), .val (.int p2), .val (.int p3), .val (.int p4), .val (.int (p2 &&& (3 : Int32))), .val (.int (((p2.toUInt32 >>> ((2 : Int32) &&& 31).toUInt32).toInt32) &&& (3 : Int32))), .val (.ref b1), .unset, .unset, .unset, .unset] [(.ref b7)]))
    refine Go.via (fun t_ k_ => XS.astore H7.here hx rfl (hb hby at_39) rfl rfl (l' := #[.val (.int p1), .val (.int p2), .val (.int p3), .val (.int p4), .val (.int (p2 &&& (3 : Int32))), .val (.int (((p2.toUInt32 >>> ((2 : Int32) &&& 31).toUInt32).toInt32) &&& (3 : Int32))), .val (.ref b1), .val (.ref b7), .unset, .unset, .unset]) rfl k_) ?_
    show Go _ _ _ _ (T7.setTop (mkF m 41 #[.val (.int p1), .val (.int p2), .val (.int p3), .val (.int p4), .val (.int (p2 &&& (3 : Int32))), .val (.int (((p2.toUInt32 >>> ((2 : Int32) &&& 31).toUInt32).toInt32) &&& (3 : Int32))), .val (.ref b1), .val (.ref b7), .unset, .unset, .unset] []))
    refine own_newO H7 hx hZ hown (hw _ (List.mem_of_getElem? (i := 34) rfl)) (hw _ (List.mem_of_getElem? (i := 35) rfl)) (hw _ (List.mem_of_getElem? (i := 36) rfl)) (g := (mkF m 41 #[.val (.int p1), .val (.int p2), .val (.int p3), .val (.int p4), .val (.int (p2 &&& (3 : Int32))), .val (.int (((p2.toUInt32 >>> ((2 : Int32) &&& 31).toUInt32).toInt32) &&& (3 : Int32))), .val (.ref b1), .val (.ref b7), .unset, .unset, .unset] [])) rfl (hb hby at_41) (by decide) (by decide) ?_
    intro T8 h8 a8 ga8 E8 A8 D8 H8
    have g_a8 : n0 ≤ a8 := by rw [ga8]; exact (Nat.le_trans (Nat.le_trans (Nat.le_of_eq (hn0.trans (by rw [hh0]))) K1.1) K7.1)
    have sz8 : n0 ≤ h8.size := Nat.le_trans (Nat.le_trans (Nat.le_trans (Nat.le_of_eq (hn0.trans (by rw [hh0]))) K1.1) K7.1) E8.1
    have F8_entity : Fld Z h8 a8 "com/example/equisetum/equisetum/ExternalEntities$Preempting" "entity" "I" (.int (0 : Int32)) := D8 (Or.inr (hw _ (List.mem_of_getElem? (i := 47) rfl))) (ty := .int) (by decide)
    have F8_declarations : Fld Z h8 a8 "com/example/equisetum/equisetum/ExternalEntities$Preempting" "declarations" "Ljava/lang/String;" .null := D8 (Or.inr (hw _ (List.mem_of_getElem? (i := 49) rfl))) (ty := (.object "java/lang/String")) (by decide)
    have F8_ownText : Fld Z h8 a8 "com/example/equisetum/equisetum/ExternalEntities$Preempting" "ownText" "Ljava/lang/String;" .null := D8 (Or.inr (hw _ (List.mem_of_getElem? (i := 51) rfl))) (ty := (.object "java/lang/String")) (by decide)
    show Go _ _ _ _ (T8.setTop (mkF m 44 #[.val (.int p1), .val (.int p2), .val (.int p3), .val (.int p4), .val (.int (p2 &&& (3 : Int32))), .val (.int (((p2.toUInt32 >>> ((2 : Int32) &&& 31).toUInt32).toInt32) &&& (3 : Int32))), .val (.ref b1), .val (.ref b7), .unset, .unset, .unset] [(.ref a8)]))
    refine Go.via (fun t_ k_ => XS.dup H8.here hx rfl (hb hby at_44) rfl rfl k_) ?_
    show Go _ _ _ _ (T8.setTop (mkF m 45 #[.val (.int p1), .val (.int p2), .val (.int p3), .val (.int p4), .val (.int (p2 &&& (3 : Int32))), .val (.int (((p2.toUInt32 >>> ((2 : Int32) &&& 31).toUInt32).toInt32) &&& (3 : Int32))), .val (.ref b1), .val (.ref b7), .unset, .unset, .unset] [(.ref a8), (.ref a8)]))
    refine Go.via (fun t_ k_ => XS.iloadN H8.here hx rfl (hb hby at_45) rfl k_) ?_
    show Go _ _ _ _ (T8.setTop (mkF m 46 #[.val (.int p1), .val (.int p2), .val (.int p3), .val (.int p4), .val (.int (p2 &&& (3 : Int32))), .val (.int (((p2.toUInt32 >>> ((2 : Int32) &&& 31).toUInt32).toInt32) &&& (3 : Int32))), .val (.ref b1), .val (.ref b7), .unset, .unset, .unset] [(.int p1), (.ref a8), (.ref a8)]))
    refine Go.via (fun t_ k_ => XS.aload H8.here hx rfl (hb hby at_46) rfl rfl k_) ?_
    show Go _ _ _ _ (T8.setTop (mkF m 48 #[.val (.int p1), .val (.int p2), .val (.int p3), .val (.int p4), .val (.int (p2 &&& (3 : Int32))), .val (.int (((p2.toUInt32 >>> ((2 : Int32) &&& 31).toUInt32).toInt32) &&& (3 : Int32))), .val (.ref b1), .val (.ref b7), .unset, .unset, .unset] [(.ref b1), (.int p1), (.ref a8), (.ref a8)]))
    refine Go.via (fun t_ k_ => XS.aload H8.here hx rfl (hb hby at_48) rfl rfl k_) ?_
    show Go _ _ _ _ (T8.setTop (mkF m 50 #[.val (.int p1), .val (.int p2), .val (.int p3), .val (.int p4), .val (.int (p2 &&& (3 : Int32))), .val (.int (((p2.toUInt32 >>> ((2 : Int32) &&& 31).toUInt32).toInt32) &&& (3 : Int32))), .val (.ref b1), .val (.ref b7), .unset, .unset, .unset] [(.ref b7), (.ref b1), (.int p1), (.ref a8), (.ref a8)]))
    refine own_callI H8 hx hZ (y := (⟨"com/example/equisetum/equisetum/ExternalEntities$Preempting", "<init>", "(ILjava/lang/String;Ljava/lang/String;)V"⟩ : MethodName)) (a := a8) rfl hown (hw _ (List.mem_of_getElem? (i := 37) rfl)) (hw _ (List.mem_of_getElem? (i := 38) rfl)) (hw _ (List.mem_of_getElem? (i := 36) rfl)) (hw _ (List.mem_of_getElem? (i := 39) rfl)) (by decide) (rmPI l Z a0 hw a8 b1 b7 p1 h8 n0 A8 F8_entity F8_declarations F8_ownText g_a8) (g := (mkF m 50 #[.val (.int p1), .val (.int p2), .val (.int p3), .val (.int p4), .val (.int (p2 &&& (3 : Int32))), .val (.int (((p2.toUInt32 >>> ((2 : Int32) &&& 31).toUInt32).toInt32) &&& (3 : Int32))), .val (.ref b1), .val (.ref b7), .unset, .unset, .unset] [(.ref b7), (.ref b1), (.int p1), (.ref a8), (.ref a8)])) rfl (by rw [hml]; rfl) (argsL := [(.int p1), (.ref b1), (.ref b7)]) (rest := [(.ref a8)]) (lenOf pd_7 rfl) rfl 1 (Nat.le_of_eq rfl) (hb hby at_50) (by decide) (by decide) (by decide) (by decide) ?_
    rintro _ T9 h9 ⟨rfl, K9, E9, F9⟩ H9
    show Go _ _ _ _ (T9.setTop (mkF m 53 #[.val (.int p1), .val (.int p2), .val (.int p3), .val (.int p4), .val (.int (p2 &&& (3 : Int32))), .val (.int (((p2.toUInt32 >>> ((2 : Int32) &&& 31).toUInt32).toInt32) &&& (3 : Int32))), .val (.ref b1), .val (.ref b7), .unset, .unset, .unset] [(.ref a8)]))
    refine Go.via (fun t_ k_ => XS.astore H9.here hx rfl (hb hby at_53) rfl rfl (l' := #[.val (.int p1), .val (.int p2), .val (.int p3), .val (.int p4), .val (.int (p2 &&& (3 : Int32))), .val (.int (((p2.toUInt32 >>> ((2 : Int32) &&& 31).toUInt32).toInt32) &&& (3 : Int32))), .val (.ref b1), .val (.ref b7), .val (.ref a8), .unset, .unset]) rfl k_) ?_
    show Go _ _ _ _ (T9.setTop (mkF m 55 #[.val (.int p1), .val (.int p2), .val (.int p3), .val (.int p4), .val (.int (p2 &&& (3 : Int32))), .val (.int (((p2.toUInt32 >>> ((2 : Int32) &&& 31).toUInt32).toInt32) &&& (3 : Int32))), .val (.ref b1), .val (.ref b7), .val (.ref a8), .unset, .unset] []))
    refine Go.via (fun t_ k_ => XS.iload H9.here hx rfl (hb hby at_55) rfl k_) ?_
    show Go _ _ _ _ (T9.setTop (mkF m 57 #[.val (.int p1), .val (.int p2), .val (.int p3), .val (.int p4), .val (.int (p2 &&& (3 : Int32))), .val (.int (((p2.toUInt32 >>> ((2 : Int32) &&& 31).toUInt32).toInt32) &&& (3 : Int32))), .val (.ref b1), .val (.ref b7), .val (.ref a8), .unset, .unset] [(.int (((p2.toUInt32 >>> ((2 : Int32) &&& 31).toUInt32).toInt32) &&& (3 : Int32)))]))
    refine Go.via (fun t_ k_ => XS.ifNo H9.here hx rfl (hb hby at_57) rfl ((if0 _ _).trans (feq (show ¬ ((((p2.toUInt32 >>> ((2 : Int32) &&& 31).toUInt32).toInt32) &&& (3 : Int32)) = (0 : Int32)) from hc23)).1) k_) ?_
    show Go _ _ _ _ (T9.setTop (mkF m 60 #[.val (.int p1), .val (.int p2), .val (.int p3), .val (.int p4), .val (.int (p2 &&& (3 : Int32))), .val (.int (((p2.toUInt32 >>> ((2 : Int32) &&& 31).toUInt32).toInt32) &&& (3 : Int32))), .val (.ref b1), .val (.ref b7), .val (.ref a8), .unset, .unset] []))
    refine Go.via (fun t_ k_ => XS.iconst H9.here hx rfl (hb hby at_60) k_) ?_
    show Go _ _ _ _ (T9.setTop (mkF m 61 #[.val (.int p1), .val (.int p2), .val (.int p3), .val (.int p4), .val (.int (p2 &&& (3 : Int32))), .val (.int (((p2.toUInt32 >>> ((2 : Int32) &&& 31).toUInt32).toInt32) &&& (3 : Int32))), .val (.ref b1), .val (.ref b7), .val (.ref a8), .unset, .unset] [(.int (1 : Int32))]))
    refine Go.via (fun t_ k_ => XS.goto H9.here hx rfl (pc0 := 61) (pc' := 65) rfl (hb hby at_61) (by decide) (by decide) k_) ?_
    show Go _ _ _ _ (T9.setTop (mkF m 65 #[.val (.int p1), .val (.int p2), .val (.int p3), .val (.int p4), .val (.int (p2 &&& (3 : Int32))), .val (.int (((p2.toUInt32 >>> ((2 : Int32) &&& 31).toUInt32).toInt32) &&& (3 : Int32))), .val (.ref b1), .val (.ref b7), .val (.ref a8), .unset, .unset] [(.int (1 : Int32))]))
    refine Go.via (fun t_ k_ => XS.istore H9.here hx rfl (hb hby at_65) rfl (l' := #[.val (.int p1), .val (.int p2), .val (.int p3), .val (.int p4), .val (.int (p2 &&& (3 : Int32))), .val (.int (((p2.toUInt32 >>> ((2 : Int32) &&& 31).toUInt32).toInt32) &&& (3 : Int32))), .val (.ref b1), .val (.ref b7), .val (.ref a8), .val (.int (1 : Int32)), .unset]) rfl k_) ?_
    show Go _ _ _ _ (T9.setTop (mkF m 67 #[.val (.int p1), .val (.int p2), .val (.int p3), .val (.int p4), .val (.int (p2 &&& (3 : Int32))), .val (.int (((p2.toUInt32 >>> ((2 : Int32) &&& 31).toUInt32).toInt32) &&& (3 : Int32))), .val (.ref b1), .val (.ref b7), .val (.ref a8), .val (.int (1 : Int32)), .unset] []))
    refine own_getS H9 hx hZ hown (hw _ (List.mem_of_getElem? (i := 52) rfl)) (SN.ext ((((OL.keep K1 all0).keep K7 all0).ext E8).keep K9 (allS g_a8 all0)).2) (g := (mkF m 67 #[.val (.int p1), .val (.int p2), .val (.int p3), .val (.int p4), .val (.int (p2 &&& (3 : Int32))), .val (.int (((p2.toUInt32 >>> ((2 : Int32) &&& 31).toUInt32).toInt32) &&& (3 : Int32))), .val (.ref b1), .val (.ref b7), .val (.ref a8), .val (.int (1 : Int32)), .unset] [])) rfl (hb hby at_67) ?_
    intro T10 H10
    show Go _ _ _ _ (T10.setTop (mkF m 70 #[.val (.int p1), .val (.int p2), .val (.int p3), .val (.int p4), .val (.int (p2 &&& (3 : Int32))), .val (.int (((p2.toUInt32 >>> ((2 : Int32) &&& 31).toUInt32).toInt32) &&& (3 : Int32))), .val (.ref b1), .val (.ref b7), .val (.ref a8), .val (.int (1 : Int32)), .unset] [(.ref nn)]))
    refine own_callV H10 hx hZ (C := "com/example/equisetum/equisetum/ExternalEntities$Preempting") (y := (⟨"com/example/equisetum/equisetum/ExternalEntities$Preempting", "read", "()Z"⟩ : MethodName)) (a := nn) hown (hw _ (List.mem_of_getElem? (i := 54) rfl)) (hw _ (List.mem_of_getElem? (i := 55) rfl)) (hw _ (List.mem_of_getElem? (i := 57) rfl)) (hw _ (List.mem_of_getElem? (i := 56) rfl)) (hw _ (List.mem_of_getElem? (i := 36) rfl)) (hw _ (List.mem_of_getElem? (i := 58) rfl)) (by decide) (EN.ext ((((OL.keep K1 all0).keep K7 all0).ext E8).keep K9 (allS g_a8 all0)).2) (rmRdn l Z a0 hw nn h9 n0 (FN.ext ((((OL.keep K1 all0).keep K7 all0).ext E8).keep K9 (allS g_a8 all0)).2)) (g := (mkF m 70 #[.val (.int p1), .val (.int p2), .val (.int p3), .val (.int p4), .val (.int (p2 &&& (3 : Int32))), .val (.int (((p2.toUInt32 >>> ((2 : Int32) &&& 31).toUInt32).toInt32) &&& (3 : Int32))), .val (.ref b1), .val (.ref b7), .val (.ref a8), .val (.int (1 : Int32)), .unset] [(.ref nn)])) rfl (by rw [hml]; rfl) (argsL := []) (rest := []) (lenOf pd_8 rfl) rfl 0 (Nat.le_of_eq rfl) (hb hby at_70) (by decide) (by decide) (by decide) (by decide) ?_
    rintro _ T11 _ ⟨rfl, rfl⟩ H11
    show Go _ _ _ _ (T11.setTop (mkF m 73 #[.val (.int p1), .val (.int p2), .val (.int p3), .val (.int p4), .val (.int (p2 &&& (3 : Int32))), .val (.int (((p2.toUInt32 >>> ((2 : Int32) &&& 31).toUInt32).toInt32) &&& (3 : Int32))), .val (.ref b1), .val (.ref b7), .val (.ref a8), .val (.int (1 : Int32)), .unset] [(.int (0 : Int32))]))
    refine Go.via (fun t_ k_ => XS.ifNo H11.here hx rfl (hb hby at_73) rfl ((if0 _ _).trans (teq (show (0 : Int32) = (0 : Int32) from (by decide))).2) k_) ?_
    show Go _ _ _ _ (T11.setTop (mkF m 76 #[.val (.int p1), .val (.int p2), .val (.int p3), .val (.int p4), .val (.int (p2 &&& (3 : Int32))), .val (.int (((p2.toUInt32 >>> ((2 : Int32) &&& 31).toUInt32).toInt32) &&& (3 : Int32))), .val (.ref b1), .val (.ref b7), .val (.ref a8), .val (.int (1 : Int32)), .unset] []))
    refine Go.via (fun t_ k_ => XS.iconst H11.here hx rfl (hb hby at_76) k_) ?_
    show Go _ _ _ _ (T11.setTop (mkF m 77 #[.val (.int p1), .val (.int p2), .val (.int p3), .val (.int p4), .val (.int (p2 &&& (3 : Int32))), .val (.int (((p2.toUInt32 >>> ((2 : Int32) &&& 31).toUInt32).toInt32) &&& (3 : Int32))), .val (.ref b1), .val (.ref b7), .val (.ref a8), .val (.int (1 : Int32)), .unset] [(.int (1 : Int32))]))
    refine Go.via (fun t_ k_ => XS.goto H11.here hx rfl (pc0 := 77) (pc' := 81) rfl (hb hby at_77) (by decide) (by decide) k_) ?_
    show Go _ _ _ _ (T11.setTop (mkF m 81 #[.val (.int p1), .val (.int p2), .val (.int p3), .val (.int p4), .val (.int (p2 &&& (3 : Int32))), .val (.int (((p2.toUInt32 >>> ((2 : Int32) &&& 31).toUInt32).toInt32) &&& (3 : Int32))), .val (.ref b1), .val (.ref b7), .val (.ref a8), .val (.int (1 : Int32)), .unset] [(.int (1 : Int32))]))
    refine Go.via (fun t_ k_ => XS.istore H11.here hx rfl (hb hby at_81) rfl (l' := #[.val (.int p1), .val (.int p2), .val (.int p3), .val (.int p4), .val (.int (p2 &&& (3 : Int32))), .val (.int (((p2.toUInt32 >>> ((2 : Int32) &&& 31).toUInt32).toInt32) &&& (3 : Int32))), .val (.ref b1), .val (.ref b7), .val (.ref a8), .val (.int (1 : Int32)), .val (.int (1 : Int32))]) rfl k_) ?_
    show Go _ _ _ _ (T11.setTop (mkF m 83 #[.val (.int p1), .val (.int p2), .val (.int p3), .val (.int p4), .val (.int (p2 &&& (3 : Int32))), .val (.int (((p2.toUInt32 >>> ((2 : Int32) &&& 31).toUInt32).toInt32) &&& (3 : Int32))), .val (.ref b1), .val (.ref b7), .val (.ref a8), .val (.int (1 : Int32)), .val (.int (1 : Int32))] []))
    refine Go.via (fun t_ k_ => XS.aload H11.here hx rfl (hb hby at_83) rfl rfl k_) ?_
    show Go _ _ _ _ (T11.setTop (mkF m 85 #[.val (.int p1), .val (.int p2), .val (.int p3), .val (.int p4), .val (.int (p2 &&& (3 : Int32))), .val (.int (((p2.toUInt32 >>> ((2 : Int32) &&& 31).toUInt32).toInt32) &&& (3 : Int32))), .val (.ref b1), .val (.ref b7), .val (.ref a8), .val (.int (1 : Int32)), .val (.int (1 : Int32))] [(.ref a8)]))
    refine own_callV H11 hx hZ (C := "com/example/equisetum/equisetum/ExternalEntities$Preempting") (y := (⟨"com/example/equisetum/equisetum/ExternalEntities$Preempting", "read", "()Z"⟩ : MethodName)) (a := a8) hown (hw _ (List.mem_of_getElem? (i := 54) rfl)) (hw _ (List.mem_of_getElem? (i := 55) rfl)) (hw _ (List.mem_of_getElem? (i := 57) rfl)) (hw _ (List.mem_of_getElem? (i := 56) rfl)) (hw _ (List.mem_of_getElem? (i := 36) rfl)) (hw _ (List.mem_of_getElem? (i := 58) rfl)) (by decide) E9 (rmRd l Z a0 hw a8 b7 h9 n0 F9) (g := (mkF m 85 #[.val (.int p1), .val (.int p2), .val (.int p3), .val (.int p4), .val (.int (p2 &&& (3 : Int32))), .val (.int (((p2.toUInt32 >>> ((2 : Int32) &&& 31).toUInt32).toInt32) &&& (3 : Int32))), .val (.ref b1), .val (.ref b7), .val (.ref a8), .val (.int (1 : Int32)), .val (.int (1 : Int32))] [(.ref a8)])) rfl (by rw [hml]; rfl) (argsL := []) (rest := []) (lenOf pd_8 rfl) rfl 0 (Nat.le_of_eq rfl) (hb hby at_85) (by decide) (by decide) (by decide) (by decide) ?_
    rintro _ T12 _ ⟨rfl, rfl⟩ H12
    show Go _ _ _ _ (T12.setTop (mkF m 88 #[.val (.int p1), .val (.int p2), .val (.int p3), .val (.int p4), .val (.int (p2 &&& (3 : Int32))), .val (.int (((p2.toUInt32 >>> ((2 : Int32) &&& 31).toUInt32).toInt32) &&& (3 : Int32))), .val (.ref b1), .val (.ref b7), .val (.ref a8), .val (.int (1 : Int32)), .val (.int (1 : Int32))] [(.int (1 : Int32))]))
    refine Go.via (fun t_ k_ => XS.iload H12.here hx rfl (hb hby at_88) rfl k_) ?_
    show Go _ _ _ _ (T12.setTop (mkF m 90 #[.val (.int p1), .val (.int p2), .val (.int p3), .val (.int p4), .val (.int (p2 &&& (3 : Int32))), .val (.int (((p2.toUInt32 >>> ((2 : Int32) &&& 31).toUInt32).toInt32) &&& (3 : Int32))), .val (.ref b1), .val (.ref b7), .val (.ref a8), .val (.int (1 : Int32)), .val (.int (1 : Int32))] [(.int (1 : Int32)), (.int (1 : Int32))]))
    refine Go.via (fun t_ k_ => XS.icmpNo H12.here hx rfl (hb hby at_90) rfl ((teq (show (1 : Int32) = (1 : Int32) from (by decide))).2) k_) ?_
    show Go _ _ _ _ (T12.setTop (mkF m 93 #[.val (.int p1), .val (.int p2), .val (.int p3), .val (.int p4), .val (.int (p2 &&& (3 : Int32))), .val (.int (((p2.toUInt32 >>> ((2 : Int32) &&& 31).toUInt32).toInt32) &&& (3 : Int32))), .val (.ref b1), .val (.ref b7), .val (.ref a8), .val (.int (1 : Int32)), .val (.int (1 : Int32))] []))
    refine Go.via (fun t_ k_ => XS.iload H12.here hx rfl (hb hby at_93) rfl k_) ?_
    show Go _ _ _ _ (T12.setTop (mkF m 95 #[.val (.int p1), .val (.int p2), .val (.int p3), .val (.int p4), .val (.int (p2 &&& (3 : Int32))), .val (.int (((p2.toUInt32 >>> ((2 : Int32) &&& 31).toUInt32).toInt32) &&& (3 : Int32))), .val (.ref b1), .val (.ref b7), .val (.ref a8), .val (.int (1 : Int32)), .val (.int (1 : Int32))] [(.int (1 : Int32))]))
    refine Go.via (fun t_ k_ => XS.ifNo H12.here hx rfl (hb hby at_95) rfl ((if0 _ _).trans (feq (show ¬ ((1 : Int32) = (0 : Int32)) from (by decide))).1) k_) ?_
    show Go _ _ _ _ (T12.setTop (mkF m 98 #[.val (.int p1), .val (.int p2), .val (.int p3), .val (.int p4), .val (.int (p2 &&& (3 : Int32))), .val (.int (((p2.toUInt32 >>> ((2 : Int32) &&& 31).toUInt32).toInt32) &&& (3 : Int32))), .val (.ref b1), .val (.ref b7), .val (.ref a8), .val (.int (1 : Int32)), .val (.int (1 : Int32))] []))
    refine Go.via (fun t_ k_ => XS.iconst H12.here hx rfl (hb hby at_98) k_) ?_
    show Go _ _ _ _ (T12.setTop (mkF m 99 #[.val (.int p1), .val (.int p2), .val (.int p3), .val (.int p4), .val (.int (p2 &&& (3 : Int32))), .val (.int (((p2.toUInt32 >>> ((2 : Int32) &&& 31).toUInt32).toInt32) &&& (3 : Int32))), .val (.ref b1), .val (.ref b7), .val (.ref a8), .val (.int (1 : Int32)), .val (.int (1 : Int32))] [(.int (1 : Int32))]))
    refine Go.via (fun t_ k_ => XS.goto H12.here hx rfl (pc0 := 99) (pc' := 103) rfl (hb hby at_99) (by decide) (by decide) k_) ?_
    show Go _ _ _ _ (T12.setTop (mkF m 103 #[.val (.int p1), .val (.int p2), .val (.int p3), .val (.int p4), .val (.int (p2 &&& (3 : Int32))), .val (.int (((p2.toUInt32 >>> ((2 : Int32) &&& 31).toUInt32).toInt32) &&& (3 : Int32))), .val (.ref b1), .val (.ref b7), .val (.ref a8), .val (.int (1 : Int32)), .val (.int (1 : Int32))] [(.int (1 : Int32))]))
    exact own_retNC H12 ((LB7.grow E8.1).grow K9.1) hx hlk (by simp) hret (hb hby at_103) rfl (by decide) (by decide)
theorem not_v_own {args : Array Value} {s : State} {t : Term} (h : t.eval args s none [] s = some (.int (0 : Int32))) : (Jvm.Cond.not (Jvm.Cond.eq t (Term.int (0 : Int32)))).value args s none s [] = some false := by
  simp [Cond.value, h, Term.eval]
theorem own_fld {args : Array Value} {s : State} {t : Term} {a : Addr} {C n d : String} {v : Value} (e : t.eval args s none [] s = some (.ref a)) (h : (Term.field t C n d).eval args s none [] s = some v) : s.fieldOf? a C n d = some v := by
  simpa [Term.eval, e] using h
set_option maxRecDepth 65536 in
set_option maxHeartbeats 40000000 in
theorem comes_1 {Post : Tables → Env → Array Value → State → Outcome → State → Prop} (hpost : ∀ tb e args s v u, (limb_1_1.after args s (.returned v) u = true ∧ limb_1_2.after args s (.returned v) u = true ∧ True) → ReturnedEndW s (.returned v) u (Jvm.fieldLocs frame_1_writes args s ++ Jvm.arrayLocs frame_1_arrays args s ++ Jvm.staticLocs frame_1_statics s) 24 1152 → Post tb e args s (.returned v) u) :
    ArmFor flags0 classFile x code maxLocals ret World_1 tables_1 room_1 Calls_1 rest_1 Pre_1 Post := by
  intro l hfl _ _ p e ha hc hk s m args below hf hA hF happ hP
  obtain ⟨hcalls, hrest, hpre⟩ := hP
  obtain ⟨-, -, -, hnamed, -, -, -, hat⟩ := (Spec.applies_iff hf).mp happ
  obtain ⟨hg, hn⟩ := and_e (Cond.before_iff.mp (show (Jvm.Cond.and given_1 narrow_1).before args s = true from hpre))
  obtain ⟨g0, g1⟩ := and_e hg
  obtain ⟨i0, r0⟩ := and_e g1
  obtain ⟨i1, r1⟩ := and_e r0
  obtain ⟨i2, r2⟩ := and_e r1
  obtain ⟨w0, w1, w2, w3, rfl⟩ : ∃ w0 w1 w2 w3 : Value, args = #[w0, w1, w2, w3] := by
    have hs : args.size = 4 := by simpa [Cond.value, given_1] using g0
    obtain ⟨L⟩ := args
    match L, hs with
    | [w0, w1, w2, w3], _ => exact ⟨w0, w1, w2, w3, rfl⟩
  have hw := fun d (hd : d ∈ tables_1) => atoms_spec (ws := Jvm.Cond.code x code maxLocals ret :: tables_1) hat d (List.mem_cons_of_mem _ hd)
  have hfit : Fit s := fun {y c} hc i hi => by
    obtain ⟨ha, rfl⟩ := Array.getElem?_eq_some_iff.mp hc
    have q := List.all_eq_true.mp ((Array.all_eq_true_iff_forall_mem.mp hF) _ (Array.getElem_mem ha)) i (List.mem_range.mpr hi)
    simpa [Array.getElem?_eq_getElem hi] using q
  obtain ⟨v0, e0⟩ := is_v i0
  obtain rfl : w0 = (.int v0) := Option.some.inj e0
  obtain ⟨v1, e1⟩ := is_v i1
  obtain rfl : w1 = (.int v1) := Option.some.inj e1
  obtain ⟨v2, e2⟩ := is_v i2
  obtain rfl : w2 = (.int v2) := Option.some.inj e2
  obtain ⟨v3, e3⟩ := is_v r2
  obtain rfl : w3 = (.int v3) := Option.some.inj e3
  have hsets := (atoms_of jdkStatics_1 (show (jdkStatics_1.foldr Jvm.Cond.and restOwn_1).before _ s = true from hrest)).1
  obtain ⟨cs, ecs⟩ := is_v (Cond.before_iff.mp (hsets _ (List.mem_of_getElem? (i := 1) rfl)))
  have SC := Sta.start ecs (Or.inl (hsets _ (List.mem_of_getElem? (i := 0) rfl)))
  have hcs : ¬ cs = 0 := fun q => by
    subst q
    have := Cond.before_iff.mp (hsets _ (List.mem_of_getElem? (i := 2) rfl))
    rw [not_v_own ecs] at this
    cases this
  obtain ⟨f, ef, hfr⟩ := isR_v (Cond.before_iff.mp (hsets _ (List.mem_of_getElem? (i := 8) rfl)))
  have SF := Sta.start ef (Or.inl (hsets _ (List.mem_of_getElem? (i := 7) rfl)))
  have wS : ∀ a ∈ Bundle.stringAtoms, a.before #[.int v0, .int v1, .int v2, .int v3] s = true := by
    intro d hd
    simp only [Bundle.stringAtoms, List.mem_cons, List.not_mem_nil, or_false] at hd
    rcases hd with rfl | rfl | rfl | rfl | rfl | rfl | rfl
    · exact hw _ (List.mem_of_getElem? (i := 6) rfl)
    · exact hw _ (List.mem_of_getElem? (i := 5) rfl)
    · exact hw _ (List.mem_of_getElem? (i := 23) rfl)
    · exact hw _ (List.mem_of_getElem? (i := 33) rfl)
    · exact hw _ (List.mem_of_getElem? (i := 31) rfl)
    · exact hw _ (List.mem_of_getElem? (i := 60) rfl)
    · exact hw _ (List.mem_of_getElem? (i := 61) rfl)
  have hheld : ∀ p ∈ consts_1, Jvm.Lit.constHeld s p.1 p.2 := hcalls.1
  have hcw : Jvm.Lit.compactW.before #[.int v0, .int v1, .int v2, .int v3] s = true := hsets _ (List.mem_of_getElem? (i := 2) rfl)
  obtain ⟨n1, n2⟩ := and_e hn
  obtain ⟨nn, enn⟩ := exa_v n1
  have SN := Sta.start enn (Or.inr ⟨hw _ (List.mem_of_getElem? (i := 36) rfl), hw _ (List.mem_of_getElem? (i := 53) rfl)⟩)
  have EN := Exa.start enn n1
  have FN := Fld.start (own_fld enn (null_v n2))
  have hEL : EW s #[.int v0, .int v1, .int v2, .int v3] consts_1 := EW.cons (hw _ (List.mem_of_getElem? (i := 59) rfl)) (by decide) EW.nil
  obtain ⟨n, o, h1, h2, h3, _, L, rfl, ⟨rfl, N⟩, hq⟩ := rm0 l s _ hw v0 v1 v2 v3 cs nn s.heap s.heap.size rfl rfl hEL wS hheld hcw (Old.start s) SC hcs SN EN FN tables_1 p e ha hc hk s m _ below hf ((Spec.applies_iff_loose hf).mp happ).1 ⟨rfl, rfl⟩ trivial
  refine ⟨n, _, h1, h2, h3, hpost _ _ _ _ _ _ ⟨Cond.after_iff.mpr rfl, Cond.after_iff.mpr (eq_i res_at (Term.int_eval (1)) rfl), trivial⟩ ⟨hq.1, hq.2.1, hq.2.2.1, (hq.2.2.2.sift fun y hy => Or.inr (N y hy)).mono (by decide) (by decide)⟩⟩
theorem main_1_1 : Claimed_1_1 := comes_1 fun _ _ _ _ _ _ h hF => ⟨h.1, hF⟩
theorem main_1_2 : Claimed_1_2 := comes_1 fun _ _ _ _ _ _ h hF => ⟨h.2.1, hF⟩
end Jvm.Pilot.@@N@@
namespace Jvm.Pilot.@@N@@
open Jvm Jvm.ClassFile Sem Op Lib Jvm.Free Jvm.Stand Jvm.Pilot.@@N@@.Jvm.D
/-! MADE BY PROGRAM (witnessworld.py) out of the Statement's table words and the real class files: 22 classes; the members and pool entries that the words name. The judged class is class 1, her method 1. -/
namespace start1
open Jvm.ClassFile
def u (s : String) : CpInfo := .utf8 (stringToUtf16 s)
/-- a pool by its gaps: so many unusable entries, then the entry; so many at the end -/
def gap : Nat → List CpInfo → List CpInfo
  | 0, r => r
  | n + 1, r => .unusable :: gap n r
def poolList (es : List (Nat × CpInfo)) (last : Nat) : List CpInfo := es.foldr (fun e r => gap e.1 (e.2 :: r)) (gap last [])
def pool (es : List (Nat × CpInfo)) (last : Nat) : Array CpInfo := ⟨poolList es last⟩
def fileOf (pool : Array CpInfo) (this : Nat) (attrs : Array Attribute := #[]) (ms : Array MethodInfo := #[]) (fl : Nat := 33) (sup : Nat := 0) (ifs : Array Nat := #[]) (fds : Array FieldInfo := #[]) : ClassFile where
  minorVersion := 0
  majorVersion := 65
  constantPool := pool
  accessFlags := fl
  thisClass := this
  superClass := sup
  interfaces := ifs
  fields := fds
  methods := ms
  attributes := attrs
def plain (name : String) (sup : Option ClassId) : Class where
  name := name
  kind := .ordinary
  loader := none
  accessFlags := 33
  super := sup
  interfaces := #[]
  cf := none
  fields := #[]
  methods := #[]
  instanceTypes := #[]
  staticTypes := #[]
  resolved := #[]
  callSites := []
  init := .initialized
  statics := none
  mirror := none

def pool0 : Array CpInfo := pool [(5, u "<init>"), (0, u "()V"), (1, .class_ 10), (1, u "java/lang/Object")] 113

def k0c0 : Code := { maxStack := 0, maxLocals := 1, code := object_method_1_code, exceptionTable := #[], attributes := #[] }
def k0m0 : Method := { name := "<init>", desc := "()V", sig := { parameters := [], returnType := none }, accessFlags := 1, code := some k0c0 }
/-- java/lang/Object -/
def k0 : Class := { plain "java/lang/Object" none with
  accessFlags := 33
  interfaces := #[]
  cf := some (fileOf pool0 8 #[] #[{ accessFlags := 1, nameIndex := 5, descriptorIndex := 6, attributes := #[] }] 33 0 #[] #[])
  fields := #[]
  methods := #[k0m0]
  instanceTypes := #[]
  staticTypes := #[]
  resolved := Array.replicate 124 none
  statics := none }

def pool1 : Array CpInfo := pool [(2, .class_ 4), (1, u "java/lang/Object"), (0, u "<init>"), (0, u "()V"), (0, .methodref 8 9), (0, .class_ 10), (0, .nameAndType 11 12), (0, u "com/example/equisetum/equisetum/PreemptingReadPinLaw"), (0, u "drawn"), (0, u "(III)Ljava/lang/String;"), (0, .class_ 14), (0, u "com/example/equisetum/equisetum/ExternalEntities$Preempting"), (0, .methodref 13 16), (0, .nameAndType 5 17), (0, u "(ILjava/lang/String;Ljava/lang/String;)V"), (0, .fieldref 13 19), (0, .nameAndType 20 21), (0, u "NONE"), (0, u "Lcom/example/equisetum/equisetum/ExternalEntities$Preempting;"), (0, .methodref 13 23), (0, .nameAndType 24 25), (0, u "read"), (0, u "()Z"), (0, .class_ 27), (0, u "java/lang/String"), (0, .methodref 26 29), (0, .nameAndType 5 30), (0, u "([C)V"), (2, u "law"), (0, u "(IIII)Z")] 7

def k1m0 : Method := { name := "<init>", desc := "()V", sig := { parameters := [], returnType := none }, accessFlags := 1, code := none }
def k1c1 : Code := { maxStack := 5, maxLocals := 11, code := code, exceptionTable := #[], attributes := #[] }
def k1m1 : Method := { name := "law", desc := "(IIII)Z", sig := { parameters := [.int, .int, .int, .int], returnType := some .boolean }, accessFlags := 9, code := some k1c1 }
def k1c2 : Code := { maxStack := 6, maxLocals := 6, code := method_3_code, exceptionTable := #[], attributes := #[] }
def k1m2 : Method := { name := "drawn", desc := "(III)Ljava/lang/String;", sig := { parameters := [.int, .int, .int], returnType := some (.object "java/lang/String") }, accessFlags := 10, code := some k1c2 }
/-- com/example/equisetum/equisetum/PreemptingReadPinLaw -/
def k1 : Class := { plain "com/example/equisetum/equisetum/PreemptingReadPinLaw" (some 0) with
  accessFlags := 49
  interfaces := #[]
  cf := some (fileOf pool1 8 #[] #[{ accessFlags := 1, nameIndex := 5, descriptorIndex := 6, attributes := #[] }, { accessFlags := 9, nameIndex := 33, descriptorIndex := 34, attributes := #[] }, { accessFlags := 10, nameIndex := 11, descriptorIndex := 12, attributes := #[] }] 49 2 #[] #[])
  fields := #[]
  methods := #[k1m0, k1m1, k1m2]
  instanceTypes := #[]
  staticTypes := #[]
  resolved := Array.replicate 42 none
  statics := none }

def pool2 : Array CpInfo := pool [(1, .class_ 2), (0, u "java/io/Serializable"), (0, .class_ 4), (0, u "java/lang/Object")] 2

/-- java/io/Serializable -/
def k2 : Class := { plain "java/io/Serializable" (some 0) with
  accessFlags := 1537
  interfaces := #[]
  cf := some (fileOf pool2 1 #[] #[] 1537 3 #[] #[])
  fields := #[]
  methods := #[]
  instanceTypes := #[]
  staticTypes := #[]
  resolved := Array.replicate 7 none
  statics := none }

def pool3 : Array CpInfo := pool [(1, .class_ 2), (0, u "java/lang/Comparable"), (0, .class_ 4), (0, u "java/lang/Object")] 7

/-- java/lang/Comparable -/
def k3 : Class := { plain "java/lang/Comparable" (some 0) with
  accessFlags := 1537
  interfaces := #[]
  cf := some (fileOf pool3 1 #[] #[] 1537 3 #[] #[])
  fields := #[]
  methods := #[]
  instanceTypes := #[]
  staticTypes := #[]
  resolved := Array.replicate 12 none
  statics := none }

def pool4 : Array CpInfo := pool [(2, .class_ 4), (1, u "java/lang/CharSequence"), (42, .class_ 48), (0, u "java/lang/CharSequence$1CodePointIterator"), (10, .class_ 60), (0, u "java/lang/CharSequence$1CharIterator"), (5, .class_ 67), (0, u "java/lang/Object")] 63

/-- java/lang/CharSequence -/
def k4 : Class := { plain "java/lang/CharSequence" (some 0) with
  accessFlags := 1537
  interfaces := #[]
  cf := some (fileOf pool4 2 #[.nestMembers #[47, 59]] #[] 1537 66 #[] #[])
  fields := #[]
  methods := #[]
  instanceTypes := #[]
  staticTypes := #[]
  resolved := Array.replicate 131 none
  statics := none }

def pool5 : Array CpInfo := pool [(1, .class_ 2), (0, u "java/lang/constant/Constable"), (0, .class_ 4), (0, u "java/lang/Object")] 6

/-- java/lang/constant/Constable -/
def k5 : Class := { plain "java/lang/constant/Constable" (some 0) with
  accessFlags := 1537
  interfaces := #[]
  cf := some (fileOf pool5 1 #[] #[] 1537 3 #[] #[])
  fields := #[]
  methods := #[]
  instanceTypes := #[]
  staticTypes := #[]
  resolved := Array.replicate 11 none
  statics := none }

def pool6 : Array CpInfo := pool [(1, .class_ 2), (0, u "java/lang/constant/ConstantDesc"), (0, .class_ 4), (0, u "java/lang/Object")] 32

/-- java/lang/constant/ConstantDesc -/
def k6 : Class := { plain "java/lang/constant/ConstantDesc" (some 0) with
  accessFlags := 1537
  interfaces := #[]
  cf := some (fileOf pool6 1 #[] #[] 1537 3 #[] #[])
  fields := #[]
  methods := #[]
  instanceTypes := #[]
  staticTypes := #[]
  resolved := Array.replicate 37 none
  statics := none }

def pool7 : Array CpInfo := pool [(1, .methodref 2 3), (0, .class_ 4), (0, .nameAndType 5 6), (0, u "java/lang/Object"), (0, u "<init>"), (0, u "()V"), (0, .string 8), (0, u ""), (0, .fieldref 10 11), (0, .class_ 12), (0, .nameAndType 13 14), (0, u "java/lang/String"), (0, u "value"), (0, u "[B"), (0, .fieldref 10 16), (0, .nameAndType 17 18), (0, u "coder"), (0, u "B"), (2, u "hash"), (0, u "I"), (2, u "hashIsZero"), (0, u "Z"), (0, .methodref 10 28), (0, .nameAndType 5 29), (0, u "([CIILjava/lang/Void;)V"), (8, .fieldref 10 39), (0, .nameAndType 40 26), (0, u "COMPACT_STRINGS"), (1, .class_ 44), (1, u "java/lang/StringUTF16"), (0, u "compress"), (1, .methodref 42 48), (0, .nameAndType 49 50), (0, u "coderFromArrayLen"), (0, u "([BI)B"), (126, .methodref 42 178), (0, .nameAndType 45 179), (0, u "([CII)[B"), (395, .class_ 576), (0, u "java/lang/CharSequence"), (22, u "CASE_INSENSITIVE_ORDER"), (0, u "Ljava/util/Comparator;"), (409, u "([C)V"), (90, u "serialPersistentFields"), (0, u "[Ljava/io/ObjectStreamField;"), (0, .class_ 1104), (0, u "java/lang/String$CaseInsensitiveComparator"), (1, .class_ 1107), (0, u "java/io/Serializable"), (0, .class_ 1109), (0, u "java/lang/Comparable"), (0, .class_ 1111), (0, u "java/lang/constant/Constable"), (0, .class_ 1113), (0, u "java/lang/constant/ConstantDesc"), (2, u "serialVersionUID"), (0, u "J"), (3, u "REPL"), (0, u "C"), (2, u "LATIN1"), (1, u "UTF16")] 323

def k7m0 : Method := { name := "<init>", desc := "()V", sig := { parameters := [], returnType := none }, accessFlags := 1, code := none }
def k7c1 : Code := { maxStack := 5, maxLocals := 2, code := jdk_42_method_3_code, exceptionTable := #[], attributes := #[] }
def k7m1 : Method := { name := "<init>", desc := "([C)V", sig := { parameters := [(.array .char)], returnType := none }, accessFlags := 1, code := some k7c1 }
def k7c2 : Code := { maxStack := 4, maxLocals := 6, code := jdk_42_method_149_code, exceptionTable := #[], attributes := #[] }
def k7m2 : Method := { name := "<init>", desc := "([CIILjava/lang/Void;)V", sig := { parameters := [(.array .char), .int, .int, (.object "java/lang/Void")], returnType := none }, accessFlags := 2, code := some k7c2 }
/-- java/lang/String -/
def k7 : Class := { plain "java/lang/String" (some 0) with
  accessFlags := 49
  interfaces := #[2, 3, 4, 5, 6]
  cf := some (fileOf pool7 10 #[.nestMembers #[1103]] #[{ accessFlags := 1, nameIndex := 5, descriptorIndex := 6, attributes := #[] }, { accessFlags := 1, nameIndex := 5, descriptorIndex := 1010, attributes := #[] }, { accessFlags := 2, nameIndex := 5, descriptorIndex := 29, attributes := #[] }] 49 2 #[1106, 1108, 575, 1110, 1112] #[{ accessFlags := 18, nameIndex := 13, descriptorIndex := 14, attributes := #[] }, { accessFlags := 18, nameIndex := 17, descriptorIndex := 18, attributes := #[] }, { accessFlags := 2, nameIndex := 21, descriptorIndex := 22, attributes := #[] }, { accessFlags := 2, nameIndex := 25, descriptorIndex := 26, attributes := #[] }, { accessFlags := 26, nameIndex := 1116, descriptorIndex := 1117, attributes := #[] }, { accessFlags := 24, nameIndex := 40, descriptorIndex := 26, attributes := #[] }, { accessFlags := 26, nameIndex := 1101, descriptorIndex := 1102, attributes := #[] }, { accessFlags := 26, nameIndex := 1121, descriptorIndex := 1122, attributes := #[] }, { accessFlags := 25, nameIndex := 599, descriptorIndex := 600, attributes := #[] }, { accessFlags := 24, nameIndex := 1125, descriptorIndex := 18, attributes := #[] }, { accessFlags := 24, nameIndex := 1127, descriptorIndex := 18, attributes := #[] }])
  fields := #[{ name := "value", type := (.array .byte), accessFlags := 18, slot := 0, constantValue := 0 }, { name := "coder", type := .byte, accessFlags := 18, slot := 1, constantValue := 0 }, { name := "hash", type := .int, accessFlags := 2, slot := 2, constantValue := 0 }, { name := "hashIsZero", type := .boolean, accessFlags := 2, slot := 3, constantValue := 0 }, { name := "serialVersionUID", type := .long, accessFlags := 26, slot := 0, constantValue := 0 }, { name := "COMPACT_STRINGS", type := .boolean, accessFlags := 24, slot := 1, constantValue := 0 }, { name := "serialPersistentFields", type := (.array (.object "java/io/ObjectStreamField")), accessFlags := 26, slot := 2, constantValue := 0 }, { name := "REPL", type := .char, accessFlags := 26, slot := 3, constantValue := 0 }, { name := "CASE_INSENSITIVE_ORDER", type := (.object "java/util/Comparator"), accessFlags := 25, slot := 4, constantValue := 0 }, { name := "LATIN1", type := .byte, accessFlags := 24, slot := 5, constantValue := 0 }, { name := "UTF16", type := .byte, accessFlags := 24, slot := 6, constantValue := 0 }]
  methods := #[k7m0, k7m1, k7m2]
  instanceTypes := #[(.array .byte), .byte, .int, .boolean]
  staticTypes := #[.long, .boolean, (.array (.object "java/io/ObjectStreamField")), .char, (.object "java/util/Comparator"), .byte, .byte]
  resolved := Array.replicate 1451 none
  statics := some 0 }

def pool8 : Array CpInfo := pool [(6, .class_ 8), (1, u "java/lang/Object"), (0, u "<init>"), (0, u "()V"), (1, .class_ 14), (1, u "java/lang/StringUTF16"), (31, u "$assertionsDisabled"), (0, u "Z"), (13, u "HI_BYTE_SHIFT"), (0, u "I"), (2, u "LO_BYTE_SHIFT"), (49, .methodref 12 116), (0, .nameAndType 117 118), (0, u "compress"), (0, u "([CI[BII)I"), (3, u "([CII)[B"), (138, u "coderFromArrayLen"), (0, u "([BI)B"), (106, .class_ 371), (1, u "java/lang/StringUTF16$LinesSpliterator"), (58, u "MAX_LENGTH"), (196, .class_ 628), (0, u "java/lang/StringUTF16$CodePointsSpliterator"), (0, .class_ 630), (0, u "java/lang/StringUTF16$CharsSpliterator")] 4

def k8m0 : Method := { name := "<init>", desc := "()V", sig := { parameters := [], returnType := none }, accessFlags := 0, code := none }
def k8c1 : Code := { maxStack := 2, maxLocals := 2, code := jdk_52_method_15_code, exceptionTable := #[], attributes := #[] }
def k8m1 : Method := { name := "coderFromArrayLen", desc := "([BI)B", sig := { parameters := [(.array .byte), .int], returnType := some .byte }, accessFlags := 8, code := some k8c1 }
def k8c2 : Code := { maxStack := 5, maxLocals := 6, code := jdk_52_method_16_code, exceptionTable := #[], attributes := #[] }
def k8m2 : Method := { name := "compress", desc := "([CII)[B", sig := { parameters := [(.array .char), .int, .int], returnType := some (.array .byte) }, accessFlags := 9, code := some k8c2 }
def k8c3 : Code := { maxStack := 3, maxLocals := 7, code := jdk_52_method_21_code, exceptionTable := #[], attributes := #[] }
def k8m3 : Method := { name := "compress", desc := "([CI[BII)I", sig := { parameters := [(.array .char), .int, (.array .byte), .int, .int], returnType := some .int }, accessFlags := 9, code := some k8c3 }
/-- java/lang/StringUTF16 -/
def k8 : Class := { plain "java/lang/StringUTF16" (some 0) with
  accessFlags := 48
  interfaces := #[]
  cf := some (fileOf pool8 12 #[.nestMembers #[627, 629, 369]] #[{ accessFlags := 0, nameIndex := 9, descriptorIndex := 10, attributes := #[] }, { accessFlags := 8, nameIndex := 261, descriptorIndex := 262, attributes := #[] }, { accessFlags := 9, nameIndex := 117, descriptorIndex := 122, attributes := #[] }, { accessFlags := 9, nameIndex := 117, descriptorIndex := 118, attributes := #[] }] 48 6 #[] #[{ accessFlags := 26, nameIndex := 61, descriptorIndex := 62, attributes := #[] }, { accessFlags := 26, nameIndex := 65, descriptorIndex := 62, attributes := #[] }, { accessFlags := 24, nameIndex := 430, descriptorIndex := 62, attributes := #[] }, { accessFlags := 4120, nameIndex := 46, descriptorIndex := 47, attributes := #[] }])
  fields := #[{ name := "HI_BYTE_SHIFT", type := .int, accessFlags := 26, slot := 0, constantValue := 0 }, { name := "LO_BYTE_SHIFT", type := .int, accessFlags := 26, slot := 1, constantValue := 0 }, { name := "MAX_LENGTH", type := .int, accessFlags := 24, slot := 2, constantValue := 0 }, { name := "$assertionsDisabled", type := .boolean, accessFlags := 4120, slot := 3, constantValue := 0 }]
  methods := #[k8m0, k8m1, k8m2, k8m3]
  instanceTypes := #[]
  staticTypes := #[.int, .int, .int, .boolean]
  resolved := Array.replicate 635 none
  statics := none }

def pool9 : Array CpInfo := pool [(1, .methodref 2 3), (0, .class_ 4), (0, .nameAndType 5 6), (0, u "java/lang/Object"), (0, u "<init>"), (0, u "()V"), (0, .class_ 8), (0, u "java/lang/Record")] 13

def k9c0 : Code := { maxStack := 1, maxLocals := 1, code := jdk_30_method_1_code, exceptionTable := #[], attributes := #[] }
def k9m0 : Method := { name := "<init>", desc := "()V", sig := { parameters := [], returnType := none }, accessFlags := 4, code := some k9c0 }
/-- java/lang/Record -/
def k9 : Class := { plain "java/lang/Record" (some 0) with
  accessFlags := 1057
  interfaces := #[]
  cf := some (fileOf pool9 7 #[] #[{ accessFlags := 4, nameIndex := 5, descriptorIndex := 6, attributes := #[] }] 1057 2 #[] #[])
  fields := #[]
  methods := #[k9m0]
  instanceTypes := #[]
  staticTypes := #[]
  resolved := Array.replicate 22 none
  statics := none }

def pool10 : Array CpInfo := pool [(1, .class_ 2), (0, u "com/example/equisetum/equisetum/ExternalEntities$Handover"), (0, .class_ 4), (0, u "java/lang/Object"), (9, .class_ 15), (0, u "com/example/equisetum/equisetum/ExternalEntities")] 9

/-- com/example/equisetum/equisetum/ExternalEntities$Handover -/
def k10 : Class := { plain "com/example/equisetum/equisetum/ExternalEntities$Handover" (some 0) with
  accessFlags := 1536
  interfaces := #[]
  cf := some (fileOf pool10 1 #[.nestHost 14] #[] 1536 3 #[] #[])
  fields := #[]
  methods := #[]
  instanceTypes := #[]
  staticTypes := #[]
  resolved := Array.replicate 25 none
  statics := none }

def pool11 : Array CpInfo := pool [(1, .methodref 2 3), (0, .class_ 4), (0, .nameAndType 5 6), (0, u "java/lang/Record"), (0, u "<init>"), (0, u "()V"), (0, .fieldref 8 9), (0, .class_ 10), (0, .nameAndType 11 12), (0, u "com/example/equisetum/equisetum/ExternalEntities$Preempting"), (0, u "entity"), (0, u "I"), (0, .fieldref 8 14), (0, .nameAndType 15 16), (0, u "declarations"), (0, u "Ljava/lang/String;"), (0, .fieldref 8 18), (0, .nameAndType 19 16), (0, u "ownText"), (49, u "(ILjava/lang/String;Ljava/lang/String;)V"), (2, u "NONE"), (0, u "Lcom/example/equisetum/equisetum/ExternalEntities$Preempting;"), (0, .class_ 75), (0, u "com/example/equisetum/equisetum/ExternalEntities$Handover"), (3, u "read"), (0, u "()Z"), (9, .class_ 91), (0, u "com/example/equisetum/equisetum/ExternalEntities")] 32

def k11c0 : Code := { maxStack := 2, maxLocals := 4, code := prog_67_method_1_code, exceptionTable := #[], attributes := #[] }
def k11m0 : Method := { name := "<init>", desc := "(ILjava/lang/String;Ljava/lang/String;)V", sig := { parameters := [.int, (.object "java/lang/String"), (.object "java/lang/String")], returnType := none }, accessFlags := 0, code := some k11c0 }
def k11c1 : Code := { maxStack := 1, maxLocals := 1, code := prog_67_method_2_code, exceptionTable := #[], attributes := #[] }
def k11m1 : Method := { name := "read", desc := "()Z", sig := { parameters := [], returnType := some .boolean }, accessFlags := 1, code := some k11c1 }
/-- com/example/equisetum/equisetum/ExternalEntities$Preempting -/
def k11 : Class := { plain "com/example/equisetum/equisetum/ExternalEntities$Preempting" (some 9) with
  accessFlags := 48
  interfaces := #[10]
  cf := some (fileOf pool11 8 #[.nestHost 90] #[{ accessFlags := 0, nameIndex := 5, descriptorIndex := 69, attributes := #[] }, { accessFlags := 1, nameIndex := 79, descriptorIndex := 80, attributes := #[] }] 48 2 #[74] #[{ accessFlags := 18, nameIndex := 11, descriptorIndex := 12, attributes := #[] }, { accessFlags := 18, nameIndex := 15, descriptorIndex := 16, attributes := #[] }, { accessFlags := 18, nameIndex := 19, descriptorIndex := 16, attributes := #[] }, { accessFlags := 24, nameIndex := 72, descriptorIndex := 73, attributes := #[] }])
  fields := #[{ name := "entity", type := .int, accessFlags := 18, slot := 0, constantValue := 0 }, { name := "declarations", type := (.object "java/lang/String"), accessFlags := 18, slot := 1, constantValue := 0 }, { name := "ownText", type := (.object "java/lang/String"), accessFlags := 18, slot := 2, constantValue := 0 }, { name := "NONE", type := (.object "com/example/equisetum/equisetum/ExternalEntities$Preempting"), accessFlags := 24, slot := 0, constantValue := 0 }]
  methods := #[k11m0, k11m1]
  instanceTypes := #[.int, (.object "java/lang/String"), (.object "java/lang/String")]
  staticTypes := #[(.object "com/example/equisetum/equisetum/ExternalEntities$Preempting")]
  resolved := Array.replicate 124 none
  statics := some 1 }

def pool12 : Array CpInfo := pool [(4, .class_ 6), (1, u "java/lang/Object"), (0, u "<init>"), (0, u "()V"), (5, .class_ 16), (1, u "java/lang/StringLatin1"), (104, u "$assertionsDisabled"), (0, u "Z"), (98, .class_ 223), (1, u "java/lang/StringLatin1$LinesSpliterator"), (166, .class_ 391), (0, u "java/lang/StringLatin1$CharsSpliterator")] 3

def k12m0 : Method := { name := "<init>", desc := "()V", sig := { parameters := [], returnType := none }, accessFlags := 0, code := none }
/-- java/lang/StringLatin1 -/
def k12 : Class := { plain "java/lang/StringLatin1" (some 0) with
  accessFlags := 48
  interfaces := #[]
  cf := some (fileOf pool12 14 #[.nestMembers #[390, 221]] #[{ accessFlags := 0, nameIndex := 7, descriptorIndex := 8, attributes := #[] }] 48 4 #[] #[{ accessFlags := 4120, nameIndex := 121, descriptorIndex := 122, attributes := #[] }])
  fields := #[{ name := "$assertionsDisabled", type := .boolean, accessFlags := 4120, slot := 0, constantValue := 0 }]
  methods := #[k12m0]
  instanceTypes := #[]
  staticTypes := #[.boolean]
  resolved := Array.replicate 395 none
  statics := none }

def pool13 : Array CpInfo := pool [(2, .class_ 4), (1, u "java/lang/Object"), (0, u "<init>"), (0, u "()V"), (17, .class_ 26), (1, u "jdk/internal/util/Preconditions"), (28, .class_ 56), (0, u "jdk/internal/util/Preconditions$4"), (57, .class_ 115), (0, u "jdk/internal/util/Preconditions$1"), (7, u "SIOOBE_FORMATTER"), (0, u "Ljava/util/function/BiFunction;"), (0, .class_ 126), (0, u "jdk/internal/util/Preconditions$2"), (3, u "AIOOBE_FORMATTER"), (0, .class_ 132), (0, u "jdk/internal/util/Preconditions$3"), (3, u "IOOBE_FORMATTER")] 57

def k13m0 : Method := { name := "<init>", desc := "()V", sig := { parameters := [], returnType := none }, accessFlags := 1, code := none }
/-- jdk/internal/util/Preconditions -/
def k13 : Class := { plain "jdk/internal/util/Preconditions" (some 0) with
  accessFlags := 33
  interfaces := #[]
  cf := some (fileOf pool13 24 #[.nestMembers #[55, 131, 125, 114]] #[{ accessFlags := 1, nameIndex := 5, descriptorIndex := 6, attributes := #[] }] 33 2 #[] #[{ accessFlags := 25, nameIndex := 123, descriptorIndex := 124, attributes := #[] }, { accessFlags := 25, nameIndex := 130, descriptorIndex := 124, attributes := #[] }, { accessFlags := 25, nameIndex := 136, descriptorIndex := 124, attributes := #[] }])
  fields := #[{ name := "SIOOBE_FORMATTER", type := (.object "java/util/function/BiFunction"), accessFlags := 25, slot := 0, constantValue := 0 }, { name := "AIOOBE_FORMATTER", type := (.object "java/util/function/BiFunction"), accessFlags := 25, slot := 1, constantValue := 0 }, { name := "IOOBE_FORMATTER", type := (.object "java/util/function/BiFunction"), accessFlags := 25, slot := 2, constantValue := 0 }]
  methods := #[k13m0]
  instanceTypes := #[]
  staticTypes := #[(.object "java/util/function/BiFunction"), (.object "java/util/function/BiFunction"), (.object "java/util/function/BiFunction")]
  resolved := Array.replicate 194 none
  statics := some 2 }

def pool14 : Array CpInfo := pool [(9, u "<init>"), (6, .class_ 18), (1, u "java/lang/Object"), (0, u "()V"), (1, .class_ 23), (1, u "jdk/internal/util/ArraysSupport"), (0, u "LOG2_ARRAY_LONG_INDEX_SCALE"), (0, u "I"), (2, u "U"), (0, u "Ljdk/internal/misc/Unsafe;"), (8, u "BIG_ENDIAN"), (0, u "Z"), (8, u "LOG2_BYTE_BIT_SIZE"), (4, u "LOG2_ARRAY_INT_INDEX_SCALE"), (54, u "JLA"), (0, u "Ljdk/internal/access/JavaLangAccess;"), (11, u "LOG2_ARRAY_BOOLEAN_INDEX_SCALE"), (9, u "LOG2_ARRAY_BYTE_INDEX_SCALE"), (5, u "LOG2_ARRAY_CHAR_INDEX_SCALE"), (5, u "LOG2_ARRAY_SHORT_INDEX_SCALE"), (18, u "LOG2_ARRAY_FLOAT_INDEX_SCALE"), (24, u "LOG2_ARRAY_DOUBLE_INDEX_SCALE"), (89, u "T_BOOLEAN"), (2, u "T_CHAR"), (1, u "T_FLOAT"), (1, u "T_DOUBLE"), (1, u "T_BYTE"), (1, u "T_SHORT"), (1, u "T_INT"), (1, u "T_LONG"), (1, u "SOFT_MAX_ARRAY_LENGTH")] 83

def k14m0 : Method := { name := "<init>", desc := "()V", sig := { parameters := [], returnType := none }, accessFlags := 2, code := none }
/-- jdk/internal/util/ArraysSupport -/
def k14 : Class := { plain "jdk/internal/util/ArraysSupport" (some 0) with
  accessFlags := 33
  interfaces := #[]
  cf := some (fileOf pool14 21 #[] #[{ accessFlags := 2, nameIndex := 9, descriptorIndex := 19, attributes := #[] }] 33 16 #[] #[{ accessFlags := 24, nameIndex := 28, descriptorIndex := 29, attributes := #[] }, { accessFlags := 26, nameIndex := 38, descriptorIndex := 39, attributes := #[] }, { accessFlags := 25, nameIndex := 121, descriptorIndex := 25, attributes := #[] }, { accessFlags := 25, nameIndex := 131, descriptorIndex := 25, attributes := #[] }, { accessFlags := 25, nameIndex := 137, descriptorIndex := 25, attributes := #[] }, { accessFlags := 25, nameIndex := 143, descriptorIndex := 25, attributes := #[] }, { accessFlags := 25, nameIndex := 53, descriptorIndex := 25, attributes := #[] }, { accessFlags := 25, nameIndex := 24, descriptorIndex := 25, attributes := #[] }, { accessFlags := 25, nameIndex := 162, descriptorIndex := 25, attributes := #[] }, { accessFlags := 25, nameIndex := 187, descriptorIndex := 25, attributes := #[] }, { accessFlags := 26, nameIndex := 48, descriptorIndex := 25, attributes := #[] }, { accessFlags := 25, nameIndex := 277, descriptorIndex := 25, attributes := #[] }, { accessFlags := 25, nameIndex := 280, descriptorIndex := 25, attributes := #[] }, { accessFlags := 25, nameIndex := 282, descriptorIndex := 25, attributes := #[] }, { accessFlags := 25, nameIndex := 284, descriptorIndex := 25, attributes := #[] }, { accessFlags := 25, nameIndex := 286, descriptorIndex := 25, attributes := #[] }, { accessFlags := 25, nameIndex := 288, descriptorIndex := 25, attributes := #[] }, { accessFlags := 25, nameIndex := 290, descriptorIndex := 25, attributes := #[] }, { accessFlags := 25, nameIndex := 292, descriptorIndex := 25, attributes := #[] }, { accessFlags := 26, nameIndex := 108, descriptorIndex := 109, attributes := #[] }, { accessFlags := 25, nameIndex := 294, descriptorIndex := 25, attributes := #[] }])
  fields := #[{ name := "U", type := (.object "jdk/internal/misc/Unsafe"), accessFlags := 24, slot := 0, constantValue := 0 }, { name := "BIG_ENDIAN", type := .boolean, accessFlags := 26, slot := 1, constantValue := 0 }, { name := "LOG2_ARRAY_BOOLEAN_INDEX_SCALE", type := .int, accessFlags := 25, slot := 2, constantValue := 0 }, { name := "LOG2_ARRAY_BYTE_INDEX_SCALE", type := .int, accessFlags := 25, slot := 3, constantValue := 0 }, { name := "LOG2_ARRAY_CHAR_INDEX_SCALE", type := .int, accessFlags := 25, slot := 4, constantValue := 0 }, { name := "LOG2_ARRAY_SHORT_INDEX_SCALE", type := .int, accessFlags := 25, slot := 5, constantValue := 0 }, { name := "LOG2_ARRAY_INT_INDEX_SCALE", type := .int, accessFlags := 25, slot := 6, constantValue := 0 }, { name := "LOG2_ARRAY_LONG_INDEX_SCALE", type := .int, accessFlags := 25, slot := 7, constantValue := 0 }, { name := "LOG2_ARRAY_FLOAT_INDEX_SCALE", type := .int, accessFlags := 25, slot := 8, constantValue := 0 }, { name := "LOG2_ARRAY_DOUBLE_INDEX_SCALE", type := .int, accessFlags := 25, slot := 9, constantValue := 0 }, { name := "LOG2_BYTE_BIT_SIZE", type := .int, accessFlags := 26, slot := 10, constantValue := 0 }, { name := "T_BOOLEAN", type := .int, accessFlags := 25, slot := 11, constantValue := 0 }, { name := "T_CHAR", type := .int, accessFlags := 25, slot := 12, constantValue := 0 }, { name := "T_FLOAT", type := .int, accessFlags := 25, slot := 13, constantValue := 0 }, { name := "T_DOUBLE", type := .int, accessFlags := 25, slot := 14, constantValue := 0 }, { name := "T_BYTE", type := .int, accessFlags := 25, slot := 15, constantValue := 0 }, { name := "T_SHORT", type := .int, accessFlags := 25, slot := 16, constantValue := 0 }, { name := "T_INT", type := .int, accessFlags := 25, slot := 17, constantValue := 0 }, { name := "T_LONG", type := .int, accessFlags := 25, slot := 18, constantValue := 0 }, { name := "JLA", type := (.object "jdk/internal/access/JavaLangAccess"), accessFlags := 26, slot := 19, constantValue := 0 }, { name := "SOFT_MAX_ARRAY_LENGTH", type := .int, accessFlags := 25, slot := 20, constantValue := 0 }]
  methods := #[k14m0]
  instanceTypes := #[]
  staticTypes := #[(.object "jdk/internal/misc/Unsafe"), .boolean, .int, .int, .int, .int, .int, .int, .int, .int, .int, .int, .int, .int, .int, .int, .int, .int, .int, (.object "jdk/internal/access/JavaLangAccess"), .int]
  resolved := Array.replicate 378 none
  statics := none }

def pool15 : Array CpInfo := pool [(1, u "java/lang/Cloneable"), (0, .class_ 1), (0, u "java/lang/Object"), (0, .class_ 3)] 3

/-- java/lang/Cloneable -/
def k15 : Class := { plain "java/lang/Cloneable" (some 0) with
  accessFlags := 1537
  interfaces := #[]
  cf := some (fileOf pool15 2 #[] #[] 1537 4 #[] #[])
  fields := #[]
  methods := #[]
  instanceTypes := #[]
  staticTypes := #[]
  resolved := Array.replicate 8 none
  statics := none }

/-- the primitive byte -/
def k16 : Class := { plain "byte" none with kind := .primitive 'B', accessFlags := 0x411 }
/-- [B -/
def k17 : Class := { plain "[B" (some 0) with kind := .array 16 .byte, interfaces := #[15, 2], accessFlags := 1041 }

/-- the primitive char -/
def k18 : Class := { plain "char" none with kind := .primitive 'C', accessFlags := 0x411 }
/-- [C -/
def k19 : Class := { plain "[C" (some 0) with kind := .array 18 .char, interfaces := #[15, 2], accessFlags := 1041 }

/-- the primitive int -/
def k20 : Class := { plain "int" none with kind := .primitive 'I', accessFlags := 0x411 }
/-- [I -/
def k21 : Class := { plain "[I" (some 0) with kind := .array 20 .int, interfaces := #[15, 2], accessFlags := 1041 }

def heap : Heap := #[{ cls := 7, slots := #[.long 0, .int 1, .null, .int 0, .null, .int 0, .int 0], vm := .statics 7 },
  { cls := 11, slots := #[.ref 3], vm := .statics 11 },
  { cls := 13, slots := #[.null, .null, .null], vm := .statics 13 },
  { cls := 11, slots := #[.int 0, .null, .null], vm := .none }]
def classes : Array Class := #[k0, k1, k2, k3, k4, k5, k6, k7, k8, k9, k10, k11, k12, k13, k14, k15, k16, k17, k18, k19, k20, k21]
def interned : List (Array UInt16 × Addr) := []
def slotsUsed : Nat := 14
def theMethod : MethodId := ⟨1, 1⟩
def args0 : Array Value := #[.int 7, .int 6, .int 65, .int 66]
def aboutOver (below : List Frame) : State where
  vm := { classes := classes, interned := interned.toArray }
  heap := heap
  slotsUsed := slotsUsed
  threads := #[{ frames := .invoking theMethod args0 :: below }]
def below0 : List Frame := [.native { method := ⟨0, 0⟩, args := #[] }]
def about1 : State := aboutOver below0
def p0 : Program := .bare "" "" ""
def e0 : Env := launch0.env 0 0 0
theorem w_frames : about1.frames = Frame.invoking theMethod args0 :: below0 := rfl
set_option maxRecDepth 65536 in
theorem w_args : argsFit about1.vm theMethod args0 = true := by decide +kernel
set_option maxRecDepth 65536 in
theorem w_heap : heapFits about1 = true := by decide +kernel
set_option maxRecDepth 65536 in
theorem w_runnable : about1.curStatus? = some .runnable := by decide +kernel
set_option maxRecDepth 65536 in
theorem w_alone : about1.alone = true := by decide +kernel
set_option maxRecDepth 65536 in
theorem w_named : about1.methodNamed? x = some theMethod := by decide +kernel
set_option maxRecDepth 65536 in
theorem w_hears : about1.hears theMethod below0 = true := by decide +kernel
set_option maxRecDepth 65536 in
theorem w_ripe : about1.ripe theMethod args0 below0 = true := by decide +kernel
theorem w_running : about1.status = .running := rfl
set_option maxRecDepth 65536 in
theorem w_room : about1.hasRoom e0.platform room_1 = true :=
  launch0.hasRoom_least _ room_1 (by decide +kernel) (by decide +kernel) (by decide +kernel) (by decide +kernel) (by decide +kernel) (by decide +kernel)
theorem allAtoms_all (ts : List Jvm.Cond) (a : Array Jvm.Value) (st : Jvm.State) : (allAtoms ts).before a st = ts.all (fun c => c.before a st) := by
  induction ts with
  | nil => rfl
  | cons c t ih =>
    show (Jvm.Cond.and c (allAtoms t)).before a st = _
    rw [Jvm.Cond.before_and, ih, List.all_cons]
def words1 : List Jvm.Cond := Jvm.Cond.code x code maxLocals ret :: tables_1
/-- a 'code' word, met by the world's own term for the bytes: nothing is compared byte by byte -/
theorem code_word {y : MethodName} {bytes : ByteArray} {mx : Nat} {rt : Option FieldType} {a : Array Value} {s : State} {m : MethodId} {meth : Method} {c : Code} (h1 : s.methodNamed? y = some m) (h2 : s.vm.method? m = some meth) (h3 : meth.code = some c) (h4 : c.code = bytes)
    (h5 : (c.maxLocals == mx && c.exceptionTable.isEmpty && decide (c.maxStack ≤ mostOperands) && decide (meth.sig.returnType = rt) && !meth.locks && decide (parseMethodDescriptor y.desc = some meth.sig)) = true) : (Jvm.Cond.code y bytes mx rt).before a s = true := by
  simp only [Bool.and_eq_true, beq_iff_eq, Bool.not_eq_true', decide_eq_true_eq] at h5
  obtain ⟨⟨⟨⟨⟨g1, g2⟩, g3⟩, g4⟩, g5⟩, g6⟩ := h5
  simp [Cond.before, Cond.holds, Cond.value, h1, h2, h3, h4, g1, g2, g3, g4, g5, g6]
def isCode : Jvm.Cond → Bool
  | .code _ _ _ _ => true
  | _ => false
theorem all_split {L : List Jvm.Cond} {P : Jvm.Cond → Bool} (h1 : L.all (fun c => isCode c || P c) = true) (h2 : ∀ c ∈ L.filter isCode, P c = true) : L.all P = true := by
  refine List.all_eq_true.mpr fun c hc => ?_
  have h := List.all_eq_true.mp h1 c hc
  rcases Bool.eq_false_or_eq_true (isCode c) with hi | hi
  · exact h2 c (List.mem_filter.mpr ⟨hc, hi⟩)
  · simpa [hi] using h
set_option maxRecDepth 65536 in
theorem w_c0 : (Jvm.Cond.code x code maxLocals ret).before args0 about1 = true := code_word (m := ⟨1, 1⟩) (meth := k1m1) (c := k1c1) (by decide +kernel) rfl rfl rfl (by decide +kernel)
set_option maxRecDepth 65536 in
theorem w_c1 : (Jvm.Cond.code ({ cls := "com/example/equisetum/equisetum/PreemptingReadPinLaw", name := "drawn", desc := "(III)Ljava/lang/String;" } : Jvm.MethodName) method_3_code (6 : Nat) (Option.some (Jvm.ClassFile.FieldType.object "java/lang/String"))).before args0 about1 = true := code_word (m := ⟨1, 2⟩) (meth := k1m2) (c := k1c2) (by decide +kernel) rfl rfl rfl (by decide +kernel)
set_option maxRecDepth 65536 in
theorem w_c2 : (Jvm.Cond.code ({ cls := "java/lang/String", name := "<init>", desc := "([C)V" } : Jvm.MethodName) jdk_42_method_3_code (2 : Nat) (Option.none : Option Jvm.ClassFile.FieldType)).before args0 about1 = true := code_word (m := ⟨7, 1⟩) (meth := k7m1) (c := k7c1) (by decide +kernel) rfl rfl rfl (by decide +kernel)
set_option maxRecDepth 65536 in
theorem w_c3 : (Jvm.Cond.code ({ cls := "java/lang/String", name := "<init>", desc := "([CIILjava/lang/Void;)V" } : Jvm.MethodName) jdk_42_method_149_code (6 : Nat) (Option.none : Option Jvm.ClassFile.FieldType)).before args0 about1 = true := code_word (m := ⟨7, 2⟩) (meth := k7m2) (c := k7c2) (by decide +kernel) rfl rfl rfl (by decide +kernel)
set_option maxRecDepth 65536 in
theorem w_c4 : (Jvm.Cond.code ({ cls := "java/lang/Object", name := "<init>", desc := "()V" } : Jvm.MethodName) object_method_1_code (1 : Nat) (Option.none : Option Jvm.ClassFile.FieldType)).before args0 about1 = true := code_word (m := ⟨0, 0⟩) (meth := k0m0) (c := k0c0) (by decide +kernel) rfl rfl rfl (by decide +kernel)
set_option maxRecDepth 65536 in
theorem w_c5 : (Jvm.Cond.code ({ cls := "java/lang/StringUTF16", name := "compress", desc := "([CII)[B" } : Jvm.MethodName) jdk_52_method_16_code (6 : Nat) (Option.some (Jvm.ClassFile.FieldType.array Jvm.ClassFile.FieldType.byte))).before args0 about1 = true := code_word (m := ⟨8, 2⟩) (meth := k8m2) (c := k8c2) (by decide +kernel) rfl rfl rfl (by decide +kernel)
set_option maxRecDepth 65536 in
theorem w_c6 : (Jvm.Cond.code ({ cls := "java/lang/StringUTF16", name := "compress", desc := "([CI[BII)I" } : Jvm.MethodName) jdk_52_method_21_code (7 : Nat) (Option.some Jvm.ClassFile.FieldType.int)).before args0 about1 = true := code_word (m := ⟨8, 3⟩) (meth := k8m3) (c := k8c3) (by decide +kernel) rfl rfl rfl (by decide +kernel)
set_option maxRecDepth 65536 in
theorem w_c7 : (Jvm.Cond.code ({ cls := "java/lang/StringUTF16", name := "coderFromArrayLen", desc := "([BI)B" } : Jvm.MethodName) jdk_52_method_15_code (2 : Nat) (Option.some Jvm.ClassFile.FieldType.byte)).before args0 about1 = true := code_word (m := ⟨8, 1⟩) (meth := k8m1) (c := k8c1) (by decide +kernel) rfl rfl rfl (by decide +kernel)
set_option maxRecDepth 65536 in
theorem w_c8 : (Jvm.Cond.code ({ cls := "com/example/equisetum/equisetum/ExternalEntities$Preempting", name := "<init>", desc := "(ILjava/lang/String;Ljava/lang/String;)V" } : Jvm.MethodName) prog_67_method_1_code (4 : Nat) (Option.none : Option Jvm.ClassFile.FieldType)).before args0 about1 = true := code_word (m := ⟨11, 0⟩) (meth := k11m0) (c := k11c0) (by decide +kernel) rfl rfl rfl (by decide +kernel)
set_option maxRecDepth 65536 in
theorem w_c9 : (Jvm.Cond.code ({ cls := "java/lang/Record", name := "<init>", desc := "()V" } : Jvm.MethodName) jdk_30_method_1_code (1 : Nat) (Option.none : Option Jvm.ClassFile.FieldType)).before args0 about1 = true := code_word (m := ⟨9, 0⟩) (meth := k9m0) (c := k9c0) (by decide +kernel) rfl rfl rfl (by decide +kernel)
set_option maxRecDepth 65536 in
theorem w_c10 : (Jvm.Cond.code ({ cls := "com/example/equisetum/equisetum/ExternalEntities$Preempting", name := "read", desc := "()Z" } : Jvm.MethodName) prog_67_method_2_code (1 : Nat) (Option.some Jvm.ClassFile.FieldType.boolean)).before args0 about1 = true := code_word (m := ⟨11, 1⟩) (meth := k11m1) (c := k11c1) (by decide +kernel) rfl rfl rfl (by decide +kernel)
def codes1 : List Jvm.Cond := [Jvm.Cond.code x code maxLocals ret, Jvm.Cond.code ({ cls := "com/example/equisetum/equisetum/PreemptingReadPinLaw", name := "drawn", desc := "(III)Ljava/lang/String;" } : Jvm.MethodName) method_3_code (6 : Nat) (Option.some (Jvm.ClassFile.FieldType.object "java/lang/String")), Jvm.Cond.code ({ cls := "java/lang/String", name := "<init>", desc := "([C)V" } : Jvm.MethodName) jdk_42_method_3_code (2 : Nat) (Option.none : Option Jvm.ClassFile.FieldType), Jvm.Cond.code ({ cls := "java/lang/String", name := "<init>", desc := "([CIILjava/lang/Void;)V" } : Jvm.MethodName) jdk_42_method_149_code (6 : Nat) (Option.none : Option Jvm.ClassFile.FieldType), Jvm.Cond.code ({ cls := "java/lang/Object", name := "<init>", desc := "()V" } : Jvm.MethodName) object_method_1_code (1 : Nat) (Option.none : Option Jvm.ClassFile.FieldType), Jvm.Cond.code ({ cls := "java/lang/StringUTF16", name := "compress", desc := "([CII)[B" } : Jvm.MethodName) jdk_52_method_16_code (6 : Nat) (Option.some (Jvm.ClassFile.FieldType.array Jvm.ClassFile.FieldType.byte)), Jvm.Cond.code ({ cls := "java/lang/StringUTF16", name := "compress", desc := "([CI[BII)I" } : Jvm.MethodName) jdk_52_method_21_code (7 : Nat) (Option.some Jvm.ClassFile.FieldType.int), Jvm.Cond.code ({ cls := "java/lang/StringUTF16", name := "coderFromArrayLen", desc := "([BI)B" } : Jvm.MethodName) jdk_52_method_15_code (2 : Nat) (Option.some Jvm.ClassFile.FieldType.byte), Jvm.Cond.code ({ cls := "com/example/equisetum/equisetum/ExternalEntities$Preempting", name := "<init>", desc := "(ILjava/lang/String;Ljava/lang/String;)V" } : Jvm.MethodName) prog_67_method_1_code (4 : Nat) (Option.none : Option Jvm.ClassFile.FieldType), Jvm.Cond.code ({ cls := "java/lang/Record", name := "<init>", desc := "()V" } : Jvm.MethodName) jdk_30_method_1_code (1 : Nat) (Option.none : Option Jvm.ClassFile.FieldType), Jvm.Cond.code ({ cls := "com/example/equisetum/equisetum/ExternalEntities$Preempting", name := "read", desc := "()Z" } : Jvm.MethodName) prog_67_method_2_code (1 : Nat) (Option.some Jvm.ClassFile.FieldType.boolean)]
set_option maxRecDepth 65536 in
theorem codes_eq : words1.filter isCode = codes1 := rfl
theorem w_codes : ∀ c ∈ words1.filter isCode, c.before args0 about1 = true := by
  rw [codes_eq]
  intro c hc
  simp only [codes1, List.mem_cons, List.not_mem_nil, or_false] at hc
  rcases hc with rfl | rfl | rfl | rfl | rfl | rfl | rfl | rfl | rfl | rfl | rfl
  · exact w_c0
  · exact w_c1
  · exact w_c2
  · exact w_c3
  · exact w_c4
  · exact w_c5
  · exact w_c6
  · exact w_c7
  · exact w_c8
  · exact w_c9
  · exact w_c10
set_option maxRecDepth 65536 in
theorem w_t1 : (words1.take 24).all (fun c => isCode c || c.before args0 about1) = true := by decide +kernel
set_option maxRecDepth 65536 in
theorem w_t2 : ((words1.drop 24).take 24).all (fun c => isCode c || c.before args0 about1) = true := by decide +kernel
set_option maxRecDepth 65536 in
theorem w_t3 : ((words1.drop 24).drop 24).all (fun c => isCode c || c.before args0 about1) = true := by decide +kernel
theorem w_tables : (allAtoms (Jvm.Cond.code x code maxLocals ret :: tables_1)).before args0 about1 = true := by
  rw [allAtoms_all]
  show words1.all (fun c => c.before args0 about1) = true
  refine all_split ?_ w_codes
  rw [← List.take_append_drop 24 words1, List.all_append, w_t1, ← List.take_append_drop 24 (words1.drop 24), List.all_append, w_t2, w_t3]
  rfl
set_option maxRecDepth 65536 in
theorem w_rest : rest_1_c.before args0 about1 = true := by decide +kernel
set_option maxRecDepth 65536 in
theorem w_case : (Jvm.Cond.and given_1 narrow_1).before args0 about1 = true := by decide +kernel
set_option maxRecDepth 65536 in
theorem w_consts : constsHeld consts_1 about1 := Jvm.Lit.constsHeldB_iff.mp (by decide +kernel)
theorem w_applies : (headSpec (Jvm.Cond.code x code maxLocals ret :: tables_1) room_1).applies x e0.platform about1 = true :=
  (Spec.applies_iff w_frames).mpr ⟨w_running, w_runnable, w_alone, w_named, w_hears, w_ripe, w_room, w_tables⟩
theorem atStart : AtStart classFile x code maxLocals ret World_1 tables_1 room_1 Calls_1 rest_1 Pre_1 launch0 p0 e0 about1 theMethod args0 below0 :=
  ⟨lists_1, trivial, launch0.admits_env _ _ _, launch0.least_env, fairChoices_fair.cas, fairChoices_fair.clock, w_frames, w_args, w_heap, w_applies, ⟨w_consts, trivial⟩, w_rest, w_case⟩
end start1
theorem witness_1 : WitnessClaimed_1 := ⟨start1.p0, start1.e0, start1.about1, start1.theMethod, start1.args0, start1.below0, start1.atStart⟩
end Jvm.Pilot.@@N@@
