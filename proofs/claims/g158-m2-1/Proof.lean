import JvmDerived
import JvmDerived.Pilot.@@N@@Statement
import JvmDerived.Pilot.@@N@@Code
set_option linter.unusedVariables false
set_option linter.unusedSimpArgs false
namespace Jvm.Pilot.@@N@@
open Jvm Jvm.ClassFile Sem Op Lib Jvm.Free Jvm.Stand Jvm.LawKit Jvm.RoadKit Bundle Jvm.Pilot.@@N@@.Jvm.D
/-! THE WALK IN CONTINUATION FORM. Here: the run stands in T, its heap is h, nothing old was written. Go: from the state F the run ends as Q says. CM: a callee's contract. -/
def Here (p : Program) (l : Launch) (e : Env) (R : Room) (s : State) (m : MethodId) (args : Array Value) (below : List Frame) (meth : Method) (c : Code) (n0 : Nat) (T : State) (h : Heap) (k n : Nat) : Prop :=
  ∃ locs, Stand p l e R s m args below meth c T locs k n ∧ T.heap = h ∧ Fr n0 locs
def Fini (below : List Frame) (s : State) (n0 : Nat) (Q : Option Value → Heap → Prop) (K N : Nat) (t : State) (o : Outcome) : Prop :=
  t.status = .running ∧ Ended t below o ∧ ∃ v L, o = .returned v ∧ (Q v t.heap ∧ Fr n0 L) ∧ FrameEnd s o t L K N
def Go (p : Program) (e : Env) (below : List Frame) (Φ : State → Outcome → Prop) (F : State) : Prop :=
  ∃ t o, Steps p.tables e below F t ∧ Φ t o
def CM (l : Launch) (Z : State) (y : MethodName) (code : ByteArray) (maxL : Nat) (ret : Option FieldType) (R : Room) (as : Array Value) (h0 : Heap) (n0 : Nat) (Q : Option Value → Heap → Prop) : Prop :=
  ∀ ws, MetFree l y (head1 (Jvm.Cond.code y code maxL ret :: ws) R) (fun a U => a = as ∧ Z.Warmed39 U.vm ∧ U.heap = h0) (fun _ _ _ _ _ => True) (fun _ U o U' => ∃ v L, o = .returned v ∧ (Q v U'.heap ∧ Fr n0 L) ∧ FrameEnd U o U' L R.cells R.slots)
section Own
variable {p : Program} {l : Launch} {e : Env} {R : Room} {s : State} {m : MethodId} {args : Array Value} {below : List Frame} {meth : Method} {c : Code} {T : State} {h : Heap} {k n n0 K N : Nat} {Q : Option Value → Heap → Prop} {Z : State} {a0 : Array Value} {Φ : State → Outcome → Prop}
theorem Here.here (H : Here p l e R s m args below meth c n0 T h k n) : At T m c below := by obtain ⟨_, X, _, _⟩ := H; exact X.here
theorem Here.stand (H : Here p l e R s m args below meth c n0 T h k n) : ∃ locs, Stand p l e R s m args below meth c T locs k n ∧ T.heap = h ∧ Fr n0 locs := H
theorem Go.via {F F' : State} (st : ∀ t, Steps p.tables e below F' t → Steps p.tables e below F t) (g : Go p e below Φ F') : Go p e below Φ F := by
  obtain ⟨t, o, h1, r⟩ := g; exact ⟨t, o, st t h1, r⟩
theorem own_enter {y : MethodName} {code : ByteArray} {maxL : Nat} {ret : Option FieldType} {as : Array Value} {h0 : Heap} (hpl : plainFor y = true)
    (body : ∀ (p : Program) (e : Env) (s : State) (m : MethodId) (below : List Frame) (meth : Method) (c : Code) (T : State), p.tables.exec = Jvm.exec → c.code = code → c.maxLocals = maxL → s.vm.findClass y.cls = some m.cls → meth.name = y.name → Z.Warmed39 s.vm → meth.sig.returnType = ret → meth.locks = false → Here p l e R s m as below meth c n0 T h0 0 0 → Go p e below (Fini below s n0 Q R.cells R.slots) (T.setTop (entryFrame m as maxL))) :
    CM l Z y code maxL ret R as h0 n0 Q := by
  intro ws
  refine MetFree.of_bodySF hpl hisR ?_
  intro p e s m args below meth c s₁ Bd hml0 hP hK
  obtain ⟨rfl, hZ, hh⟩ := hP
  exact body p e s m below meth c s₁ Bd.exec Bd.bytes hml0 (findClass_of_methodNamed Bd.named) (name_of_methodNamed Bd.named Bd.method).1 hZ Bd.returns Bd.notSynchronized ⟨[], Stand.of_body Bd, by rw [← hh, Bd.state]; rfl, Fr.nil n0⟩
theorem Here.leave (H : Here p l e R s m args below meth c n0 T h k n) (hlk : meth.locks = false) {v : Option Value} (hv : meth.sig.returnType = none → v = none) (hQ : Q v h) (hk : k ≤ K) (hn : n ≤ N) {F : State}
    (st : ∀ fs, (∀ (f : JFrame) (acts : List Action), f.method = m → f.locked = none → f.entered = [] → (doReturn e (T.setTop f) acts v).1 = T.setFrames fs) → Steps p.tables e below F (T.setFrames fs)) : Go p e below (Fini below s n0 Q K N) F := by
  obtain ⟨locs, X, rfl, F0⟩ := H
  obtain ⟨fs, hr, hrun, hended, hW, hsame⟩ := X.leave (v := v) hv hlk
  exact ⟨_, _, st fs hr, hrun, hended, v, locs, rfl, ⟨hQ, F0⟩, ⟨_, rfl⟩, hW, hsame.mono hk hn⟩
theorem own_retV (H : Here p l e R s m args below meth c n0 T h k n) (hx : p.tables.exec = Jvm.exec) (hlk : meth.locks = false) (hret : meth.sig.returnType = none) {pc : Nat} {Ls : Array Slot} (hd : decode c.code pc = .ok (.return_, 1)) (hQ : Q none h) (hk : k ≤ K) (hn : n ≤ N) :
    Go p e below (Fini below s n0 Q K N) (T.setTop (mkF m pc Ls [])) := by
  obtain ⟨locs, X, r1, r2⟩ := H.stand
  exact H.leave hlk (fun _ => rfl) hQ hk hn fun fs hr => X.returnOut hx hret hd hr
theorem own_retI (H : Here p l e R s m args below meth c n0 T h k n) (hx : p.tables.exec = Jvm.exec) (hlk : meth.locks = false) (hret : meth.sig.returnType = some .int) {pc : Nat} {Ls : Array Slot} {z : Int32} {rest : List Value} (hd : decode c.code pc = .ok (.ireturn, 1)) (hQ : Q (some (.int z)) h) (hk : k ≤ K) (hn : n ≤ N) :
    Go p e below (Fini below s n0 Q K N) (T.setTop (mkF m pc Ls (.int z :: rest))) := by
  obtain ⟨locs, X, r1, r2⟩ := H.stand
  exact H.leave hlk (fun q => by rw [hret] at q; cases q) hQ hk hn fun fs hr => retOut X hx hret rfl (Or.inl ⟨rfl, Or.inl rfl, z, rfl⟩) hd hr
theorem own_retN (H : Here p l e R s m args below meth c n0 T h k n) (hx : p.tables.exec = Jvm.exec) (hlk : meth.locks = false) {t : FieldType} (ht : t = .boolean ∨ t = .byte ∨ t = .char ∨ t = .short) (hret : meth.sig.returnType = some t) {pc : Nat} {Ls : Array Slot} {z : Int32} {rest : List Value} (hd : decode c.code pc = .ok (.ireturn, 1)) (hQ : Q (some (.int (nar t z))) h) (hk : k ≤ K) (hn : n ≤ N) :
    Go p e below (Fini below s n0 Q K N) (T.setTop (mkF m pc Ls (.int z :: rest))) := by
  obtain ⟨locs, X, r1, r2⟩ := H.stand
  exact H.leave hlk (fun q => by rw [hret] at q; cases q) hQ hk hn fun fs hr => retN X hx hret ht hd hr
theorem own_retL (H : Here p l e R s m args below meth c n0 T h k n) (hx : p.tables.exec = Jvm.exec) (hlk : meth.locks = false) (hret : meth.sig.returnType = some .long) {pc : Nat} {Ls : Array Slot} {z : Int64} {rest : List Value} (hd : decode c.code pc = .ok (.lreturn, 1)) (hQ : Q (some (.long z)) h) (hk : k ≤ K) (hn : n ≤ N) :
    Go p e below (Fini below s n0 Q K N) (T.setTop (mkF m pc Ls (.long z :: rest))) := by
  obtain ⟨locs, X, r1, r2⟩ := H.stand
  exact H.leave hlk (fun q => by rw [hret] at q; cases q) hQ hk hn fun fs hr => retOut X hx hret rfl (Or.inr (Or.inl ⟨rfl, rfl, z, rfl⟩)) hd hr
theorem own_retA (H : Here p l e R s m args below meth c n0 T h k n) (hx : p.tables.exec = Jvm.exec) (hlk : meth.locks = false) {t : FieldType} (ht : t.isReference = true) (hret : meth.sig.returnType = some t) {pc : Nat} {Ls : Array Slot} {w : Value} {rest : List Value} (hn' : narrow t w = w) (hw : w.isRef = true) (hd : decode c.code pc = .ok (.areturn, 1)) (hQ : Q (some w) h) (hk : k ≤ K) (hn : n ≤ N) :
    Go p e below (Fini below s n0 Q K N) (T.setTop (mkF m pc Ls (w :: rest))) := by
  obtain ⟨locs, X, r1, r2⟩ := H.stand
  exact H.leave hlk (fun q => by rw [hret] at q; cases q) hQ hk hn fun fs hr => retOut X hx hret hn' (Or.inr (Or.inr (Or.inr (Or.inr ⟨rfl, ht, hw⟩)))) hd hr
/-! calls -/
theorem own_callS (H : Here p l e R s m args below meth c n0 T h k n) (hx : p.tables.exec = Jvm.exec) (hZ : Z.Warmed39 s.vm) {own : String} {index : Nat} {y : MethodName} {bytes : ByteArray} {maxL : Nat} {ret : Option FieldType} {rm : Room} {argsL rest : List Value} {Q' : Option Value → Heap → Prop}
    (hown : s.vm.findClass own = some m.cls) (w1 : (Jvm.Cond.methodLink own index y).before a0 Z = true) (w2 : (Jvm.Cond.static y).before a0 Z = true) (w3 : (Jvm.Cond.initialized y.cls).before a0 Z = true) (w4 : (Jvm.Cond.code y bytes maxL ret).before a0 Z = true)
    (hy : y.cls ≠ "java/lang/invoke/MethodHandle" ∧ y.cls ≠ "java/lang/invoke/VarHandle") (hM : CM l Z y bytes maxL ret rm argsL.toArray h n0 Q')
    {g : JFrame} (hg : g.method = m) (hsize : g.locals.size = c.maxLocals) (hlen : ∀ sig, parseMethodDescriptor y.desc = some sig → argsL.length = sig.parameters.length)
    (hstack : g.stack = argsL.reverse ++ rest) (W : Nat) (hW : 2 * g.monitorRoom + (rest.map fun v => v.category).sum ≤ W) (hd : decode c.code g.pc = .ok (.invokestatic index, 3))
    (hf : rm.frames + 1 ≤ R.frames) (hl : W + (maxL + 11) + rm.locals ≤ R.locals) (hc : k + rm.cells ≤ R.cells) (hs : n + rm.slots ≤ R.slots)
    (next : ∀ v T' h', Q' v h' → Here p l e R s m args below meth c n0 T' h' (k + rm.cells) (n + rm.slots) → Go p e below Φ (T'.setTop { g with pc := g.pc + 3, stack := v.toList ++ rest })) :
    Go p e below Φ (T.setTop g) := by
  obtain ⟨locs, X, rfl, F⟩ := H
  obtain ⟨v, _, ⟨T3, L3, k3, n3⟩, -, X3, ⟨Lc3, hQ3, l3, y3, z3⟩, st3⟩ := Jvm.LawKit.callS X hx (y := y) hown (mvT hZ w1) (mvT hZ w2) (mvT hZ w3) (mvT hZ w4) hy (backOf (W := W) (Q := fun v h L => Q' v h ∧ Fr n0 L) (hM []) hZ w4 w3 hf hl) (g := g) hg hsize (argsL := argsL) (rest := rest) hlen hstack hW hd (fun _ _ => ⟨rfl, rfl, hc, hs⟩)
  dsimp only [Pt.U, Pt.locs, Pt.cells, Pt.slots] at X3 l3 y3 z3 st3 hQ3
  subst l3 y3 z3
  exact Go.via st3 (next v T3 T3.heap hQ3.1 ⟨_, X3, rfl, F.app hQ3.2⟩)
theorem own_callI (H : Here p l e R s m args below meth c n0 T h k n) (hx : p.tables.exec = Jvm.exec) (hZ : Z.Warmed39 s.vm) {own : String} {index : Nat} {y : MethodName} {bytes : ByteArray} {maxL : Nat} {rm : Room} {a : Addr} {argsL rest : List Value} {Q' : Option Value → Heap → Prop}
    (hy1 : y.name = "<init>") (hown : s.vm.findClass own = some m.cls) (w1 : (Jvm.Cond.methodLink own index y).before a0 Z = true) (w2 : (Jvm.Cond.instanceMethod y).before a0 Z = true) (w3 : (Jvm.Cond.initialized y.cls).before a0 Z = true) (w4 : (Jvm.Cond.code y bytes maxL none).before a0 Z = true)
    (hy : y.cls ≠ "java/lang/invoke/MethodHandle" ∧ y.cls ≠ "java/lang/invoke/VarHandle") (hM : CM l Z y bytes maxL none rm (Value.ref a :: argsL).toArray h n0 Q')
    {g : JFrame} (hg : g.method = m) (hsize : g.locals.size = c.maxLocals) (hlen : ∀ sig, parseMethodDescriptor y.desc = some sig → argsL.length = sig.parameters.length)
    (hstack : g.stack = argsL.reverse ++ .ref a :: rest) (W : Nat) (hW : 2 * g.monitorRoom + (rest.map fun v => v.category).sum ≤ W) (hd : decode c.code g.pc = .ok (.invokespecial index, 3))
    (hf : rm.frames + 1 ≤ R.frames) (hl : W + (maxL + 11) + rm.locals ≤ R.locals) (hc : k + rm.cells ≤ R.cells) (hs : n + rm.slots ≤ R.slots)
    (next : ∀ v T' h', Q' v h' → Here p l e R s m args below meth c n0 T' h' (k + rm.cells) (n + rm.slots) → Go p e below Φ (T'.setTop { g with pc := g.pc + 3, stack := v.toList ++ rest })) :
    Go p e below Φ (T.setTop g) := by
  obtain ⟨locs, X, rfl, F⟩ := H
  obtain ⟨v, _, ⟨T3, L3, k3, n3⟩, -, X3, ⟨Lc3, hQ3, l3, y3, z3⟩, st3⟩ := X.specialBack hx (y := y) hy1 hown (mvT hZ w1) (mvT hZ w2) (mvT hZ w4) hy (backOf (W := W) (Q := fun v h L => Q' v h ∧ Fr n0 L) (hM []) hZ w4 w3 hf hl) (g := g) hg hsize (Steps.refl _) (a := a) (argsL := argsL) (rest := rest) hlen hstack hW hd (fun _ _ => ⟨rfl, rfl, hc, hs⟩)
  dsimp only [Pt.U, Pt.locs, Pt.cells, Pt.slots] at X3 l3 y3 z3 st3 hQ3
  subst l3 y3 z3
  exact Go.via (fun t q => st3.trans q) (next v T3 T3.heap hQ3.1 ⟨_, X3, rfl, F.app hQ3.2⟩)
theorem own_callV (H : Here p l e R s m args below meth c n0 T h k n) (hx : p.tables.exec = Jvm.exec) (hZ : Z.Warmed39 s.vm) {own C : String} {index : Nat} {y : MethodName} {bytes : ByteArray} {maxL : Nat} {ret : Option FieldType} {rm : Room} {a : Addr} {argsL rest : List Value} {Q' : Option Value → Heap → Prop}
    (hown : s.vm.findClass own = some m.cls) (w1 : (Jvm.Cond.methodLink own index y).before a0 Z = true) (w2 : (Jvm.Cond.declares y).before a0 Z = true) (w3 : (Jvm.Cond.selects C y y).before a0 Z = true) (w4 : (Jvm.Cond.instanceMethod y).before a0 Z = true) (w5 : (Jvm.Cond.initialized y.cls).before a0 Z = true) (w6 : (Jvm.Cond.code y bytes maxL ret).before a0 Z = true)
    (hy : y.cls ≠ "java/lang/invoke/MethodHandle" ∧ y.cls ≠ "java/lang/invoke/VarHandle") (hE : Exa Z h a C) (hM : CM l Z y bytes maxL ret rm (Value.ref a :: argsL).toArray h n0 Q')
    {g : JFrame} (hg : g.method = m) (hsize : g.locals.size = c.maxLocals) (hlen : ∀ sig, parseMethodDescriptor y.desc = some sig → argsL.length = sig.parameters.length)
    (hstack : g.stack = argsL.reverse ++ .ref a :: rest) (W : Nat) (hW : 2 * g.monitorRoom + (rest.map fun v => v.category).sum ≤ W) (hd : decode c.code g.pc = .ok (.invokevirtual index, 3))
    (hf : rm.frames + 1 ≤ R.frames) (hl : W + (maxL + 11) + rm.locals ≤ R.locals) (hc : k + rm.cells ≤ R.cells) (hs : n + rm.slots ≤ R.slots)
    (next : ∀ v T' h', Q' v h' → Here p l e R s m args below meth c n0 T' h' (k + rm.cells) (n + rm.slots) → Go p e below Φ (T'.setTop { g with pc := g.pc + 3, stack := v.toList ++ rest })) :
    Go p e below Φ (T.setTop g) := by
  obtain ⟨locs, X, rfl, F⟩ := H
  obtain ⟨cq, kq, qa, qb, qc⟩ := isOf hZ rfl hE
  obtain ⟨v, _, ⟨T3, L3, k3, n3⟩, -, X3, ⟨Lc3, hQ3, l3, y3, z3⟩, st3⟩ := X.virtualBack hx (y := y) (z := y) hown (mvT hZ w1) (mvT hZ w2) (notFace_of_selects (args := #[]) (mvT hZ w3)) (mvT hZ w3) (mvT hZ w4) hy (backOf (W := W) (Q := fun v h L => Q' v h ∧ Fr n0 L) (hM []) hZ w6 w5 hf hl) qa qc (g := g) hg hsize (Steps.refl _) (argsL := argsL) (rest := rest) hlen hstack hW hd (fun _ _ => ⟨rfl, rfl, hc, hs⟩)
  dsimp only [Pt.U, Pt.locs, Pt.cells, Pt.slots] at X3 l3 y3 z3 st3 hQ3
  subst l3 y3 z3
  exact Go.via (fun t q => st3.trans q) (next v T3 T3.heap hQ3.1 ⟨_, X3, rfl, F.app hQ3.2⟩)
theorem own_initO (H : Here p l e R s m args below meth c n0 T h k n) (hx : p.tables.exec = Jvm.exec) (hZ : Z.Warmed39 s.vm) {own : String} {idx : Nat} (hown : s.vm.findClass own = some m.cls) (w1 : (Jvm.Cond.methodLink own idx Lib.objectInit).before a0 Z = true) (w2 : (Jvm.Cond.instanceMethod Lib.objectInit).before a0 Z = true)
    (w3 : (Jvm.Cond.code Lib.objectInit object_method_1_code 1 none).before a0 Z = true) {g : JFrame} (hg : g.method = m) (hsize : g.locals.size = c.maxLocals) {a : Addr} {rest : List Value} (hs : g.stack = .ref a :: rest) (hd : decode c.code g.pc = .ok (.invokespecial idx, 3))
    (hf : 1 ≤ R.frames) (W : Nat) (hW : 2 * g.monitorRoom + (rest.map fun v => v.category).sum ≤ W) (hl : W + 12 ≤ R.locals)
    (next : ∀ T', Here p l e R s m args below meth c n0 T' h k n → Go p e below Φ (T'.setTop { g with pc := g.pc + 3, stack := rest })) : Go p e below Φ (T.setTop g) := by
  obtain ⟨locs, X, r1, r2⟩ := H.stand
  obtain ⟨T', X', e', st⟩ := initO X hx hZ hown w1 w2 w3 r1 hg hsize hs hd hf hW hl
  exact Go.via st (next T' ⟨_, X', e', r2⟩)
/-! fields, objects -/
theorem own_getF (H : Here p l e R s m args below meth c n0 T h k n) (hx : p.tables.exec = Jvm.exec) (hZ : Z.Warmed39 s.vm) {own O nm d : String} {index : Nat} (hown : s.vm.findClass own = some m.cls) (w : (Jvm.Cond.fieldLink own index O nm d).before a0 Z = true)
    {a : Addr} {v : Value} (F : Fld Z h a O nm d v) {g : JFrame} (hg : g.method = m) {rest : List Value} (hs : g.stack = .ref a :: rest) (hd : decode c.code g.pc = .ok (.getfield index, 3))
    (next : ∀ T', Here p l e R s m args below meth c n0 T' h k n → Go p e below Φ (T'.setTop { g with pc := g.pc + 3, stack := v :: rest })) : Go p e below Φ (T.setTop g) := by
  obtain ⟨locs, X, r1, r2⟩ := H.stand
  obtain ⟨T', X', e', st⟩ := getF X hx hZ hown (host := "") (Or.inl w) Via.refl r1 F hg hs hd
  exact Go.via st (next T' ⟨_, X', e', r2⟩)
theorem own_putF (H : Here p l e R s m args below meth c n0 T h k n) (hx : p.tables.exec = Jvm.exec) (hZ : Z.Warmed39 s.vm) {own O nm d C : String} {index kk : Nat} {ty : FieldType} (hown : s.vm.findClass own = some m.cls) (w : (Jvm.Cond.fieldLink own index O nm d).before a0 Z = true)
    {a : Addr} {v old : Value} (F : Fld Z h a O nm d old) (E : Exa Z h a C) (L : (Jvm.Cond.lays C O nm d).before a0 Z = true ∨ ((Jvm.Cond.laysFinal C O nm d).before a0 Z = true ∧ own = O ∧ meth.name = "<init>")) (wi : (Jvm.Cond.instantiable C kk).before a0 Z = true) (ha : n0 ≤ a)
    (hty : parseFieldDescriptor d = some ty) (hn : narrow ty v = v) (hf : fits ty v = true) {g : JFrame} (hg : g.method = m) {rest : List Value} (hs : g.stack = v :: .ref a :: rest) (hd : decode c.code g.pc = .ok (.putfield index, 3))
    (next : ∀ T' h', Wr h h' a (Jvm.RoadKit.slotOf Z O nm d) v → Here p l e R s m args below meth c n0 T' h' k n → Go p e below Φ (T'.setTop { g with pc := g.pc + 3, stack := rest })) : Go p e below Φ (T.setTop g) := by
  obtain ⟨locs, X, r1, r2⟩ := H.stand
  obtain ⟨T', h', X', e', W, st⟩ := putF X hx hZ hown (host := "") (Or.inl w) Via.refl r1 F E L wi hty hn hf hg hs hd
  exact Go.via st (next T' h' W ⟨_, X', e', Fr.snoc X' r2 ha⟩)
theorem own_putFN (H : Here p l e R s m args below meth c n0 T h k n) (hx : p.tables.exec = Jvm.exec) (hZ : Z.Warmed39 s.vm) {own O nm d C : String} {index kk : Nat} {ty : FieldType} (hown : s.vm.findClass own = some m.cls) (w : (Jvm.Cond.fieldLink own index O nm d).before a0 Z = true)
    {a : Addr} {v v' old : Value} (F : Fld Z h a O nm d old) (E : Exa Z h a C) (L : (Jvm.Cond.lays C O nm d).before a0 Z = true ∨ ((Jvm.Cond.laysFinal C O nm d).before a0 Z = true ∧ own = O ∧ meth.name = "<init>")) (wi : (Jvm.Cond.instantiable C kk).before a0 Z = true) (ha : n0 ≤ a)
    (hty : parseFieldDescriptor d = some ty) (hn : narrow ty v = v') (hf : fits ty v' = true) {g : JFrame} (hg : g.method = m) {rest : List Value} (hs : g.stack = v :: .ref a :: rest) (hd : decode c.code g.pc = .ok (.putfield index, 3))
    (next : ∀ T' h', Wr h h' a (Jvm.RoadKit.slotOf Z O nm d) v' → Here p l e R s m args below meth c n0 T' h' k n → Go p e below Φ (T'.setTop { g with pc := g.pc + 3, stack := rest })) : Go p e below Φ (T.setTop g) := by
  obtain ⟨locs, X, r1, r2⟩ := H.stand
  obtain ⟨T', h', X', e', W, st⟩ := putFN X hx hZ hown w Via.refl r1 F E L wi hty hn hf hg hs hd
  exact Go.via st (next T' h' W ⟨_, X', e', Fr.snoc X' r2 ha⟩)
theorem own_newO (H : Here p l e R s m args below meth c n0 T h k n) (hx : p.tables.exec = Jvm.exec) (hZ : Z.Warmed39 s.vm) {own C : String} {index sl : Nat} (hown : s.vm.findClass own = some m.cls) (w : (Jvm.Cond.classLink own index C).before a0 Z = true) (wi : (Jvm.Cond.instantiable C sl).before a0 Z = true) (wz : (Jvm.Cond.initialized C).before a0 Z = true)
    {g : JFrame} (hg : g.method = m) (hd : decode c.code g.pc = .ok (.new index, 3)) (hc : k + 1 ≤ R.cells) (hl : n + sl ≤ R.slots)
    (next : ∀ T' h' a, a = h.size → Ext h h' → Exa Z h' a C → (∀ {O nm d : String} {ty : FieldType}, Laid Z a0 C O nm d → parseFieldDescriptor d = some ty → Fld Z h' a O nm d (defaultValue ty)) → Here p l e R s m args below meth c n0 T' h' (k + 1) (n + sl) → Go p e below Φ (T'.setTop { g with pc := g.pc + 3, stack := .ref a :: g.stack })) : Go p e below Φ (T.setTop g) := by
  obtain ⟨locs, X, r1, r2⟩ := H.stand
  obtain ⟨T', h', X', e', E, A, D, -, st⟩ := newO X hx hZ hown w wi wz r1 hg hd hc hl
  exact Go.via st (next T' h' _ rfl E A D ⟨_, X', e', r2⟩)
/-! arrays -/
theorem own_newP (H : Here p l e R s m args below meth c n0 T h k n) (hx : p.tables.exec = Jvm.exec) (hZ : Z.Warmed39 s.vm) {aty : ArrayType} (w : (Jvm.Cond.arrayClass (newarray.typeOf aty)).before a0 Z = true) {g : JFrame} (hg : g.method = m) (hd : decode c.code g.pc = .ok (.newarray aty, 2)) {z : Int32} {rest : List Value} (hs : g.stack = .int z :: rest)
    (hn : ¬ z < 0) (cap : Nat) (hcap : z.toNatClampNeg ≤ cap) (hb : cap * 8 ≤ 536870912) (hc : k + 1 ≤ R.cells) (hl : n + cap ≤ R.slots)
    (next : ∀ T' h' a cA, a = h.size → Ext h h' → Arr Z h' a (newA cA (newarray.typeOf aty) z) (newarray.typeOf aty) → Here p l e R s m args below meth c n0 T' h' (k + 1) (n + cap) → Go p e below Φ (T'.setTop { g with pc := g.pc + 2, stack := .ref a :: rest })) : Go p e below Φ (T.setTop g) := by
  obtain ⟨locs, X, r1, r2⟩ := H.stand
  obtain ⟨T', h', cA, X', e', E, A, st⟩ := newP X hx hZ w r1 hg hd hs hn hcap hb hc hl
  exact Go.via st (next T' h' _ cA rfl E A ⟨_, X', e', r2⟩)
theorem own_stI (H : Here p l e R s m args below meth c n0 T h k n) (hx : p.tables.exec = Jvm.exec) (hZ : Z.Warmed39 s.vm) {a : Addr} {cl : Cell} (A : Arr Z h a cl .int) {j x : Int32} (hj : ¬ (j < 0 ∨ cl.slots.size ≤ j.toNatClampNeg)) (ha : n0 ≤ a) {g : JFrame} (hg : g.method = m) {rest : List Value} (hs : g.stack = .int x :: .int j :: .ref a :: rest) (hd : decode c.code g.pc = .ok (.iastore, 1))
    (next : ∀ T' h', Wr h h' a j.toNatClampNeg (.int x) → Here p l e R s m args below meth c n0 T' h' k n → Go p e below Φ (T'.setTop { g with pc := g.pc + 1, stack := rest })) : Go p e below Φ (T.setTop g) := by
  obtain ⟨locs, X, r1, r2⟩ := H.stand
  obtain ⟨T', h', X', e', W, st⟩ := stI X hx hZ r1 A hj hg hs hd
  exact Go.via st (next T' h' W ⟨_, X', e', Fr.snoc X' r2 ha⟩)
theorem own_stB (H : Here p l e R s m args below meth c n0 T h k n) (hx : p.tables.exec = Jvm.exec) (hZ : Z.Warmed39 s.vm) {a : Addr} {cl : Cell} (A : Arr Z h a cl .byte) {j x : Int32} (hj : ¬ (j < 0 ∨ cl.slots.size ≤ j.toNatClampNeg)) (ha : n0 ≤ a) {g : JFrame} (hg : g.method = m) {rest : List Value} (hs : g.stack = .int x :: .int j :: .ref a :: rest) (hd : decode c.code g.pc = .ok (.bastore, 1))
    (next : ∀ T' h', Wr h h' a j.toNatClampNeg (.int (nar .byte x)) → Here p l e R s m args below meth c n0 T' h' k n → Go p e below Φ (T'.setTop { g with pc := g.pc + 1, stack := rest })) : Go p e below Φ (T.setTop g) := by
  obtain ⟨locs, X, r1, r2⟩ := H.stand
  obtain ⟨T', h', X', e', W, st⟩ := stB X hx hZ r1 A hj hg hs hd
  exact Go.via st (next T' h' W ⟨_, X', e', Fr.snoc X' r2 ha⟩)
theorem own_len (H : Here p l e R s m args below meth c n0 T h k n) (hx : p.tables.exec = Jvm.exec) (hZ : Z.Warmed39 s.vm) {a : Addr} {cl : Cell} {ty : FieldType} (A : Arr Z h a cl ty) {g : JFrame} (hg : g.method = m) {rest : List Value} (hs : g.stack = .ref a :: rest) (hd : decode c.code g.pc = .ok (.arraylength, 1))
    (next : Go p e below Φ (T.setTop { g with pc := g.pc + 1, stack := .int cl.slots.size.toInt32 :: rest })) : Go p e below Φ (T.setTop g) := by
  obtain ⟨locs, X, r1, r2⟩ := H.stand
  exact Go.via (fun t q => X.arraylength hx (by rw [r1]; exact A.1) (State.isArrayOf_alike hZ.alike A.2.1) hg hs hd t q) next
theorem own_ldI (H : Here p l e R s m args below meth c n0 T h k n) (hx : p.tables.exec = Jvm.exec) (hZ : Z.Warmed39 s.vm) {a : Addr} {cl : Cell} (A : Arr Z h a cl .int) {j : Int32} {v : Value} (hj : ¬ (j < 0 ∨ cl.slots.size ≤ j.toNatClampNeg)) (hv : cl.slots[j.toNatClampNeg]? = some v) {g : JFrame} (hg : g.method = m) {rest : List Value} (hs : g.stack = .int j :: .ref a :: rest) (hd : decode c.code g.pc = .ok (.iaload, 1))
    (next : Go p e below Φ (T.setTop { g with pc := g.pc + 1, stack := v :: rest })) : Go p e below Φ (T.setTop g) := by
  obtain ⟨locs, X, r1, r2⟩ := H.stand
  exact Go.via (fun t q => X.iaload hx (by rw [r1]; exact A.1) (State.isArrayOf_alike hZ.alike A.2.1) A.2.2 hj hv hg hs hd t q) next
theorem own_ldB (H : Here p l e R s m args below meth c n0 T h k n) (hx : p.tables.exec = Jvm.exec) (hZ : Z.Warmed39 s.vm) {a : Addr} {cl : Cell} (A : Arr Z h a cl .byte) {j : Int32} {v : Value} (hj : ¬ (j < 0 ∨ cl.slots.size ≤ j.toNatClampNeg)) (hv : cl.slots[j.toNatClampNeg]? = some v) {g : JFrame} (hg : g.method = m) {rest : List Value} (hs : g.stack = .int j :: .ref a :: rest) (hd : decode c.code g.pc = .ok (.baload, 1))
    (next : Go p e below Φ (T.setTop { g with pc := g.pc + 1, stack := v :: rest })) : Go p e below Φ (T.setTop g) := by
  obtain ⟨locs, X, r1, r2⟩ := H.stand
  exact Go.via (fun t q => X.baloadBytes hx (by rw [r1]; exact A.1) (State.isArrayOf_alike hZ.alike A.2.1) A.2.2 hj hv hg hs hd t q) next
/-! arrays of ints by a function of the place -/
def upd (B : Nat → Int32) (j : Nat) (v : Int32) : Nat → Int32 := fun i => if i = j then v else B i
theorem upd_hit {B : Nat → Int32} {j : Nat} {v : Int32} : upd B j v j = v := if_pos rfl
theorem upd_miss {B : Nat → Int32} {i j : Nat} {v : Int32} (q : i ≠ j) : upd B j v i = B i := if_neg q
def Ab (Z : State) (h : Heap) (a : Addr) (ty : FieldType) (n : Nat) (B : Nat → Int32) : Prop := ∃ c : Cell, Arr Z h a c ty ∧ c.slots.size = n ∧ ∀ i, i < n → c.slots[i]? = some (.int (B i))
theorem Ab.lt {a : Addr} {ty : FieldType} {B : Nat → Int32} (F : Ab Z h a ty n B) : a < h.size := by obtain ⟨c, A, -⟩ := F; exact A.lt
theorem Ab.ext {h' : Heap} {a : Addr} {ty : FieldType} {B : Nat → Int32} (F : Ab Z h a ty n B) (E : Ext h h') : Ab Z h' a ty n B := by obtain ⟨c, A, r⟩ := F; exact ⟨c, A.ext E, r⟩
theorem Ab.other {h' : Heap} {a b : Addr} {sl : Nat} {v : Value} {ty : FieldType} {B : Nat → Int32} (F : Ab Z h b ty n B) (W : Wr h h' a sl v) (q : b ≠ a) : Ab Z h' b ty n B := by obtain ⟨c, A, r⟩ := F; exact ⟨c, A.other W q, r⟩
theorem Ab.keep {h' : Heap} {a : Addr} {ws : List Addr} {ty : FieldType} {B : Nat → Int32} (F : Ab Z h a ty n B) (Kp : Keep h h' ws) (q : a ∉ ws) : Ab Z h' a ty n B := by obtain ⟨c, A, r⟩ := F; exact ⟨c, ⟨Kp.2.1 a c A.1 q, A.2⟩, r⟩
theorem Ab.set {h' : Heap} {a : Addr} {j : Nat} {v : Int32} {ty : FieldType} {B : Nat → Int32} (F : Ab Z h a ty n B) (W : Wr h h' a j (.int v)) : Ab Z h' a ty n (upd B j v) := by
  obtain ⟨c, A, S, G⟩ := F
  obtain ⟨c', q1, -, -, q4, -, q6, q7⟩ := wr_at W A.1
  obtain ⟨rfl, q8, -⟩ := q7 rfl
  refine ⟨_, A.same W, q4.trans S, fun i hi => ?_⟩
  by_cases q : i = j
  · subst q; rw [q8, upd_hit]
  · rw [q6 i q, G i hi, upd_miss q]
theorem Ab.new {a : Addr} {ty : FieldType} {kk : ClassId} {z : Int32} (A : Arr Z h a (newA kk ty z) ty) (hz : z.toNatClampNeg = n) (hd : defaultValue ty = .int 0) : Ab Z h a ty n (fun _ => 0) := by
  refine ⟨_, A, (sz_new _ _ _).trans hz, fun i hi => ?_⟩
  have hz' : z.toNatClampNeg < 2 ^ 31 := by
    by_cases q : z < 0
    · have : z.toNatClampNeg ≤ 0 := by rw [Int32.lt_iff_toInt_lt] at q; have e0 : (0 : Int32).toInt = 0 := rfl; have : z.toNatClampNeg = z.toInt.toNat := rfl; omega
      omega
    · exact (back32 q).2
  have e1 : i.toInt32.toNatClampNeg = i := by
    have q := idx_in (i := i) (n := i + 1) (Nat.lt_succ_self i) (by omega)
    have q2 : i.toInt32.toInt = i := len_toInt (by omega)
    have := nat_of (j := i.toInt32) (fun z => q (Or.inl z))
    omega
  have q0 : ¬ (i.toInt32 < 0 ∨ z.toNatClampNeg ≤ i.toInt32.toNatClampNeg) := by
    rw [hz, e1]
    intro q
    rcases q with q | q
    · have q3 : i.toInt32.toInt = i := len_toInt (by omega)
      rw [Int32.lt_iff_toInt_lt, q3] at q
      have e0 : (0 : Int32).toInt = 0 := rfl
      omega
    · omega
  have g := get_new (cA := kk) (ty := ty) (n := z) (k := i.toInt32) q0
  rw [e1] at g
  rw [g, hd]
theorem own_idx {J : Int32} {j : Nat} (e : J.toInt = (j : Int)) : ¬ J < 0 ∧ J.toNatClampNeg = j := by
  have h0 : ¬ J < 0 := by rw [Int32.lt_iff_toInt_lt]; have e0 : (0 : Int32).toInt = 0 := rfl; omega
  have := nat_of h0
  exact ⟨h0, by omega⟩
theorem own_in {c : Cell} {J : Int32} {j N' : Nat} (e : J.toInt = (j : Int)) (S : c.slots.size = N') (hj : j < N') : ¬ (J < 0 ∨ c.slots.size ≤ J.toNatClampNeg) := by
  obtain ⟨q1, q2⟩ := own_idx e
  rw [q2, S]; intro q; rcases q with q | q
  · exact q1 q
  · omega
theorem own_newA (H : Here p l e R s m args below meth c n0 T h k n) (hx : p.tables.exec = Jvm.exec) (hZ : Z.Warmed39 s.vm) {aty : ArrayType} (w : (Jvm.Cond.arrayClass (newarray.typeOf aty)).before a0 Z = true) {g : JFrame} (hg : g.method = m) (hd : decode c.code g.pc = .ok (.newarray aty, 2)) {z : Int32} {rest : List Value} (hs : g.stack = .int z :: rest)
    (hn : ¬ z < 0) (N' : Nat) (hz : z.toNatClampNeg = N') (hdv : defaultValue (newarray.typeOf aty) = .int 0) (cap : Nat) (hcap : N' ≤ cap) (hb : cap * 8 ≤ 536870912) (hc : k + 1 ≤ R.cells) (hl : n + cap ≤ R.slots)
    (next : ∀ T' h' a, a = h.size → Ext h h' → Ab Z h' a (newarray.typeOf aty) N' (fun _ => 0) → Here p l e R s m args below meth c n0 T' h' (k + 1) (n + cap) → Go p e below Φ (T'.setTop { g with pc := g.pc + 2, stack := .ref a :: rest })) : Go p e below Φ (T.setTop g) :=
  own_newP H hx hZ w hg hd hs hn cap (by rw [hz]; exact hcap) hb hc hl fun T' h' a cA q1 q2 q3 q4 => next T' h' a q1 q2 (Ab.new q3 hz hdv) q4
theorem own_stIA (H : Here p l e R s m args below meth c n0 T h k n) (hx : p.tables.exec = Jvm.exec) (hZ : Z.Warmed39 s.vm) {a : Addr} {N' : Nat} {B : Nat → Int32} (A : Ab Z h a .int N' B) {J x : Int32} {j : Nat} (ej : J.toInt = (j : Int)) (hj : j < N') (ha : n0 ≤ a) {g : JFrame} (hg : g.method = m) {rest : List Value} (hs : g.stack = .int x :: .int J :: .ref a :: rest) (hd : decode c.code g.pc = .ok (.iastore, 1))
    (next : ∀ T' h', Wr h h' a j (.int x) → Ab Z h' a .int N' (upd B j x) → Here p l e R s m args below meth c n0 T' h' k n → Go p e below Φ (T'.setTop { g with pc := g.pc + 1, stack := rest })) : Go p e below Φ (T.setTop g) := by
  have A' := A
  obtain ⟨cl, A0, S, G⟩ := A
  refine own_stI H hx hZ A0 (own_in ej S hj) ha hg hs hd fun T' h' W H' => ?_
  rw [(own_idx ej).2] at W
  exact next T' h' W (A'.set W) H'
theorem own_stBA (H : Here p l e R s m args below meth c n0 T h k n) (hx : p.tables.exec = Jvm.exec) (hZ : Z.Warmed39 s.vm) {a : Addr} {N' : Nat} {B : Nat → Int32} (A : Ab Z h a .byte N' B) {J x : Int32} {j : Nat} (ej : J.toInt = (j : Int)) (hj : j < N') (ha : n0 ≤ a) {g : JFrame} (hg : g.method = m) {rest : List Value} (hs : g.stack = .int x :: .int J :: .ref a :: rest) (hd : decode c.code g.pc = .ok (.bastore, 1))
    (next : ∀ T' h', Wr h h' a j (.int (nar .byte x)) → Ab Z h' a .byte N' (upd B j (nar .byte x)) → Here p l e R s m args below meth c n0 T' h' k n → Go p e below Φ (T'.setTop { g with pc := g.pc + 1, stack := rest })) : Go p e below Φ (T.setTop g) := by
  have A' := A
  obtain ⟨cl, A0, S, G⟩ := A
  refine own_stB H hx hZ A0 (own_in ej S hj) ha hg hs hd fun T' h' W H' => ?_
  rw [(own_idx ej).2] at W
  exact next T' h' W (A'.set W) H'
theorem own_ldIA (H : Here p l e R s m args below meth c n0 T h k n) (hx : p.tables.exec = Jvm.exec) (hZ : Z.Warmed39 s.vm) {a : Addr} {N' : Nat} {B : Nat → Int32} (A : Ab Z h a .int N' B) {J : Int32} {j : Nat} (ej : J.toInt = (j : Int)) (hj : j < N') {g : JFrame} (hg : g.method = m) {rest : List Value} (hs : g.stack = .int J :: .ref a :: rest) (hd : decode c.code g.pc = .ok (.iaload, 1))
    (next : Go p e below Φ (T.setTop { g with pc := g.pc + 1, stack := .int (B j) :: rest })) : Go p e below Φ (T.setTop g) := by
  obtain ⟨cl, A0, S, G⟩ := A
  exact own_ldI H hx hZ A0 (own_in ej S hj) (by rw [(own_idx ej).2]; exact G j hj) hg hs hd next
theorem own_ldBA (H : Here p l e R s m args below meth c n0 T h k n) (hx : p.tables.exec = Jvm.exec) (hZ : Z.Warmed39 s.vm) {a : Addr} {N' : Nat} {B : Nat → Int32} (A : Ab Z h a .byte N' B) {J : Int32} {j : Nat} (ej : J.toInt = (j : Int)) (hj : j < N') {g : JFrame} (hg : g.method = m) {rest : List Value} (hs : g.stack = .int J :: .ref a :: rest) (hd : decode c.code g.pc = .ok (.baload, 1))
    (next : Go p e below Φ (T.setTop { g with pc := g.pc + 1, stack := .int (B j) :: rest })) : Go p e below Φ (T.setTop g) := by
  obtain ⟨cl, A0, S, G⟩ := A
  exact own_ldB H hx hZ A0 (own_in ej S hj) (by rw [(own_idx ej).2]; exact G j hj) hg hs hd next
theorem own_lenA (H : Here p l e R s m args below meth c n0 T h k n) (hx : p.tables.exec = Jvm.exec) (hZ : Z.Warmed39 s.vm) {a : Addr} {N' : Nat} {B : Nat → Int32} {ty : FieldType} (A : Ab Z h a ty N' B) {z : Int32} (hz : N'.toInt32 = z) {g : JFrame} (hg : g.method = m) {rest : List Value} (hs : g.stack = .ref a :: rest) (hd : decode c.code g.pc = .ok (.arraylength, 1))
    (next : Go p e below Φ (T.setTop { g with pc := g.pc + 1, stack := .int z :: rest })) : Go p e below Φ (T.setTop g) := by
  obtain ⟨cl, A0, S, G⟩ := A
  subst S; subst hz
  exact own_len H hx hZ A0 hg hs hd next
/-! constants -/
theorem own_ldcI (H : Here p l e R s m args below meth c n0 T h k n) (hx : p.tables.exec = Jvm.exec) (hZ : Z.Warmed39 s.vm) {own : String} {index : Nat} {v : Int32} (hown : s.vm.findClass own = some m.cls) (w : (Jvm.Cond.constant own index v).before a0 Z = true) {g : JFrame} (hg : g.method = m) (hd : decode c.code g.pc = .ok (.ldc index, 2))
    (next : Go p e below Φ (T.setTop { g with pc := g.pc + 2, stack := .int v :: g.stack })) : Go p e below Φ (T.setTop g) := by
  obtain ⟨locs, X, r1, r2⟩ := H.stand
  exact Go.via (X.ldcInt hx hown (mvT hZ w) hg hd) next
theorem own_ldcL (H : Here p l e R s m args below meth c n0 T h k n) (hx : p.tables.exec = Jvm.exec) (hZ : Z.Warmed39 s.vm) {own : String} {index : Nat} {v : Int64} (hown : s.vm.findClass own = some m.cls) (w : (Jvm.Cond.constantLong own index v).before a0 Z = true) {g : JFrame} (hg : g.method = m) (hd : decode c.code g.pc = .ok (.ldc2_w index, 3))
    (next : Go p e below Φ (T.setTop { g with pc := g.pc + 3, stack := .long v :: g.stack })) : Go p e below Φ (T.setTop g) := by
  obtain ⟨locs, X, r1, r2⟩ := H.stand
  exact Go.via (X.ldc2Long hx hown (mvT hZ w) hg hd) next
/-! comparisons of longs -/
theorem own_llt {x y : Int64} (q : x < y) : ifCond.holds .lt (lcmpW x y) = true ∧ ifCond.holds .ge (lcmpW x y) = false := by
  have := (lw_lt x y).mpr q; rw [if0, if0]; exact ⟨(tlt this).1, (tlt this).2.1⟩
theorem own_nlt {x y : Int64} (q : ¬ x < y) : ifCond.holds .lt (lcmpW x y) = false ∧ ifCond.holds .ge (lcmpW x y) = true := by
  have : ¬ lcmpW x y < 0 := fun z => q ((lw_lt x y).mp z); rw [if0, if0]; exact ⟨(flt this).1, (flt this).2.1⟩
theorem own_lgt {x y : Int64} (q : y < x) : ifCond.holds .gt (lcmpW x y) = true ∧ ifCond.holds .le (lcmpW x y) = false := by
  have := (lw_gt x y).mpr q; rw [if0, if0]; exact ⟨(tlt this).2.2.1, (tlt this).2.2.2⟩
theorem own_ngt {x y : Int64} (q : ¬ y < x) : ifCond.holds .gt (lcmpW x y) = false ∧ ifCond.holds .le (lcmpW x y) = true := by
  have : ¬ 0 < lcmpW x y := fun z => q ((lw_gt x y).mp z); rw [if0, if0]; exact ⟨(flt this).2.2.1, (flt this).2.2.2⟩
theorem own_leq {x y : Int64} (q : x = y) : ifCond.holds .eq (lcmpW x y) = true ∧ ifCond.holds .ne (lcmpW x y) = false := by
  have := (lw_eq x y).mpr q; rw [if0, if0]; exact ⟨(teq this).1, (teq this).2⟩
theorem own_neq {x y : Int64} (q : ¬ x = y) : ifCond.holds .eq (lcmpW x y) = false ∧ ifCond.holds .ne (lcmpW x y) = true := by
  have : ¬ lcmpW x y = 0 := fun z => q ((lw_eq x y).mp z); rw [if0, if0]; exact ⟨(feq this).1, (feq this).2⟩
end Own
def mnL (a b : Int64) : Int64 := if b < a then b else a
def mxL (a b : Int64) : Int64 := if a < b then b else a
def cont (x y q : Int64) : Int32 := if (q < y ∨ (y = 4294967295 ∧ q = 4294967295)) ∧ ¬ q < x then 1 else 0
theorem nar0 : nar .boolean 0 = 0 := rfl
theorem nar1 : nar .boolean 1 = 1 := rfl
theorem own_cont (x y q : Int64) (h0 : ¬ x < 0) (h1 : x < y) (h2 : ¬ (4294967295 : Int64) < y) : cont x y q = if ¬ q < x ∧ ¬ (if y = (4294967295 : Int64) then (4294967295 : Int64) else y - 1) < q then 1 else 0 := by
  unfold cont
  have c1 := c_lsub y 1
  have r1 := rng64 (y - 1); have r2 := rng64 y
  have e1 : (1 : Int64).toInt = 1 := by decide
  have e2 : (4294967295 : Int64).toInt = 4294967295 := by decide
  have e3 : (0 : Int64).toInt = 0 := by decide
  by_cases hy : y = (4294967295 : Int64)
  · rw [if_pos hy]
    have : (q < y ∨ (y = 4294967295 ∧ q = 4294967295)) ∧ ¬ q < x ↔ ¬ q < x ∧ ¬ (4294967295 : Int64) < q := by
      subst hy
      simp only [Int64.lt_iff_toInt_lt, ← Int64.toInt_inj, e2, true_and] at *
      omega
    simp only [this]
  · rw [if_neg hy]
    have : (q < y ∨ (y = 4294967295 ∧ q = 4294967295)) ∧ ¬ q < x ↔ ¬ q < x ∧ ¬ y - 1 < q := by
      simp only [Int64.lt_iff_toInt_lt, ← Int64.toInt_inj, e1, e2, e3] at *
      omega
    simp only [this]
theorem own_mask (a : Int64) : 0 ≤ (a &&& (4294967295 : Int64)).toInt ∧ (a &&& (4294967295 : Int64)).toInt ≤ 4294967295 := by
  have := c_maskL a 4294967295 32 (by decide) (by decide)
  omega
theorem own_mm (a b : Int64) (ha : 0 ≤ a.toInt ∧ a.toInt ≤ 4294967295) (hb : 0 ≤ b.toInt ∧ b.toInt ≤ 4294967295) : 0 ≤ (mnL a b).toInt ∧ (mnL a b).toInt ≤ (mxL a b).toInt ∧ (mxL a b).toInt ≤ 4294967295 := by
  unfold mnL mxL
  simp only [Int64.lt_iff_toInt_lt]
  repeat' split
  all_goals omega
theorem own_pre (x y : Int64) (h0 : 0 ≤ x.toInt) (h1 : x.toInt < y.toInt) (h2 : y.toInt ≤ 4294967295) : ¬ x < 0 ∧ x < y ∧ ¬ (4294967295 : Int64) < y := by
  have e2 : (4294967295 : Int64).toInt = 4294967295 := by decide
  have e3 : (0 : Int64).toInt = 0 := by decide
  simp only [Int64.lt_iff_toInt_lt, e2, e3]
  omega
theorem own_inc (y : Int64) (h : 0 ≤ y.toInt ∧ y.toInt ≤ 4294967295) : (y + 1).toInt = y.toInt + 1 ∧ (y - 1).toInt = y.toInt - 1 := by
  have c1 := c_lsub y 1; have c2 := c_ladd y 1
  have r1 := rng64 (y - 1); have r2 := rng64 (y + 1)
  have e1 : (1 : Int64).toInt = 1 := by decide
  omega
theorem d1_0 : decode jdk_29_method_70_code 0 = .ok (.lload_n 0, 1) := by decide +kernel
theorem d1_1 : decode jdk_29_method_70_code 1 = .ok (.lload_n 2, 1) := by decide +kernel
theorem d1_2 : decode jdk_29_method_70_code 2 = .ok (.lcmp, 1) := by decide +kernel
theorem d1_3 : decode jdk_29_method_70_code 3 = .ok (.ifCond .gt 7, 3) := by decide +kernel
theorem d1_6 : decode jdk_29_method_70_code 6 = .ok (.lload_n 0, 1) := by decide +kernel
theorem d1_7 : decode jdk_29_method_70_code 7 = .ok (.goto 4, 3) := by decide +kernel
theorem d1_10 : decode jdk_29_method_70_code 10 = .ok (.lload_n 2, 1) := by decide +kernel
theorem d1_11 : decode jdk_29_method_70_code 11 = .ok (.lreturn, 1) := by decide +kernel
theorem ef_rm1 (m : MethodId) (x0 : Int64) (x1 : Int64) : entryFrame m #[(.long x0), (.long x1)] 4 = mkF m 0 #[.val (.long x0), .second, .val (.long x1), .second] [] := by first | (simp [entryFrame, mkF, argsToLocals, Value.category]; done) | rfl
set_option maxRecDepth 65536 in
set_option maxHeartbeats 40000000 in
theorem rm1 (l : Launch) (Z : State) (a0 : Array Value) (hw : ∀ d ∈ tables_1, d.before a0 Z = true) (p1 p2 : Int64) (h0 : Heap) (n0 : Nat)  :
    CM l Z (⟨"java/lang/Math", "min", "(JJ)J"⟩ : MethodName) jdk_29_method_70_code 4 (some .long) ({ frames := 0, cells := 0, slots := 0, locals := 0 } : Room) #[(.long p1), (.long p2)] h0 n0 (fun v h => v = some (.long (mnL p1 p2)) ∧ h0 = h) := by
  refine own_enter (Jvm.Free.JP.mathPlain rfl (by decide +kernel)) ?_
  intro p e s m below meth c T0 hx hby hml hown hnm hZ hret hlk H0
  replace hown : s.vm.findClass "java/lang/Math" = some m.cls := hown
  replace hret : meth.sig.returnType = some .long := hret
  refine Go.via (fun t_ k_ => castTop (ef_rm1 m p1 p2) k_) ?_
  show Go _ _ _ _ (T0.setTop (mkF m 0 #[.val (.long p1), .second, .val (.long p2), .second] []))
  refine Go.via (fun t_ k_ => XS.lloadN H0.here hx rfl (hb hby d1_0) rfl k_) ?_
  show Go _ _ _ _ (T0.setTop (mkF m 1 #[.val (.long p1), .second, .val (.long p2), .second] [(.long p1)]))
  refine Go.via (fun t_ k_ => XS.lloadN H0.here hx rfl (hb hby d1_1) rfl k_) ?_
  show Go _ _ _ _ (T0.setTop (mkF m 2 #[.val (.long p1), .second, .val (.long p2), .second] [(.long p2), (.long p1)]))
  refine Go.via (fun t_ k_ => XS.lcmp H0.here hx rfl (hb hby d1_2) rfl k_) ?_
  show Go _ _ _ _ (T0.setTop (mkF m 3 #[.val (.long p1), .second, .val (.long p2), .second] [(.int (lcmpW p1 p2))]))
  by_cases hc3 : p2 < p1
  · refine Go.via (fun t_ k_ => XS.ifYes H0.here hx rfl (pc0 := 3) (pc' := 10) rfl (hb hby d1_3) rfl ((own_lgt hc3).1) (by decide) (by decide) k_) ?_
    show Go _ _ _ _ (T0.setTop (mkF m 10 #[.val (.long p1), .second, .val (.long p2), .second] []))
    refine Go.via (fun t_ k_ => XS.lloadN H0.here hx rfl (hb hby d1_10) rfl k_) ?_
    show Go _ _ _ _ (T0.setTop (mkF m 11 #[.val (.long p1), .second, .val (.long p2), .second] [(.long p2)]))
    exact own_retL H0 hx hlk hret (hb hby d1_11) ⟨by simp [mnL, hc3], rfl⟩ (by decide) (by decide)
  · refine Go.via (fun t_ k_ => XS.ifNo H0.here hx rfl (hb hby d1_3) rfl ((own_ngt hc3).1) k_) ?_
    show Go _ _ _ _ (T0.setTop (mkF m 6 #[.val (.long p1), .second, .val (.long p2), .second] []))
    refine Go.via (fun t_ k_ => XS.lloadN H0.here hx rfl (hb hby d1_6) rfl k_) ?_
    show Go _ _ _ _ (T0.setTop (mkF m 7 #[.val (.long p1), .second, .val (.long p2), .second] [(.long p1)]))
    refine Go.via (fun t_ k_ => XS.goto H0.here hx rfl (pc0 := 7) (pc' := 11) rfl (hb hby d1_7) (by decide) (by decide) k_) ?_
    show Go _ _ _ _ (T0.setTop (mkF m 11 #[.val (.long p1), .second, .val (.long p2), .second] [(.long p1)]))
    exact own_retL H0 hx hlk hret (hb hby d1_11) ⟨by simp [mnL, hc3], rfl⟩ (by decide) (by decide)
theorem d2_0 : decode jdk_29_method_66_code 0 = .ok (.lload_n 0, 1) := by decide +kernel
theorem d2_1 : decode jdk_29_method_66_code 1 = .ok (.lload_n 2, 1) := by decide +kernel
theorem d2_2 : decode jdk_29_method_66_code 2 = .ok (.lcmp, 1) := by decide +kernel
theorem d2_3 : decode jdk_29_method_66_code 3 = .ok (.ifCond .lt 7, 3) := by decide +kernel
theorem d2_6 : decode jdk_29_method_66_code 6 = .ok (.lload_n 0, 1) := by decide +kernel
theorem d2_7 : decode jdk_29_method_66_code 7 = .ok (.goto 4, 3) := by decide +kernel
theorem d2_10 : decode jdk_29_method_66_code 10 = .ok (.lload_n 2, 1) := by decide +kernel
theorem d2_11 : decode jdk_29_method_66_code 11 = .ok (.lreturn, 1) := by decide +kernel
theorem ef_rm2 (m : MethodId) (x0 : Int64) (x1 : Int64) : entryFrame m #[(.long x0), (.long x1)] 4 = mkF m 0 #[.val (.long x0), .second, .val (.long x1), .second] [] := by first | (simp [entryFrame, mkF, argsToLocals, Value.category]; done) | rfl
set_option maxRecDepth 65536 in
set_option maxHeartbeats 40000000 in
theorem rm2 (l : Launch) (Z : State) (a0 : Array Value) (hw : ∀ d ∈ tables_1, d.before a0 Z = true) (p1 p2 : Int64) (h0 : Heap) (n0 : Nat)  :
    CM l Z (⟨"java/lang/Math", "max", "(JJ)J"⟩ : MethodName) jdk_29_method_66_code 4 (some .long) ({ frames := 0, cells := 0, slots := 0, locals := 0 } : Room) #[(.long p1), (.long p2)] h0 n0 (fun v h => v = some (.long (mxL p1 p2)) ∧ h0 = h) := by
  refine own_enter (Jvm.Free.JP.mathPlain rfl (by decide +kernel)) ?_
  intro p e s m below meth c T0 hx hby hml hown hnm hZ hret hlk H0
  replace hown : s.vm.findClass "java/lang/Math" = some m.cls := hown
  replace hret : meth.sig.returnType = some .long := hret
  refine Go.via (fun t_ k_ => castTop (ef_rm2 m p1 p2) k_) ?_
  show Go _ _ _ _ (T0.setTop (mkF m 0 #[.val (.long p1), .second, .val (.long p2), .second] []))
  refine Go.via (fun t_ k_ => XS.lloadN H0.here hx rfl (hb hby d2_0) rfl k_) ?_
  show Go _ _ _ _ (T0.setTop (mkF m 1 #[.val (.long p1), .second, .val (.long p2), .second] [(.long p1)]))
  refine Go.via (fun t_ k_ => XS.lloadN H0.here hx rfl (hb hby d2_1) rfl k_) ?_
  show Go _ _ _ _ (T0.setTop (mkF m 2 #[.val (.long p1), .second, .val (.long p2), .second] [(.long p2), (.long p1)]))
  refine Go.via (fun t_ k_ => XS.lcmp H0.here hx rfl (hb hby d2_2) rfl k_) ?_
  show Go _ _ _ _ (T0.setTop (mkF m 3 #[.val (.long p1), .second, .val (.long p2), .second] [(.int (lcmpW p1 p2))]))
  by_cases hc3 : p1 < p2
  · refine Go.via (fun t_ k_ => XS.ifYes H0.here hx rfl (pc0 := 3) (pc' := 10) rfl (hb hby d2_3) rfl ((own_llt hc3).1) (by decide) (by decide) k_) ?_
    show Go _ _ _ _ (T0.setTop (mkF m 10 #[.val (.long p1), .second, .val (.long p2), .second] []))
    refine Go.via (fun t_ k_ => XS.lloadN H0.here hx rfl (hb hby d2_10) rfl k_) ?_
    show Go _ _ _ _ (T0.setTop (mkF m 11 #[.val (.long p1), .second, .val (.long p2), .second] [(.long p2)]))
    exact own_retL H0 hx hlk hret (hb hby d2_11) ⟨by simp [mxL, hc3], rfl⟩ (by decide) (by decide)
  · refine Go.via (fun t_ k_ => XS.ifNo H0.here hx rfl (hb hby d2_3) rfl ((own_nlt hc3).1) k_) ?_
    show Go _ _ _ _ (T0.setTop (mkF m 6 #[.val (.long p1), .second, .val (.long p2), .second] []))
    refine Go.via (fun t_ k_ => XS.lloadN H0.here hx rfl (hb hby d2_6) rfl k_) ?_
    show Go _ _ _ _ (T0.setTop (mkF m 7 #[.val (.long p1), .second, .val (.long p2), .second] [(.long p1)]))
    refine Go.via (fun t_ k_ => XS.goto H0.here hx rfl (pc0 := 7) (pc' := 11) rfl (hb hby d2_7) (by decide) (by decide) k_) ?_
    show Go _ _ _ _ (T0.setTop (mkF m 11 #[.val (.long p1), .second, .val (.long p2), .second] [(.long p1)]))
    exact own_retL H0 hx hlk hret (hb hby d2_11) ⟨by simp [mxL, hc3], rfl⟩ (by decide) (by decide)
theorem d3_0 : decode prog_29_method_1_code 0 = .ok (.aload_n 0, 1) := by decide +kernel
theorem d3_1 : decode prog_29_method_1_code 1 = .ok (.invokespecial 1, 3) := by decide +kernel
theorem d3_4 : decode prog_29_method_1_code 4 = .ok (.lload_n 1, 1) := by decide +kernel
theorem d3_5 : decode prog_29_method_1_code 5 = .ok (.lconst 0, 1) := by decide +kernel
theorem d3_6 : decode prog_29_method_1_code 6 = .ok (.lcmp, 1) := by decide +kernel
theorem d3_7 : decode prog_29_method_1_code 7 = .ok (.ifCond .lt 17, 3) := by decide +kernel
theorem d3_10 : decode prog_29_method_1_code 10 = .ok (.lload_n 3, 1) := by decide +kernel
theorem d3_11 : decode prog_29_method_1_code 11 = .ok (.ldc2_w 9, 3) := by decide +kernel
theorem d3_14 : decode prog_29_method_1_code 14 = .ok (.lcmp, 1) := by decide +kernel
theorem d3_15 : decode prog_29_method_1_code 15 = .ok (.ifCond .gt 9, 3) := by decide +kernel
theorem d3_18 : decode prog_29_method_1_code 18 = .ok (.lload_n 1, 1) := by decide +kernel
theorem d3_19 : decode prog_29_method_1_code 19 = .ok (.lload_n 3, 1) := by decide +kernel
theorem d3_20 : decode prog_29_method_1_code 20 = .ok (.lcmp, 1) := by decide +kernel
theorem d3_21 : decode prog_29_method_1_code 21 = .ok (.ifCond .lt 24, 3) := by decide +kernel
theorem d3_24 : decode prog_29_method_1_code 24 = .ok (.new 11, 3) := by decide +kernel
theorem d3_27 : decode prog_29_method_1_code 27 = .ok (.dup, 1) := by decide +kernel
theorem d3_28 : decode prog_29_method_1_code 28 = .ok (.lload_n 1, 1) := by decide +kernel
theorem d3_29 : decode prog_29_method_1_code 29 = .ok (.invokestatic 13, 3) := by decide +kernel
theorem d3_32 : decode prog_29_method_1_code 32 = .ok (.lload_n 3, 1) := by decide +kernel
theorem d3_33 : decode prog_29_method_1_code 33 = .ok (.invokestatic 13, 3) := by decide +kernel
theorem d3_41 : decode prog_29_method_1_code 41 = .ok (.invokespecial 23, 3) := by decide +kernel
theorem d3_44 : decode prog_29_method_1_code 44 = .ok (.athrow, 1) := by decide +kernel
theorem d3_45 : decode prog_29_method_1_code 45 = .ok (.aload_n 0, 1) := by decide +kernel
theorem d3_46 : decode prog_29_method_1_code 46 = .ok (.lload_n 1, 1) := by decide +kernel
theorem d3_47 : decode prog_29_method_1_code 47 = .ok (.putfield 26, 3) := by decide +kernel
theorem d3_50 : decode prog_29_method_1_code 50 = .ok (.aload_n 0, 1) := by decide +kernel
theorem d3_51 : decode prog_29_method_1_code 51 = .ok (.lload_n 3, 1) := by decide +kernel
theorem d3_52 : decode prog_29_method_1_code 52 = .ok (.putfield 32, 3) := by decide +kernel
theorem d3_55 : decode prog_29_method_1_code 55 = .ok (.return_, 1) := by decide +kernel
theorem ef_rm3 (m : MethodId) (x0 : Addr) (x1 : Int64) (x2 : Int64) : entryFrame m #[(.ref x0), (.long x1), (.long x2)] 5 = mkF m 0 #[.val (.ref x0), .val (.long x1), .second, .val (.long x2), .second] [] := by first | (simp [entryFrame, mkF, argsToLocals, Value.category]; done) | rfl
set_option maxRecDepth 65536 in
set_option maxHeartbeats 40000000 in
theorem rm3 (l : Launch) (Z : State) (a0 : Array Value) (hw : ∀ d ∈ tables_1, d.before a0 Z = true) (a : Addr) (p1 p2 : Int64) (h0 : Heap) (n0 : Nat) (Fl : Fld Z h0 a "com/example/tidy_balancer/tidybalancer/model/BundleRange" "lower" "J" (.long (0 : Int64))) (Fu : Fld Z h0 a "com/example/tidy_balancer/tidybalancer/model/BundleRange" "upper" "J" (.long (0 : Int64))) (E : Exa Z h0 a "com/example/tidy_balancer/tidybalancer/model/BundleRange") (g : n0 ≤ a) (q1 : ¬ p1 < 0) (q2 : p1 < p2) (q3 : ¬ (4294967295 : Int64) < p2) :
    CM l Z (⟨"com/example/tidy_balancer/tidybalancer/model/BundleRange", "<init>", "(JJ)V"⟩ : MethodName) prog_29_method_1_code 5 none ({ frames := 1, cells := 0, slots := 0, locals := 12 } : Room) #[(.ref a), (.long p1), (.long p2)] h0 n0 (fun v h => v = none ∧ Exa Z h a "com/example/tidy_balancer/tidybalancer/model/BundleRange" ∧ Fld Z h a "com/example/tidy_balancer/tidybalancer/model/BundleRange" "lower" "J" (.long p1) ∧ Fld Z h a "com/example/tidy_balancer/tidybalancer/model/BundleRange" "upper" "J" (.long p2)) := by
  refine own_enter (by decide +kernel) ?_
  intro p e s m below meth c T0 hx hby hml hown hnm hZ hret hlk H0
  replace hown : s.vm.findClass "com/example/tidy_balancer/tidybalancer/model/BundleRange" = some m.cls := hown
  replace hret : meth.sig.returnType = none := hret
  refine Go.via (fun t_ k_ => castTop (ef_rm3 m a p1 p2) k_) ?_
  show Go _ _ _ _ (T0.setTop (mkF m 0 #[.val (.ref a), .val (.long p1), .second, .val (.long p2), .second] []))
  refine Go.via (fun t_ k_ => XS.aloadN H0.here hx rfl (hb hby d3_0) rfl rfl k_) ?_
  show Go _ _ _ _ (T0.setTop (mkF m 1 #[.val (.ref a), .val (.long p1), .second, .val (.long p2), .second] [(.ref a)]))
  refine own_initO H0 hx hZ hown (hw _ (List.mem_of_getElem? (i := 14) rfl)) (hw _ (List.mem_of_getElem? (i := 15) rfl)) (hw _ (List.mem_of_getElem? (i := 16) rfl)) (g := (mkF m 1 #[.val (.ref a), .val (.long p1), .second, .val (.long p2), .second] [(.ref a)])) rfl (by rw [hml]; rfl) rfl (hb hby d3_1) (by decide) 0 (Nat.le_of_eq rfl) (by decide) ?_
  intro T1 H1
  show Go _ _ _ _ (T1.setTop (mkF m 4 #[.val (.ref a), .val (.long p1), .second, .val (.long p2), .second] []))
  refine Go.via (fun t_ k_ => XS.lloadN H1.here hx rfl (hb hby d3_4) rfl k_) ?_
  show Go _ _ _ _ (T1.setTop (mkF m 5 #[.val (.ref a), .val (.long p1), .second, .val (.long p2), .second] [(.long p1)]))
  refine Go.via (fun t_ k_ => XS.lconst H1.here hx rfl (hb hby d3_5) k_) ?_
  show Go _ _ _ _ (T1.setTop (mkF m 6 #[.val (.ref a), .val (.long p1), .second, .val (.long p2), .second] [(.long (0 : Int64)), (.long p1)]))
  refine Go.via (fun t_ k_ => XS.lcmp H1.here hx rfl (hb hby d3_6) rfl k_) ?_
  show Go _ _ _ _ (T1.setTop (mkF m 7 #[.val (.ref a), .val (.long p1), .second, .val (.long p2), .second] [(.int (lcmpW p1 (0 : Int64)))]))
  refine Go.via (fun t_ k_ => XS.ifNo H1.here hx rfl (hb hby d3_7) rfl ((own_nlt (show ¬ (p1 < (0 : Int64)) from q1)).1) k_) ?_
  show Go _ _ _ _ (T1.setTop (mkF m 10 #[.val (.ref a), .val (.long p1), .second, .val (.long p2), .second] []))
  refine Go.via (fun t_ k_ => XS.lloadN H1.here hx rfl (hb hby d3_10) rfl k_) ?_
  show Go _ _ _ _ (T1.setTop (mkF m 11 #[.val (.ref a), .val (.long p1), .second, .val (.long p2), .second] [(.long p2)]))
  refine own_ldcL H1 hx hZ hown (hw _ (List.mem_of_getElem? (i := 17) rfl)) (g := (mkF m 11 #[.val (.ref a), .val (.long p1), .second, .val (.long p2), .second] [(.long p2)])) rfl (hb hby d3_11) ?_
  show Go _ _ _ _ (T1.setTop (mkF m 14 #[.val (.ref a), .val (.long p1), .second, .val (.long p2), .second] [(.long (4294967295 : Int64)), (.long p2)]))
  refine Go.via (fun t_ k_ => XS.lcmp H1.here hx rfl (hb hby d3_14) rfl k_) ?_
  show Go _ _ _ _ (T1.setTop (mkF m 15 #[.val (.ref a), .val (.long p1), .second, .val (.long p2), .second] [(.int (lcmpW p2 (4294967295 : Int64)))]))
  refine Go.via (fun t_ k_ => XS.ifNo H1.here hx rfl (hb hby d3_15) rfl ((own_ngt (show ¬ ((4294967295 : Int64) < p2) from q3)).1) k_) ?_
  show Go _ _ _ _ (T1.setTop (mkF m 18 #[.val (.ref a), .val (.long p1), .second, .val (.long p2), .second] []))
  refine Go.via (fun t_ k_ => XS.lloadN H1.here hx rfl (hb hby d3_18) rfl k_) ?_
  show Go _ _ _ _ (T1.setTop (mkF m 19 #[.val (.ref a), .val (.long p1), .second, .val (.long p2), .second] [(.long p1)]))
  refine Go.via (fun t_ k_ => XS.lloadN H1.here hx rfl (hb hby d3_19) rfl k_) ?_
  show Go _ _ _ _ (T1.setTop (mkF m 20 #[.val (.ref a), .val (.long p1), .second, .val (.long p2), .second] [(.long p2), (.long p1)]))
  refine Go.via (fun t_ k_ => XS.lcmp H1.here hx rfl (hb hby d3_20) rfl k_) ?_
  show Go _ _ _ _ (T1.setTop (mkF m 21 #[.val (.ref a), .val (.long p1), .second, .val (.long p2), .second] [(.int (lcmpW p1 p2))]))
  refine Go.via (fun t_ k_ => XS.ifYes H1.here hx rfl (pc0 := 21) (pc' := 45) rfl (hb hby d3_21) rfl ((own_llt (show p1 < p2 from q2)).1) (by decide) (by decide) k_) ?_
  show Go _ _ _ _ (T1.setTop (mkF m 45 #[.val (.ref a), .val (.long p1), .second, .val (.long p2), .second] []))
  refine Go.via (fun t_ k_ => XS.aloadN H1.here hx rfl (hb hby d3_45) rfl rfl k_) ?_
  show Go _ _ _ _ (T1.setTop (mkF m 46 #[.val (.ref a), .val (.long p1), .second, .val (.long p2), .second] [(.ref a)]))
  refine Go.via (fun t_ k_ => XS.lloadN H1.here hx rfl (hb hby d3_46) rfl k_) ?_
  show Go _ _ _ _ (T1.setTop (mkF m 47 #[.val (.ref a), .val (.long p1), .second, .val (.long p2), .second] [(.long p1), (.ref a)]))
  refine own_putF H1 hx hZ hown (hw _ (List.mem_of_getElem? (i := 18) rfl)) Fl E (Or.inr ⟨(hw _ (List.mem_of_getElem? (i := 19) rfl)), rfl, hnm⟩) (hw _ (List.mem_of_getElem? (i := 9) rfl)) g (ty := .long) (by decide) rfl rfl (g := (mkF m 47 #[.val (.ref a), .val (.long p1), .second, .val (.long p2), .second] [(.long p1), (.ref a)])) rfl rfl (hb hby d3_47) ?_
  intro T2 h2 W2 H2
  have F2_lower := Fl.same W2
  show Go _ _ _ _ (T2.setTop (mkF m 50 #[.val (.ref a), .val (.long p1), .second, .val (.long p2), .second] []))
  refine Go.via (fun t_ k_ => XS.aloadN H2.here hx rfl (hb hby d3_50) rfl rfl k_) ?_
  show Go _ _ _ _ (T2.setTop (mkF m 51 #[.val (.ref a), .val (.long p1), .second, .val (.long p2), .second] [(.ref a)]))
  refine Go.via (fun t_ k_ => XS.lloadN H2.here hx rfl (hb hby d3_51) rfl k_) ?_
  show Go _ _ _ _ (T2.setTop (mkF m 52 #[.val (.ref a), .val (.long p1), .second, .val (.long p2), .second] [(.long p2), (.ref a)]))
  refine own_putF H2 hx hZ hown (hw _ (List.mem_of_getElem? (i := 20) rfl)) (Fu.other W2 (Or.inr (slot_ne (Or.inr (hw _ (List.mem_of_getElem? (i := 21) rfl))) (Or.inr (hw _ (List.mem_of_getElem? (i := 19) rfl))) (by decide) (t := .long) (t' := .long) (by decide) (by decide)))) (E.wr W2) (Or.inr ⟨(hw _ (List.mem_of_getElem? (i := 21) rfl)), rfl, hnm⟩) (hw _ (List.mem_of_getElem? (i := 9) rfl)) g (ty := .long) (by decide) rfl rfl (g := (mkF m 52 #[.val (.ref a), .val (.long p1), .second, .val (.long p2), .second] [(.long p2), (.ref a)])) rfl rfl (hb hby d3_52) ?_
  intro T3 h3 W3 H3
  have F3_upper := (Fu.other W2 (Or.inr (slot_ne (Or.inr (hw _ (List.mem_of_getElem? (i := 21) rfl))) (Or.inr (hw _ (List.mem_of_getElem? (i := 19) rfl))) (by decide) (t := .long) (t' := .long) (by decide) (by decide)))).same W3
  show Go _ _ _ _ (T3.setTop (mkF m 55 #[.val (.ref a), .val (.long p1), .second, .val (.long p2), .second] []))
  exact own_retV H3 hx hlk hret (hb hby d3_55) ⟨rfl, ((E.wr W2).wr W3), (F2_lower.other W3 (Or.inr (slot_ne (Or.inr (hw _ (List.mem_of_getElem? (i := 19) rfl))) (Or.inr (hw _ (List.mem_of_getElem? (i := 21) rfl))) (by decide) (t := .long) (t' := .long) (by decide) (by decide)))), F3_upper⟩ (by decide) (by decide)
theorem d5_0 : decode prog_29_method_5_code 0 = .ok (.lload_n 1, 1) := by decide +kernel
theorem d5_1 : decode prog_29_method_5_code 1 = .ok (.aload_n 0, 1) := by decide +kernel
theorem d5_2 : decode prog_29_method_5_code 2 = .ok (.getfield 32, 3) := by decide +kernel
theorem d5_5 : decode prog_29_method_5_code 5 = .ok (.lcmp, 1) := by decide +kernel
theorem d5_6 : decode prog_29_method_5_code 6 = .ok (.ifCond .lt 22, 3) := by decide +kernel
theorem d5_9 : decode prog_29_method_5_code 9 = .ok (.aload_n 0, 1) := by decide +kernel
theorem d5_10 : decode prog_29_method_5_code 10 = .ok (.getfield 32, 3) := by decide +kernel
theorem d5_13 : decode prog_29_method_5_code 13 = .ok (.ldc2_w 9, 3) := by decide +kernel
theorem d5_16 : decode prog_29_method_5_code 16 = .ok (.lcmp, 1) := by decide +kernel
theorem d5_17 : decode prog_29_method_5_code 17 = .ok (.ifCond .ne 15, 3) := by decide +kernel
theorem d5_20 : decode prog_29_method_5_code 20 = .ok (.lload_n 1, 1) := by decide +kernel
theorem d5_21 : decode prog_29_method_5_code 21 = .ok (.ldc2_w 9, 3) := by decide +kernel
theorem d5_24 : decode prog_29_method_5_code 24 = .ok (.lcmp, 1) := by decide +kernel
theorem d5_25 : decode prog_29_method_5_code 25 = .ok (.ifCond .ne 7, 3) := by decide +kernel
theorem d5_28 : decode prog_29_method_5_code 28 = .ok (.iconst 1, 1) := by decide +kernel
theorem d5_29 : decode prog_29_method_5_code 29 = .ok (.goto 4, 3) := by decide +kernel
theorem d5_32 : decode prog_29_method_5_code 32 = .ok (.iconst 0, 1) := by decide +kernel
theorem d5_33 : decode prog_29_method_5_code 33 = .ok (.istore_n 3, 1) := by decide +kernel
theorem d5_34 : decode prog_29_method_5_code 34 = .ok (.lload_n 1, 1) := by decide +kernel
theorem d5_35 : decode prog_29_method_5_code 35 = .ok (.aload_n 0, 1) := by decide +kernel
theorem d5_36 : decode prog_29_method_5_code 36 = .ok (.getfield 26, 3) := by decide +kernel
theorem d5_39 : decode prog_29_method_5_code 39 = .ok (.lcmp, 1) := by decide +kernel
theorem d5_40 : decode prog_29_method_5_code 40 = .ok (.ifCond .lt 11, 3) := by decide +kernel
theorem d5_43 : decode prog_29_method_5_code 43 = .ok (.iload_n 3, 1) := by decide +kernel
theorem d5_44 : decode prog_29_method_5_code 44 = .ok (.ifCond .eq 7, 3) := by decide +kernel
theorem d5_47 : decode prog_29_method_5_code 47 = .ok (.iconst 1, 1) := by decide +kernel
theorem d5_48 : decode prog_29_method_5_code 48 = .ok (.goto 4, 3) := by decide +kernel
theorem d5_51 : decode prog_29_method_5_code 51 = .ok (.iconst 0, 1) := by decide +kernel
theorem d5_52 : decode prog_29_method_5_code 52 = .ok (.ireturn, 1) := by decide +kernel
theorem ef_rm5 (m : MethodId) (x0 : Addr) (x1 : Int64) : entryFrame m #[(.ref x0), (.long x1)] 4 = mkF m 0 #[.val (.ref x0), .val (.long x1), .second, .unset] [] := by first | (simp [entryFrame, mkF, argsToLocals, Value.category]; done) | rfl
set_option maxRecDepth 65536 in
set_option maxHeartbeats 40000000 in
theorem rm5 (l : Launch) (Z : State) (a0 : Array Value) (hw : ∀ d ∈ tables_1, d.before a0 Z = true) (a : Addr) (p1 x y : Int64) (h0 : Heap) (n0 : Nat) (Fl : Fld Z h0 a "com/example/tidy_balancer/tidybalancer/model/BundleRange" "lower" "J" (.long x)) (Fu : Fld Z h0 a "com/example/tidy_balancer/tidybalancer/model/BundleRange" "upper" "J" (.long y)) :
    CM l Z (⟨"com/example/tidy_balancer/tidybalancer/model/BundleRange", "contains", "(J)Z"⟩ : MethodName) prog_29_method_5_code 4 (some .boolean) ({ frames := 0, cells := 0, slots := 0, locals := 0 } : Room) #[(.ref a), (.long p1)] h0 n0 (fun v h => v = some (.int (cont x y p1)) ∧ h0 = h) := by
  refine own_enter (by decide +kernel) ?_
  intro p e s m below meth c T0 hx hby hml hown hnm hZ hret hlk H0
  replace hown : s.vm.findClass "com/example/tidy_balancer/tidybalancer/model/BundleRange" = some m.cls := hown
  replace hret : meth.sig.returnType = some .boolean := hret
  refine Go.via (fun t_ k_ => castTop (ef_rm5 m a p1) k_) ?_
  show Go _ _ _ _ (T0.setTop (mkF m 0 #[.val (.ref a), .val (.long p1), .second, .unset] []))
  refine Go.via (fun t_ k_ => XS.lloadN H0.here hx rfl (hb hby d5_0) rfl k_) ?_
  show Go _ _ _ _ (T0.setTop (mkF m 1 #[.val (.ref a), .val (.long p1), .second, .unset] [(.long p1)]))
  refine Go.via (fun t_ k_ => XS.aloadN H0.here hx rfl (hb hby d5_1) rfl rfl k_) ?_
  show Go _ _ _ _ (T0.setTop (mkF m 2 #[.val (.ref a), .val (.long p1), .second, .unset] [(.ref a), (.long p1)]))
  refine own_getF H0 hx hZ hown (hw _ (List.mem_of_getElem? (i := 20) rfl)) Fu (g := (mkF m 2 #[.val (.ref a), .val (.long p1), .second, .unset] [(.ref a), (.long p1)])) rfl rfl (hb hby d5_2) ?_
  intro T1 H1
  show Go _ _ _ _ (T1.setTop (mkF m 5 #[.val (.ref a), .val (.long p1), .second, .unset] [(.long y), (.long p1)]))
  refine Go.via (fun t_ k_ => XS.lcmp H1.here hx rfl (hb hby d5_5) rfl k_) ?_
  show Go _ _ _ _ (T1.setTop (mkF m 6 #[.val (.ref a), .val (.long p1), .second, .unset] [(.int (lcmpW p1 y))]))
  by_cases hc6 : p1 < y
  · refine Go.via (fun t_ k_ => XS.ifYes H1.here hx rfl (pc0 := 6) (pc' := 28) rfl (hb hby d5_6) rfl ((own_llt hc6).1) (by decide) (by decide) k_) ?_
    show Go _ _ _ _ (T1.setTop (mkF m 28 #[.val (.ref a), .val (.long p1), .second, .unset] []))
    refine Go.via (fun t_ k_ => XS.iconst H1.here hx rfl (hb hby d5_28) k_) ?_
    show Go _ _ _ _ (T1.setTop (mkF m 29 #[.val (.ref a), .val (.long p1), .second, .unset] [(.int (1 : Int32))]))
    refine Go.via (fun t_ k_ => XS.goto H1.here hx rfl (pc0 := 29) (pc' := 33) rfl (hb hby d5_29) (by decide) (by decide) k_) ?_
    show Go _ _ _ _ (T1.setTop (mkF m 33 #[.val (.ref a), .val (.long p1), .second, .unset] [(.int (1 : Int32))]))
    refine Go.via (fun t_ k_ => XS.istoreN H1.here hx rfl (hb hby d5_33) rfl (l' := #[.val (.ref a), .val (.long p1), .second, .val (.int (1 : Int32))]) rfl k_) ?_
    show Go _ _ _ _ (T1.setTop (mkF m 34 #[.val (.ref a), .val (.long p1), .second, .val (.int (1 : Int32))] []))
    refine Go.via (fun t_ k_ => XS.lloadN H1.here hx rfl (hb hby d5_34) rfl k_) ?_
    show Go _ _ _ _ (T1.setTop (mkF m 35 #[.val (.ref a), .val (.long p1), .second, .val (.int (1 : Int32))] [(.long p1)]))
    refine Go.via (fun t_ k_ => XS.aloadN H1.here hx rfl (hb hby d5_35) rfl rfl k_) ?_
    show Go _ _ _ _ (T1.setTop (mkF m 36 #[.val (.ref a), .val (.long p1), .second, .val (.int (1 : Int32))] [(.ref a), (.long p1)]))
    refine own_getF H1 hx hZ hown (hw _ (List.mem_of_getElem? (i := 18) rfl)) Fl (g := (mkF m 36 #[.val (.ref a), .val (.long p1), .second, .val (.int (1 : Int32))] [(.ref a), (.long p1)])) rfl rfl (hb hby d5_36) ?_
    intro T2 H2
    show Go _ _ _ _ (T2.setTop (mkF m 39 #[.val (.ref a), .val (.long p1), .second, .val (.int (1 : Int32))] [(.long x), (.long p1)]))
    refine Go.via (fun t_ k_ => XS.lcmp H2.here hx rfl (hb hby d5_39) rfl k_) ?_
    show Go _ _ _ _ (T2.setTop (mkF m 40 #[.val (.ref a), .val (.long p1), .second, .val (.int (1 : Int32))] [(.int (lcmpW p1 x))]))
    by_cases hc40 : p1 < x
    · refine Go.via (fun t_ k_ => XS.ifYes H2.here hx rfl (pc0 := 40) (pc' := 51) rfl (hb hby d5_40) rfl ((own_llt hc40).1) (by decide) (by decide) k_) ?_
      show Go _ _ _ _ (T2.setTop (mkF m 51 #[.val (.ref a), .val (.long p1), .second, .val (.int (1 : Int32))] []))
      refine Go.via (fun t_ k_ => XS.iconst H2.here hx rfl (hb hby d5_51) k_) ?_
      show Go _ _ _ _ (T2.setTop (mkF m 52 #[.val (.ref a), .val (.long p1), .second, .val (.int (1 : Int32))] [(.int (0 : Int32))]))
      exact own_retN H2 hx hlk (by simp) hret (hb hby d5_52) ⟨by simp [cont, nar0, nar1, eq_true hc6, eq_true hc40], rfl⟩ (by decide) (by decide)
    · refine Go.via (fun t_ k_ => XS.ifNo H2.here hx rfl (hb hby d5_40) rfl ((own_nlt hc40).1) k_) ?_
      show Go _ _ _ _ (T2.setTop (mkF m 43 #[.val (.ref a), .val (.long p1), .second, .val (.int (1 : Int32))] []))
      refine Go.via (fun t_ k_ => XS.iloadN H2.here hx rfl (hb hby d5_43) rfl k_) ?_
      show Go _ _ _ _ (T2.setTop (mkF m 44 #[.val (.ref a), .val (.long p1), .second, .val (.int (1 : Int32))] [(.int (1 : Int32))]))
      refine Go.via (fun t_ k_ => XS.ifNo H2.here hx rfl (hb hby d5_44) rfl ((if0 _ _).trans (feq (show ¬ ((1 : Int32) = (0 : Int32)) from (by decide))).1) k_) ?_
      show Go _ _ _ _ (T2.setTop (mkF m 47 #[.val (.ref a), .val (.long p1), .second, .val (.int (1 : Int32))] []))
      refine Go.via (fun t_ k_ => XS.iconst H2.here hx rfl (hb hby d5_47) k_) ?_
      show Go _ _ _ _ (T2.setTop (mkF m 48 #[.val (.ref a), .val (.long p1), .second, .val (.int (1 : Int32))] [(.int (1 : Int32))]))
      refine Go.via (fun t_ k_ => XS.goto H2.here hx rfl (pc0 := 48) (pc' := 52) rfl (hb hby d5_48) (by decide) (by decide) k_) ?_
      show Go _ _ _ _ (T2.setTop (mkF m 52 #[.val (.ref a), .val (.long p1), .second, .val (.int (1 : Int32))] [(.int (1 : Int32))]))
      exact own_retN H2 hx hlk (by simp) hret (hb hby d5_52) ⟨by simp [cont, nar0, nar1, eq_true hc6, eq_false hc40], rfl⟩ (by decide) (by decide)
  · refine Go.via (fun t_ k_ => XS.ifNo H1.here hx rfl (hb hby d5_6) rfl ((own_nlt hc6).1) k_) ?_
    show Go _ _ _ _ (T1.setTop (mkF m 9 #[.val (.ref a), .val (.long p1), .second, .unset] []))
    refine Go.via (fun t_ k_ => XS.aloadN H1.here hx rfl (hb hby d5_9) rfl rfl k_) ?_
    show Go _ _ _ _ (T1.setTop (mkF m 10 #[.val (.ref a), .val (.long p1), .second, .unset] [(.ref a)]))
    refine own_getF H1 hx hZ hown (hw _ (List.mem_of_getElem? (i := 20) rfl)) Fu (g := (mkF m 10 #[.val (.ref a), .val (.long p1), .second, .unset] [(.ref a)])) rfl rfl (hb hby d5_10) ?_
    intro T3 H3
    show Go _ _ _ _ (T3.setTop (mkF m 13 #[.val (.ref a), .val (.long p1), .second, .unset] [(.long y)]))
    refine own_ldcL H3 hx hZ hown (hw _ (List.mem_of_getElem? (i := 17) rfl)) (g := (mkF m 13 #[.val (.ref a), .val (.long p1), .second, .unset] [(.long y)])) rfl (hb hby d5_13) ?_
    show Go _ _ _ _ (T3.setTop (mkF m 16 #[.val (.ref a), .val (.long p1), .second, .unset] [(.long (4294967295 : Int64)), (.long y)]))
    refine Go.via (fun t_ k_ => XS.lcmp H3.here hx rfl (hb hby d5_16) rfl k_) ?_
    show Go _ _ _ _ (T3.setTop (mkF m 17 #[.val (.ref a), .val (.long p1), .second, .unset] [(.int (lcmpW y (4294967295 : Int64)))]))
    by_cases hc17 : y = (4294967295 : Int64)
    · refine Go.via (fun t_ k_ => XS.ifNo H3.here hx rfl (hb hby d5_17) rfl ((own_leq hc17).2) k_) ?_
      show Go _ _ _ _ (T3.setTop (mkF m 20 #[.val (.ref a), .val (.long p1), .second, .unset] []))
      refine Go.via (fun t_ k_ => XS.lloadN H3.here hx rfl (hb hby d5_20) rfl k_) ?_
      show Go _ _ _ _ (T3.setTop (mkF m 21 #[.val (.ref a), .val (.long p1), .second, .unset] [(.long p1)]))
      refine own_ldcL H3 hx hZ hown (hw _ (List.mem_of_getElem? (i := 17) rfl)) (g := (mkF m 21 #[.val (.ref a), .val (.long p1), .second, .unset] [(.long p1)])) rfl (hb hby d5_21) ?_
      show Go _ _ _ _ (T3.setTop (mkF m 24 #[.val (.ref a), .val (.long p1), .second, .unset] [(.long (4294967295 : Int64)), (.long p1)]))
      refine Go.via (fun t_ k_ => XS.lcmp H3.here hx rfl (hb hby d5_24) rfl k_) ?_
      show Go _ _ _ _ (T3.setTop (mkF m 25 #[.val (.ref a), .val (.long p1), .second, .unset] [(.int (lcmpW p1 (4294967295 : Int64)))]))
      by_cases hc25 : p1 = (4294967295 : Int64)
      · refine Go.via (fun t_ k_ => XS.ifNo H3.here hx rfl (hb hby d5_25) rfl ((own_leq hc25).2) k_) ?_
        show Go _ _ _ _ (T3.setTop (mkF m 28 #[.val (.ref a), .val (.long p1), .second, .unset] []))
        refine Go.via (fun t_ k_ => XS.iconst H3.here hx rfl (hb hby d5_28) k_) ?_
        show Go _ _ _ _ (T3.setTop (mkF m 29 #[.val (.ref a), .val (.long p1), .second, .unset] [(.int (1 : Int32))]))
        refine Go.via (fun t_ k_ => XS.goto H3.here hx rfl (pc0 := 29) (pc' := 33) rfl (hb hby d5_29) (by decide) (by decide) k_) ?_
        show Go _ _ _ _ (T3.setTop (mkF m 33 #[.val (.ref a), .val (.long p1), .second, .unset] [(.int (1 : Int32))]))
        refine Go.via (fun t_ k_ => XS.istoreN H3.here hx rfl (hb hby d5_33) rfl (l' := #[.val (.ref a), .val (.long p1), .second, .val (.int (1 : Int32))]) rfl k_) ?_
        show Go _ _ _ _ (T3.setTop (mkF m 34 #[.val (.ref a), .val (.long p1), .second, .val (.int (1 : Int32))] []))
        refine Go.via (fun t_ k_ => XS.lloadN H3.here hx rfl (hb hby d5_34) rfl k_) ?_
        show Go _ _ _ _ (T3.setTop (mkF m 35 #[.val (.ref a), .val (.long p1), .second, .val (.int (1 : Int32))] [(.long p1)]))
        refine Go.via (fun t_ k_ => XS.aloadN H3.here hx rfl (hb hby d5_35) rfl rfl k_) ?_
        show Go _ _ _ _ (T3.setTop (mkF m 36 #[.val (.ref a), .val (.long p1), .second, .val (.int (1 : Int32))] [(.ref a), (.long p1)]))
        refine own_getF H3 hx hZ hown (hw _ (List.mem_of_getElem? (i := 18) rfl)) Fl (g := (mkF m 36 #[.val (.ref a), .val (.long p1), .second, .val (.int (1 : Int32))] [(.ref a), (.long p1)])) rfl rfl (hb hby d5_36) ?_
        intro T4 H4
        show Go _ _ _ _ (T4.setTop (mkF m 39 #[.val (.ref a), .val (.long p1), .second, .val (.int (1 : Int32))] [(.long x), (.long p1)]))
        refine Go.via (fun t_ k_ => XS.lcmp H4.here hx rfl (hb hby d5_39) rfl k_) ?_
        show Go _ _ _ _ (T4.setTop (mkF m 40 #[.val (.ref a), .val (.long p1), .second, .val (.int (1 : Int32))] [(.int (lcmpW p1 x))]))
        by_cases hc40 : p1 < x
        · refine Go.via (fun t_ k_ => XS.ifYes H4.here hx rfl (pc0 := 40) (pc' := 51) rfl (hb hby d5_40) rfl ((own_llt hc40).1) (by decide) (by decide) k_) ?_
          show Go _ _ _ _ (T4.setTop (mkF m 51 #[.val (.ref a), .val (.long p1), .second, .val (.int (1 : Int32))] []))
          refine Go.via (fun t_ k_ => XS.iconst H4.here hx rfl (hb hby d5_51) k_) ?_
          show Go _ _ _ _ (T4.setTop (mkF m 52 #[.val (.ref a), .val (.long p1), .second, .val (.int (1 : Int32))] [(.int (0 : Int32))]))
          exact own_retN H4 hx hlk (by simp) hret (hb hby d5_52) ⟨by simp [cont, nar0, nar1, eq_false hc6, eq_true hc17, eq_true hc25, eq_true hc40], rfl⟩ (by decide) (by decide)
        · refine Go.via (fun t_ k_ => XS.ifNo H4.here hx rfl (hb hby d5_40) rfl ((own_nlt hc40).1) k_) ?_
          show Go _ _ _ _ (T4.setTop (mkF m 43 #[.val (.ref a), .val (.long p1), .second, .val (.int (1 : Int32))] []))
          refine Go.via (fun t_ k_ => XS.iloadN H4.here hx rfl (hb hby d5_43) rfl k_) ?_
          show Go _ _ _ _ (T4.setTop (mkF m 44 #[.val (.ref a), .val (.long p1), .second, .val (.int (1 : Int32))] [(.int (1 : Int32))]))
          refine Go.via (fun t_ k_ => XS.ifNo H4.here hx rfl (hb hby d5_44) rfl ((if0 _ _).trans (feq (show ¬ ((1 : Int32) = (0 : Int32)) from (by decide))).1) k_) ?_
          show Go _ _ _ _ (T4.setTop (mkF m 47 #[.val (.ref a), .val (.long p1), .second, .val (.int (1 : Int32))] []))
          refine Go.via (fun t_ k_ => XS.iconst H4.here hx rfl (hb hby d5_47) k_) ?_
          show Go _ _ _ _ (T4.setTop (mkF m 48 #[.val (.ref a), .val (.long p1), .second, .val (.int (1 : Int32))] [(.int (1 : Int32))]))
          refine Go.via (fun t_ k_ => XS.goto H4.here hx rfl (pc0 := 48) (pc' := 52) rfl (hb hby d5_48) (by decide) (by decide) k_) ?_
          show Go _ _ _ _ (T4.setTop (mkF m 52 #[.val (.ref a), .val (.long p1), .second, .val (.int (1 : Int32))] [(.int (1 : Int32))]))
          exact own_retN H4 hx hlk (by simp) hret (hb hby d5_52) ⟨by simp [cont, nar0, nar1, eq_false hc6, eq_true hc17, eq_true hc25, eq_false hc40], rfl⟩ (by decide) (by decide)
      · refine Go.via (fun t_ k_ => XS.ifYes H3.here hx rfl (pc0 := 25) (pc' := 32) rfl (hb hby d5_25) rfl ((own_neq hc25).2) (by decide) (by decide) k_) ?_
        show Go _ _ _ _ (T3.setTop (mkF m 32 #[.val (.ref a), .val (.long p1), .second, .unset] []))
        refine Go.via (fun t_ k_ => XS.iconst H3.here hx rfl (hb hby d5_32) k_) ?_
        show Go _ _ _ _ (T3.setTop (mkF m 33 #[.val (.ref a), .val (.long p1), .second, .unset] [(.int (0 : Int32))]))
        refine Go.via (fun t_ k_ => XS.istoreN H3.here hx rfl (hb hby d5_33) rfl (l' := #[.val (.ref a), .val (.long p1), .second, .val (.int (0 : Int32))]) rfl k_) ?_
        show Go _ _ _ _ (T3.setTop (mkF m 34 #[.val (.ref a), .val (.long p1), .second, .val (.int (0 : Int32))] []))
        refine Go.via (fun t_ k_ => XS.lloadN H3.here hx rfl (hb hby d5_34) rfl k_) ?_
        show Go _ _ _ _ (T3.setTop (mkF m 35 #[.val (.ref a), .val (.long p1), .second, .val (.int (0 : Int32))] [(.long p1)]))
        refine Go.via (fun t_ k_ => XS.aloadN H3.here hx rfl (hb hby d5_35) rfl rfl k_) ?_
        show Go _ _ _ _ (T3.setTop (mkF m 36 #[.val (.ref a), .val (.long p1), .second, .val (.int (0 : Int32))] [(.ref a), (.long p1)]))
        refine own_getF H3 hx hZ hown (hw _ (List.mem_of_getElem? (i := 18) rfl)) Fl (g := (mkF m 36 #[.val (.ref a), .val (.long p1), .second, .val (.int (0 : Int32))] [(.ref a), (.long p1)])) rfl rfl (hb hby d5_36) ?_
        intro T5 H5
        show Go _ _ _ _ (T5.setTop (mkF m 39 #[.val (.ref a), .val (.long p1), .second, .val (.int (0 : Int32))] [(.long x), (.long p1)]))
        refine Go.via (fun t_ k_ => XS.lcmp H5.here hx rfl (hb hby d5_39) rfl k_) ?_
        show Go _ _ _ _ (T5.setTop (mkF m 40 #[.val (.ref a), .val (.long p1), .second, .val (.int (0 : Int32))] [(.int (lcmpW p1 x))]))
        by_cases hc40 : p1 < x
        · refine Go.via (fun t_ k_ => XS.ifYes H5.here hx rfl (pc0 := 40) (pc' := 51) rfl (hb hby d5_40) rfl ((own_llt hc40).1) (by decide) (by decide) k_) ?_
          show Go _ _ _ _ (T5.setTop (mkF m 51 #[.val (.ref a), .val (.long p1), .second, .val (.int (0 : Int32))] []))
          refine Go.via (fun t_ k_ => XS.iconst H5.here hx rfl (hb hby d5_51) k_) ?_
          show Go _ _ _ _ (T5.setTop (mkF m 52 #[.val (.ref a), .val (.long p1), .second, .val (.int (0 : Int32))] [(.int (0 : Int32))]))
          exact own_retN H5 hx hlk (by simp) hret (hb hby d5_52) ⟨by simp [cont, nar0, nar1, eq_false hc6, eq_true hc17, eq_false hc25, eq_true hc40], rfl⟩ (by decide) (by decide)
        · refine Go.via (fun t_ k_ => XS.ifNo H5.here hx rfl (hb hby d5_40) rfl ((own_nlt hc40).1) k_) ?_
          show Go _ _ _ _ (T5.setTop (mkF m 43 #[.val (.ref a), .val (.long p1), .second, .val (.int (0 : Int32))] []))
          refine Go.via (fun t_ k_ => XS.iloadN H5.here hx rfl (hb hby d5_43) rfl k_) ?_
          show Go _ _ _ _ (T5.setTop (mkF m 44 #[.val (.ref a), .val (.long p1), .second, .val (.int (0 : Int32))] [(.int (0 : Int32))]))
          refine Go.via (fun t_ k_ => XS.ifYes H5.here hx rfl (pc0 := 44) (pc' := 51) rfl (hb hby d5_44) rfl ((if0 _ _).trans (teq (show (0 : Int32) = (0 : Int32) from (by decide))).1) (by decide) (by decide) k_) ?_
          show Go _ _ _ _ (T5.setTop (mkF m 51 #[.val (.ref a), .val (.long p1), .second, .val (.int (0 : Int32))] []))
          refine Go.via (fun t_ k_ => XS.iconst H5.here hx rfl (hb hby d5_51) k_) ?_
          show Go _ _ _ _ (T5.setTop (mkF m 52 #[.val (.ref a), .val (.long p1), .second, .val (.int (0 : Int32))] [(.int (0 : Int32))]))
          exact own_retN H5 hx hlk (by simp) hret (hb hby d5_52) ⟨by simp [cont, nar0, nar1, eq_false hc6, eq_true hc17, eq_false hc25, eq_false hc40], rfl⟩ (by decide) (by decide)
    · refine Go.via (fun t_ k_ => XS.ifYes H3.here hx rfl (pc0 := 17) (pc' := 32) rfl (hb hby d5_17) rfl ((own_neq hc17).2) (by decide) (by decide) k_) ?_
      show Go _ _ _ _ (T3.setTop (mkF m 32 #[.val (.ref a), .val (.long p1), .second, .unset] []))
      refine Go.via (fun t_ k_ => XS.iconst H3.here hx rfl (hb hby d5_32) k_) ?_
      show Go _ _ _ _ (T3.setTop (mkF m 33 #[.val (.ref a), .val (.long p1), .second, .unset] [(.int (0 : Int32))]))
      refine Go.via (fun t_ k_ => XS.istoreN H3.here hx rfl (hb hby d5_33) rfl (l' := #[.val (.ref a), .val (.long p1), .second, .val (.int (0 : Int32))]) rfl k_) ?_
      show Go _ _ _ _ (T3.setTop (mkF m 34 #[.val (.ref a), .val (.long p1), .second, .val (.int (0 : Int32))] []))
      refine Go.via (fun t_ k_ => XS.lloadN H3.here hx rfl (hb hby d5_34) rfl k_) ?_
      show Go _ _ _ _ (T3.setTop (mkF m 35 #[.val (.ref a), .val (.long p1), .second, .val (.int (0 : Int32))] [(.long p1)]))
      refine Go.via (fun t_ k_ => XS.aloadN H3.here hx rfl (hb hby d5_35) rfl rfl k_) ?_
      show Go _ _ _ _ (T3.setTop (mkF m 36 #[.val (.ref a), .val (.long p1), .second, .val (.int (0 : Int32))] [(.ref a), (.long p1)]))
      refine own_getF H3 hx hZ hown (hw _ (List.mem_of_getElem? (i := 18) rfl)) Fl (g := (mkF m 36 #[.val (.ref a), .val (.long p1), .second, .val (.int (0 : Int32))] [(.ref a), (.long p1)])) rfl rfl (hb hby d5_36) ?_
      intro T6 H6
      show Go _ _ _ _ (T6.setTop (mkF m 39 #[.val (.ref a), .val (.long p1), .second, .val (.int (0 : Int32))] [(.long x), (.long p1)]))
      refine Go.via (fun t_ k_ => XS.lcmp H6.here hx rfl (hb hby d5_39) rfl k_) ?_
      show Go _ _ _ _ (T6.setTop (mkF m 40 #[.val (.ref a), .val (.long p1), .second, .val (.int (0 : Int32))] [(.int (lcmpW p1 x))]))
      by_cases hc40 : p1 < x
      · refine Go.via (fun t_ k_ => XS.ifYes H6.here hx rfl (pc0 := 40) (pc' := 51) rfl (hb hby d5_40) rfl ((own_llt hc40).1) (by decide) (by decide) k_) ?_
        show Go _ _ _ _ (T6.setTop (mkF m 51 #[.val (.ref a), .val (.long p1), .second, .val (.int (0 : Int32))] []))
        refine Go.via (fun t_ k_ => XS.iconst H6.here hx rfl (hb hby d5_51) k_) ?_
        show Go _ _ _ _ (T6.setTop (mkF m 52 #[.val (.ref a), .val (.long p1), .second, .val (.int (0 : Int32))] [(.int (0 : Int32))]))
        exact own_retN H6 hx hlk (by simp) hret (hb hby d5_52) ⟨by simp [cont, nar0, nar1, eq_false hc6, eq_false hc17, eq_true hc40], rfl⟩ (by decide) (by decide)
      · refine Go.via (fun t_ k_ => XS.ifNo H6.here hx rfl (hb hby d5_40) rfl ((own_nlt hc40).1) k_) ?_
        show Go _ _ _ _ (T6.setTop (mkF m 43 #[.val (.ref a), .val (.long p1), .second, .val (.int (0 : Int32))] []))
        refine Go.via (fun t_ k_ => XS.iloadN H6.here hx rfl (hb hby d5_43) rfl k_) ?_
        show Go _ _ _ _ (T6.setTop (mkF m 44 #[.val (.ref a), .val (.long p1), .second, .val (.int (0 : Int32))] [(.int (0 : Int32))]))
        refine Go.via (fun t_ k_ => XS.ifYes H6.here hx rfl (pc0 := 44) (pc' := 51) rfl (hb hby d5_44) rfl ((if0 _ _).trans (teq (show (0 : Int32) = (0 : Int32) from (by decide))).1) (by decide) (by decide) k_) ?_
        show Go _ _ _ _ (T6.setTop (mkF m 51 #[.val (.ref a), .val (.long p1), .second, .val (.int (0 : Int32))] []))
        refine Go.via (fun t_ k_ => XS.iconst H6.here hx rfl (hb hby d5_51) k_) ?_
        show Go _ _ _ _ (T6.setTop (mkF m 52 #[.val (.ref a), .val (.long p1), .second, .val (.int (0 : Int32))] [(.int (0 : Int32))]))
        exact own_retN H6 hx hlk (by simp) hret (hb hby d5_52) ⟨by simp [cont, nar0, nar1, eq_false hc6, eq_false hc17, eq_false hc40], rfl⟩ (by decide) (by decide)
theorem pd_0 : parseMethodDescriptor "(JJ)V" = some ⟨[.long, .long], none⟩ := by decide +kernel
theorem pd_1 : parseMethodDescriptor "(J)Z" = some ⟨[.long], some .boolean⟩ := by decide +kernel
theorem ef_rm0 (m : MethodId) (x0 : Int64) (x1 : Int64) (x2 : Int64) (x3 : Int32) : entryFrame m #[(.long x0), (.long x1), (.long x2), (.int x3)] maxLocals = mkF m 0 #[.val (.long x0), .second, .val (.long x1), .second, .val (.long x2), .second, .val (.int x3), .unset, .unset, .unset, .unset, .unset, .unset, .unset, .unset, .unset, .unset, .unset, .unset, .unset, .unset, .unset, .unset, .unset, .unset, .unset] [] := by first | (simp [entryFrame, mkF, argsToLocals, Value.category, maxLocals]; done) | rfl
theorem pd_2 : parseMethodDescriptor "(JJ)J" = some ⟨[.long, .long], some .long⟩ := by decide +kernel
set_option maxRecDepth 65536 in
set_option maxHeartbeats 40000000 in
theorem rm0 (l : Launch) (Z : State) (a0 : Array Value) (hw : ∀ d ∈ tables_1, d.before a0 Z = true) (p1 p2 p3 : Int64) (p4 : Int32) (h0 : Heap) (n0 : Nat) (Z0 : n0 ≤ h0.size) :
    CM l Z x code maxLocals ret room_1 #[(.long p1), (.long p2), (.long p3), (.int p4)] h0 n0 (fun v h => v = some (.int (1 : Int32))) := by
  refine own_enter (by decide +kernel) ?_
  intro p e s m below meth c T0 hx hby hml hown hnm hZ hret hlk H0
  replace hown : s.vm.findClass "com/example/tidy_balancer/tidybalancer/model/BundleRangeContainsPinLaw" = some m.cls := hown
  replace hret : meth.sig.returnType = some .boolean := hret
  replace hml : c.maxLocals = 26 := hml
  refine Go.via (fun t_ k_ => castTop (ef_rm0 m p1 p2 p3 p4) k_) ?_
  have J202 : ∀ (Tj : State) (x y q : Int64) (f md : Int32), Here p l e room_1 s m #[(.long p1), (.long p2), (.long p3), (.int p4)] below meth c n0 Tj h0 0 0 → (¬ x < 0) → (x < y) → (¬ (4294967295 : Int64) < y) → Go p e below (Fini below s n0 (fun v h => v = some (.int (1 : Int32))) room_1.cells room_1.slots) (Tj.setTop (mkF m 202 #[.val (.long p1), .second, .val (.long p2), .second, .val (.long p3), .second, .val (.int p4), .val (.long (4294967295 : Int64)), .second, .val (.long (p1 &&& (4294967295 : Int64))), .second, .val (.long (p2 &&& (4294967295 : Int64))), .second, .val (.long x), .second, .val (.long y), .second, .val (.int f), .val (.int md), .val (.long q), .second, .unset, .unset, .unset, .unset, .unset] [])) := by
    intro Tj x y q f md Hj q1 q2 q3
    show Go _ _ _ _ (Tj.setTop (mkF m 202 #[.val (.long p1), .second, .val (.long p2), .second, .val (.long p3), .second, .val (.int p4), .val (.long (4294967295 : Int64)), .second, .val (.long (p1 &&& (4294967295 : Int64))), .second, .val (.long (p2 &&& (4294967295 : Int64))), .second, .val (.long x), .second, .val (.long y), .second, .val (.int f), .val (.int md), .val (.long q), .second, .unset, .unset, .unset, .unset, .unset] []))
    refine own_newO Hj hx hZ hown (hw _ (List.mem_of_getElem? (i := 8) rfl)) (hw _ (List.mem_of_getElem? (i := 9) rfl)) (hw _ (List.mem_of_getElem? (i := 10) rfl)) (g := (mkF m 202 #[.val (.long p1), .second, .val (.long p2), .second, .val (.long p3), .second, .val (.int p4), .val (.long (4294967295 : Int64)), .second, .val (.long (p1 &&& (4294967295 : Int64))), .second, .val (.long (p2 &&& (4294967295 : Int64))), .second, .val (.long x), .second, .val (.long y), .second, .val (.int f), .val (.int md), .val (.long q), .second, .unset, .unset, .unset, .unset, .unset] [])) rfl (hb hby at_202) (by decide) (by decide) ?_
    intro T1 h1 a1 ga1 E1 A1 D1 H1
    have g_a1 : n0 ≤ a1 := by rw [ga1]; exact Z0
    have sz1 : n0 ≤ h1.size := Nat.le_trans Z0 E1.1
    have F1_lower : Fld Z h1 a1 "com/example/tidy_balancer/tidybalancer/model/BundleRange" "lower" "J" (.long (0 : Int64)) := D1 (Or.inr (hw _ (List.mem_of_getElem? (i := 19) rfl))) (ty := .long) (by decide)
    have F1_upper : Fld Z h1 a1 "com/example/tidy_balancer/tidybalancer/model/BundleRange" "upper" "J" (.long (0 : Int64)) := D1 (Or.inr (hw _ (List.mem_of_getElem? (i := 21) rfl))) (ty := .long) (by decide)
    show Go _ _ _ _ (T1.setTop (mkF m 205 #[.val (.long p1), .second, .val (.long p2), .second, .val (.long p3), .second, .val (.int p4), .val (.long (4294967295 : Int64)), .second, .val (.long (p1 &&& (4294967295 : Int64))), .second, .val (.long (p2 &&& (4294967295 : Int64))), .second, .val (.long x), .second, .val (.long y), .second, .val (.int f), .val (.int md), .val (.long q), .second, .unset, .unset, .unset, .unset, .unset] [(.ref a1)]))
    refine Go.via (fun t_ k_ => XS.dup H1.here hx rfl (hb hby at_205) rfl rfl k_) ?_
    show Go _ _ _ _ (T1.setTop (mkF m 206 #[.val (.long p1), .second, .val (.long p2), .second, .val (.long p3), .second, .val (.int p4), .val (.long (4294967295 : Int64)), .second, .val (.long (p1 &&& (4294967295 : Int64))), .second, .val (.long (p2 &&& (4294967295 : Int64))), .second, .val (.long x), .second, .val (.long y), .second, .val (.int f), .val (.int md), .val (.long q), .second, .unset, .unset, .unset, .unset, .unset] [(.ref a1), (.ref a1)]))
    refine Go.via (fun t_ k_ => XS.lload H1.here hx rfl (hb hby at_206) rfl k_) ?_
    show Go _ _ _ _ (T1.setTop (mkF m 208 #[.val (.long p1), .second, .val (.long p2), .second, .val (.long p3), .second, .val (.int p4), .val (.long (4294967295 : Int64)), .second, .val (.long (p1 &&& (4294967295 : Int64))), .second, .val (.long (p2 &&& (4294967295 : Int64))), .second, .val (.long x), .second, .val (.long y), .second, .val (.int f), .val (.int md), .val (.long q), .second, .unset, .unset, .unset, .unset, .unset] [(.long x), (.ref a1), (.ref a1)]))
    refine Go.via (fun t_ k_ => XS.lload H1.here hx rfl (hb hby at_208) rfl k_) ?_
    show Go _ _ _ _ (T1.setTop (mkF m 210 #[.val (.long p1), .second, .val (.long p2), .second, .val (.long p3), .second, .val (.int p4), .val (.long (4294967295 : Int64)), .second, .val (.long (p1 &&& (4294967295 : Int64))), .second, .val (.long (p2 &&& (4294967295 : Int64))), .second, .val (.long x), .second, .val (.long y), .second, .val (.int f), .val (.int md), .val (.long q), .second, .unset, .unset, .unset, .unset, .unset] [(.long y), (.long x), (.ref a1), (.ref a1)]))
    refine own_callI H1 hx hZ (y := (⟨"com/example/tidy_balancer/tidybalancer/model/BundleRange", "<init>", "(JJ)V"⟩ : MethodName)) (a := a1) rfl hown (hw _ (List.mem_of_getElem? (i := 11) rfl)) (hw _ (List.mem_of_getElem? (i := 12) rfl)) (hw _ (List.mem_of_getElem? (i := 10) rfl)) (hw _ (List.mem_of_getElem? (i := 13) rfl)) (by decide) (rm3 l Z a0 hw a1 x y h1 n0 F1_lower F1_upper A1 g_a1 q1 q2 q3) (g := (mkF m 210 #[.val (.long p1), .second, .val (.long p2), .second, .val (.long p3), .second, .val (.int p4), .val (.long (4294967295 : Int64)), .second, .val (.long (p1 &&& (4294967295 : Int64))), .second, .val (.long (p2 &&& (4294967295 : Int64))), .second, .val (.long x), .second, .val (.long y), .second, .val (.int f), .val (.int md), .val (.long q), .second, .unset, .unset, .unset, .unset, .unset] [(.long y), (.long x), (.ref a1), (.ref a1)])) rfl (by rw [hml]; rfl) (argsL := [(.long x), (.long y)]) (rest := [(.ref a1)]) (lenOf pd_0 rfl) rfl 1 (Nat.le_of_eq rfl) (hb hby at_210) (by decide) (by decide) (by decide) (by decide) ?_
    rintro _ T2 h2 ⟨rfl, E2, Fl2, Fu2⟩ H2
    show Go _ _ _ _ (T2.setTop (mkF m 213 #[.val (.long p1), .second, .val (.long p2), .second, .val (.long p3), .second, .val (.int p4), .val (.long (4294967295 : Int64)), .second, .val (.long (p1 &&& (4294967295 : Int64))), .second, .val (.long (p2 &&& (4294967295 : Int64))), .second, .val (.long x), .second, .val (.long y), .second, .val (.int f), .val (.int md), .val (.long q), .second, .unset, .unset, .unset, .unset, .unset] [(.ref a1)]))
    refine Go.via (fun t_ k_ => XS.astore H2.here hx rfl (hb hby at_213) rfl rfl (l' := #[.val (.long p1), .second, .val (.long p2), .second, .val (.long p3), .second, .val (.int p4), .val (.long (4294967295 : Int64)), .second, .val (.long (p1 &&& (4294967295 : Int64))), .second, .val (.long (p2 &&& (4294967295 : Int64))), .second, .val (.long x), .second, .val (.long y), .second, .val (.int f), .val (.int md), .val (.long q), .second, .val (.ref a1), .unset, .unset, .unset, .unset]) rfl k_) ?_
    show Go _ _ _ _ (T2.setTop (mkF m 215 #[.val (.long p1), .second, .val (.long p2), .second, .val (.long p3), .second, .val (.int p4), .val (.long (4294967295 : Int64)), .second, .val (.long (p1 &&& (4294967295 : Int64))), .second, .val (.long (p2 &&& (4294967295 : Int64))), .second, .val (.long x), .second, .val (.long y), .second, .val (.int f), .val (.int md), .val (.long q), .second, .val (.ref a1), .unset, .unset, .unset, .unset] []))
    refine Go.via (fun t_ k_ => XS.aload H2.here hx rfl (hb hby at_215) rfl rfl k_) ?_
    show Go _ _ _ _ (T2.setTop (mkF m 217 #[.val (.long p1), .second, .val (.long p2), .second, .val (.long p3), .second, .val (.int p4), .val (.long (4294967295 : Int64)), .second, .val (.long (p1 &&& (4294967295 : Int64))), .second, .val (.long (p2 &&& (4294967295 : Int64))), .second, .val (.long x), .second, .val (.long y), .second, .val (.int f), .val (.int md), .val (.long q), .second, .val (.ref a1), .unset, .unset, .unset, .unset] [(.ref a1)]))
    refine Go.via (fun t_ k_ => XS.lload H2.here hx rfl (hb hby at_217) rfl k_) ?_
    show Go _ _ _ _ (T2.setTop (mkF m 219 #[.val (.long p1), .second, .val (.long p2), .second, .val (.long p3), .second, .val (.int p4), .val (.long (4294967295 : Int64)), .second, .val (.long (p1 &&& (4294967295 : Int64))), .second, .val (.long (p2 &&& (4294967295 : Int64))), .second, .val (.long x), .second, .val (.long y), .second, .val (.int f), .val (.int md), .val (.long q), .second, .val (.ref a1), .unset, .unset, .unset, .unset] [(.long q), (.ref a1)]))
    refine own_callV H2 hx hZ (C := "com/example/tidy_balancer/tidybalancer/model/BundleRange") (y := (⟨"com/example/tidy_balancer/tidybalancer/model/BundleRange", "contains", "(J)Z"⟩ : MethodName)) (a := a1) hown (hw _ (List.mem_of_getElem? (i := 22) rfl)) (hw _ (List.mem_of_getElem? (i := 23) rfl)) (hw _ (List.mem_of_getElem? (i := 25) rfl)) (hw _ (List.mem_of_getElem? (i := 24) rfl)) (hw _ (List.mem_of_getElem? (i := 10) rfl)) (hw _ (List.mem_of_getElem? (i := 26) rfl)) (by decide) E2 (rm5 l Z a0 hw a1 q x y h2 n0 Fl2 Fu2) (g := (mkF m 219 #[.val (.long p1), .second, .val (.long p2), .second, .val (.long p3), .second, .val (.int p4), .val (.long (4294967295 : Int64)), .second, .val (.long (p1 &&& (4294967295 : Int64))), .second, .val (.long (p2 &&& (4294967295 : Int64))), .second, .val (.long x), .second, .val (.long y), .second, .val (.int f), .val (.int md), .val (.long q), .second, .val (.ref a1), .unset, .unset, .unset, .unset] [(.long q), (.ref a1)])) rfl (by rw [hml]; rfl) (argsL := [(.long q)]) (rest := []) (lenOf pd_1 rfl) rfl 0 (Nat.le_of_eq rfl) (hb hby at_219) (by decide) (by decide) (by decide) (by decide) ?_
    rintro _ T3 _ ⟨rfl, rfl⟩ H3
    show Go _ _ _ _ (T3.setTop (mkF m 222 #[.val (.long p1), .second, .val (.long p2), .second, .val (.long p3), .second, .val (.int p4), .val (.long (4294967295 : Int64)), .second, .val (.long (p1 &&& (4294967295 : Int64))), .second, .val (.long (p2 &&& (4294967295 : Int64))), .second, .val (.long x), .second, .val (.long y), .second, .val (.int f), .val (.int md), .val (.long q), .second, .val (.ref a1), .unset, .unset, .unset, .unset] [(.int (cont x y q))]))
    refine Go.via (fun t_ k_ => XS.istore H3.here hx rfl (hb hby at_222) rfl (l' := #[.val (.long p1), .second, .val (.long p2), .second, .val (.long p3), .second, .val (.int p4), .val (.long (4294967295 : Int64)), .second, .val (.long (p1 &&& (4294967295 : Int64))), .second, .val (.long (p2 &&& (4294967295 : Int64))), .second, .val (.long x), .second, .val (.long y), .second, .val (.int f), .val (.int md), .val (.long q), .second, .val (.ref a1), .val (.int (cont x y q)), .unset, .unset, .unset]) rfl k_) ?_
    show Go _ _ _ _ (T3.setTop (mkF m 224 #[.val (.long p1), .second, .val (.long p2), .second, .val (.long p3), .second, .val (.int p4), .val (.long (4294967295 : Int64)), .second, .val (.long (p1 &&& (4294967295 : Int64))), .second, .val (.long (p2 &&& (4294967295 : Int64))), .second, .val (.long x), .second, .val (.long y), .second, .val (.int f), .val (.int md), .val (.long q), .second, .val (.ref a1), .val (.int (cont x y q)), .unset, .unset, .unset] []))
    refine Go.via (fun t_ k_ => XS.lload H3.here hx rfl (hb hby at_224) rfl k_) ?_
    show Go _ _ _ _ (T3.setTop (mkF m 226 #[.val (.long p1), .second, .val (.long p2), .second, .val (.long p3), .second, .val (.int p4), .val (.long (4294967295 : Int64)), .second, .val (.long (p1 &&& (4294967295 : Int64))), .second, .val (.long (p2 &&& (4294967295 : Int64))), .second, .val (.long x), .second, .val (.long y), .second, .val (.int f), .val (.int md), .val (.long q), .second, .val (.ref a1), .val (.int (cont x y q)), .unset, .unset, .unset] [(.long y)]))
    refine Go.via (fun t_ k_ => XS.lload H3.here hx rfl (hb hby at_226) rfl k_) ?_
    show Go _ _ _ _ (T3.setTop (mkF m 228 #[.val (.long p1), .second, .val (.long p2), .second, .val (.long p3), .second, .val (.int p4), .val (.long (4294967295 : Int64)), .second, .val (.long (p1 &&& (4294967295 : Int64))), .second, .val (.long (p2 &&& (4294967295 : Int64))), .second, .val (.long x), .second, .val (.long y), .second, .val (.int f), .val (.int md), .val (.long q), .second, .val (.ref a1), .val (.int (cont x y q)), .unset, .unset, .unset] [(.long (4294967295 : Int64)), (.long y)]))
    refine Go.via (fun t_ k_ => XS.lcmp H3.here hx rfl (hb hby at_228) rfl k_) ?_
    show Go _ _ _ _ (T3.setTop (mkF m 229 #[.val (.long p1), .second, .val (.long p2), .second, .val (.long p3), .second, .val (.int p4), .val (.long (4294967295 : Int64)), .second, .val (.long (p1 &&& (4294967295 : Int64))), .second, .val (.long (p2 &&& (4294967295 : Int64))), .second, .val (.long x), .second, .val (.long y), .second, .val (.int f), .val (.int md), .val (.long q), .second, .val (.ref a1), .val (.int (cont x y q)), .unset, .unset, .unset] [(.int (lcmpW y (4294967295 : Int64)))]))
    by_cases hc229 : y = (4294967295 : Int64)
    · refine Go.via (fun t_ k_ => XS.ifNo H3.here hx rfl (hb hby at_229) rfl ((own_leq hc229).2) k_) ?_
      show Go _ _ _ _ (T3.setTop (mkF m 232 #[.val (.long p1), .second, .val (.long p2), .second, .val (.long p3), .second, .val (.int p4), .val (.long (4294967295 : Int64)), .second, .val (.long (p1 &&& (4294967295 : Int64))), .second, .val (.long (p2 &&& (4294967295 : Int64))), .second, .val (.long x), .second, .val (.long y), .second, .val (.int f), .val (.int md), .val (.long q), .second, .val (.ref a1), .val (.int (cont x y q)), .unset, .unset, .unset] []))
      refine Go.via (fun t_ k_ => XS.lload H3.here hx rfl (hb hby at_232) rfl k_) ?_
      show Go _ _ _ _ (T3.setTop (mkF m 234 #[.val (.long p1), .second, .val (.long p2), .second, .val (.long p3), .second, .val (.int p4), .val (.long (4294967295 : Int64)), .second, .val (.long (p1 &&& (4294967295 : Int64))), .second, .val (.long (p2 &&& (4294967295 : Int64))), .second, .val (.long x), .second, .val (.long y), .second, .val (.int f), .val (.int md), .val (.long q), .second, .val (.ref a1), .val (.int (cont x y q)), .unset, .unset, .unset] [(.long (4294967295 : Int64))]))
      refine Go.via (fun t_ k_ => XS.goto H3.here hx rfl (pc0 := 234) (pc' := 241) rfl (hb hby at_234) (by decide) (by decide) k_) ?_
      show Go _ _ _ _ (T3.setTop (mkF m 241 #[.val (.long p1), .second, .val (.long p2), .second, .val (.long p3), .second, .val (.int p4), .val (.long (4294967295 : Int64)), .second, .val (.long (p1 &&& (4294967295 : Int64))), .second, .val (.long (p2 &&& (4294967295 : Int64))), .second, .val (.long x), .second, .val (.long y), .second, .val (.int f), .val (.int md), .val (.long q), .second, .val (.ref a1), .val (.int (cont x y q)), .unset, .unset, .unset] [(.long (4294967295 : Int64))]))
      refine Go.via (fun t_ k_ => XS.lstore H3.here hx rfl (hb hby at_241) rfl (l' := #[.val (.long p1), .second, .val (.long p2), .second, .val (.long p3), .second, .val (.int p4), .val (.long (4294967295 : Int64)), .second, .val (.long (p1 &&& (4294967295 : Int64))), .second, .val (.long (p2 &&& (4294967295 : Int64))), .second, .val (.long x), .second, .val (.long y), .second, .val (.int f), .val (.int md), .val (.long q), .second, .val (.ref a1), .val (.int (cont x y q)), .val (.long (4294967295 : Int64)), .second, .unset]) rfl k_) ?_
      show Go _ _ _ _ (T3.setTop (mkF m 243 #[.val (.long p1), .second, .val (.long p2), .second, .val (.long p3), .second, .val (.int p4), .val (.long (4294967295 : Int64)), .second, .val (.long (p1 &&& (4294967295 : Int64))), .second, .val (.long (p2 &&& (4294967295 : Int64))), .second, .val (.long x), .second, .val (.long y), .second, .val (.int f), .val (.int md), .val (.long q), .second, .val (.ref a1), .val (.int (cont x y q)), .val (.long (4294967295 : Int64)), .second, .unset] []))
      refine Go.via (fun t_ k_ => XS.lload H3.here hx rfl (hb hby at_243) rfl k_) ?_
      show Go _ _ _ _ (T3.setTop (mkF m 245 #[.val (.long p1), .second, .val (.long p2), .second, .val (.long p3), .second, .val (.int p4), .val (.long (4294967295 : Int64)), .second, .val (.long (p1 &&& (4294967295 : Int64))), .second, .val (.long (p2 &&& (4294967295 : Int64))), .second, .val (.long x), .second, .val (.long y), .second, .val (.int f), .val (.int md), .val (.long q), .second, .val (.ref a1), .val (.int (cont x y q)), .val (.long (4294967295 : Int64)), .second, .unset] [(.long x)]))
      refine Go.via (fun t_ k_ => XS.lload H3.here hx rfl (hb hby at_245) rfl k_) ?_
      show Go _ _ _ _ (T3.setTop (mkF m 247 #[.val (.long p1), .second, .val (.long p2), .second, .val (.long p3), .second, .val (.int p4), .val (.long (4294967295 : Int64)), .second, .val (.long (p1 &&& (4294967295 : Int64))), .second, .val (.long (p2 &&& (4294967295 : Int64))), .second, .val (.long x), .second, .val (.long y), .second, .val (.int f), .val (.int md), .val (.long q), .second, .val (.ref a1), .val (.int (cont x y q)), .val (.long (4294967295 : Int64)), .second, .unset] [(.long q), (.long x)]))
      refine Go.via (fun t_ k_ => XS.lcmp H3.here hx rfl (hb hby at_247) rfl k_) ?_
      show Go _ _ _ _ (T3.setTop (mkF m 248 #[.val (.long p1), .second, .val (.long p2), .second, .val (.long p3), .second, .val (.int p4), .val (.long (4294967295 : Int64)), .second, .val (.long (p1 &&& (4294967295 : Int64))), .second, .val (.long (p2 &&& (4294967295 : Int64))), .second, .val (.long x), .second, .val (.long y), .second, .val (.int f), .val (.int md), .val (.long q), .second, .val (.ref a1), .val (.int (cont x y q)), .val (.long (4294967295 : Int64)), .second, .unset] [(.int (lcmpW x q))]))
      by_cases hc248 : q < x
      · refine Go.via (fun t_ k_ => XS.ifYes H3.here hx rfl (pc0 := 248) (pc' := 263) rfl (hb hby at_248) rfl ((own_lgt hc248).1) (by decide) (by decide) k_) ?_
        show Go _ _ _ _ (T3.setTop (mkF m 263 #[.val (.long p1), .second, .val (.long p2), .second, .val (.long p3), .second, .val (.int p4), .val (.long (4294967295 : Int64)), .second, .val (.long (p1 &&& (4294967295 : Int64))), .second, .val (.long (p2 &&& (4294967295 : Int64))), .second, .val (.long x), .second, .val (.long y), .second, .val (.int f), .val (.int md), .val (.long q), .second, .val (.ref a1), .val (.int (cont x y q)), .val (.long (4294967295 : Int64)), .second, .unset] []))
        refine Go.via (fun t_ k_ => XS.iconst H3.here hx rfl (hb hby at_263) k_) ?_
        show Go _ _ _ _ (T3.setTop (mkF m 264 #[.val (.long p1), .second, .val (.long p2), .second, .val (.long p3), .second, .val (.int p4), .val (.long (4294967295 : Int64)), .second, .val (.long (p1 &&& (4294967295 : Int64))), .second, .val (.long (p2 &&& (4294967295 : Int64))), .second, .val (.long x), .second, .val (.long y), .second, .val (.int f), .val (.int md), .val (.long q), .second, .val (.ref a1), .val (.int (cont x y q)), .val (.long (4294967295 : Int64)), .second, .unset] [(.int (0 : Int32))]))
        refine Go.via (fun t_ k_ => XS.istore H3.here hx rfl (hb hby at_264) rfl (l' := #[.val (.long p1), .second, .val (.long p2), .second, .val (.long p3), .second, .val (.int p4), .val (.long (4294967295 : Int64)), .second, .val (.long (p1 &&& (4294967295 : Int64))), .second, .val (.long (p2 &&& (4294967295 : Int64))), .second, .val (.long x), .second, .val (.long y), .second, .val (.int f), .val (.int md), .val (.long q), .second, .val (.ref a1), .val (.int (cont x y q)), .val (.long (4294967295 : Int64)), .second, .val (.int (0 : Int32))]) rfl k_) ?_
        show Go _ _ _ _ (T3.setTop (mkF m 266 #[.val (.long p1), .second, .val (.long p2), .second, .val (.long p3), .second, .val (.int p4), .val (.long (4294967295 : Int64)), .second, .val (.long (p1 &&& (4294967295 : Int64))), .second, .val (.long (p2 &&& (4294967295 : Int64))), .second, .val (.long x), .second, .val (.long y), .second, .val (.int f), .val (.int md), .val (.long q), .second, .val (.ref a1), .val (.int (cont x y q)), .val (.long (4294967295 : Int64)), .second, .val (.int (0 : Int32))] []))
        refine Go.via (fun t_ k_ => XS.iload H3.here hx rfl (hb hby at_266) rfl k_) ?_
        show Go _ _ _ _ (T3.setTop (mkF m 268 #[.val (.long p1), .second, .val (.long p2), .second, .val (.long p3), .second, .val (.int p4), .val (.long (4294967295 : Int64)), .second, .val (.long (p1 &&& (4294967295 : Int64))), .second, .val (.long (p2 &&& (4294967295 : Int64))), .second, .val (.long x), .second, .val (.long y), .second, .val (.int f), .val (.int md), .val (.long q), .second, .val (.ref a1), .val (.int (cont x y q)), .val (.long (4294967295 : Int64)), .second, .val (.int (0 : Int32))] [(.int (cont x y q))]))
        refine Go.via (fun t_ k_ => XS.iload H3.here hx rfl (hb hby at_268) rfl k_) ?_
        show Go _ _ _ _ (T3.setTop (mkF m 270 #[.val (.long p1), .second, .val (.long p2), .second, .val (.long p3), .second, .val (.int p4), .val (.long (4294967295 : Int64)), .second, .val (.long (p1 &&& (4294967295 : Int64))), .second, .val (.long (p2 &&& (4294967295 : Int64))), .second, .val (.long x), .second, .val (.long y), .second, .val (.int f), .val (.int md), .val (.long q), .second, .val (.ref a1), .val (.int (cont x y q)), .val (.long (4294967295 : Int64)), .second, .val (.int (0 : Int32))] [(.int (0 : Int32)), (.int (cont x y q))]))
        refine Go.via (fun t_ k_ => XS.icmpNo H3.here hx rfl (hb hby at_270) rfl ((teq (show (cont x y q) = (0 : Int32) from (by rw [own_cont x y q q1 q2 q3]; simp [eq_true hc229, eq_true hc248]))).2) k_) ?_
        show Go _ _ _ _ (T3.setTop (mkF m 273 #[.val (.long p1), .second, .val (.long p2), .second, .val (.long p3), .second, .val (.int p4), .val (.long (4294967295 : Int64)), .second, .val (.long (p1 &&& (4294967295 : Int64))), .second, .val (.long (p2 &&& (4294967295 : Int64))), .second, .val (.long x), .second, .val (.long y), .second, .val (.int f), .val (.int md), .val (.long q), .second, .val (.ref a1), .val (.int (cont x y q)), .val (.long (4294967295 : Int64)), .second, .val (.int (0 : Int32))] []))
        refine Go.via (fun t_ k_ => XS.iconst H3.here hx rfl (hb hby at_273) k_) ?_
        show Go _ _ _ _ (T3.setTop (mkF m 274 #[.val (.long p1), .second, .val (.long p2), .second, .val (.long p3), .second, .val (.int p4), .val (.long (4294967295 : Int64)), .second, .val (.long (p1 &&& (4294967295 : Int64))), .second, .val (.long (p2 &&& (4294967295 : Int64))), .second, .val (.long x), .second, .val (.long y), .second, .val (.int f), .val (.int md), .val (.long q), .second, .val (.ref a1), .val (.int (cont x y q)), .val (.long (4294967295 : Int64)), .second, .val (.int (0 : Int32))] [(.int (1 : Int32))]))
        refine Go.via (fun t_ k_ => XS.goto H3.here hx rfl (pc0 := 274) (pc' := 278) rfl (hb hby at_274) (by decide) (by decide) k_) ?_
        show Go _ _ _ _ (T3.setTop (mkF m 278 #[.val (.long p1), .second, .val (.long p2), .second, .val (.long p3), .second, .val (.int p4), .val (.long (4294967295 : Int64)), .second, .val (.long (p1 &&& (4294967295 : Int64))), .second, .val (.long (p2 &&& (4294967295 : Int64))), .second, .val (.long x), .second, .val (.long y), .second, .val (.int f), .val (.int md), .val (.long q), .second, .val (.ref a1), .val (.int (cont x y q)), .val (.long (4294967295 : Int64)), .second, .val (.int (0 : Int32))] [(.int (1 : Int32))]))
        exact own_retN H3 hx hlk (by simp) hret (hb hby at_278) rfl (by decide) (by decide)
      · refine Go.via (fun t_ k_ => XS.ifNo H3.here hx rfl (hb hby at_248) rfl ((own_ngt hc248).1) k_) ?_
        show Go _ _ _ _ (T3.setTop (mkF m 251 #[.val (.long p1), .second, .val (.long p2), .second, .val (.long p3), .second, .val (.int p4), .val (.long (4294967295 : Int64)), .second, .val (.long (p1 &&& (4294967295 : Int64))), .second, .val (.long (p2 &&& (4294967295 : Int64))), .second, .val (.long x), .second, .val (.long y), .second, .val (.int f), .val (.int md), .val (.long q), .second, .val (.ref a1), .val (.int (cont x y q)), .val (.long (4294967295 : Int64)), .second, .unset] []))
        refine Go.via (fun t_ k_ => XS.lload H3.here hx rfl (hb hby at_251) rfl k_) ?_
        show Go _ _ _ _ (T3.setTop (mkF m 253 #[.val (.long p1), .second, .val (.long p2), .second, .val (.long p3), .second, .val (.int p4), .val (.long (4294967295 : Int64)), .second, .val (.long (p1 &&& (4294967295 : Int64))), .second, .val (.long (p2 &&& (4294967295 : Int64))), .second, .val (.long x), .second, .val (.long y), .second, .val (.int f), .val (.int md), .val (.long q), .second, .val (.ref a1), .val (.int (cont x y q)), .val (.long (4294967295 : Int64)), .second, .unset] [(.long q)]))
        refine Go.via (fun t_ k_ => XS.lload H3.here hx rfl (hb hby at_253) rfl k_) ?_
        show Go _ _ _ _ (T3.setTop (mkF m 255 #[.val (.long p1), .second, .val (.long p2), .second, .val (.long p3), .second, .val (.int p4), .val (.long (4294967295 : Int64)), .second, .val (.long (p1 &&& (4294967295 : Int64))), .second, .val (.long (p2 &&& (4294967295 : Int64))), .second, .val (.long x), .second, .val (.long y), .second, .val (.int f), .val (.int md), .val (.long q), .second, .val (.ref a1), .val (.int (cont x y q)), .val (.long (4294967295 : Int64)), .second, .unset] [(.long (4294967295 : Int64)), (.long q)]))
        refine Go.via (fun t_ k_ => XS.lcmp H3.here hx rfl (hb hby at_255) rfl k_) ?_
        show Go _ _ _ _ (T3.setTop (mkF m 256 #[.val (.long p1), .second, .val (.long p2), .second, .val (.long p3), .second, .val (.int p4), .val (.long (4294967295 : Int64)), .second, .val (.long (p1 &&& (4294967295 : Int64))), .second, .val (.long (p2 &&& (4294967295 : Int64))), .second, .val (.long x), .second, .val (.long y), .second, .val (.int f), .val (.int md), .val (.long q), .second, .val (.ref a1), .val (.int (cont x y q)), .val (.long (4294967295 : Int64)), .second, .unset] [(.int (lcmpW q (4294967295 : Int64)))]))
        by_cases hc256 : (4294967295 : Int64) < q
        · refine Go.via (fun t_ k_ => XS.ifYes H3.here hx rfl (pc0 := 256) (pc' := 263) rfl (hb hby at_256) rfl ((own_lgt hc256).1) (by decide) (by decide) k_) ?_
          show Go _ _ _ _ (T3.setTop (mkF m 263 #[.val (.long p1), .second, .val (.long p2), .second, .val (.long p3), .second, .val (.int p4), .val (.long (4294967295 : Int64)), .second, .val (.long (p1 &&& (4294967295 : Int64))), .second, .val (.long (p2 &&& (4294967295 : Int64))), .second, .val (.long x), .second, .val (.long y), .second, .val (.int f), .val (.int md), .val (.long q), .second, .val (.ref a1), .val (.int (cont x y q)), .val (.long (4294967295 : Int64)), .second, .unset] []))
          refine Go.via (fun t_ k_ => XS.iconst H3.here hx rfl (hb hby at_263) k_) ?_
          show Go _ _ _ _ (T3.setTop (mkF m 264 #[.val (.long p1), .second, .val (.long p2), .second, .val (.long p3), .second, .val (.int p4), .val (.long (4294967295 : Int64)), .second, .val (.long (p1 &&& (4294967295 : Int64))), .second, .val (.long (p2 &&& (4294967295 : Int64))), .second, .val (.long x), .second, .val (.long y), .second, .val (.int f), .val (.int md), .val (.long q), .second, .val (.ref a1), .val (.int (cont x y q)), .val (.long (4294967295 : Int64)), .second, .unset] [(.int (0 : Int32))]))
          refine Go.via (fun t_ k_ => XS.istore H3.here hx rfl (hb hby at_264) rfl (l' := #[.val (.long p1), .second, .val (.long p2), .second, .val (.long p3), .second, .val (.int p4), .val (.long (4294967295 : Int64)), .second, .val (.long (p1 &&& (4294967295 : Int64))), .second, .val (.long (p2 &&& (4294967295 : Int64))), .second, .val (.long x), .second, .val (.long y), .second, .val (.int f), .val (.int md), .val (.long q), .second, .val (.ref a1), .val (.int (cont x y q)), .val (.long (4294967295 : Int64)), .second, .val (.int (0 : Int32))]) rfl k_) ?_
          show Go _ _ _ _ (T3.setTop (mkF m 266 #[.val (.long p1), .second, .val (.long p2), .second, .val (.long p3), .second, .val (.int p4), .val (.long (4294967295 : Int64)), .second, .val (.long (p1 &&& (4294967295 : Int64))), .second, .val (.long (p2 &&& (4294967295 : Int64))), .second, .val (.long x), .second, .val (.long y), .second, .val (.int f), .val (.int md), .val (.long q), .second, .val (.ref a1), .val (.int (cont x y q)), .val (.long (4294967295 : Int64)), .second, .val (.int (0 : Int32))] []))
          refine Go.via (fun t_ k_ => XS.iload H3.here hx rfl (hb hby at_266) rfl k_) ?_
          show Go _ _ _ _ (T3.setTop (mkF m 268 #[.val (.long p1), .second, .val (.long p2), .second, .val (.long p3), .second, .val (.int p4), .val (.long (4294967295 : Int64)), .second, .val (.long (p1 &&& (4294967295 : Int64))), .second, .val (.long (p2 &&& (4294967295 : Int64))), .second, .val (.long x), .second, .val (.long y), .second, .val (.int f), .val (.int md), .val (.long q), .second, .val (.ref a1), .val (.int (cont x y q)), .val (.long (4294967295 : Int64)), .second, .val (.int (0 : Int32))] [(.int (cont x y q))]))
          refine Go.via (fun t_ k_ => XS.iload H3.here hx rfl (hb hby at_268) rfl k_) ?_
          show Go _ _ _ _ (T3.setTop (mkF m 270 #[.val (.long p1), .second, .val (.long p2), .second, .val (.long p3), .second, .val (.int p4), .val (.long (4294967295 : Int64)), .second, .val (.long (p1 &&& (4294967295 : Int64))), .second, .val (.long (p2 &&& (4294967295 : Int64))), .second, .val (.long x), .second, .val (.long y), .second, .val (.int f), .val (.int md), .val (.long q), .second, .val (.ref a1), .val (.int (cont x y q)), .val (.long (4294967295 : Int64)), .second, .val (.int (0 : Int32))] [(.int (0 : Int32)), (.int (cont x y q))]))
          refine Go.via (fun t_ k_ => XS.icmpNo H3.here hx rfl (hb hby at_270) rfl ((teq (show (cont x y q) = (0 : Int32) from (by rw [own_cont x y q q1 q2 q3]; simp [eq_true hc229, eq_false hc248, eq_true hc256]))).2) k_) ?_
          show Go _ _ _ _ (T3.setTop (mkF m 273 #[.val (.long p1), .second, .val (.long p2), .second, .val (.long p3), .second, .val (.int p4), .val (.long (4294967295 : Int64)), .second, .val (.long (p1 &&& (4294967295 : Int64))), .second, .val (.long (p2 &&& (4294967295 : Int64))), .second, .val (.long x), .second, .val (.long y), .second, .val (.int f), .val (.int md), .val (.long q), .second, .val (.ref a1), .val (.int (cont x y q)), .val (.long (4294967295 : Int64)), .second, .val (.int (0 : Int32))] []))
          refine Go.via (fun t_ k_ => XS.iconst H3.here hx rfl (hb hby at_273) k_) ?_
          show Go _ _ _ _ (T3.setTop (mkF m 274 #[.val (.long p1), .second, .val (.long p2), .second, .val (.long p3), .second, .val (.int p4), .val (.long (4294967295 : Int64)), .second, .val (.long (p1 &&& (4294967295 : Int64))), .second, .val (.long (p2 &&& (4294967295 : Int64))), .second, .val (.long x), .second, .val (.long y), .second, .val (.int f), .val (.int md), .val (.long q), .second, .val (.ref a1), .val (.int (cont x y q)), .val (.long (4294967295 : Int64)), .second, .val (.int (0 : Int32))] [(.int (1 : Int32))]))
          refine Go.via (fun t_ k_ => XS.goto H3.here hx rfl (pc0 := 274) (pc' := 278) rfl (hb hby at_274) (by decide) (by decide) k_) ?_
          show Go _ _ _ _ (T3.setTop (mkF m 278 #[.val (.long p1), .second, .val (.long p2), .second, .val (.long p3), .second, .val (.int p4), .val (.long (4294967295 : Int64)), .second, .val (.long (p1 &&& (4294967295 : Int64))), .second, .val (.long (p2 &&& (4294967295 : Int64))), .second, .val (.long x), .second, .val (.long y), .second, .val (.int f), .val (.int md), .val (.long q), .second, .val (.ref a1), .val (.int (cont x y q)), .val (.long (4294967295 : Int64)), .second, .val (.int (0 : Int32))] [(.int (1 : Int32))]))
          exact own_retN H3 hx hlk (by simp) hret (hb hby at_278) rfl (by decide) (by decide)
        · refine Go.via (fun t_ k_ => XS.ifNo H3.here hx rfl (hb hby at_256) rfl ((own_ngt hc256).1) k_) ?_
          show Go _ _ _ _ (T3.setTop (mkF m 259 #[.val (.long p1), .second, .val (.long p2), .second, .val (.long p3), .second, .val (.int p4), .val (.long (4294967295 : Int64)), .second, .val (.long (p1 &&& (4294967295 : Int64))), .second, .val (.long (p2 &&& (4294967295 : Int64))), .second, .val (.long x), .second, .val (.long y), .second, .val (.int f), .val (.int md), .val (.long q), .second, .val (.ref a1), .val (.int (cont x y q)), .val (.long (4294967295 : Int64)), .second, .unset] []))
          refine Go.via (fun t_ k_ => XS.iconst H3.here hx rfl (hb hby at_259) k_) ?_
          show Go _ _ _ _ (T3.setTop (mkF m 260 #[.val (.long p1), .second, .val (.long p2), .second, .val (.long p3), .second, .val (.int p4), .val (.long (4294967295 : Int64)), .second, .val (.long (p1 &&& (4294967295 : Int64))), .second, .val (.long (p2 &&& (4294967295 : Int64))), .second, .val (.long x), .second, .val (.long y), .second, .val (.int f), .val (.int md), .val (.long q), .second, .val (.ref a1), .val (.int (cont x y q)), .val (.long (4294967295 : Int64)), .second, .unset] [(.int (1 : Int32))]))
          refine Go.via (fun t_ k_ => XS.goto H3.here hx rfl (pc0 := 260) (pc' := 264) rfl (hb hby at_260) (by decide) (by decide) k_) ?_
          show Go _ _ _ _ (T3.setTop (mkF m 264 #[.val (.long p1), .second, .val (.long p2), .second, .val (.long p3), .second, .val (.int p4), .val (.long (4294967295 : Int64)), .second, .val (.long (p1 &&& (4294967295 : Int64))), .second, .val (.long (p2 &&& (4294967295 : Int64))), .second, .val (.long x), .second, .val (.long y), .second, .val (.int f), .val (.int md), .val (.long q), .second, .val (.ref a1), .val (.int (cont x y q)), .val (.long (4294967295 : Int64)), .second, .unset] [(.int (1 : Int32))]))
          refine Go.via (fun t_ k_ => XS.istore H3.here hx rfl (hb hby at_264) rfl (l' := #[.val (.long p1), .second, .val (.long p2), .second, .val (.long p3), .second, .val (.int p4), .val (.long (4294967295 : Int64)), .second, .val (.long (p1 &&& (4294967295 : Int64))), .second, .val (.long (p2 &&& (4294967295 : Int64))), .second, .val (.long x), .second, .val (.long y), .second, .val (.int f), .val (.int md), .val (.long q), .second, .val (.ref a1), .val (.int (cont x y q)), .val (.long (4294967295 : Int64)), .second, .val (.int (1 : Int32))]) rfl k_) ?_
          show Go _ _ _ _ (T3.setTop (mkF m 266 #[.val (.long p1), .second, .val (.long p2), .second, .val (.long p3), .second, .val (.int p4), .val (.long (4294967295 : Int64)), .second, .val (.long (p1 &&& (4294967295 : Int64))), .second, .val (.long (p2 &&& (4294967295 : Int64))), .second, .val (.long x), .second, .val (.long y), .second, .val (.int f), .val (.int md), .val (.long q), .second, .val (.ref a1), .val (.int (cont x y q)), .val (.long (4294967295 : Int64)), .second, .val (.int (1 : Int32))] []))
          refine Go.via (fun t_ k_ => XS.iload H3.here hx rfl (hb hby at_266) rfl k_) ?_
          show Go _ _ _ _ (T3.setTop (mkF m 268 #[.val (.long p1), .second, .val (.long p2), .second, .val (.long p3), .second, .val (.int p4), .val (.long (4294967295 : Int64)), .second, .val (.long (p1 &&& (4294967295 : Int64))), .second, .val (.long (p2 &&& (4294967295 : Int64))), .second, .val (.long x), .second, .val (.long y), .second, .val (.int f), .val (.int md), .val (.long q), .second, .val (.ref a1), .val (.int (cont x y q)), .val (.long (4294967295 : Int64)), .second, .val (.int (1 : Int32))] [(.int (cont x y q))]))
          refine Go.via (fun t_ k_ => XS.iload H3.here hx rfl (hb hby at_268) rfl k_) ?_
          show Go _ _ _ _ (T3.setTop (mkF m 270 #[.val (.long p1), .second, .val (.long p2), .second, .val (.long p3), .second, .val (.int p4), .val (.long (4294967295 : Int64)), .second, .val (.long (p1 &&& (4294967295 : Int64))), .second, .val (.long (p2 &&& (4294967295 : Int64))), .second, .val (.long x), .second, .val (.long y), .second, .val (.int f), .val (.int md), .val (.long q), .second, .val (.ref a1), .val (.int (cont x y q)), .val (.long (4294967295 : Int64)), .second, .val (.int (1 : Int32))] [(.int (1 : Int32)), (.int (cont x y q))]))
          refine Go.via (fun t_ k_ => XS.icmpNo H3.here hx rfl (hb hby at_270) rfl ((teq (show (cont x y q) = (1 : Int32) from (by rw [own_cont x y q q1 q2 q3]; simp [eq_true hc229, eq_false hc248, eq_false hc256]))).2) k_) ?_
          show Go _ _ _ _ (T3.setTop (mkF m 273 #[.val (.long p1), .second, .val (.long p2), .second, .val (.long p3), .second, .val (.int p4), .val (.long (4294967295 : Int64)), .second, .val (.long (p1 &&& (4294967295 : Int64))), .second, .val (.long (p2 &&& (4294967295 : Int64))), .second, .val (.long x), .second, .val (.long y), .second, .val (.int f), .val (.int md), .val (.long q), .second, .val (.ref a1), .val (.int (cont x y q)), .val (.long (4294967295 : Int64)), .second, .val (.int (1 : Int32))] []))
          refine Go.via (fun t_ k_ => XS.iconst H3.here hx rfl (hb hby at_273) k_) ?_
          show Go _ _ _ _ (T3.setTop (mkF m 274 #[.val (.long p1), .second, .val (.long p2), .second, .val (.long p3), .second, .val (.int p4), .val (.long (4294967295 : Int64)), .second, .val (.long (p1 &&& (4294967295 : Int64))), .second, .val (.long (p2 &&& (4294967295 : Int64))), .second, .val (.long x), .second, .val (.long y), .second, .val (.int f), .val (.int md), .val (.long q), .second, .val (.ref a1), .val (.int (cont x y q)), .val (.long (4294967295 : Int64)), .second, .val (.int (1 : Int32))] [(.int (1 : Int32))]))
          refine Go.via (fun t_ k_ => XS.goto H3.here hx rfl (pc0 := 274) (pc' := 278) rfl (hb hby at_274) (by decide) (by decide) k_) ?_
          show Go _ _ _ _ (T3.setTop (mkF m 278 #[.val (.long p1), .second, .val (.long p2), .second, .val (.long p3), .second, .val (.int p4), .val (.long (4294967295 : Int64)), .second, .val (.long (p1 &&& (4294967295 : Int64))), .second, .val (.long (p2 &&& (4294967295 : Int64))), .second, .val (.long x), .second, .val (.long y), .second, .val (.int f), .val (.int md), .val (.long q), .second, .val (.ref a1), .val (.int (cont x y q)), .val (.long (4294967295 : Int64)), .second, .val (.int (1 : Int32))] [(.int (1 : Int32))]))
          exact own_retN H3 hx hlk (by simp) hret (hb hby at_278) rfl (by decide) (by decide)
    · refine Go.via (fun t_ k_ => XS.ifYes H3.here hx rfl (pc0 := 229) (pc' := 237) rfl (hb hby at_229) rfl ((own_neq hc229).2) (by decide) (by decide) k_) ?_
      show Go _ _ _ _ (T3.setTop (mkF m 237 #[.val (.long p1), .second, .val (.long p2), .second, .val (.long p3), .second, .val (.int p4), .val (.long (4294967295 : Int64)), .second, .val (.long (p1 &&& (4294967295 : Int64))), .second, .val (.long (p2 &&& (4294967295 : Int64))), .second, .val (.long x), .second, .val (.long y), .second, .val (.int f), .val (.int md), .val (.long q), .second, .val (.ref a1), .val (.int (cont x y q)), .unset, .unset, .unset] []))
      refine Go.via (fun t_ k_ => XS.lload H3.here hx rfl (hb hby at_237) rfl k_) ?_
      show Go _ _ _ _ (T3.setTop (mkF m 239 #[.val (.long p1), .second, .val (.long p2), .second, .val (.long p3), .second, .val (.int p4), .val (.long (4294967295 : Int64)), .second, .val (.long (p1 &&& (4294967295 : Int64))), .second, .val (.long (p2 &&& (4294967295 : Int64))), .second, .val (.long x), .second, .val (.long y), .second, .val (.int f), .val (.int md), .val (.long q), .second, .val (.ref a1), .val (.int (cont x y q)), .unset, .unset, .unset] [(.long y)]))
      refine Go.via (fun t_ k_ => XS.lconst H3.here hx rfl (hb hby at_239) k_) ?_
      show Go _ _ _ _ (T3.setTop (mkF m 240 #[.val (.long p1), .second, .val (.long p2), .second, .val (.long p3), .second, .val (.int p4), .val (.long (4294967295 : Int64)), .second, .val (.long (p1 &&& (4294967295 : Int64))), .second, .val (.long (p2 &&& (4294967295 : Int64))), .second, .val (.long x), .second, .val (.long y), .second, .val (.int f), .val (.int md), .val (.long q), .second, .val (.ref a1), .val (.int (cont x y q)), .unset, .unset, .unset] [(.long (1 : Int64)), (.long y)]))
      refine Go.via (fun t_ k_ => XS.lsub H3.here hx rfl (hb hby at_240) rfl k_) ?_
      show Go _ _ _ _ (T3.setTop (mkF m 241 #[.val (.long p1), .second, .val (.long p2), .second, .val (.long p3), .second, .val (.int p4), .val (.long (4294967295 : Int64)), .second, .val (.long (p1 &&& (4294967295 : Int64))), .second, .val (.long (p2 &&& (4294967295 : Int64))), .second, .val (.long x), .second, .val (.long y), .second, .val (.int f), .val (.int md), .val (.long q), .second, .val (.ref a1), .val (.int (cont x y q)), .unset, .unset, .unset] [(.long (y - (1 : Int64)))]))
      refine Go.via (fun t_ k_ => XS.lstore H3.here hx rfl (hb hby at_241) rfl (l' := #[.val (.long p1), .second, .val (.long p2), .second, .val (.long p3), .second, .val (.int p4), .val (.long (4294967295 : Int64)), .second, .val (.long (p1 &&& (4294967295 : Int64))), .second, .val (.long (p2 &&& (4294967295 : Int64))), .second, .val (.long x), .second, .val (.long y), .second, .val (.int f), .val (.int md), .val (.long q), .second, .val (.ref a1), .val (.int (cont x y q)), .val (.long (y - (1 : Int64))), .second, .unset]) rfl k_) ?_
      show Go _ _ _ _ (T3.setTop (mkF m 243 #[.val (.long p1), .second, .val (.long p2), .second, .val (.long p3), .second, .val (.int p4), .val (.long (4294967295 : Int64)), .second, .val (.long (p1 &&& (4294967295 : Int64))), .second, .val (.long (p2 &&& (4294967295 : Int64))), .second, .val (.long x), .second, .val (.long y), .second, .val (.int f), .val (.int md), .val (.long q), .second, .val (.ref a1), .val (.int (cont x y q)), .val (.long (y - (1 : Int64))), .second, .unset] []))
      refine Go.via (fun t_ k_ => XS.lload H3.here hx rfl (hb hby at_243) rfl k_) ?_
      show Go _ _ _ _ (T3.setTop (mkF m 245 #[.val (.long p1), .second, .val (.long p2), .second, .val (.long p3), .second, .val (.int p4), .val (.long (4294967295 : Int64)), .second, .val (.long (p1 &&& (4294967295 : Int64))), .second, .val (.long (p2 &&& (4294967295 : Int64))), .second, .val (.long x), .second, .val (.long y), .second, .val (.int f), .val (.int md), .val (.long q), .second, .val (.ref a1), .val (.int (cont x y q)), .val (.long (y - (1 : Int64))), .second, .unset] [(.long x)]))
      refine Go.via (fun t_ k_ => XS.lload H3.here hx rfl (hb hby at_245) rfl k_) ?_
      show Go _ _ _ _ (T3.setTop (mkF m 247 #[.val (.long p1), .second, .val (.long p2), .second, .val (.long p3), .second, .val (.int p4), .val (.long (4294967295 : Int64)), .second, .val (.long (p1 &&& (4294967295 : Int64))), .second, .val (.long (p2 &&& (4294967295 : Int64))), .second, .val (.long x), .second, .val (.long y), .second, .val (.int f), .val (.int md), .val (.long q), .second, .val (.ref a1), .val (.int (cont x y q)), .val (.long (y - (1 : Int64))), .second, .unset] [(.long q), (.long x)]))
      refine Go.via (fun t_ k_ => XS.lcmp H3.here hx rfl (hb hby at_247) rfl k_) ?_
      show Go _ _ _ _ (T3.setTop (mkF m 248 #[.val (.long p1), .second, .val (.long p2), .second, .val (.long p3), .second, .val (.int p4), .val (.long (4294967295 : Int64)), .second, .val (.long (p1 &&& (4294967295 : Int64))), .second, .val (.long (p2 &&& (4294967295 : Int64))), .second, .val (.long x), .second, .val (.long y), .second, .val (.int f), .val (.int md), .val (.long q), .second, .val (.ref a1), .val (.int (cont x y q)), .val (.long (y - (1 : Int64))), .second, .unset] [(.int (lcmpW x q))]))
      by_cases hc248 : q < x
      · refine Go.via (fun t_ k_ => XS.ifYes H3.here hx rfl (pc0 := 248) (pc' := 263) rfl (hb hby at_248) rfl ((own_lgt hc248).1) (by decide) (by decide) k_) ?_
        show Go _ _ _ _ (T3.setTop (mkF m 263 #[.val (.long p1), .second, .val (.long p2), .second, .val (.long p3), .second, .val (.int p4), .val (.long (4294967295 : Int64)), .second, .val (.long (p1 &&& (4294967295 : Int64))), .second, .val (.long (p2 &&& (4294967295 : Int64))), .second, .val (.long x), .second, .val (.long y), .second, .val (.int f), .val (.int md), .val (.long q), .second, .val (.ref a1), .val (.int (cont x y q)), .val (.long (y - (1 : Int64))), .second, .unset] []))
        refine Go.via (fun t_ k_ => XS.iconst H3.here hx rfl (hb hby at_263) k_) ?_
        show Go _ _ _ _ (T3.setTop (mkF m 264 #[.val (.long p1), .second, .val (.long p2), .second, .val (.long p3), .second, .val (.int p4), .val (.long (4294967295 : Int64)), .second, .val (.long (p1 &&& (4294967295 : Int64))), .second, .val (.long (p2 &&& (4294967295 : Int64))), .second, .val (.long x), .second, .val (.long y), .second, .val (.int f), .val (.int md), .val (.long q), .second, .val (.ref a1), .val (.int (cont x y q)), .val (.long (y - (1 : Int64))), .second, .unset] [(.int (0 : Int32))]))
        refine Go.via (fun t_ k_ => XS.istore H3.here hx rfl (hb hby at_264) rfl (l' := #[.val (.long p1), .second, .val (.long p2), .second, .val (.long p3), .second, .val (.int p4), .val (.long (4294967295 : Int64)), .second, .val (.long (p1 &&& (4294967295 : Int64))), .second, .val (.long (p2 &&& (4294967295 : Int64))), .second, .val (.long x), .second, .val (.long y), .second, .val (.int f), .val (.int md), .val (.long q), .second, .val (.ref a1), .val (.int (cont x y q)), .val (.long (y - (1 : Int64))), .second, .val (.int (0 : Int32))]) rfl k_) ?_
        show Go _ _ _ _ (T3.setTop (mkF m 266 #[.val (.long p1), .second, .val (.long p2), .second, .val (.long p3), .second, .val (.int p4), .val (.long (4294967295 : Int64)), .second, .val (.long (p1 &&& (4294967295 : Int64))), .second, .val (.long (p2 &&& (4294967295 : Int64))), .second, .val (.long x), .second, .val (.long y), .second, .val (.int f), .val (.int md), .val (.long q), .second, .val (.ref a1), .val (.int (cont x y q)), .val (.long (y - (1 : Int64))), .second, .val (.int (0 : Int32))] []))
        refine Go.via (fun t_ k_ => XS.iload H3.here hx rfl (hb hby at_266) rfl k_) ?_
        show Go _ _ _ _ (T3.setTop (mkF m 268 #[.val (.long p1), .second, .val (.long p2), .second, .val (.long p3), .second, .val (.int p4), .val (.long (4294967295 : Int64)), .second, .val (.long (p1 &&& (4294967295 : Int64))), .second, .val (.long (p2 &&& (4294967295 : Int64))), .second, .val (.long x), .second, .val (.long y), .second, .val (.int f), .val (.int md), .val (.long q), .second, .val (.ref a1), .val (.int (cont x y q)), .val (.long (y - (1 : Int64))), .second, .val (.int (0 : Int32))] [(.int (cont x y q))]))
        refine Go.via (fun t_ k_ => XS.iload H3.here hx rfl (hb hby at_268) rfl k_) ?_
        show Go _ _ _ _ (T3.setTop (mkF m 270 #[.val (.long p1), .second, .val (.long p2), .second, .val (.long p3), .second, .val (.int p4), .val (.long (4294967295 : Int64)), .second, .val (.long (p1 &&& (4294967295 : Int64))), .second, .val (.long (p2 &&& (4294967295 : Int64))), .second, .val (.long x), .second, .val (.long y), .second, .val (.int f), .val (.int md), .val (.long q), .second, .val (.ref a1), .val (.int (cont x y q)), .val (.long (y - (1 : Int64))), .second, .val (.int (0 : Int32))] [(.int (0 : Int32)), (.int (cont x y q))]))
        refine Go.via (fun t_ k_ => XS.icmpNo H3.here hx rfl (hb hby at_270) rfl ((teq (show (cont x y q) = (0 : Int32) from (by rw [own_cont x y q q1 q2 q3]; simp [eq_false hc229, eq_true hc248]))).2) k_) ?_
        show Go _ _ _ _ (T3.setTop (mkF m 273 #[.val (.long p1), .second, .val (.long p2), .second, .val (.long p3), .second, .val (.int p4), .val (.long (4294967295 : Int64)), .second, .val (.long (p1 &&& (4294967295 : Int64))), .second, .val (.long (p2 &&& (4294967295 : Int64))), .second, .val (.long x), .second, .val (.long y), .second, .val (.int f), .val (.int md), .val (.long q), .second, .val (.ref a1), .val (.int (cont x y q)), .val (.long (y - (1 : Int64))), .second, .val (.int (0 : Int32))] []))
        refine Go.via (fun t_ k_ => XS.iconst H3.here hx rfl (hb hby at_273) k_) ?_
        show Go _ _ _ _ (T3.setTop (mkF m 274 #[.val (.long p1), .second, .val (.long p2), .second, .val (.long p3), .second, .val (.int p4), .val (.long (4294967295 : Int64)), .second, .val (.long (p1 &&& (4294967295 : Int64))), .second, .val (.long (p2 &&& (4294967295 : Int64))), .second, .val (.long x), .second, .val (.long y), .second, .val (.int f), .val (.int md), .val (.long q), .second, .val (.ref a1), .val (.int (cont x y q)), .val (.long (y - (1 : Int64))), .second, .val (.int (0 : Int32))] [(.int (1 : Int32))]))
        refine Go.via (fun t_ k_ => XS.goto H3.here hx rfl (pc0 := 274) (pc' := 278) rfl (hb hby at_274) (by decide) (by decide) k_) ?_
        show Go _ _ _ _ (T3.setTop (mkF m 278 #[.val (.long p1), .second, .val (.long p2), .second, .val (.long p3), .second, .val (.int p4), .val (.long (4294967295 : Int64)), .second, .val (.long (p1 &&& (4294967295 : Int64))), .second, .val (.long (p2 &&& (4294967295 : Int64))), .second, .val (.long x), .second, .val (.long y), .second, .val (.int f), .val (.int md), .val (.long q), .second, .val (.ref a1), .val (.int (cont x y q)), .val (.long (y - (1 : Int64))), .second, .val (.int (0 : Int32))] [(.int (1 : Int32))]))
        exact own_retN H3 hx hlk (by simp) hret (hb hby at_278) rfl (by decide) (by decide)
      · refine Go.via (fun t_ k_ => XS.ifNo H3.here hx rfl (hb hby at_248) rfl ((own_ngt hc248).1) k_) ?_
        show Go _ _ _ _ (T3.setTop (mkF m 251 #[.val (.long p1), .second, .val (.long p2), .second, .val (.long p3), .second, .val (.int p4), .val (.long (4294967295 : Int64)), .second, .val (.long (p1 &&& (4294967295 : Int64))), .second, .val (.long (p2 &&& (4294967295 : Int64))), .second, .val (.long x), .second, .val (.long y), .second, .val (.int f), .val (.int md), .val (.long q), .second, .val (.ref a1), .val (.int (cont x y q)), .val (.long (y - (1 : Int64))), .second, .unset] []))
        refine Go.via (fun t_ k_ => XS.lload H3.here hx rfl (hb hby at_251) rfl k_) ?_
        show Go _ _ _ _ (T3.setTop (mkF m 253 #[.val (.long p1), .second, .val (.long p2), .second, .val (.long p3), .second, .val (.int p4), .val (.long (4294967295 : Int64)), .second, .val (.long (p1 &&& (4294967295 : Int64))), .second, .val (.long (p2 &&& (4294967295 : Int64))), .second, .val (.long x), .second, .val (.long y), .second, .val (.int f), .val (.int md), .val (.long q), .second, .val (.ref a1), .val (.int (cont x y q)), .val (.long (y - (1 : Int64))), .second, .unset] [(.long q)]))
        refine Go.via (fun t_ k_ => XS.lload H3.here hx rfl (hb hby at_253) rfl k_) ?_
        show Go _ _ _ _ (T3.setTop (mkF m 255 #[.val (.long p1), .second, .val (.long p2), .second, .val (.long p3), .second, .val (.int p4), .val (.long (4294967295 : Int64)), .second, .val (.long (p1 &&& (4294967295 : Int64))), .second, .val (.long (p2 &&& (4294967295 : Int64))), .second, .val (.long x), .second, .val (.long y), .second, .val (.int f), .val (.int md), .val (.long q), .second, .val (.ref a1), .val (.int (cont x y q)), .val (.long (y - (1 : Int64))), .second, .unset] [(.long (y - (1 : Int64))), (.long q)]))
        refine Go.via (fun t_ k_ => XS.lcmp H3.here hx rfl (hb hby at_255) rfl k_) ?_
        show Go _ _ _ _ (T3.setTop (mkF m 256 #[.val (.long p1), .second, .val (.long p2), .second, .val (.long p3), .second, .val (.int p4), .val (.long (4294967295 : Int64)), .second, .val (.long (p1 &&& (4294967295 : Int64))), .second, .val (.long (p2 &&& (4294967295 : Int64))), .second, .val (.long x), .second, .val (.long y), .second, .val (.int f), .val (.int md), .val (.long q), .second, .val (.ref a1), .val (.int (cont x y q)), .val (.long (y - (1 : Int64))), .second, .unset] [(.int (lcmpW q (y - (1 : Int64))))]))
        by_cases hc256 : (y - (1 : Int64)) < q
        · refine Go.via (fun t_ k_ => XS.ifYes H3.here hx rfl (pc0 := 256) (pc' := 263) rfl (hb hby at_256) rfl ((own_lgt hc256).1) (by decide) (by decide) k_) ?_
          show Go _ _ _ _ (T3.setTop (mkF m 263 #[.val (.long p1), .second, .val (.long p2), .second, .val (.long p3), .second, .val (.int p4), .val (.long (4294967295 : Int64)), .second, .val (.long (p1 &&& (4294967295 : Int64))), .second, .val (.long (p2 &&& (4294967295 : Int64))), .second, .val (.long x), .second, .val (.long y), .second, .val (.int f), .val (.int md), .val (.long q), .second, .val (.ref a1), .val (.int (cont x y q)), .val (.long (y - (1 : Int64))), .second, .unset] []))
          refine Go.via (fun t_ k_ => XS.iconst H3.here hx rfl (hb hby at_263) k_) ?_
          show Go _ _ _ _ (T3.setTop (mkF m 264 #[.val (.long p1), .second, .val (.long p2), .second, .val (.long p3), .second, .val (.int p4), .val (.long (4294967295 : Int64)), .second, .val (.long (p1 &&& (4294967295 : Int64))), .second, .val (.long (p2 &&& (4294967295 : Int64))), .second, .val (.long x), .second, .val (.long y), .second, .val (.int f), .val (.int md), .val (.long q), .second, .val (.ref a1), .val (.int (cont x y q)), .val (.long (y - (1 : Int64))), .second, .unset] [(.int (0 : Int32))]))
          refine Go.via (fun t_ k_ => XS.istore H3.here hx rfl (hb hby at_264) rfl (l' := #[.val (.long p1), .second, .val (.long p2), .second, .val (.long p3), .second, .val (.int p4), .val (.long (4294967295 : Int64)), .second, .val (.long (p1 &&& (4294967295 : Int64))), .second, .val (.long (p2 &&& (4294967295 : Int64))), .second, .val (.long x), .second, .val (.long y), .second, .val (.int f), .val (.int md), .val (.long q), .second, .val (.ref a1), .val (.int (cont x y q)), .val (.long (y - (1 : Int64))), .second, .val (.int (0 : Int32))]) rfl k_) ?_
          show Go _ _ _ _ (T3.setTop (mkF m 266 #[.val (.long p1), .second, .val (.long p2), .second, .val (.long p3), .second, .val (.int p4), .val (.long (4294967295 : Int64)), .second, .val (.long (p1 &&& (4294967295 : Int64))), .second, .val (.long (p2 &&& (4294967295 : Int64))), .second, .val (.long x), .second, .val (.long y), .second, .val (.int f), .val (.int md), .val (.long q), .second, .val (.ref a1), .val (.int (cont x y q)), .val (.long (y - (1 : Int64))), .second, .val (.int (0 : Int32))] []))
          refine Go.via (fun t_ k_ => XS.iload H3.here hx rfl (hb hby at_266) rfl k_) ?_
          show Go _ _ _ _ (T3.setTop (mkF m 268 #[.val (.long p1), .second, .val (.long p2), .second, .val (.long p3), .second, .val (.int p4), .val (.long (4294967295 : Int64)), .second, .val (.long (p1 &&& (4294967295 : Int64))), .second, .val (.long (p2 &&& (4294967295 : Int64))), .second, .val (.long x), .second, .val (.long y), .second, .val (.int f), .val (.int md), .val (.long q), .second, .val (.ref a1), .val (.int (cont x y q)), .val (.long (y - (1 : Int64))), .second, .val (.int (0 : Int32))] [(.int (cont x y q))]))
          refine Go.via (fun t_ k_ => XS.iload H3.here hx rfl (hb hby at_268) rfl k_) ?_
          show Go _ _ _ _ (T3.setTop (mkF m 270 #[.val (.long p1), .second, .val (.long p2), .second, .val (.long p3), .second, .val (.int p4), .val (.long (4294967295 : Int64)), .second, .val (.long (p1 &&& (4294967295 : Int64))), .second, .val (.long (p2 &&& (4294967295 : Int64))), .second, .val (.long x), .second, .val (.long y), .second, .val (.int f), .val (.int md), .val (.long q), .second, .val (.ref a1), .val (.int (cont x y q)), .val (.long (y - (1 : Int64))), .second, .val (.int (0 : Int32))] [(.int (0 : Int32)), (.int (cont x y q))]))
          refine Go.via (fun t_ k_ => XS.icmpNo H3.here hx rfl (hb hby at_270) rfl ((teq (show (cont x y q) = (0 : Int32) from (by rw [own_cont x y q q1 q2 q3]; simp [eq_false hc229, eq_false hc248, eq_true hc256]))).2) k_) ?_
          show Go _ _ _ _ (T3.setTop (mkF m 273 #[.val (.long p1), .second, .val (.long p2), .second, .val (.long p3), .second, .val (.int p4), .val (.long (4294967295 : Int64)), .second, .val (.long (p1 &&& (4294967295 : Int64))), .second, .val (.long (p2 &&& (4294967295 : Int64))), .second, .val (.long x), .second, .val (.long y), .second, .val (.int f), .val (.int md), .val (.long q), .second, .val (.ref a1), .val (.int (cont x y q)), .val (.long (y - (1 : Int64))), .second, .val (.int (0 : Int32))] []))
          refine Go.via (fun t_ k_ => XS.iconst H3.here hx rfl (hb hby at_273) k_) ?_
          show Go _ _ _ _ (T3.setTop (mkF m 274 #[.val (.long p1), .second, .val (.long p2), .second, .val (.long p3), .second, .val (.int p4), .val (.long (4294967295 : Int64)), .second, .val (.long (p1 &&& (4294967295 : Int64))), .second, .val (.long (p2 &&& (4294967295 : Int64))), .second, .val (.long x), .second, .val (.long y), .second, .val (.int f), .val (.int md), .val (.long q), .second, .val (.ref a1), .val (.int (cont x y q)), .val (.long (y - (1 : Int64))), .second, .val (.int (0 : Int32))] [(.int (1 : Int32))]))
          refine Go.via (fun t_ k_ => XS.goto H3.here hx rfl (pc0 := 274) (pc' := 278) rfl (hb hby at_274) (by decide) (by decide) k_) ?_
          show Go _ _ _ _ (T3.setTop (mkF m 278 #[.val (.long p1), .second, .val (.long p2), .second, .val (.long p3), .second, .val (.int p4), .val (.long (4294967295 : Int64)), .second, .val (.long (p1 &&& (4294967295 : Int64))), .second, .val (.long (p2 &&& (4294967295 : Int64))), .second, .val (.long x), .second, .val (.long y), .second, .val (.int f), .val (.int md), .val (.long q), .second, .val (.ref a1), .val (.int (cont x y q)), .val (.long (y - (1 : Int64))), .second, .val (.int (0 : Int32))] [(.int (1 : Int32))]))
          exact own_retN H3 hx hlk (by simp) hret (hb hby at_278) rfl (by decide) (by decide)
        · refine Go.via (fun t_ k_ => XS.ifNo H3.here hx rfl (hb hby at_256) rfl ((own_ngt hc256).1) k_) ?_
          show Go _ _ _ _ (T3.setTop (mkF m 259 #[.val (.long p1), .second, .val (.long p2), .second, .val (.long p3), .second, .val (.int p4), .val (.long (4294967295 : Int64)), .second, .val (.long (p1 &&& (4294967295 : Int64))), .second, .val (.long (p2 &&& (4294967295 : Int64))), .second, .val (.long x), .second, .val (.long y), .second, .val (.int f), .val (.int md), .val (.long q), .second, .val (.ref a1), .val (.int (cont x y q)), .val (.long (y - (1 : Int64))), .second, .unset] []))
          refine Go.via (fun t_ k_ => XS.iconst H3.here hx rfl (hb hby at_259) k_) ?_
          show Go _ _ _ _ (T3.setTop (mkF m 260 #[.val (.long p1), .second, .val (.long p2), .second, .val (.long p3), .second, .val (.int p4), .val (.long (4294967295 : Int64)), .second, .val (.long (p1 &&& (4294967295 : Int64))), .second, .val (.long (p2 &&& (4294967295 : Int64))), .second, .val (.long x), .second, .val (.long y), .second, .val (.int f), .val (.int md), .val (.long q), .second, .val (.ref a1), .val (.int (cont x y q)), .val (.long (y - (1 : Int64))), .second, .unset] [(.int (1 : Int32))]))
          refine Go.via (fun t_ k_ => XS.goto H3.here hx rfl (pc0 := 260) (pc' := 264) rfl (hb hby at_260) (by decide) (by decide) k_) ?_
          show Go _ _ _ _ (T3.setTop (mkF m 264 #[.val (.long p1), .second, .val (.long p2), .second, .val (.long p3), .second, .val (.int p4), .val (.long (4294967295 : Int64)), .second, .val (.long (p1 &&& (4294967295 : Int64))), .second, .val (.long (p2 &&& (4294967295 : Int64))), .second, .val (.long x), .second, .val (.long y), .second, .val (.int f), .val (.int md), .val (.long q), .second, .val (.ref a1), .val (.int (cont x y q)), .val (.long (y - (1 : Int64))), .second, .unset] [(.int (1 : Int32))]))
          refine Go.via (fun t_ k_ => XS.istore H3.here hx rfl (hb hby at_264) rfl (l' := #[.val (.long p1), .second, .val (.long p2), .second, .val (.long p3), .second, .val (.int p4), .val (.long (4294967295 : Int64)), .second, .val (.long (p1 &&& (4294967295 : Int64))), .second, .val (.long (p2 &&& (4294967295 : Int64))), .second, .val (.long x), .second, .val (.long y), .second, .val (.int f), .val (.int md), .val (.long q), .second, .val (.ref a1), .val (.int (cont x y q)), .val (.long (y - (1 : Int64))), .second, .val (.int (1 : Int32))]) rfl k_) ?_
          show Go _ _ _ _ (T3.setTop (mkF m 266 #[.val (.long p1), .second, .val (.long p2), .second, .val (.long p3), .second, .val (.int p4), .val (.long (4294967295 : Int64)), .second, .val (.long (p1 &&& (4294967295 : Int64))), .second, .val (.long (p2 &&& (4294967295 : Int64))), .second, .val (.long x), .second, .val (.long y), .second, .val (.int f), .val (.int md), .val (.long q), .second, .val (.ref a1), .val (.int (cont x y q)), .val (.long (y - (1 : Int64))), .second, .val (.int (1 : Int32))] []))
          refine Go.via (fun t_ k_ => XS.iload H3.here hx rfl (hb hby at_266) rfl k_) ?_
          show Go _ _ _ _ (T3.setTop (mkF m 268 #[.val (.long p1), .second, .val (.long p2), .second, .val (.long p3), .second, .val (.int p4), .val (.long (4294967295 : Int64)), .second, .val (.long (p1 &&& (4294967295 : Int64))), .second, .val (.long (p2 &&& (4294967295 : Int64))), .second, .val (.long x), .second, .val (.long y), .second, .val (.int f), .val (.int md), .val (.long q), .second, .val (.ref a1), .val (.int (cont x y q)), .val (.long (y - (1 : Int64))), .second, .val (.int (1 : Int32))] [(.int (cont x y q))]))
          refine Go.via (fun t_ k_ => XS.iload H3.here hx rfl (hb hby at_268) rfl k_) ?_
          show Go _ _ _ _ (T3.setTop (mkF m 270 #[.val (.long p1), .second, .val (.long p2), .second, .val (.long p3), .second, .val (.int p4), .val (.long (4294967295 : Int64)), .second, .val (.long (p1 &&& (4294967295 : Int64))), .second, .val (.long (p2 &&& (4294967295 : Int64))), .second, .val (.long x), .second, .val (.long y), .second, .val (.int f), .val (.int md), .val (.long q), .second, .val (.ref a1), .val (.int (cont x y q)), .val (.long (y - (1 : Int64))), .second, .val (.int (1 : Int32))] [(.int (1 : Int32)), (.int (cont x y q))]))
          refine Go.via (fun t_ k_ => XS.icmpNo H3.here hx rfl (hb hby at_270) rfl ((teq (show (cont x y q) = (1 : Int32) from (by rw [own_cont x y q q1 q2 q3]; simp [eq_false hc229, eq_false hc248, eq_false hc256]))).2) k_) ?_
          show Go _ _ _ _ (T3.setTop (mkF m 273 #[.val (.long p1), .second, .val (.long p2), .second, .val (.long p3), .second, .val (.int p4), .val (.long (4294967295 : Int64)), .second, .val (.long (p1 &&& (4294967295 : Int64))), .second, .val (.long (p2 &&& (4294967295 : Int64))), .second, .val (.long x), .second, .val (.long y), .second, .val (.int f), .val (.int md), .val (.long q), .second, .val (.ref a1), .val (.int (cont x y q)), .val (.long (y - (1 : Int64))), .second, .val (.int (1 : Int32))] []))
          refine Go.via (fun t_ k_ => XS.iconst H3.here hx rfl (hb hby at_273) k_) ?_
          show Go _ _ _ _ (T3.setTop (mkF m 274 #[.val (.long p1), .second, .val (.long p2), .second, .val (.long p3), .second, .val (.int p4), .val (.long (4294967295 : Int64)), .second, .val (.long (p1 &&& (4294967295 : Int64))), .second, .val (.long (p2 &&& (4294967295 : Int64))), .second, .val (.long x), .second, .val (.long y), .second, .val (.int f), .val (.int md), .val (.long q), .second, .val (.ref a1), .val (.int (cont x y q)), .val (.long (y - (1 : Int64))), .second, .val (.int (1 : Int32))] [(.int (1 : Int32))]))
          refine Go.via (fun t_ k_ => XS.goto H3.here hx rfl (pc0 := 274) (pc' := 278) rfl (hb hby at_274) (by decide) (by decide) k_) ?_
          show Go _ _ _ _ (T3.setTop (mkF m 278 #[.val (.long p1), .second, .val (.long p2), .second, .val (.long p3), .second, .val (.int p4), .val (.long (4294967295 : Int64)), .second, .val (.long (p1 &&& (4294967295 : Int64))), .second, .val (.long (p2 &&& (4294967295 : Int64))), .second, .val (.long x), .second, .val (.long y), .second, .val (.int f), .val (.int md), .val (.long q), .second, .val (.ref a1), .val (.int (cont x y q)), .val (.long (y - (1 : Int64))), .second, .val (.int (1 : Int32))] [(.int (1 : Int32))]))
          exact own_retN H3 hx hlk (by simp) hret (hb hby at_278) rfl (by decide) (by decide)
  have J91 : ∀ (Tj : State) (x y : Int64) (f : Int32), Here p l e room_1 s m #[(.long p1), (.long p2), (.long p3), (.int p4)] below meth c n0 Tj h0 0 0 → (¬ x < 0) → (x < y) → (¬ (4294967295 : Int64) < y) → Go p e below (Fini below s n0 (fun v h => v = some (.int (1 : Int32))) room_1.cells room_1.slots) (Tj.setTop (mkF m 91 #[.val (.long p1), .second, .val (.long p2), .second, .val (.long p3), .second, .val (.int p4), .val (.long (4294967295 : Int64)), .second, .val (.long (p1 &&& (4294967295 : Int64))), .second, .val (.long (p2 &&& (4294967295 : Int64))), .second, .val (.long x), .second, .val (.long y), .second, .val (.int f), .unset, .unset, .unset, .unset, .unset, .unset, .unset, .unset] [])) := by
    intro Tj x y f Hj q1 q2 q3
    show Go _ _ _ _ (Tj.setTop (mkF m 91 #[.val (.long p1), .second, .val (.long p2), .second, .val (.long p3), .second, .val (.int p4), .val (.long (4294967295 : Int64)), .second, .val (.long (p1 &&& (4294967295 : Int64))), .second, .val (.long (p2 &&& (4294967295 : Int64))), .second, .val (.long x), .second, .val (.long y), .second, .val (.int f), .unset, .unset, .unset, .unset, .unset, .unset, .unset, .unset] []))
    refine Go.via (fun t_ k_ => XS.iload Hj.here hx rfl (hb hby at_91) rfl k_) ?_
    show Go _ _ _ _ (Tj.setTop (mkF m 93 #[.val (.long p1), .second, .val (.long p2), .second, .val (.long p3), .second, .val (.int p4), .val (.long (4294967295 : Int64)), .second, .val (.long (p1 &&& (4294967295 : Int64))), .second, .val (.long (p2 &&& (4294967295 : Int64))), .second, .val (.long x), .second, .val (.long y), .second, .val (.int f), .unset, .unset, .unset, .unset, .unset, .unset, .unset, .unset] [(.int p4)]))
    refine Go.via (fun t_ k_ => XS.bipush Hj.here hx rfl (hb hby at_93) k_) ?_
    show Go _ _ _ _ (Tj.setTop (mkF m 95 #[.val (.long p1), .second, .val (.long p2), .second, .val (.long p3), .second, .val (.int p4), .val (.long (4294967295 : Int64)), .second, .val (.long (p1 &&& (4294967295 : Int64))), .second, .val (.long (p2 &&& (4294967295 : Int64))), .second, .val (.long x), .second, .val (.long y), .second, .val (.int f), .unset, .unset, .unset, .unset, .unset, .unset, .unset, .unset] [(.int (7 : Int32)), (.int p4)]))
    refine Go.via (fun t_ k_ => XS.iand Hj.here hx rfl (hb hby at_95) rfl k_) ?_
    show Go _ _ _ _ (Tj.setTop (mkF m 96 #[.val (.long p1), .second, .val (.long p2), .second, .val (.long p3), .second, .val (.int p4), .val (.long (4294967295 : Int64)), .second, .val (.long (p1 &&& (4294967295 : Int64))), .second, .val (.long (p2 &&& (4294967295 : Int64))), .second, .val (.long x), .second, .val (.long y), .second, .val (.int f), .unset, .unset, .unset, .unset, .unset, .unset, .unset, .unset] [(.int (p4 &&& (7 : Int32)))]))
    refine Go.via (fun t_ k_ => XS.istore Hj.here hx rfl (hb hby at_96) rfl (l' := #[.val (.long p1), .second, .val (.long p2), .second, .val (.long p3), .second, .val (.int p4), .val (.long (4294967295 : Int64)), .second, .val (.long (p1 &&& (4294967295 : Int64))), .second, .val (.long (p2 &&& (4294967295 : Int64))), .second, .val (.long x), .second, .val (.long y), .second, .val (.int f), .val (.int (p4 &&& (7 : Int32))), .unset, .unset, .unset, .unset, .unset, .unset, .unset]) rfl k_) ?_
    show Go _ _ _ _ (Tj.setTop (mkF m 98 #[.val (.long p1), .second, .val (.long p2), .second, .val (.long p3), .second, .val (.int p4), .val (.long (4294967295 : Int64)), .second, .val (.long (p1 &&& (4294967295 : Int64))), .second, .val (.long (p2 &&& (4294967295 : Int64))), .second, .val (.long x), .second, .val (.long y), .second, .val (.int f), .val (.int (p4 &&& (7 : Int32))), .unset, .unset, .unset, .unset, .unset, .unset, .unset] []))
    refine Go.via (fun t_ k_ => XS.iload Hj.here hx rfl (hb hby at_98) rfl k_) ?_
    show Go _ _ _ _ (Tj.setTop (mkF m 100 #[.val (.long p1), .second, .val (.long p2), .second, .val (.long p3), .second, .val (.int p4), .val (.long (4294967295 : Int64)), .second, .val (.long (p1 &&& (4294967295 : Int64))), .second, .val (.long (p2 &&& (4294967295 : Int64))), .second, .val (.long x), .second, .val (.long y), .second, .val (.int f), .val (.int (p4 &&& (7 : Int32))), .unset, .unset, .unset, .unset, .unset, .unset, .unset] [(.int (p4 &&& (7 : Int32)))]))
    by_cases hc100 : (p4 &&& (7 : Int32)) = (0 : Int32)
    · refine Go.via (fun t_ k_ => XS.ifNo Hj.here hx rfl (hb hby at_100) rfl ((if0 _ _).trans (teq hc100).2) k_) ?_
      show Go _ _ _ _ (Tj.setTop (mkF m 103 #[.val (.long p1), .second, .val (.long p2), .second, .val (.long p3), .second, .val (.int p4), .val (.long (4294967295 : Int64)), .second, .val (.long (p1 &&& (4294967295 : Int64))), .second, .val (.long (p2 &&& (4294967295 : Int64))), .second, .val (.long x), .second, .val (.long y), .second, .val (.int f), .val (.int (p4 &&& (7 : Int32))), .unset, .unset, .unset, .unset, .unset, .unset, .unset] []))
      refine Go.via (fun t_ k_ => XS.lload Hj.here hx rfl (hb hby at_103) rfl k_) ?_
      show Go _ _ _ _ (Tj.setTop (mkF m 105 #[.val (.long p1), .second, .val (.long p2), .second, .val (.long p3), .second, .val (.int p4), .val (.long (4294967295 : Int64)), .second, .val (.long (p1 &&& (4294967295 : Int64))), .second, .val (.long (p2 &&& (4294967295 : Int64))), .second, .val (.long x), .second, .val (.long y), .second, .val (.int f), .val (.int (p4 &&& (7 : Int32))), .unset, .unset, .unset, .unset, .unset, .unset, .unset] [(.long p3)]))
      refine Go.via (fun t_ k_ => XS.lstore Hj.here hx rfl (hb hby at_105) rfl (l' := #[.val (.long p1), .second, .val (.long p2), .second, .val (.long p3), .second, .val (.int p4), .val (.long (4294967295 : Int64)), .second, .val (.long (p1 &&& (4294967295 : Int64))), .second, .val (.long (p2 &&& (4294967295 : Int64))), .second, .val (.long x), .second, .val (.long y), .second, .val (.int f), .val (.int (p4 &&& (7 : Int32))), .val (.long p3), .second, .unset, .unset, .unset, .unset, .unset]) rfl k_) ?_
      show Go _ _ _ _ (Tj.setTop (mkF m 107 #[.val (.long p1), .second, .val (.long p2), .second, .val (.long p3), .second, .val (.int p4), .val (.long (4294967295 : Int64)), .second, .val (.long (p1 &&& (4294967295 : Int64))), .second, .val (.long (p2 &&& (4294967295 : Int64))), .second, .val (.long x), .second, .val (.long y), .second, .val (.int f), .val (.int (p4 &&& (7 : Int32))), .val (.long p3), .second, .unset, .unset, .unset, .unset, .unset] []))
      refine Go.via (fun t_ k_ => XS.goto Hj.here hx rfl (pc0 := 107) (pc' := 202) rfl (hb hby at_107) (by decide) (by decide) k_) ?_
      show Go _ _ _ _ (Tj.setTop (mkF m 202 #[.val (.long p1), .second, .val (.long p2), .second, .val (.long p3), .second, .val (.int p4), .val (.long (4294967295 : Int64)), .second, .val (.long (p1 &&& (4294967295 : Int64))), .second, .val (.long (p2 &&& (4294967295 : Int64))), .second, .val (.long x), .second, .val (.long y), .second, .val (.int f), .val (.int (p4 &&& (7 : Int32))), .val (.long p3), .second, .unset, .unset, .unset, .unset, .unset] []))
      exact J202 Tj x y p3 f (p4 &&& (7 : Int32)) Hj q1 q2 q3
    · refine Go.via (fun t_ k_ => XS.ifYes Hj.here hx rfl (pc0 := 100) (pc' := 110) rfl (hb hby at_100) rfl ((if0 _ _).trans (feq hc100).2) (by decide) (by decide) k_) ?_
      show Go _ _ _ _ (Tj.setTop (mkF m 110 #[.val (.long p1), .second, .val (.long p2), .second, .val (.long p3), .second, .val (.int p4), .val (.long (4294967295 : Int64)), .second, .val (.long (p1 &&& (4294967295 : Int64))), .second, .val (.long (p2 &&& (4294967295 : Int64))), .second, .val (.long x), .second, .val (.long y), .second, .val (.int f), .val (.int (p4 &&& (7 : Int32))), .unset, .unset, .unset, .unset, .unset, .unset, .unset] []))
      refine Go.via (fun t_ k_ => XS.iload Hj.here hx rfl (hb hby at_110) rfl k_) ?_
      show Go _ _ _ _ (Tj.setTop (mkF m 112 #[.val (.long p1), .second, .val (.long p2), .second, .val (.long p3), .second, .val (.int p4), .val (.long (4294967295 : Int64)), .second, .val (.long (p1 &&& (4294967295 : Int64))), .second, .val (.long (p2 &&& (4294967295 : Int64))), .second, .val (.long x), .second, .val (.long y), .second, .val (.int f), .val (.int (p4 &&& (7 : Int32))), .unset, .unset, .unset, .unset, .unset, .unset, .unset] [(.int (p4 &&& (7 : Int32)))]))
      refine Go.via (fun t_ k_ => XS.iconst Hj.here hx rfl (hb hby at_112) k_) ?_
      show Go _ _ _ _ (Tj.setTop (mkF m 113 #[.val (.long p1), .second, .val (.long p2), .second, .val (.long p3), .second, .val (.int p4), .val (.long (4294967295 : Int64)), .second, .val (.long (p1 &&& (4294967295 : Int64))), .second, .val (.long (p2 &&& (4294967295 : Int64))), .second, .val (.long x), .second, .val (.long y), .second, .val (.int f), .val (.int (p4 &&& (7 : Int32))), .unset, .unset, .unset, .unset, .unset, .unset, .unset] [(.int (1 : Int32)), (.int (p4 &&& (7 : Int32)))]))
      by_cases hc113 : (p4 &&& (7 : Int32)) = (1 : Int32)
      · refine Go.via (fun t_ k_ => XS.icmpNo Hj.here hx rfl (hb hby at_113) rfl ((teq hc113).2) k_) ?_
        show Go _ _ _ _ (Tj.setTop (mkF m 116 #[.val (.long p1), .second, .val (.long p2), .second, .val (.long p3), .second, .val (.int p4), .val (.long (4294967295 : Int64)), .second, .val (.long (p1 &&& (4294967295 : Int64))), .second, .val (.long (p2 &&& (4294967295 : Int64))), .second, .val (.long x), .second, .val (.long y), .second, .val (.int f), .val (.int (p4 &&& (7 : Int32))), .unset, .unset, .unset, .unset, .unset, .unset, .unset] []))
        refine Go.via (fun t_ k_ => XS.lload Hj.here hx rfl (hb hby at_116) rfl k_) ?_
        show Go _ _ _ _ (Tj.setTop (mkF m 118 #[.val (.long p1), .second, .val (.long p2), .second, .val (.long p3), .second, .val (.int p4), .val (.long (4294967295 : Int64)), .second, .val (.long (p1 &&& (4294967295 : Int64))), .second, .val (.long (p2 &&& (4294967295 : Int64))), .second, .val (.long x), .second, .val (.long y), .second, .val (.int f), .val (.int (p4 &&& (7 : Int32))), .unset, .unset, .unset, .unset, .unset, .unset, .unset] [(.long x)]))
        refine Go.via (fun t_ k_ => XS.lstore Hj.here hx rfl (hb hby at_118) rfl (l' := #[.val (.long p1), .second, .val (.long p2), .second, .val (.long p3), .second, .val (.int p4), .val (.long (4294967295 : Int64)), .second, .val (.long (p1 &&& (4294967295 : Int64))), .second, .val (.long (p2 &&& (4294967295 : Int64))), .second, .val (.long x), .second, .val (.long y), .second, .val (.int f), .val (.int (p4 &&& (7 : Int32))), .val (.long x), .second, .unset, .unset, .unset, .unset, .unset]) rfl k_) ?_
        show Go _ _ _ _ (Tj.setTop (mkF m 120 #[.val (.long p1), .second, .val (.long p2), .second, .val (.long p3), .second, .val (.int p4), .val (.long (4294967295 : Int64)), .second, .val (.long (p1 &&& (4294967295 : Int64))), .second, .val (.long (p2 &&& (4294967295 : Int64))), .second, .val (.long x), .second, .val (.long y), .second, .val (.int f), .val (.int (p4 &&& (7 : Int32))), .val (.long x), .second, .unset, .unset, .unset, .unset, .unset] []))
        refine Go.via (fun t_ k_ => XS.goto Hj.here hx rfl (pc0 := 120) (pc' := 202) rfl (hb hby at_120) (by decide) (by decide) k_) ?_
        show Go _ _ _ _ (Tj.setTop (mkF m 202 #[.val (.long p1), .second, .val (.long p2), .second, .val (.long p3), .second, .val (.int p4), .val (.long (4294967295 : Int64)), .second, .val (.long (p1 &&& (4294967295 : Int64))), .second, .val (.long (p2 &&& (4294967295 : Int64))), .second, .val (.long x), .second, .val (.long y), .second, .val (.int f), .val (.int (p4 &&& (7 : Int32))), .val (.long x), .second, .unset, .unset, .unset, .unset, .unset] []))
        exact J202 Tj x y x f (p4 &&& (7 : Int32)) Hj q1 q2 q3
      · refine Go.via (fun t_ k_ => XS.icmpYes Hj.here hx rfl (pc0 := 113) (pc' := 123) rfl (hb hby at_113) rfl ((feq hc113).2) (by decide) (by decide) k_) ?_
        show Go _ _ _ _ (Tj.setTop (mkF m 123 #[.val (.long p1), .second, .val (.long p2), .second, .val (.long p3), .second, .val (.int p4), .val (.long (4294967295 : Int64)), .second, .val (.long (p1 &&& (4294967295 : Int64))), .second, .val (.long (p2 &&& (4294967295 : Int64))), .second, .val (.long x), .second, .val (.long y), .second, .val (.int f), .val (.int (p4 &&& (7 : Int32))), .unset, .unset, .unset, .unset, .unset, .unset, .unset] []))
        refine Go.via (fun t_ k_ => XS.iload Hj.here hx rfl (hb hby at_123) rfl k_) ?_
        show Go _ _ _ _ (Tj.setTop (mkF m 125 #[.val (.long p1), .second, .val (.long p2), .second, .val (.long p3), .second, .val (.int p4), .val (.long (4294967295 : Int64)), .second, .val (.long (p1 &&& (4294967295 : Int64))), .second, .val (.long (p2 &&& (4294967295 : Int64))), .second, .val (.long x), .second, .val (.long y), .second, .val (.int f), .val (.int (p4 &&& (7 : Int32))), .unset, .unset, .unset, .unset, .unset, .unset, .unset] [(.int (p4 &&& (7 : Int32)))]))
        refine Go.via (fun t_ k_ => XS.iconst Hj.here hx rfl (hb hby at_125) k_) ?_
        show Go _ _ _ _ (Tj.setTop (mkF m 126 #[.val (.long p1), .second, .val (.long p2), .second, .val (.long p3), .second, .val (.int p4), .val (.long (4294967295 : Int64)), .second, .val (.long (p1 &&& (4294967295 : Int64))), .second, .val (.long (p2 &&& (4294967295 : Int64))), .second, .val (.long x), .second, .val (.long y), .second, .val (.int f), .val (.int (p4 &&& (7 : Int32))), .unset, .unset, .unset, .unset, .unset, .unset, .unset] [(.int (2 : Int32)), (.int (p4 &&& (7 : Int32)))]))
        by_cases hc126 : (p4 &&& (7 : Int32)) = (2 : Int32)
        · refine Go.via (fun t_ k_ => XS.icmpNo Hj.here hx rfl (hb hby at_126) rfl ((teq hc126).2) k_) ?_
          show Go _ _ _ _ (Tj.setTop (mkF m 129 #[.val (.long p1), .second, .val (.long p2), .second, .val (.long p3), .second, .val (.int p4), .val (.long (4294967295 : Int64)), .second, .val (.long (p1 &&& (4294967295 : Int64))), .second, .val (.long (p2 &&& (4294967295 : Int64))), .second, .val (.long x), .second, .val (.long y), .second, .val (.int f), .val (.int (p4 &&& (7 : Int32))), .unset, .unset, .unset, .unset, .unset, .unset, .unset] []))
          refine Go.via (fun t_ k_ => XS.lload Hj.here hx rfl (hb hby at_129) rfl k_) ?_
          show Go _ _ _ _ (Tj.setTop (mkF m 131 #[.val (.long p1), .second, .val (.long p2), .second, .val (.long p3), .second, .val (.int p4), .val (.long (4294967295 : Int64)), .second, .val (.long (p1 &&& (4294967295 : Int64))), .second, .val (.long (p2 &&& (4294967295 : Int64))), .second, .val (.long x), .second, .val (.long y), .second, .val (.int f), .val (.int (p4 &&& (7 : Int32))), .unset, .unset, .unset, .unset, .unset, .unset, .unset] [(.long x)]))
          refine Go.via (fun t_ k_ => XS.lconst Hj.here hx rfl (hb hby at_131) k_) ?_
          show Go _ _ _ _ (Tj.setTop (mkF m 132 #[.val (.long p1), .second, .val (.long p2), .second, .val (.long p3), .second, .val (.int p4), .val (.long (4294967295 : Int64)), .second, .val (.long (p1 &&& (4294967295 : Int64))), .second, .val (.long (p2 &&& (4294967295 : Int64))), .second, .val (.long x), .second, .val (.long y), .second, .val (.int f), .val (.int (p4 &&& (7 : Int32))), .unset, .unset, .unset, .unset, .unset, .unset, .unset] [(.long (1 : Int64)), (.long x)]))
          refine Go.via (fun t_ k_ => XS.lsub Hj.here hx rfl (hb hby at_132) rfl k_) ?_
          show Go _ _ _ _ (Tj.setTop (mkF m 133 #[.val (.long p1), .second, .val (.long p2), .second, .val (.long p3), .second, .val (.int p4), .val (.long (4294967295 : Int64)), .second, .val (.long (p1 &&& (4294967295 : Int64))), .second, .val (.long (p2 &&& (4294967295 : Int64))), .second, .val (.long x), .second, .val (.long y), .second, .val (.int f), .val (.int (p4 &&& (7 : Int32))), .unset, .unset, .unset, .unset, .unset, .unset, .unset] [(.long (x - (1 : Int64)))]))
          refine Go.via (fun t_ k_ => XS.lstore Hj.here hx rfl (hb hby at_133) rfl (l' := #[.val (.long p1), .second, .val (.long p2), .second, .val (.long p3), .second, .val (.int p4), .val (.long (4294967295 : Int64)), .second, .val (.long (p1 &&& (4294967295 : Int64))), .second, .val (.long (p2 &&& (4294967295 : Int64))), .second, .val (.long x), .second, .val (.long y), .second, .val (.int f), .val (.int (p4 &&& (7 : Int32))), .val (.long (x - (1 : Int64))), .second, .unset, .unset, .unset, .unset, .unset]) rfl k_) ?_
          show Go _ _ _ _ (Tj.setTop (mkF m 135 #[.val (.long p1), .second, .val (.long p2), .second, .val (.long p3), .second, .val (.int p4), .val (.long (4294967295 : Int64)), .second, .val (.long (p1 &&& (4294967295 : Int64))), .second, .val (.long (p2 &&& (4294967295 : Int64))), .second, .val (.long x), .second, .val (.long y), .second, .val (.int f), .val (.int (p4 &&& (7 : Int32))), .val (.long (x - (1 : Int64))), .second, .unset, .unset, .unset, .unset, .unset] []))
          refine Go.via (fun t_ k_ => XS.goto Hj.here hx rfl (pc0 := 135) (pc' := 202) rfl (hb hby at_135) (by decide) (by decide) k_) ?_
          show Go _ _ _ _ (Tj.setTop (mkF m 202 #[.val (.long p1), .second, .val (.long p2), .second, .val (.long p3), .second, .val (.int p4), .val (.long (4294967295 : Int64)), .second, .val (.long (p1 &&& (4294967295 : Int64))), .second, .val (.long (p2 &&& (4294967295 : Int64))), .second, .val (.long x), .second, .val (.long y), .second, .val (.int f), .val (.int (p4 &&& (7 : Int32))), .val (.long (x - (1 : Int64))), .second, .unset, .unset, .unset, .unset, .unset] []))
          exact J202 Tj x y (x - (1 : Int64)) f (p4 &&& (7 : Int32)) Hj q1 q2 q3
        · refine Go.via (fun t_ k_ => XS.icmpYes Hj.here hx rfl (pc0 := 126) (pc' := 138) rfl (hb hby at_126) rfl ((feq hc126).2) (by decide) (by decide) k_) ?_
          show Go _ _ _ _ (Tj.setTop (mkF m 138 #[.val (.long p1), .second, .val (.long p2), .second, .val (.long p3), .second, .val (.int p4), .val (.long (4294967295 : Int64)), .second, .val (.long (p1 &&& (4294967295 : Int64))), .second, .val (.long (p2 &&& (4294967295 : Int64))), .second, .val (.long x), .second, .val (.long y), .second, .val (.int f), .val (.int (p4 &&& (7 : Int32))), .unset, .unset, .unset, .unset, .unset, .unset, .unset] []))
          refine Go.via (fun t_ k_ => XS.iload Hj.here hx rfl (hb hby at_138) rfl k_) ?_
          show Go _ _ _ _ (Tj.setTop (mkF m 140 #[.val (.long p1), .second, .val (.long p2), .second, .val (.long p3), .second, .val (.int p4), .val (.long (4294967295 : Int64)), .second, .val (.long (p1 &&& (4294967295 : Int64))), .second, .val (.long (p2 &&& (4294967295 : Int64))), .second, .val (.long x), .second, .val (.long y), .second, .val (.int f), .val (.int (p4 &&& (7 : Int32))), .unset, .unset, .unset, .unset, .unset, .unset, .unset] [(.int (p4 &&& (7 : Int32)))]))
          refine Go.via (fun t_ k_ => XS.iconst Hj.here hx rfl (hb hby at_140) k_) ?_
          show Go _ _ _ _ (Tj.setTop (mkF m 141 #[.val (.long p1), .second, .val (.long p2), .second, .val (.long p3), .second, .val (.int p4), .val (.long (4294967295 : Int64)), .second, .val (.long (p1 &&& (4294967295 : Int64))), .second, .val (.long (p2 &&& (4294967295 : Int64))), .second, .val (.long x), .second, .val (.long y), .second, .val (.int f), .val (.int (p4 &&& (7 : Int32))), .unset, .unset, .unset, .unset, .unset, .unset, .unset] [(.int (3 : Int32)), (.int (p4 &&& (7 : Int32)))]))
          by_cases hc141 : (p4 &&& (7 : Int32)) = (3 : Int32)
          · refine Go.via (fun t_ k_ => XS.icmpNo Hj.here hx rfl (hb hby at_141) rfl ((teq hc141).2) k_) ?_
            show Go _ _ _ _ (Tj.setTop (mkF m 144 #[.val (.long p1), .second, .val (.long p2), .second, .val (.long p3), .second, .val (.int p4), .val (.long (4294967295 : Int64)), .second, .val (.long (p1 &&& (4294967295 : Int64))), .second, .val (.long (p2 &&& (4294967295 : Int64))), .second, .val (.long x), .second, .val (.long y), .second, .val (.int f), .val (.int (p4 &&& (7 : Int32))), .unset, .unset, .unset, .unset, .unset, .unset, .unset] []))
            refine Go.via (fun t_ k_ => XS.lload Hj.here hx rfl (hb hby at_144) rfl k_) ?_
            show Go _ _ _ _ (Tj.setTop (mkF m 146 #[.val (.long p1), .second, .val (.long p2), .second, .val (.long p3), .second, .val (.int p4), .val (.long (4294967295 : Int64)), .second, .val (.long (p1 &&& (4294967295 : Int64))), .second, .val (.long (p2 &&& (4294967295 : Int64))), .second, .val (.long x), .second, .val (.long y), .second, .val (.int f), .val (.int (p4 &&& (7 : Int32))), .unset, .unset, .unset, .unset, .unset, .unset, .unset] [(.long y)]))
            refine Go.via (fun t_ k_ => XS.lstore Hj.here hx rfl (hb hby at_146) rfl (l' := #[.val (.long p1), .second, .val (.long p2), .second, .val (.long p3), .second, .val (.int p4), .val (.long (4294967295 : Int64)), .second, .val (.long (p1 &&& (4294967295 : Int64))), .second, .val (.long (p2 &&& (4294967295 : Int64))), .second, .val (.long x), .second, .val (.long y), .second, .val (.int f), .val (.int (p4 &&& (7 : Int32))), .val (.long y), .second, .unset, .unset, .unset, .unset, .unset]) rfl k_) ?_
            show Go _ _ _ _ (Tj.setTop (mkF m 148 #[.val (.long p1), .second, .val (.long p2), .second, .val (.long p3), .second, .val (.int p4), .val (.long (4294967295 : Int64)), .second, .val (.long (p1 &&& (4294967295 : Int64))), .second, .val (.long (p2 &&& (4294967295 : Int64))), .second, .val (.long x), .second, .val (.long y), .second, .val (.int f), .val (.int (p4 &&& (7 : Int32))), .val (.long y), .second, .unset, .unset, .unset, .unset, .unset] []))
            refine Go.via (fun t_ k_ => XS.goto Hj.here hx rfl (pc0 := 148) (pc' := 202) rfl (hb hby at_148) (by decide) (by decide) k_) ?_
            show Go _ _ _ _ (Tj.setTop (mkF m 202 #[.val (.long p1), .second, .val (.long p2), .second, .val (.long p3), .second, .val (.int p4), .val (.long (4294967295 : Int64)), .second, .val (.long (p1 &&& (4294967295 : Int64))), .second, .val (.long (p2 &&& (4294967295 : Int64))), .second, .val (.long x), .second, .val (.long y), .second, .val (.int f), .val (.int (p4 &&& (7 : Int32))), .val (.long y), .second, .unset, .unset, .unset, .unset, .unset] []))
            exact J202 Tj x y y f (p4 &&& (7 : Int32)) Hj q1 q2 q3
          · refine Go.via (fun t_ k_ => XS.icmpYes Hj.here hx rfl (pc0 := 141) (pc' := 151) rfl (hb hby at_141) rfl ((feq hc141).2) (by decide) (by decide) k_) ?_
            show Go _ _ _ _ (Tj.setTop (mkF m 151 #[.val (.long p1), .second, .val (.long p2), .second, .val (.long p3), .second, .val (.int p4), .val (.long (4294967295 : Int64)), .second, .val (.long (p1 &&& (4294967295 : Int64))), .second, .val (.long (p2 &&& (4294967295 : Int64))), .second, .val (.long x), .second, .val (.long y), .second, .val (.int f), .val (.int (p4 &&& (7 : Int32))), .unset, .unset, .unset, .unset, .unset, .unset, .unset] []))
            refine Go.via (fun t_ k_ => XS.iload Hj.here hx rfl (hb hby at_151) rfl k_) ?_
            show Go _ _ _ _ (Tj.setTop (mkF m 153 #[.val (.long p1), .second, .val (.long p2), .second, .val (.long p3), .second, .val (.int p4), .val (.long (4294967295 : Int64)), .second, .val (.long (p1 &&& (4294967295 : Int64))), .second, .val (.long (p2 &&& (4294967295 : Int64))), .second, .val (.long x), .second, .val (.long y), .second, .val (.int f), .val (.int (p4 &&& (7 : Int32))), .unset, .unset, .unset, .unset, .unset, .unset, .unset] [(.int (p4 &&& (7 : Int32)))]))
            refine Go.via (fun t_ k_ => XS.iconst Hj.here hx rfl (hb hby at_153) k_) ?_
            show Go _ _ _ _ (Tj.setTop (mkF m 154 #[.val (.long p1), .second, .val (.long p2), .second, .val (.long p3), .second, .val (.int p4), .val (.long (4294967295 : Int64)), .second, .val (.long (p1 &&& (4294967295 : Int64))), .second, .val (.long (p2 &&& (4294967295 : Int64))), .second, .val (.long x), .second, .val (.long y), .second, .val (.int f), .val (.int (p4 &&& (7 : Int32))), .unset, .unset, .unset, .unset, .unset, .unset, .unset] [(.int (4 : Int32)), (.int (p4 &&& (7 : Int32)))]))
            by_cases hc154 : (p4 &&& (7 : Int32)) = (4 : Int32)
            · refine Go.via (fun t_ k_ => XS.icmpNo Hj.here hx rfl (hb hby at_154) rfl ((teq hc154).2) k_) ?_
              show Go _ _ _ _ (Tj.setTop (mkF m 157 #[.val (.long p1), .second, .val (.long p2), .second, .val (.long p3), .second, .val (.int p4), .val (.long (4294967295 : Int64)), .second, .val (.long (p1 &&& (4294967295 : Int64))), .second, .val (.long (p2 &&& (4294967295 : Int64))), .second, .val (.long x), .second, .val (.long y), .second, .val (.int f), .val (.int (p4 &&& (7 : Int32))), .unset, .unset, .unset, .unset, .unset, .unset, .unset] []))
              refine Go.via (fun t_ k_ => XS.lload Hj.here hx rfl (hb hby at_157) rfl k_) ?_
              show Go _ _ _ _ (Tj.setTop (mkF m 159 #[.val (.long p1), .second, .val (.long p2), .second, .val (.long p3), .second, .val (.int p4), .val (.long (4294967295 : Int64)), .second, .val (.long (p1 &&& (4294967295 : Int64))), .second, .val (.long (p2 &&& (4294967295 : Int64))), .second, .val (.long x), .second, .val (.long y), .second, .val (.int f), .val (.int (p4 &&& (7 : Int32))), .unset, .unset, .unset, .unset, .unset, .unset, .unset] [(.long y)]))
              refine Go.via (fun t_ k_ => XS.lconst Hj.here hx rfl (hb hby at_159) k_) ?_
              show Go _ _ _ _ (Tj.setTop (mkF m 160 #[.val (.long p1), .second, .val (.long p2), .second, .val (.long p3), .second, .val (.int p4), .val (.long (4294967295 : Int64)), .second, .val (.long (p1 &&& (4294967295 : Int64))), .second, .val (.long (p2 &&& (4294967295 : Int64))), .second, .val (.long x), .second, .val (.long y), .second, .val (.int f), .val (.int (p4 &&& (7 : Int32))), .unset, .unset, .unset, .unset, .unset, .unset, .unset] [(.long (1 : Int64)), (.long y)]))
              refine Go.via (fun t_ k_ => XS.lsub Hj.here hx rfl (hb hby at_160) rfl k_) ?_
              show Go _ _ _ _ (Tj.setTop (mkF m 161 #[.val (.long p1), .second, .val (.long p2), .second, .val (.long p3), .second, .val (.int p4), .val (.long (4294967295 : Int64)), .second, .val (.long (p1 &&& (4294967295 : Int64))), .second, .val (.long (p2 &&& (4294967295 : Int64))), .second, .val (.long x), .second, .val (.long y), .second, .val (.int f), .val (.int (p4 &&& (7 : Int32))), .unset, .unset, .unset, .unset, .unset, .unset, .unset] [(.long (y - (1 : Int64)))]))
              refine Go.via (fun t_ k_ => XS.lstore Hj.here hx rfl (hb hby at_161) rfl (l' := #[.val (.long p1), .second, .val (.long p2), .second, .val (.long p3), .second, .val (.int p4), .val (.long (4294967295 : Int64)), .second, .val (.long (p1 &&& (4294967295 : Int64))), .second, .val (.long (p2 &&& (4294967295 : Int64))), .second, .val (.long x), .second, .val (.long y), .second, .val (.int f), .val (.int (p4 &&& (7 : Int32))), .val (.long (y - (1 : Int64))), .second, .unset, .unset, .unset, .unset, .unset]) rfl k_) ?_
              show Go _ _ _ _ (Tj.setTop (mkF m 163 #[.val (.long p1), .second, .val (.long p2), .second, .val (.long p3), .second, .val (.int p4), .val (.long (4294967295 : Int64)), .second, .val (.long (p1 &&& (4294967295 : Int64))), .second, .val (.long (p2 &&& (4294967295 : Int64))), .second, .val (.long x), .second, .val (.long y), .second, .val (.int f), .val (.int (p4 &&& (7 : Int32))), .val (.long (y - (1 : Int64))), .second, .unset, .unset, .unset, .unset, .unset] []))
              refine Go.via (fun t_ k_ => XS.goto Hj.here hx rfl (pc0 := 163) (pc' := 202) rfl (hb hby at_163) (by decide) (by decide) k_) ?_
              show Go _ _ _ _ (Tj.setTop (mkF m 202 #[.val (.long p1), .second, .val (.long p2), .second, .val (.long p3), .second, .val (.int p4), .val (.long (4294967295 : Int64)), .second, .val (.long (p1 &&& (4294967295 : Int64))), .second, .val (.long (p2 &&& (4294967295 : Int64))), .second, .val (.long x), .second, .val (.long y), .second, .val (.int f), .val (.int (p4 &&& (7 : Int32))), .val (.long (y - (1 : Int64))), .second, .unset, .unset, .unset, .unset, .unset] []))
              exact J202 Tj x y (y - (1 : Int64)) f (p4 &&& (7 : Int32)) Hj q1 q2 q3
            · refine Go.via (fun t_ k_ => XS.icmpYes Hj.here hx rfl (pc0 := 154) (pc' := 166) rfl (hb hby at_154) rfl ((feq hc154).2) (by decide) (by decide) k_) ?_
              show Go _ _ _ _ (Tj.setTop (mkF m 166 #[.val (.long p1), .second, .val (.long p2), .second, .val (.long p3), .second, .val (.int p4), .val (.long (4294967295 : Int64)), .second, .val (.long (p1 &&& (4294967295 : Int64))), .second, .val (.long (p2 &&& (4294967295 : Int64))), .second, .val (.long x), .second, .val (.long y), .second, .val (.int f), .val (.int (p4 &&& (7 : Int32))), .unset, .unset, .unset, .unset, .unset, .unset, .unset] []))
              refine Go.via (fun t_ k_ => XS.iload Hj.here hx rfl (hb hby at_166) rfl k_) ?_
              show Go _ _ _ _ (Tj.setTop (mkF m 168 #[.val (.long p1), .second, .val (.long p2), .second, .val (.long p3), .second, .val (.int p4), .val (.long (4294967295 : Int64)), .second, .val (.long (p1 &&& (4294967295 : Int64))), .second, .val (.long (p2 &&& (4294967295 : Int64))), .second, .val (.long x), .second, .val (.long y), .second, .val (.int f), .val (.int (p4 &&& (7 : Int32))), .unset, .unset, .unset, .unset, .unset, .unset, .unset] [(.int (p4 &&& (7 : Int32)))]))
              refine Go.via (fun t_ k_ => XS.iconst Hj.here hx rfl (hb hby at_168) k_) ?_
              show Go _ _ _ _ (Tj.setTop (mkF m 169 #[.val (.long p1), .second, .val (.long p2), .second, .val (.long p3), .second, .val (.int p4), .val (.long (4294967295 : Int64)), .second, .val (.long (p1 &&& (4294967295 : Int64))), .second, .val (.long (p2 &&& (4294967295 : Int64))), .second, .val (.long x), .second, .val (.long y), .second, .val (.int f), .val (.int (p4 &&& (7 : Int32))), .unset, .unset, .unset, .unset, .unset, .unset, .unset] [(.int (5 : Int32)), (.int (p4 &&& (7 : Int32)))]))
              by_cases hc169 : (p4 &&& (7 : Int32)) = (5 : Int32)
              · refine Go.via (fun t_ k_ => XS.icmpNo Hj.here hx rfl (hb hby at_169) rfl ((teq hc169).2) k_) ?_
                show Go _ _ _ _ (Tj.setTop (mkF m 172 #[.val (.long p1), .second, .val (.long p2), .second, .val (.long p3), .second, .val (.int p4), .val (.long (4294967295 : Int64)), .second, .val (.long (p1 &&& (4294967295 : Int64))), .second, .val (.long (p2 &&& (4294967295 : Int64))), .second, .val (.long x), .second, .val (.long y), .second, .val (.int f), .val (.int (p4 &&& (7 : Int32))), .unset, .unset, .unset, .unset, .unset, .unset, .unset] []))
                refine Go.via (fun t_ k_ => XS.lload Hj.here hx rfl (hb hby at_172) rfl k_) ?_
                show Go _ _ _ _ (Tj.setTop (mkF m 174 #[.val (.long p1), .second, .val (.long p2), .second, .val (.long p3), .second, .val (.int p4), .val (.long (4294967295 : Int64)), .second, .val (.long (p1 &&& (4294967295 : Int64))), .second, .val (.long (p2 &&& (4294967295 : Int64))), .second, .val (.long x), .second, .val (.long y), .second, .val (.int f), .val (.int (p4 &&& (7 : Int32))), .unset, .unset, .unset, .unset, .unset, .unset, .unset] [(.long (4294967295 : Int64))]))
                refine Go.via (fun t_ k_ => XS.lstore Hj.here hx rfl (hb hby at_174) rfl (l' := #[.val (.long p1), .second, .val (.long p2), .second, .val (.long p3), .second, .val (.int p4), .val (.long (4294967295 : Int64)), .second, .val (.long (p1 &&& (4294967295 : Int64))), .second, .val (.long (p2 &&& (4294967295 : Int64))), .second, .val (.long x), .second, .val (.long y), .second, .val (.int f), .val (.int (p4 &&& (7 : Int32))), .val (.long (4294967295 : Int64)), .second, .unset, .unset, .unset, .unset, .unset]) rfl k_) ?_
                show Go _ _ _ _ (Tj.setTop (mkF m 176 #[.val (.long p1), .second, .val (.long p2), .second, .val (.long p3), .second, .val (.int p4), .val (.long (4294967295 : Int64)), .second, .val (.long (p1 &&& (4294967295 : Int64))), .second, .val (.long (p2 &&& (4294967295 : Int64))), .second, .val (.long x), .second, .val (.long y), .second, .val (.int f), .val (.int (p4 &&& (7 : Int32))), .val (.long (4294967295 : Int64)), .second, .unset, .unset, .unset, .unset, .unset] []))
                refine Go.via (fun t_ k_ => XS.goto Hj.here hx rfl (pc0 := 176) (pc' := 202) rfl (hb hby at_176) (by decide) (by decide) k_) ?_
                show Go _ _ _ _ (Tj.setTop (mkF m 202 #[.val (.long p1), .second, .val (.long p2), .second, .val (.long p3), .second, .val (.int p4), .val (.long (4294967295 : Int64)), .second, .val (.long (p1 &&& (4294967295 : Int64))), .second, .val (.long (p2 &&& (4294967295 : Int64))), .second, .val (.long x), .second, .val (.long y), .second, .val (.int f), .val (.int (p4 &&& (7 : Int32))), .val (.long (4294967295 : Int64)), .second, .unset, .unset, .unset, .unset, .unset] []))
                exact J202 Tj x y (4294967295 : Int64) f (p4 &&& (7 : Int32)) Hj q1 q2 q3
              · refine Go.via (fun t_ k_ => XS.icmpYes Hj.here hx rfl (pc0 := 169) (pc' := 179) rfl (hb hby at_169) rfl ((feq hc169).2) (by decide) (by decide) k_) ?_
                show Go _ _ _ _ (Tj.setTop (mkF m 179 #[.val (.long p1), .second, .val (.long p2), .second, .val (.long p3), .second, .val (.int p4), .val (.long (4294967295 : Int64)), .second, .val (.long (p1 &&& (4294967295 : Int64))), .second, .val (.long (p2 &&& (4294967295 : Int64))), .second, .val (.long x), .second, .val (.long y), .second, .val (.int f), .val (.int (p4 &&& (7 : Int32))), .unset, .unset, .unset, .unset, .unset, .unset, .unset] []))
                refine Go.via (fun t_ k_ => XS.iload Hj.here hx rfl (hb hby at_179) rfl k_) ?_
                show Go _ _ _ _ (Tj.setTop (mkF m 181 #[.val (.long p1), .second, .val (.long p2), .second, .val (.long p3), .second, .val (.int p4), .val (.long (4294967295 : Int64)), .second, .val (.long (p1 &&& (4294967295 : Int64))), .second, .val (.long (p2 &&& (4294967295 : Int64))), .second, .val (.long x), .second, .val (.long y), .second, .val (.int f), .val (.int (p4 &&& (7 : Int32))), .unset, .unset, .unset, .unset, .unset, .unset, .unset] [(.int (p4 &&& (7 : Int32)))]))
                refine Go.via (fun t_ k_ => XS.bipush Hj.here hx rfl (hb hby at_181) k_) ?_
                show Go _ _ _ _ (Tj.setTop (mkF m 183 #[.val (.long p1), .second, .val (.long p2), .second, .val (.long p3), .second, .val (.int p4), .val (.long (4294967295 : Int64)), .second, .val (.long (p1 &&& (4294967295 : Int64))), .second, .val (.long (p2 &&& (4294967295 : Int64))), .second, .val (.long x), .second, .val (.long y), .second, .val (.int f), .val (.int (p4 &&& (7 : Int32))), .unset, .unset, .unset, .unset, .unset, .unset, .unset] [(.int (6 : Int32)), (.int (p4 &&& (7 : Int32)))]))
                by_cases hc183 : (p4 &&& (7 : Int32)) = (6 : Int32)
                · refine Go.via (fun t_ k_ => XS.icmpNo Hj.here hx rfl (hb hby at_183) rfl ((teq hc183).2) k_) ?_
                  show Go _ _ _ _ (Tj.setTop (mkF m 186 #[.val (.long p1), .second, .val (.long p2), .second, .val (.long p3), .second, .val (.int p4), .val (.long (4294967295 : Int64)), .second, .val (.long (p1 &&& (4294967295 : Int64))), .second, .val (.long (p2 &&& (4294967295 : Int64))), .second, .val (.long x), .second, .val (.long y), .second, .val (.int f), .val (.int (p4 &&& (7 : Int32))), .unset, .unset, .unset, .unset, .unset, .unset, .unset] []))
                  refine Go.via (fun t_ k_ => XS.lload Hj.here hx rfl (hb hby at_186) rfl k_) ?_
                  show Go _ _ _ _ (Tj.setTop (mkF m 188 #[.val (.long p1), .second, .val (.long p2), .second, .val (.long p3), .second, .val (.int p4), .val (.long (4294967295 : Int64)), .second, .val (.long (p1 &&& (4294967295 : Int64))), .second, .val (.long (p2 &&& (4294967295 : Int64))), .second, .val (.long x), .second, .val (.long y), .second, .val (.int f), .val (.int (p4 &&& (7 : Int32))), .unset, .unset, .unset, .unset, .unset, .unset, .unset] [(.long (4294967295 : Int64))]))
                  refine Go.via (fun t_ k_ => XS.lconst Hj.here hx rfl (hb hby at_188) k_) ?_
                  show Go _ _ _ _ (Tj.setTop (mkF m 189 #[.val (.long p1), .second, .val (.long p2), .second, .val (.long p3), .second, .val (.int p4), .val (.long (4294967295 : Int64)), .second, .val (.long (p1 &&& (4294967295 : Int64))), .second, .val (.long (p2 &&& (4294967295 : Int64))), .second, .val (.long x), .second, .val (.long y), .second, .val (.int f), .val (.int (p4 &&& (7 : Int32))), .unset, .unset, .unset, .unset, .unset, .unset, .unset] [(.long (1 : Int64)), (.long (4294967295 : Int64))]))
                  refine Go.via (fun t_ k_ => XS.ladd Hj.here hx rfl (hb hby at_189) rfl k_) ?_
                  show Go _ _ _ _ (Tj.setTop (mkF m 190 #[.val (.long p1), .second, .val (.long p2), .second, .val (.long p3), .second, .val (.int p4), .val (.long (4294967295 : Int64)), .second, .val (.long (p1 &&& (4294967295 : Int64))), .second, .val (.long (p2 &&& (4294967295 : Int64))), .second, .val (.long x), .second, .val (.long y), .second, .val (.int f), .val (.int (p4 &&& (7 : Int32))), .unset, .unset, .unset, .unset, .unset, .unset, .unset] [(.long ((4294967295 : Int64) + (1 : Int64)))]))
                  refine Go.via (fun t_ k_ => XS.lstore Hj.here hx rfl (hb hby at_190) rfl (l' := #[.val (.long p1), .second, .val (.long p2), .second, .val (.long p3), .second, .val (.int p4), .val (.long (4294967295 : Int64)), .second, .val (.long (p1 &&& (4294967295 : Int64))), .second, .val (.long (p2 &&& (4294967295 : Int64))), .second, .val (.long x), .second, .val (.long y), .second, .val (.int f), .val (.int (p4 &&& (7 : Int32))), .val (.long ((4294967295 : Int64) + (1 : Int64))), .second, .unset, .unset, .unset, .unset, .unset]) rfl k_) ?_
                  show Go _ _ _ _ (Tj.setTop (mkF m 192 #[.val (.long p1), .second, .val (.long p2), .second, .val (.long p3), .second, .val (.int p4), .val (.long (4294967295 : Int64)), .second, .val (.long (p1 &&& (4294967295 : Int64))), .second, .val (.long (p2 &&& (4294967295 : Int64))), .second, .val (.long x), .second, .val (.long y), .second, .val (.int f), .val (.int (p4 &&& (7 : Int32))), .val (.long ((4294967295 : Int64) + (1 : Int64))), .second, .unset, .unset, .unset, .unset, .unset] []))
                  refine Go.via (fun t_ k_ => XS.goto Hj.here hx rfl (pc0 := 192) (pc' := 202) rfl (hb hby at_192) (by decide) (by decide) k_) ?_
                  show Go _ _ _ _ (Tj.setTop (mkF m 202 #[.val (.long p1), .second, .val (.long p2), .second, .val (.long p3), .second, .val (.int p4), .val (.long (4294967295 : Int64)), .second, .val (.long (p1 &&& (4294967295 : Int64))), .second, .val (.long (p2 &&& (4294967295 : Int64))), .second, .val (.long x), .second, .val (.long y), .second, .val (.int f), .val (.int (p4 &&& (7 : Int32))), .val (.long ((4294967295 : Int64) + (1 : Int64))), .second, .unset, .unset, .unset, .unset, .unset] []))
                  exact J202 Tj x y ((4294967295 : Int64) + (1 : Int64)) f (p4 &&& (7 : Int32)) Hj q1 q2 q3
                · refine Go.via (fun t_ k_ => XS.icmpYes Hj.here hx rfl (pc0 := 183) (pc' := 195) rfl (hb hby at_183) rfl ((feq hc183).2) (by decide) (by decide) k_) ?_
                  show Go _ _ _ _ (Tj.setTop (mkF m 195 #[.val (.long p1), .second, .val (.long p2), .second, .val (.long p3), .second, .val (.int p4), .val (.long (4294967295 : Int64)), .second, .val (.long (p1 &&& (4294967295 : Int64))), .second, .val (.long (p2 &&& (4294967295 : Int64))), .second, .val (.long x), .second, .val (.long y), .second, .val (.int f), .val (.int (p4 &&& (7 : Int32))), .unset, .unset, .unset, .unset, .unset, .unset, .unset] []))
                  refine Go.via (fun t_ k_ => XS.lload Hj.here hx rfl (hb hby at_195) rfl k_) ?_
                  show Go _ _ _ _ (Tj.setTop (mkF m 197 #[.val (.long p1), .second, .val (.long p2), .second, .val (.long p3), .second, .val (.int p4), .val (.long (4294967295 : Int64)), .second, .val (.long (p1 &&& (4294967295 : Int64))), .second, .val (.long (p2 &&& (4294967295 : Int64))), .second, .val (.long x), .second, .val (.long y), .second, .val (.int f), .val (.int (p4 &&& (7 : Int32))), .unset, .unset, .unset, .unset, .unset, .unset, .unset] [(.long p3)]))
                  refine Go.via (fun t_ k_ => XS.lload Hj.here hx rfl (hb hby at_197) rfl k_) ?_
                  show Go _ _ _ _ (Tj.setTop (mkF m 199 #[.val (.long p1), .second, .val (.long p2), .second, .val (.long p3), .second, .val (.int p4), .val (.long (4294967295 : Int64)), .second, .val (.long (p1 &&& (4294967295 : Int64))), .second, .val (.long (p2 &&& (4294967295 : Int64))), .second, .val (.long x), .second, .val (.long y), .second, .val (.int f), .val (.int (p4 &&& (7 : Int32))), .unset, .unset, .unset, .unset, .unset, .unset, .unset] [(.long (4294967295 : Int64)), (.long p3)]))
                  refine Go.via (fun t_ k_ => XS.land Hj.here hx rfl (hb hby at_199) rfl k_) ?_
                  show Go _ _ _ _ (Tj.setTop (mkF m 200 #[.val (.long p1), .second, .val (.long p2), .second, .val (.long p3), .second, .val (.int p4), .val (.long (4294967295 : Int64)), .second, .val (.long (p1 &&& (4294967295 : Int64))), .second, .val (.long (p2 &&& (4294967295 : Int64))), .second, .val (.long x), .second, .val (.long y), .second, .val (.int f), .val (.int (p4 &&& (7 : Int32))), .unset, .unset, .unset, .unset, .unset, .unset, .unset] [(.long (p3 &&& (4294967295 : Int64)))]))
                  refine Go.via (fun t_ k_ => XS.lstore Hj.here hx rfl (hb hby at_200) rfl (l' := #[.val (.long p1), .second, .val (.long p2), .second, .val (.long p3), .second, .val (.int p4), .val (.long (4294967295 : Int64)), .second, .val (.long (p1 &&& (4294967295 : Int64))), .second, .val (.long (p2 &&& (4294967295 : Int64))), .second, .val (.long x), .second, .val (.long y), .second, .val (.int f), .val (.int (p4 &&& (7 : Int32))), .val (.long (p3 &&& (4294967295 : Int64))), .second, .unset, .unset, .unset, .unset, .unset]) rfl k_) ?_
                  show Go _ _ _ _ (Tj.setTop (mkF m 202 #[.val (.long p1), .second, .val (.long p2), .second, .val (.long p3), .second, .val (.int p4), .val (.long (4294967295 : Int64)), .second, .val (.long (p1 &&& (4294967295 : Int64))), .second, .val (.long (p2 &&& (4294967295 : Int64))), .second, .val (.long x), .second, .val (.long y), .second, .val (.int f), .val (.int (p4 &&& (7 : Int32))), .val (.long (p3 &&& (4294967295 : Int64))), .second, .unset, .unset, .unset, .unset, .unset] []))
                  exact J202 Tj x y (p3 &&& (4294967295 : Int64)) f (p4 &&& (7 : Int32)) Hj q1 q2 q3
  show Go _ _ _ _ (T0.setTop (mkF m 0 #[.val (.long p1), .second, .val (.long p2), .second, .val (.long p3), .second, .val (.int p4), .unset, .unset, .unset, .unset, .unset, .unset, .unset, .unset, .unset, .unset, .unset, .unset, .unset, .unset, .unset, .unset, .unset, .unset, .unset] []))
  refine own_ldcL H0 hx hZ hown (hw _ (List.mem_of_getElem? (i := 0) rfl)) (g := (mkF m 0 #[.val (.long p1), .second, .val (.long p2), .second, .val (.long p3), .second, .val (.int p4), .unset, .unset, .unset, .unset, .unset, .unset, .unset, .unset, .unset, .unset, .unset, .unset, .unset, .unset, .unset, .unset, .unset, .unset, .unset] [])) rfl (hb hby at_0) ?_
  show Go _ _ _ _ (T0.setTop (mkF m 3 #[.val (.long p1), .second, .val (.long p2), .second, .val (.long p3), .second, .val (.int p4), .unset, .unset, .unset, .unset, .unset, .unset, .unset, .unset, .unset, .unset, .unset, .unset, .unset, .unset, .unset, .unset, .unset, .unset, .unset] [(.long (4294967295 : Int64))]))
  refine Go.via (fun t_ k_ => XS.lstore H0.here hx rfl (hb hby at_3) rfl (l' := #[.val (.long p1), .second, .val (.long p2), .second, .val (.long p3), .second, .val (.int p4), .val (.long (4294967295 : Int64)), .second, .unset, .unset, .unset, .unset, .unset, .unset, .unset, .unset, .unset, .unset, .unset, .unset, .unset, .unset, .unset, .unset, .unset]) rfl k_) ?_
  show Go _ _ _ _ (T0.setTop (mkF m 5 #[.val (.long p1), .second, .val (.long p2), .second, .val (.long p3), .second, .val (.int p4), .val (.long (4294967295 : Int64)), .second, .unset, .unset, .unset, .unset, .unset, .unset, .unset, .unset, .unset, .unset, .unset, .unset, .unset, .unset, .unset, .unset, .unset] []))
  refine Go.via (fun t_ k_ => XS.lloadN H0.here hx rfl (hb hby at_5) rfl k_) ?_
  show Go _ _ _ _ (T0.setTop (mkF m 6 #[.val (.long p1), .second, .val (.long p2), .second, .val (.long p3), .second, .val (.int p4), .val (.long (4294967295 : Int64)), .second, .unset, .unset, .unset, .unset, .unset, .unset, .unset, .unset, .unset, .unset, .unset, .unset, .unset, .unset, .unset, .unset, .unset] [(.long p1)]))
  refine Go.via (fun t_ k_ => XS.lload H0.here hx rfl (hb hby at_6) rfl k_) ?_
  show Go _ _ _ _ (T0.setTop (mkF m 8 #[.val (.long p1), .second, .val (.long p2), .second, .val (.long p3), .second, .val (.int p4), .val (.long (4294967295 : Int64)), .second, .unset, .unset, .unset, .unset, .unset, .unset, .unset, .unset, .unset, .unset, .unset, .unset, .unset, .unset, .unset, .unset, .unset] [(.long (4294967295 : Int64)), (.long p1)]))
  refine Go.via (fun t_ k_ => XS.land H0.here hx rfl (hb hby at_8) rfl k_) ?_
  show Go _ _ _ _ (T0.setTop (mkF m 9 #[.val (.long p1), .second, .val (.long p2), .second, .val (.long p3), .second, .val (.int p4), .val (.long (4294967295 : Int64)), .second, .unset, .unset, .unset, .unset, .unset, .unset, .unset, .unset, .unset, .unset, .unset, .unset, .unset, .unset, .unset, .unset, .unset] [(.long (p1 &&& (4294967295 : Int64)))]))
  refine Go.via (fun t_ k_ => XS.lstore H0.here hx rfl (hb hby at_9) rfl (l' := #[.val (.long p1), .second, .val (.long p2), .second, .val (.long p3), .second, .val (.int p4), .val (.long (4294967295 : Int64)), .second, .val (.long (p1 &&& (4294967295 : Int64))), .second, .unset, .unset, .unset, .unset, .unset, .unset, .unset, .unset, .unset, .unset, .unset, .unset, .unset, .unset, .unset]) rfl k_) ?_
  show Go _ _ _ _ (T0.setTop (mkF m 11 #[.val (.long p1), .second, .val (.long p2), .second, .val (.long p3), .second, .val (.int p4), .val (.long (4294967295 : Int64)), .second, .val (.long (p1 &&& (4294967295 : Int64))), .second, .unset, .unset, .unset, .unset, .unset, .unset, .unset, .unset, .unset, .unset, .unset, .unset, .unset, .unset, .unset] []))
  refine Go.via (fun t_ k_ => XS.lloadN H0.here hx rfl (hb hby at_11) rfl k_) ?_
  show Go _ _ _ _ (T0.setTop (mkF m 12 #[.val (.long p1), .second, .val (.long p2), .second, .val (.long p3), .second, .val (.int p4), .val (.long (4294967295 : Int64)), .second, .val (.long (p1 &&& (4294967295 : Int64))), .second, .unset, .unset, .unset, .unset, .unset, .unset, .unset, .unset, .unset, .unset, .unset, .unset, .unset, .unset, .unset] [(.long p2)]))
  refine Go.via (fun t_ k_ => XS.lload H0.here hx rfl (hb hby at_12) rfl k_) ?_
  show Go _ _ _ _ (T0.setTop (mkF m 14 #[.val (.long p1), .second, .val (.long p2), .second, .val (.long p3), .second, .val (.int p4), .val (.long (4294967295 : Int64)), .second, .val (.long (p1 &&& (4294967295 : Int64))), .second, .unset, .unset, .unset, .unset, .unset, .unset, .unset, .unset, .unset, .unset, .unset, .unset, .unset, .unset, .unset] [(.long (4294967295 : Int64)), (.long p2)]))
  refine Go.via (fun t_ k_ => XS.land H0.here hx rfl (hb hby at_14) rfl k_) ?_
  show Go _ _ _ _ (T0.setTop (mkF m 15 #[.val (.long p1), .second, .val (.long p2), .second, .val (.long p3), .second, .val (.int p4), .val (.long (4294967295 : Int64)), .second, .val (.long (p1 &&& (4294967295 : Int64))), .second, .unset, .unset, .unset, .unset, .unset, .unset, .unset, .unset, .unset, .unset, .unset, .unset, .unset, .unset, .unset] [(.long (p2 &&& (4294967295 : Int64)))]))
  refine Go.via (fun t_ k_ => XS.lstore H0.here hx rfl (hb hby at_15) rfl (l' := #[.val (.long p1), .second, .val (.long p2), .second, .val (.long p3), .second, .val (.int p4), .val (.long (4294967295 : Int64)), .second, .val (.long (p1 &&& (4294967295 : Int64))), .second, .val (.long (p2 &&& (4294967295 : Int64))), .second, .unset, .unset, .unset, .unset, .unset, .unset, .unset, .unset, .unset, .unset, .unset, .unset, .unset]) rfl k_) ?_
  show Go _ _ _ _ (T0.setTop (mkF m 17 #[.val (.long p1), .second, .val (.long p2), .second, .val (.long p3), .second, .val (.int p4), .val (.long (4294967295 : Int64)), .second, .val (.long (p1 &&& (4294967295 : Int64))), .second, .val (.long (p2 &&& (4294967295 : Int64))), .second, .unset, .unset, .unset, .unset, .unset, .unset, .unset, .unset, .unset, .unset, .unset, .unset, .unset] []))
  refine Go.via (fun t_ k_ => XS.lload H0.here hx rfl (hb hby at_17) rfl k_) ?_
  show Go _ _ _ _ (T0.setTop (mkF m 19 #[.val (.long p1), .second, .val (.long p2), .second, .val (.long p3), .second, .val (.int p4), .val (.long (4294967295 : Int64)), .second, .val (.long (p1 &&& (4294967295 : Int64))), .second, .val (.long (p2 &&& (4294967295 : Int64))), .second, .unset, .unset, .unset, .unset, .unset, .unset, .unset, .unset, .unset, .unset, .unset, .unset, .unset] [(.long (p1 &&& (4294967295 : Int64)))]))
  refine Go.via (fun t_ k_ => XS.lload H0.here hx rfl (hb hby at_19) rfl k_) ?_
  show Go _ _ _ _ (T0.setTop (mkF m 21 #[.val (.long p1), .second, .val (.long p2), .second, .val (.long p3), .second, .val (.int p4), .val (.long (4294967295 : Int64)), .second, .val (.long (p1 &&& (4294967295 : Int64))), .second, .val (.long (p2 &&& (4294967295 : Int64))), .second, .unset, .unset, .unset, .unset, .unset, .unset, .unset, .unset, .unset, .unset, .unset, .unset, .unset] [(.long (p2 &&& (4294967295 : Int64))), (.long (p1 &&& (4294967295 : Int64)))]))
  refine own_callS H0 hx hZ (y := (⟨"java/lang/Math", "min", "(JJ)J"⟩ : MethodName)) hown (hw _ (List.mem_of_getElem? (i := 1) rfl)) (hw _ (List.mem_of_getElem? (i := 2) rfl)) (hw _ (List.mem_of_getElem? (i := 3) rfl)) (hw _ (List.mem_of_getElem? (i := 4) rfl)) (by decide) (rm1 l Z a0 hw (p1 &&& (4294967295 : Int64)) (p2 &&& (4294967295 : Int64)) h0 n0) (g := (mkF m 21 #[.val (.long p1), .second, .val (.long p2), .second, .val (.long p3), .second, .val (.int p4), .val (.long (4294967295 : Int64)), .second, .val (.long (p1 &&& (4294967295 : Int64))), .second, .val (.long (p2 &&& (4294967295 : Int64))), .second, .unset, .unset, .unset, .unset, .unset, .unset, .unset, .unset, .unset, .unset, .unset, .unset, .unset] [(.long (p2 &&& (4294967295 : Int64))), (.long (p1 &&& (4294967295 : Int64)))])) rfl (by rw [hml]; rfl) (argsL := [(.long (p1 &&& (4294967295 : Int64))), (.long (p2 &&& (4294967295 : Int64)))]) (rest := []) (lenOf pd_2 rfl) rfl 0 (Nat.le_of_eq rfl) (hb hby at_21) (by decide) (by decide) (by decide) (by decide) ?_
  rintro _ T4 _ ⟨rfl, rfl⟩ H4
  show Go _ _ _ _ (T4.setTop (mkF m 24 #[.val (.long p1), .second, .val (.long p2), .second, .val (.long p3), .second, .val (.int p4), .val (.long (4294967295 : Int64)), .second, .val (.long (p1 &&& (4294967295 : Int64))), .second, .val (.long (p2 &&& (4294967295 : Int64))), .second, .unset, .unset, .unset, .unset, .unset, .unset, .unset, .unset, .unset, .unset, .unset, .unset, .unset] [(.long (mnL (p1 &&& (4294967295 : Int64)) (p2 &&& (4294967295 : Int64))))]))
  refine Go.via (fun t_ k_ => XS.lstore H4.here hx rfl (hb hby at_24) rfl (l' := #[.val (.long p1), .second, .val (.long p2), .second, .val (.long p3), .second, .val (.int p4), .val (.long (4294967295 : Int64)), .second, .val (.long (p1 &&& (4294967295 : Int64))), .second, .val (.long (p2 &&& (4294967295 : Int64))), .second, .val (.long (mnL (p1 &&& (4294967295 : Int64)) (p2 &&& (4294967295 : Int64)))), .second, .unset, .unset, .unset, .unset, .unset, .unset, .unset, .unset, .unset, .unset, .unset]) rfl k_) ?_
  show Go _ _ _ _ (T4.setTop (mkF m 26 #[.val (.long p1), .second, .val (.long p2), .second, .val (.long p3), .second, .val (.int p4), .val (.long (4294967295 : Int64)), .second, .val (.long (p1 &&& (4294967295 : Int64))), .second, .val (.long (p2 &&& (4294967295 : Int64))), .second, .val (.long (mnL (p1 &&& (4294967295 : Int64)) (p2 &&& (4294967295 : Int64)))), .second, .unset, .unset, .unset, .unset, .unset, .unset, .unset, .unset, .unset, .unset, .unset] []))
  refine Go.via (fun t_ k_ => XS.lload H4.here hx rfl (hb hby at_26) rfl k_) ?_
  show Go _ _ _ _ (T4.setTop (mkF m 28 #[.val (.long p1), .second, .val (.long p2), .second, .val (.long p3), .second, .val (.int p4), .val (.long (4294967295 : Int64)), .second, .val (.long (p1 &&& (4294967295 : Int64))), .second, .val (.long (p2 &&& (4294967295 : Int64))), .second, .val (.long (mnL (p1 &&& (4294967295 : Int64)) (p2 &&& (4294967295 : Int64)))), .second, .unset, .unset, .unset, .unset, .unset, .unset, .unset, .unset, .unset, .unset, .unset] [(.long (p1 &&& (4294967295 : Int64)))]))
  refine Go.via (fun t_ k_ => XS.lload H4.here hx rfl (hb hby at_28) rfl k_) ?_
  show Go _ _ _ _ (T4.setTop (mkF m 30 #[.val (.long p1), .second, .val (.long p2), .second, .val (.long p3), .second, .val (.int p4), .val (.long (4294967295 : Int64)), .second, .val (.long (p1 &&& (4294967295 : Int64))), .second, .val (.long (p2 &&& (4294967295 : Int64))), .second, .val (.long (mnL (p1 &&& (4294967295 : Int64)) (p2 &&& (4294967295 : Int64)))), .second, .unset, .unset, .unset, .unset, .unset, .unset, .unset, .unset, .unset, .unset, .unset] [(.long (p2 &&& (4294967295 : Int64))), (.long (p1 &&& (4294967295 : Int64)))]))
  refine own_callS H4 hx hZ (y := (⟨"java/lang/Math", "max", "(JJ)J"⟩ : MethodName)) hown (hw _ (List.mem_of_getElem? (i := 5) rfl)) (hw _ (List.mem_of_getElem? (i := 6) rfl)) (hw _ (List.mem_of_getElem? (i := 3) rfl)) (hw _ (List.mem_of_getElem? (i := 7) rfl)) (by decide) (rm2 l Z a0 hw (p1 &&& (4294967295 : Int64)) (p2 &&& (4294967295 : Int64)) h0 n0) (g := (mkF m 30 #[.val (.long p1), .second, .val (.long p2), .second, .val (.long p3), .second, .val (.int p4), .val (.long (4294967295 : Int64)), .second, .val (.long (p1 &&& (4294967295 : Int64))), .second, .val (.long (p2 &&& (4294967295 : Int64))), .second, .val (.long (mnL (p1 &&& (4294967295 : Int64)) (p2 &&& (4294967295 : Int64)))), .second, .unset, .unset, .unset, .unset, .unset, .unset, .unset, .unset, .unset, .unset, .unset] [(.long (p2 &&& (4294967295 : Int64))), (.long (p1 &&& (4294967295 : Int64)))])) rfl (by rw [hml]; rfl) (argsL := [(.long (p1 &&& (4294967295 : Int64))), (.long (p2 &&& (4294967295 : Int64)))]) (rest := []) (lenOf pd_2 rfl) rfl 0 (Nat.le_of_eq rfl) (hb hby at_30) (by decide) (by decide) (by decide) (by decide) ?_
  rintro _ T5 _ ⟨rfl, rfl⟩ H5
  show Go _ _ _ _ (T5.setTop (mkF m 33 #[.val (.long p1), .second, .val (.long p2), .second, .val (.long p3), .second, .val (.int p4), .val (.long (4294967295 : Int64)), .second, .val (.long (p1 &&& (4294967295 : Int64))), .second, .val (.long (p2 &&& (4294967295 : Int64))), .second, .val (.long (mnL (p1 &&& (4294967295 : Int64)) (p2 &&& (4294967295 : Int64)))), .second, .unset, .unset, .unset, .unset, .unset, .unset, .unset, .unset, .unset, .unset, .unset] [(.long (mxL (p1 &&& (4294967295 : Int64)) (p2 &&& (4294967295 : Int64))))]))
  refine Go.via (fun t_ k_ => XS.lstore H5.here hx rfl (hb hby at_33) rfl (l' := #[.val (.long p1), .second, .val (.long p2), .second, .val (.long p3), .second, .val (.int p4), .val (.long (4294967295 : Int64)), .second, .val (.long (p1 &&& (4294967295 : Int64))), .second, .val (.long (p2 &&& (4294967295 : Int64))), .second, .val (.long (mnL (p1 &&& (4294967295 : Int64)) (p2 &&& (4294967295 : Int64)))), .second, .val (.long (mxL (p1 &&& (4294967295 : Int64)) (p2 &&& (4294967295 : Int64)))), .second, .unset, .unset, .unset, .unset, .unset, .unset, .unset, .unset, .unset]) rfl k_) ?_
  show Go _ _ _ _ (T5.setTop (mkF m 35 #[.val (.long p1), .second, .val (.long p2), .second, .val (.long p3), .second, .val (.int p4), .val (.long (4294967295 : Int64)), .second, .val (.long (p1 &&& (4294967295 : Int64))), .second, .val (.long (p2 &&& (4294967295 : Int64))), .second, .val (.long (mnL (p1 &&& (4294967295 : Int64)) (p2 &&& (4294967295 : Int64)))), .second, .val (.long (mxL (p1 &&& (4294967295 : Int64)) (p2 &&& (4294967295 : Int64)))), .second, .unset, .unset, .unset, .unset, .unset, .unset, .unset, .unset, .unset] []))
  refine Go.via (fun t_ k_ => XS.iload H5.here hx rfl (hb hby at_35) rfl k_) ?_
  show Go _ _ _ _ (T5.setTop (mkF m 37 #[.val (.long p1), .second, .val (.long p2), .second, .val (.long p3), .second, .val (.int p4), .val (.long (4294967295 : Int64)), .second, .val (.long (p1 &&& (4294967295 : Int64))), .second, .val (.long (p2 &&& (4294967295 : Int64))), .second, .val (.long (mnL (p1 &&& (4294967295 : Int64)) (p2 &&& (4294967295 : Int64)))), .second, .val (.long (mxL (p1 &&& (4294967295 : Int64)) (p2 &&& (4294967295 : Int64)))), .second, .unset, .unset, .unset, .unset, .unset, .unset, .unset, .unset, .unset] [(.int p4)]))
  refine Go.via (fun t_ k_ => XS.iconst H5.here hx rfl (hb hby at_37) k_) ?_
  show Go _ _ _ _ (T5.setTop (mkF m 38 #[.val (.long p1), .second, .val (.long p2), .second, .val (.long p3), .second, .val (.int p4), .val (.long (4294967295 : Int64)), .second, .val (.long (p1 &&& (4294967295 : Int64))), .second, .val (.long (p2 &&& (4294967295 : Int64))), .second, .val (.long (mnL (p1 &&& (4294967295 : Int64)) (p2 &&& (4294967295 : Int64)))), .second, .val (.long (mxL (p1 &&& (4294967295 : Int64)) (p2 &&& (4294967295 : Int64)))), .second, .unset, .unset, .unset, .unset, .unset, .unset, .unset, .unset, .unset] [(.int (3 : Int32)), (.int p4)]))
  refine Go.via (fun t_ k_ => XS.ishr H5.here hx rfl (hb hby at_38) rfl k_) ?_
  show Go _ _ _ _ (T5.setTop (mkF m 39 #[.val (.long p1), .second, .val (.long p2), .second, .val (.long p3), .second, .val (.int p4), .val (.long (4294967295 : Int64)), .second, .val (.long (p1 &&& (4294967295 : Int64))), .second, .val (.long (p2 &&& (4294967295 : Int64))), .second, .val (.long (mnL (p1 &&& (4294967295 : Int64)) (p2 &&& (4294967295 : Int64)))), .second, .val (.long (mxL (p1 &&& (4294967295 : Int64)) (p2 &&& (4294967295 : Int64)))), .second, .unset, .unset, .unset, .unset, .unset, .unset, .unset, .unset, .unset] [(.int (p4 >>> ((3 : Int32) &&& 31)))]))
  refine Go.via (fun t_ k_ => XS.iconst H5.here hx rfl (hb hby at_39) k_) ?_
  show Go _ _ _ _ (T5.setTop (mkF m 40 #[.val (.long p1), .second, .val (.long p2), .second, .val (.long p3), .second, .val (.int p4), .val (.long (4294967295 : Int64)), .second, .val (.long (p1 &&& (4294967295 : Int64))), .second, .val (.long (p2 &&& (4294967295 : Int64))), .second, .val (.long (mnL (p1 &&& (4294967295 : Int64)) (p2 &&& (4294967295 : Int64)))), .second, .val (.long (mxL (p1 &&& (4294967295 : Int64)) (p2 &&& (4294967295 : Int64)))), .second, .unset, .unset, .unset, .unset, .unset, .unset, .unset, .unset, .unset] [(.int (1 : Int32)), (.int (p4 >>> ((3 : Int32) &&& 31)))]))
  refine Go.via (fun t_ k_ => XS.iand H5.here hx rfl (hb hby at_40) rfl k_) ?_
  show Go _ _ _ _ (T5.setTop (mkF m 41 #[.val (.long p1), .second, .val (.long p2), .second, .val (.long p3), .second, .val (.int p4), .val (.long (4294967295 : Int64)), .second, .val (.long (p1 &&& (4294967295 : Int64))), .second, .val (.long (p2 &&& (4294967295 : Int64))), .second, .val (.long (mnL (p1 &&& (4294967295 : Int64)) (p2 &&& (4294967295 : Int64)))), .second, .val (.long (mxL (p1 &&& (4294967295 : Int64)) (p2 &&& (4294967295 : Int64)))), .second, .unset, .unset, .unset, .unset, .unset, .unset, .unset, .unset, .unset] [(.int ((p4 >>> ((3 : Int32) &&& 31)) &&& (1 : Int32)))]))
  by_cases hc41 : ((p4 >>> ((3 : Int32) &&& 31)) &&& (1 : Int32)) = (0 : Int32)
  · refine Go.via (fun t_ k_ => XS.ifYes H5.here hx rfl (pc0 := 41) (pc' := 48) rfl (hb hby at_41) rfl ((if0 _ _).trans (teq hc41).1) (by decide) (by decide) k_) ?_
    show Go _ _ _ _ (T5.setTop (mkF m 48 #[.val (.long p1), .second, .val (.long p2), .second, .val (.long p3), .second, .val (.int p4), .val (.long (4294967295 : Int64)), .second, .val (.long (p1 &&& (4294967295 : Int64))), .second, .val (.long (p2 &&& (4294967295 : Int64))), .second, .val (.long (mnL (p1 &&& (4294967295 : Int64)) (p2 &&& (4294967295 : Int64)))), .second, .val (.long (mxL (p1 &&& (4294967295 : Int64)) (p2 &&& (4294967295 : Int64)))), .second, .unset, .unset, .unset, .unset, .unset, .unset, .unset, .unset, .unset] []))
    refine Go.via (fun t_ k_ => XS.iconst H5.here hx rfl (hb hby at_48) k_) ?_
    show Go _ _ _ _ (T5.setTop (mkF m 49 #[.val (.long p1), .second, .val (.long p2), .second, .val (.long p3), .second, .val (.int p4), .val (.long (4294967295 : Int64)), .second, .val (.long (p1 &&& (4294967295 : Int64))), .second, .val (.long (p2 &&& (4294967295 : Int64))), .second, .val (.long (mnL (p1 &&& (4294967295 : Int64)) (p2 &&& (4294967295 : Int64)))), .second, .val (.long (mxL (p1 &&& (4294967295 : Int64)) (p2 &&& (4294967295 : Int64)))), .second, .unset, .unset, .unset, .unset, .unset, .unset, .unset, .unset, .unset] [(.int (0 : Int32))]))
    refine Go.via (fun t_ k_ => XS.istore H5.here hx rfl (hb hby at_49) rfl (l' := #[.val (.long p1), .second, .val (.long p2), .second, .val (.long p3), .second, .val (.int p4), .val (.long (4294967295 : Int64)), .second, .val (.long (p1 &&& (4294967295 : Int64))), .second, .val (.long (p2 &&& (4294967295 : Int64))), .second, .val (.long (mnL (p1 &&& (4294967295 : Int64)) (p2 &&& (4294967295 : Int64)))), .second, .val (.long (mxL (p1 &&& (4294967295 : Int64)) (p2 &&& (4294967295 : Int64)))), .second, .val (.int (0 : Int32)), .unset, .unset, .unset, .unset, .unset, .unset, .unset, .unset]) rfl k_) ?_
    show Go _ _ _ _ (T5.setTop (mkF m 51 #[.val (.long p1), .second, .val (.long p2), .second, .val (.long p3), .second, .val (.int p4), .val (.long (4294967295 : Int64)), .second, .val (.long (p1 &&& (4294967295 : Int64))), .second, .val (.long (p2 &&& (4294967295 : Int64))), .second, .val (.long (mnL (p1 &&& (4294967295 : Int64)) (p2 &&& (4294967295 : Int64)))), .second, .val (.long (mxL (p1 &&& (4294967295 : Int64)) (p2 &&& (4294967295 : Int64)))), .second, .val (.int (0 : Int32)), .unset, .unset, .unset, .unset, .unset, .unset, .unset, .unset] []))
    refine Go.via (fun t_ k_ => XS.iload H5.here hx rfl (hb hby at_51) rfl k_) ?_
    show Go _ _ _ _ (T5.setTop (mkF m 53 #[.val (.long p1), .second, .val (.long p2), .second, .val (.long p3), .second, .val (.int p4), .val (.long (4294967295 : Int64)), .second, .val (.long (p1 &&& (4294967295 : Int64))), .second, .val (.long (p2 &&& (4294967295 : Int64))), .second, .val (.long (mnL (p1 &&& (4294967295 : Int64)) (p2 &&& (4294967295 : Int64)))), .second, .val (.long (mxL (p1 &&& (4294967295 : Int64)) (p2 &&& (4294967295 : Int64)))), .second, .val (.int (0 : Int32)), .unset, .unset, .unset, .unset, .unset, .unset, .unset, .unset] [(.int (0 : Int32))]))
    refine Go.via (fun t_ k_ => XS.ifYes H5.here hx rfl (pc0 := 53) (pc' := 60) rfl (hb hby at_53) rfl ((if0 _ _).trans (teq (show (0 : Int32) = (0 : Int32) from (by decide))).1) (by decide) (by decide) k_) ?_
    show Go _ _ _ _ (T5.setTop (mkF m 60 #[.val (.long p1), .second, .val (.long p2), .second, .val (.long p3), .second, .val (.int p4), .val (.long (4294967295 : Int64)), .second, .val (.long (p1 &&& (4294967295 : Int64))), .second, .val (.long (p2 &&& (4294967295 : Int64))), .second, .val (.long (mnL (p1 &&& (4294967295 : Int64)) (p2 &&& (4294967295 : Int64)))), .second, .val (.long (mxL (p1 &&& (4294967295 : Int64)) (p2 &&& (4294967295 : Int64)))), .second, .val (.int (0 : Int32)), .unset, .unset, .unset, .unset, .unset, .unset, .unset, .unset] []))
    refine Go.via (fun t_ k_ => XS.lload H5.here hx rfl (hb hby at_60) rfl k_) ?_
    show Go _ _ _ _ (T5.setTop (mkF m 62 #[.val (.long p1), .second, .val (.long p2), .second, .val (.long p3), .second, .val (.int p4), .val (.long (4294967295 : Int64)), .second, .val (.long (p1 &&& (4294967295 : Int64))), .second, .val (.long (p2 &&& (4294967295 : Int64))), .second, .val (.long (mnL (p1 &&& (4294967295 : Int64)) (p2 &&& (4294967295 : Int64)))), .second, .val (.long (mxL (p1 &&& (4294967295 : Int64)) (p2 &&& (4294967295 : Int64)))), .second, .val (.int (0 : Int32)), .unset, .unset, .unset, .unset, .unset, .unset, .unset, .unset] [(.long (mnL (p1 &&& (4294967295 : Int64)) (p2 &&& (4294967295 : Int64))))]))
    refine Go.via (fun t_ k_ => XS.lload H5.here hx rfl (hb hby at_62) rfl k_) ?_
    show Go _ _ _ _ (T5.setTop (mkF m 64 #[.val (.long p1), .second, .val (.long p2), .second, .val (.long p3), .second, .val (.int p4), .val (.long (4294967295 : Int64)), .second, .val (.long (p1 &&& (4294967295 : Int64))), .second, .val (.long (p2 &&& (4294967295 : Int64))), .second, .val (.long (mnL (p1 &&& (4294967295 : Int64)) (p2 &&& (4294967295 : Int64)))), .second, .val (.long (mxL (p1 &&& (4294967295 : Int64)) (p2 &&& (4294967295 : Int64)))), .second, .val (.int (0 : Int32)), .unset, .unset, .unset, .unset, .unset, .unset, .unset, .unset] [(.long (mxL (p1 &&& (4294967295 : Int64)) (p2 &&& (4294967295 : Int64)))), (.long (mnL (p1 &&& (4294967295 : Int64)) (p2 &&& (4294967295 : Int64))))]))
    refine Go.via (fun t_ k_ => XS.lcmp H5.here hx rfl (hb hby at_64) rfl k_) ?_
    show Go _ _ _ _ (T5.setTop (mkF m 65 #[.val (.long p1), .second, .val (.long p2), .second, .val (.long p3), .second, .val (.int p4), .val (.long (4294967295 : Int64)), .second, .val (.long (p1 &&& (4294967295 : Int64))), .second, .val (.long (p2 &&& (4294967295 : Int64))), .second, .val (.long (mnL (p1 &&& (4294967295 : Int64)) (p2 &&& (4294967295 : Int64)))), .second, .val (.long (mxL (p1 &&& (4294967295 : Int64)) (p2 &&& (4294967295 : Int64)))), .second, .val (.int (0 : Int32)), .unset, .unset, .unset, .unset, .unset, .unset, .unset, .unset] [(.int (lcmpW (mnL (p1 &&& (4294967295 : Int64)) (p2 &&& (4294967295 : Int64))) (mxL (p1 &&& (4294967295 : Int64)) (p2 &&& (4294967295 : Int64)))))]))
    by_cases hc65 : (mnL (p1 &&& (4294967295 : Int64)) (p2 &&& (4294967295 : Int64))) = (mxL (p1 &&& (4294967295 : Int64)) (p2 &&& (4294967295 : Int64)))
    · refine Go.via (fun t_ k_ => XS.ifNo H5.here hx rfl (hb hby at_65) rfl ((own_leq hc65).2) k_) ?_
      show Go _ _ _ _ (T5.setTop (mkF m 68 #[.val (.long p1), .second, .val (.long p2), .second, .val (.long p3), .second, .val (.int p4), .val (.long (4294967295 : Int64)), .second, .val (.long (p1 &&& (4294967295 : Int64))), .second, .val (.long (p2 &&& (4294967295 : Int64))), .second, .val (.long (mnL (p1 &&& (4294967295 : Int64)) (p2 &&& (4294967295 : Int64)))), .second, .val (.long (mxL (p1 &&& (4294967295 : Int64)) (p2 &&& (4294967295 : Int64)))), .second, .val (.int (0 : Int32)), .unset, .unset, .unset, .unset, .unset, .unset, .unset, .unset] []))
      refine Go.via (fun t_ k_ => XS.lload H5.here hx rfl (hb hby at_68) rfl k_) ?_
      show Go _ _ _ _ (T5.setTop (mkF m 70 #[.val (.long p1), .second, .val (.long p2), .second, .val (.long p3), .second, .val (.int p4), .val (.long (4294967295 : Int64)), .second, .val (.long (p1 &&& (4294967295 : Int64))), .second, .val (.long (p2 &&& (4294967295 : Int64))), .second, .val (.long (mnL (p1 &&& (4294967295 : Int64)) (p2 &&& (4294967295 : Int64)))), .second, .val (.long (mxL (p1 &&& (4294967295 : Int64)) (p2 &&& (4294967295 : Int64)))), .second, .val (.int (0 : Int32)), .unset, .unset, .unset, .unset, .unset, .unset, .unset, .unset] [(.long (mxL (p1 &&& (4294967295 : Int64)) (p2 &&& (4294967295 : Int64))))]))
      refine Go.via (fun t_ k_ => XS.lload H5.here hx rfl (hb hby at_70) rfl k_) ?_
      show Go _ _ _ _ (T5.setTop (mkF m 72 #[.val (.long p1), .second, .val (.long p2), .second, .val (.long p3), .second, .val (.int p4), .val (.long (4294967295 : Int64)), .second, .val (.long (p1 &&& (4294967295 : Int64))), .second, .val (.long (p2 &&& (4294967295 : Int64))), .second, .val (.long (mnL (p1 &&& (4294967295 : Int64)) (p2 &&& (4294967295 : Int64)))), .second, .val (.long (mxL (p1 &&& (4294967295 : Int64)) (p2 &&& (4294967295 : Int64)))), .second, .val (.int (0 : Int32)), .unset, .unset, .unset, .unset, .unset, .unset, .unset, .unset] [(.long (4294967295 : Int64)), (.long (mxL (p1 &&& (4294967295 : Int64)) (p2 &&& (4294967295 : Int64))))]))
      refine Go.via (fun t_ k_ => XS.lcmp H5.here hx rfl (hb hby at_72) rfl k_) ?_
      show Go _ _ _ _ (T5.setTop (mkF m 73 #[.val (.long p1), .second, .val (.long p2), .second, .val (.long p3), .second, .val (.int p4), .val (.long (4294967295 : Int64)), .second, .val (.long (p1 &&& (4294967295 : Int64))), .second, .val (.long (p2 &&& (4294967295 : Int64))), .second, .val (.long (mnL (p1 &&& (4294967295 : Int64)) (p2 &&& (4294967295 : Int64)))), .second, .val (.long (mxL (p1 &&& (4294967295 : Int64)) (p2 &&& (4294967295 : Int64)))), .second, .val (.int (0 : Int32)), .unset, .unset, .unset, .unset, .unset, .unset, .unset, .unset] [(.int (lcmpW (mxL (p1 &&& (4294967295 : Int64)) (p2 &&& (4294967295 : Int64))) (4294967295 : Int64)))]))
      by_cases hc73 : (mxL (p1 &&& (4294967295 : Int64)) (p2 &&& (4294967295 : Int64))) < (4294967295 : Int64)
      · refine Go.via (fun t_ k_ => XS.ifNo H5.here hx rfl (hb hby at_73) rfl ((own_llt hc73).2) k_) ?_
        show Go _ _ _ _ (T5.setTop (mkF m 76 #[.val (.long p1), .second, .val (.long p2), .second, .val (.long p3), .second, .val (.int p4), .val (.long (4294967295 : Int64)), .second, .val (.long (p1 &&& (4294967295 : Int64))), .second, .val (.long (p2 &&& (4294967295 : Int64))), .second, .val (.long (mnL (p1 &&& (4294967295 : Int64)) (p2 &&& (4294967295 : Int64)))), .second, .val (.long (mxL (p1 &&& (4294967295 : Int64)) (p2 &&& (4294967295 : Int64)))), .second, .val (.int (0 : Int32)), .unset, .unset, .unset, .unset, .unset, .unset, .unset, .unset] []))
        refine Go.via (fun t_ k_ => XS.lload H5.here hx rfl (hb hby at_76) rfl k_) ?_
        show Go _ _ _ _ (T5.setTop (mkF m 78 #[.val (.long p1), .second, .val (.long p2), .second, .val (.long p3), .second, .val (.int p4), .val (.long (4294967295 : Int64)), .second, .val (.long (p1 &&& (4294967295 : Int64))), .second, .val (.long (p2 &&& (4294967295 : Int64))), .second, .val (.long (mnL (p1 &&& (4294967295 : Int64)) (p2 &&& (4294967295 : Int64)))), .second, .val (.long (mxL (p1 &&& (4294967295 : Int64)) (p2 &&& (4294967295 : Int64)))), .second, .val (.int (0 : Int32)), .unset, .unset, .unset, .unset, .unset, .unset, .unset, .unset] [(.long (mxL (p1 &&& (4294967295 : Int64)) (p2 &&& (4294967295 : Int64))))]))
        refine Go.via (fun t_ k_ => XS.lconst H5.here hx rfl (hb hby at_78) k_) ?_
        show Go _ _ _ _ (T5.setTop (mkF m 79 #[.val (.long p1), .second, .val (.long p2), .second, .val (.long p3), .second, .val (.int p4), .val (.long (4294967295 : Int64)), .second, .val (.long (p1 &&& (4294967295 : Int64))), .second, .val (.long (p2 &&& (4294967295 : Int64))), .second, .val (.long (mnL (p1 &&& (4294967295 : Int64)) (p2 &&& (4294967295 : Int64)))), .second, .val (.long (mxL (p1 &&& (4294967295 : Int64)) (p2 &&& (4294967295 : Int64)))), .second, .val (.int (0 : Int32)), .unset, .unset, .unset, .unset, .unset, .unset, .unset, .unset] [(.long (1 : Int64)), (.long (mxL (p1 &&& (4294967295 : Int64)) (p2 &&& (4294967295 : Int64))))]))
        refine Go.via (fun t_ k_ => XS.ladd H5.here hx rfl (hb hby at_79) rfl k_) ?_
        show Go _ _ _ _ (T5.setTop (mkF m 80 #[.val (.long p1), .second, .val (.long p2), .second, .val (.long p3), .second, .val (.int p4), .val (.long (4294967295 : Int64)), .second, .val (.long (p1 &&& (4294967295 : Int64))), .second, .val (.long (p2 &&& (4294967295 : Int64))), .second, .val (.long (mnL (p1 &&& (4294967295 : Int64)) (p2 &&& (4294967295 : Int64)))), .second, .val (.long (mxL (p1 &&& (4294967295 : Int64)) (p2 &&& (4294967295 : Int64)))), .second, .val (.int (0 : Int32)), .unset, .unset, .unset, .unset, .unset, .unset, .unset, .unset] [(.long ((mxL (p1 &&& (4294967295 : Int64)) (p2 &&& (4294967295 : Int64))) + (1 : Int64)))]))
        refine Go.via (fun t_ k_ => XS.lstore H5.here hx rfl (hb hby at_80) rfl (l' := #[.val (.long p1), .second, .val (.long p2), .second, .val (.long p3), .second, .val (.int p4), .val (.long (4294967295 : Int64)), .second, .val (.long (p1 &&& (4294967295 : Int64))), .second, .val (.long (p2 &&& (4294967295 : Int64))), .second, .val (.long (mnL (p1 &&& (4294967295 : Int64)) (p2 &&& (4294967295 : Int64)))), .second, .val (.long ((mxL (p1 &&& (4294967295 : Int64)) (p2 &&& (4294967295 : Int64))) + (1 : Int64))), .second, .val (.int (0 : Int32)), .unset, .unset, .unset, .unset, .unset, .unset, .unset, .unset]) rfl k_) ?_
        show Go _ _ _ _ (T5.setTop (mkF m 82 #[.val (.long p1), .second, .val (.long p2), .second, .val (.long p3), .second, .val (.int p4), .val (.long (4294967295 : Int64)), .second, .val (.long (p1 &&& (4294967295 : Int64))), .second, .val (.long (p2 &&& (4294967295 : Int64))), .second, .val (.long (mnL (p1 &&& (4294967295 : Int64)) (p2 &&& (4294967295 : Int64)))), .second, .val (.long ((mxL (p1 &&& (4294967295 : Int64)) (p2 &&& (4294967295 : Int64))) + (1 : Int64))), .second, .val (.int (0 : Int32)), .unset, .unset, .unset, .unset, .unset, .unset, .unset, .unset] []))
        refine Go.via (fun t_ k_ => XS.goto H5.here hx rfl (pc0 := 82) (pc' := 91) rfl (hb hby at_82) (by decide) (by decide) k_) ?_
        show Go _ _ _ _ (T5.setTop (mkF m 91 #[.val (.long p1), .second, .val (.long p2), .second, .val (.long p3), .second, .val (.int p4), .val (.long (4294967295 : Int64)), .second, .val (.long (p1 &&& (4294967295 : Int64))), .second, .val (.long (p2 &&& (4294967295 : Int64))), .second, .val (.long (mnL (p1 &&& (4294967295 : Int64)) (p2 &&& (4294967295 : Int64)))), .second, .val (.long ((mxL (p1 &&& (4294967295 : Int64)) (p2 &&& (4294967295 : Int64))) + (1 : Int64))), .second, .val (.int (0 : Int32)), .unset, .unset, .unset, .unset, .unset, .unset, .unset, .unset] []))
        have m1 := own_mask p1
        have m2 := own_mask p2
        have m3 := own_mm (p1 &&& (4294967295 : Int64)) (p2 &&& (4294967295 : Int64)) m1 m2
        have i1 := own_inc (mnL (p1 &&& (4294967295 : Int64)) (p2 &&& (4294967295 : Int64))) ⟨m3.1, Int.le_trans m3.2.1 m3.2.2⟩
        have i2 := own_inc (mxL (p1 &&& (4294967295 : Int64)) (p2 &&& (4294967295 : Int64))) ⟨Int.le_trans m3.1 m3.2.1, m3.2.2⟩
        have e2 : (4294967295 : Int64).toInt = 4294967295 := by decide
        simp only [Int64.lt_iff_toInt_lt, ← Int64.toInt_inj, e2] at hc65 hc73
        obtain ⟨q1, q2, q3⟩ := own_pre (mnL (p1 &&& (4294967295 : Int64)) (p2 &&& (4294967295 : Int64))) ((mxL (p1 &&& (4294967295 : Int64)) (p2 &&& (4294967295 : Int64))) + (1 : Int64)) (by omega) (by omega) (by omega)
        exact J91 T5 (mnL (p1 &&& (4294967295 : Int64)) (p2 &&& (4294967295 : Int64))) ((mxL (p1 &&& (4294967295 : Int64)) (p2 &&& (4294967295 : Int64))) + (1 : Int64)) (0 : Int32) H5 q1 q2 q3
      · refine Go.via (fun t_ k_ => XS.ifYes H5.here hx rfl (pc0 := 73) (pc' := 85) rfl (hb hby at_73) rfl ((own_nlt hc73).2) (by decide) (by decide) k_) ?_
        show Go _ _ _ _ (T5.setTop (mkF m 85 #[.val (.long p1), .second, .val (.long p2), .second, .val (.long p3), .second, .val (.int p4), .val (.long (4294967295 : Int64)), .second, .val (.long (p1 &&& (4294967295 : Int64))), .second, .val (.long (p2 &&& (4294967295 : Int64))), .second, .val (.long (mnL (p1 &&& (4294967295 : Int64)) (p2 &&& (4294967295 : Int64)))), .second, .val (.long (mxL (p1 &&& (4294967295 : Int64)) (p2 &&& (4294967295 : Int64)))), .second, .val (.int (0 : Int32)), .unset, .unset, .unset, .unset, .unset, .unset, .unset, .unset] []))
        refine Go.via (fun t_ k_ => XS.lload H5.here hx rfl (hb hby at_85) rfl k_) ?_
        show Go _ _ _ _ (T5.setTop (mkF m 87 #[.val (.long p1), .second, .val (.long p2), .second, .val (.long p3), .second, .val (.int p4), .val (.long (4294967295 : Int64)), .second, .val (.long (p1 &&& (4294967295 : Int64))), .second, .val (.long (p2 &&& (4294967295 : Int64))), .second, .val (.long (mnL (p1 &&& (4294967295 : Int64)) (p2 &&& (4294967295 : Int64)))), .second, .val (.long (mxL (p1 &&& (4294967295 : Int64)) (p2 &&& (4294967295 : Int64)))), .second, .val (.int (0 : Int32)), .unset, .unset, .unset, .unset, .unset, .unset, .unset, .unset] [(.long (mnL (p1 &&& (4294967295 : Int64)) (p2 &&& (4294967295 : Int64))))]))
        refine Go.via (fun t_ k_ => XS.lconst H5.here hx rfl (hb hby at_87) k_) ?_
        show Go _ _ _ _ (T5.setTop (mkF m 88 #[.val (.long p1), .second, .val (.long p2), .second, .val (.long p3), .second, .val (.int p4), .val (.long (4294967295 : Int64)), .second, .val (.long (p1 &&& (4294967295 : Int64))), .second, .val (.long (p2 &&& (4294967295 : Int64))), .second, .val (.long (mnL (p1 &&& (4294967295 : Int64)) (p2 &&& (4294967295 : Int64)))), .second, .val (.long (mxL (p1 &&& (4294967295 : Int64)) (p2 &&& (4294967295 : Int64)))), .second, .val (.int (0 : Int32)), .unset, .unset, .unset, .unset, .unset, .unset, .unset, .unset] [(.long (1 : Int64)), (.long (mnL (p1 &&& (4294967295 : Int64)) (p2 &&& (4294967295 : Int64))))]))
        refine Go.via (fun t_ k_ => XS.lsub H5.here hx rfl (hb hby at_88) rfl k_) ?_
        show Go _ _ _ _ (T5.setTop (mkF m 89 #[.val (.long p1), .second, .val (.long p2), .second, .val (.long p3), .second, .val (.int p4), .val (.long (4294967295 : Int64)), .second, .val (.long (p1 &&& (4294967295 : Int64))), .second, .val (.long (p2 &&& (4294967295 : Int64))), .second, .val (.long (mnL (p1 &&& (4294967295 : Int64)) (p2 &&& (4294967295 : Int64)))), .second, .val (.long (mxL (p1 &&& (4294967295 : Int64)) (p2 &&& (4294967295 : Int64)))), .second, .val (.int (0 : Int32)), .unset, .unset, .unset, .unset, .unset, .unset, .unset, .unset] [(.long ((mnL (p1 &&& (4294967295 : Int64)) (p2 &&& (4294967295 : Int64))) - (1 : Int64)))]))
        refine Go.via (fun t_ k_ => XS.lstore H5.here hx rfl (hb hby at_89) rfl (l' := #[.val (.long p1), .second, .val (.long p2), .second, .val (.long p3), .second, .val (.int p4), .val (.long (4294967295 : Int64)), .second, .val (.long (p1 &&& (4294967295 : Int64))), .second, .val (.long (p2 &&& (4294967295 : Int64))), .second, .val (.long ((mnL (p1 &&& (4294967295 : Int64)) (p2 &&& (4294967295 : Int64))) - (1 : Int64))), .second, .val (.long (mxL (p1 &&& (4294967295 : Int64)) (p2 &&& (4294967295 : Int64)))), .second, .val (.int (0 : Int32)), .unset, .unset, .unset, .unset, .unset, .unset, .unset, .unset]) rfl k_) ?_
        show Go _ _ _ _ (T5.setTop (mkF m 91 #[.val (.long p1), .second, .val (.long p2), .second, .val (.long p3), .second, .val (.int p4), .val (.long (4294967295 : Int64)), .second, .val (.long (p1 &&& (4294967295 : Int64))), .second, .val (.long (p2 &&& (4294967295 : Int64))), .second, .val (.long ((mnL (p1 &&& (4294967295 : Int64)) (p2 &&& (4294967295 : Int64))) - (1 : Int64))), .second, .val (.long (mxL (p1 &&& (4294967295 : Int64)) (p2 &&& (4294967295 : Int64)))), .second, .val (.int (0 : Int32)), .unset, .unset, .unset, .unset, .unset, .unset, .unset, .unset] []))
        have m1 := own_mask p1
        have m2 := own_mask p2
        have m3 := own_mm (p1 &&& (4294967295 : Int64)) (p2 &&& (4294967295 : Int64)) m1 m2
        have i1 := own_inc (mnL (p1 &&& (4294967295 : Int64)) (p2 &&& (4294967295 : Int64))) ⟨m3.1, Int.le_trans m3.2.1 m3.2.2⟩
        have i2 := own_inc (mxL (p1 &&& (4294967295 : Int64)) (p2 &&& (4294967295 : Int64))) ⟨Int.le_trans m3.1 m3.2.1, m3.2.2⟩
        have e2 : (4294967295 : Int64).toInt = 4294967295 := by decide
        simp only [Int64.lt_iff_toInt_lt, ← Int64.toInt_inj, e2] at hc65 hc73
        obtain ⟨q1, q2, q3⟩ := own_pre ((mnL (p1 &&& (4294967295 : Int64)) (p2 &&& (4294967295 : Int64))) - (1 : Int64)) (mxL (p1 &&& (4294967295 : Int64)) (p2 &&& (4294967295 : Int64))) (by omega) (by omega) (by omega)
        exact J91 T5 ((mnL (p1 &&& (4294967295 : Int64)) (p2 &&& (4294967295 : Int64))) - (1 : Int64)) (mxL (p1 &&& (4294967295 : Int64)) (p2 &&& (4294967295 : Int64))) (0 : Int32) H5 q1 q2 q3
    · refine Go.via (fun t_ k_ => XS.ifYes H5.here hx rfl (pc0 := 65) (pc' := 91) rfl (hb hby at_65) rfl ((own_neq hc65).2) (by decide) (by decide) k_) ?_
      show Go _ _ _ _ (T5.setTop (mkF m 91 #[.val (.long p1), .second, .val (.long p2), .second, .val (.long p3), .second, .val (.int p4), .val (.long (4294967295 : Int64)), .second, .val (.long (p1 &&& (4294967295 : Int64))), .second, .val (.long (p2 &&& (4294967295 : Int64))), .second, .val (.long (mnL (p1 &&& (4294967295 : Int64)) (p2 &&& (4294967295 : Int64)))), .second, .val (.long (mxL (p1 &&& (4294967295 : Int64)) (p2 &&& (4294967295 : Int64)))), .second, .val (.int (0 : Int32)), .unset, .unset, .unset, .unset, .unset, .unset, .unset, .unset] []))
      have m1 := own_mask p1
      have m2 := own_mask p2
      have m3 := own_mm (p1 &&& (4294967295 : Int64)) (p2 &&& (4294967295 : Int64)) m1 m2
      have i1 := own_inc (mnL (p1 &&& (4294967295 : Int64)) (p2 &&& (4294967295 : Int64))) ⟨m3.1, Int.le_trans m3.2.1 m3.2.2⟩
      have i2 := own_inc (mxL (p1 &&& (4294967295 : Int64)) (p2 &&& (4294967295 : Int64))) ⟨Int.le_trans m3.1 m3.2.1, m3.2.2⟩
      have e2 : (4294967295 : Int64).toInt = 4294967295 := by decide
      simp only [Int64.lt_iff_toInt_lt, ← Int64.toInt_inj, e2] at hc65
      obtain ⟨q1, q2, q3⟩ := own_pre (mnL (p1 &&& (4294967295 : Int64)) (p2 &&& (4294967295 : Int64))) (mxL (p1 &&& (4294967295 : Int64)) (p2 &&& (4294967295 : Int64))) (by omega) (by omega) (by omega)
      exact J91 T5 (mnL (p1 &&& (4294967295 : Int64)) (p2 &&& (4294967295 : Int64))) (mxL (p1 &&& (4294967295 : Int64)) (p2 &&& (4294967295 : Int64))) (0 : Int32) H5 q1 q2 q3
  · refine Go.via (fun t_ k_ => XS.ifNo H5.here hx rfl (hb hby at_41) rfl ((if0 _ _).trans (feq hc41).1) k_) ?_
    show Go _ _ _ _ (T5.setTop (mkF m 44 #[.val (.long p1), .second, .val (.long p2), .second, .val (.long p3), .second, .val (.int p4), .val (.long (4294967295 : Int64)), .second, .val (.long (p1 &&& (4294967295 : Int64))), .second, .val (.long (p2 &&& (4294967295 : Int64))), .second, .val (.long (mnL (p1 &&& (4294967295 : Int64)) (p2 &&& (4294967295 : Int64)))), .second, .val (.long (mxL (p1 &&& (4294967295 : Int64)) (p2 &&& (4294967295 : Int64)))), .second, .unset, .unset, .unset, .unset, .unset, .unset, .unset, .unset, .unset] []))
    refine Go.via (fun t_ k_ => XS.iconst H5.here hx rfl (hb hby at_44) k_) ?_
    show Go _ _ _ _ (T5.setTop (mkF m 45 #[.val (.long p1), .second, .val (.long p2), .second, .val (.long p3), .second, .val (.int p4), .val (.long (4294967295 : Int64)), .second, .val (.long (p1 &&& (4294967295 : Int64))), .second, .val (.long (p2 &&& (4294967295 : Int64))), .second, .val (.long (mnL (p1 &&& (4294967295 : Int64)) (p2 &&& (4294967295 : Int64)))), .second, .val (.long (mxL (p1 &&& (4294967295 : Int64)) (p2 &&& (4294967295 : Int64)))), .second, .unset, .unset, .unset, .unset, .unset, .unset, .unset, .unset, .unset] [(.int (1 : Int32))]))
    refine Go.via (fun t_ k_ => XS.goto H5.here hx rfl (pc0 := 45) (pc' := 49) rfl (hb hby at_45) (by decide) (by decide) k_) ?_
    show Go _ _ _ _ (T5.setTop (mkF m 49 #[.val (.long p1), .second, .val (.long p2), .second, .val (.long p3), .second, .val (.int p4), .val (.long (4294967295 : Int64)), .second, .val (.long (p1 &&& (4294967295 : Int64))), .second, .val (.long (p2 &&& (4294967295 : Int64))), .second, .val (.long (mnL (p1 &&& (4294967295 : Int64)) (p2 &&& (4294967295 : Int64)))), .second, .val (.long (mxL (p1 &&& (4294967295 : Int64)) (p2 &&& (4294967295 : Int64)))), .second, .unset, .unset, .unset, .unset, .unset, .unset, .unset, .unset, .unset] [(.int (1 : Int32))]))
    refine Go.via (fun t_ k_ => XS.istore H5.here hx rfl (hb hby at_49) rfl (l' := #[.val (.long p1), .second, .val (.long p2), .second, .val (.long p3), .second, .val (.int p4), .val (.long (4294967295 : Int64)), .second, .val (.long (p1 &&& (4294967295 : Int64))), .second, .val (.long (p2 &&& (4294967295 : Int64))), .second, .val (.long (mnL (p1 &&& (4294967295 : Int64)) (p2 &&& (4294967295 : Int64)))), .second, .val (.long (mxL (p1 &&& (4294967295 : Int64)) (p2 &&& (4294967295 : Int64)))), .second, .val (.int (1 : Int32)), .unset, .unset, .unset, .unset, .unset, .unset, .unset, .unset]) rfl k_) ?_
    show Go _ _ _ _ (T5.setTop (mkF m 51 #[.val (.long p1), .second, .val (.long p2), .second, .val (.long p3), .second, .val (.int p4), .val (.long (4294967295 : Int64)), .second, .val (.long (p1 &&& (4294967295 : Int64))), .second, .val (.long (p2 &&& (4294967295 : Int64))), .second, .val (.long (mnL (p1 &&& (4294967295 : Int64)) (p2 &&& (4294967295 : Int64)))), .second, .val (.long (mxL (p1 &&& (4294967295 : Int64)) (p2 &&& (4294967295 : Int64)))), .second, .val (.int (1 : Int32)), .unset, .unset, .unset, .unset, .unset, .unset, .unset, .unset] []))
    refine Go.via (fun t_ k_ => XS.iload H5.here hx rfl (hb hby at_51) rfl k_) ?_
    show Go _ _ _ _ (T5.setTop (mkF m 53 #[.val (.long p1), .second, .val (.long p2), .second, .val (.long p3), .second, .val (.int p4), .val (.long (4294967295 : Int64)), .second, .val (.long (p1 &&& (4294967295 : Int64))), .second, .val (.long (p2 &&& (4294967295 : Int64))), .second, .val (.long (mnL (p1 &&& (4294967295 : Int64)) (p2 &&& (4294967295 : Int64)))), .second, .val (.long (mxL (p1 &&& (4294967295 : Int64)) (p2 &&& (4294967295 : Int64)))), .second, .val (.int (1 : Int32)), .unset, .unset, .unset, .unset, .unset, .unset, .unset, .unset] [(.int (1 : Int32))]))
    refine Go.via (fun t_ k_ => XS.ifNo H5.here hx rfl (hb hby at_53) rfl ((if0 _ _).trans (feq (show ¬ ((1 : Int32) = (0 : Int32)) from (by decide))).1) k_) ?_
    show Go _ _ _ _ (T5.setTop (mkF m 56 #[.val (.long p1), .second, .val (.long p2), .second, .val (.long p3), .second, .val (.int p4), .val (.long (4294967295 : Int64)), .second, .val (.long (p1 &&& (4294967295 : Int64))), .second, .val (.long (p2 &&& (4294967295 : Int64))), .second, .val (.long (mnL (p1 &&& (4294967295 : Int64)) (p2 &&& (4294967295 : Int64)))), .second, .val (.long (mxL (p1 &&& (4294967295 : Int64)) (p2 &&& (4294967295 : Int64)))), .second, .val (.int (1 : Int32)), .unset, .unset, .unset, .unset, .unset, .unset, .unset, .unset] []))
    refine Go.via (fun t_ k_ => XS.lload H5.here hx rfl (hb hby at_56) rfl k_) ?_
    show Go _ _ _ _ (T5.setTop (mkF m 58 #[.val (.long p1), .second, .val (.long p2), .second, .val (.long p3), .second, .val (.int p4), .val (.long (4294967295 : Int64)), .second, .val (.long (p1 &&& (4294967295 : Int64))), .second, .val (.long (p2 &&& (4294967295 : Int64))), .second, .val (.long (mnL (p1 &&& (4294967295 : Int64)) (p2 &&& (4294967295 : Int64)))), .second, .val (.long (mxL (p1 &&& (4294967295 : Int64)) (p2 &&& (4294967295 : Int64)))), .second, .val (.int (1 : Int32)), .unset, .unset, .unset, .unset, .unset, .unset, .unset, .unset] [(.long (4294967295 : Int64))]))
    refine Go.via (fun t_ k_ => XS.lstore H5.here hx rfl (hb hby at_58) rfl (l' := #[.val (.long p1), .second, .val (.long p2), .second, .val (.long p3), .second, .val (.int p4), .val (.long (4294967295 : Int64)), .second, .val (.long (p1 &&& (4294967295 : Int64))), .second, .val (.long (p2 &&& (4294967295 : Int64))), .second, .val (.long (mnL (p1 &&& (4294967295 : Int64)) (p2 &&& (4294967295 : Int64)))), .second, .val (.long (4294967295 : Int64)), .second, .val (.int (1 : Int32)), .unset, .unset, .unset, .unset, .unset, .unset, .unset, .unset]) rfl k_) ?_
    show Go _ _ _ _ (T5.setTop (mkF m 60 #[.val (.long p1), .second, .val (.long p2), .second, .val (.long p3), .second, .val (.int p4), .val (.long (4294967295 : Int64)), .second, .val (.long (p1 &&& (4294967295 : Int64))), .second, .val (.long (p2 &&& (4294967295 : Int64))), .second, .val (.long (mnL (p1 &&& (4294967295 : Int64)) (p2 &&& (4294967295 : Int64)))), .second, .val (.long (4294967295 : Int64)), .second, .val (.int (1 : Int32)), .unset, .unset, .unset, .unset, .unset, .unset, .unset, .unset] []))
    refine Go.via (fun t_ k_ => XS.lload H5.here hx rfl (hb hby at_60) rfl k_) ?_
    show Go _ _ _ _ (T5.setTop (mkF m 62 #[.val (.long p1), .second, .val (.long p2), .second, .val (.long p3), .second, .val (.int p4), .val (.long (4294967295 : Int64)), .second, .val (.long (p1 &&& (4294967295 : Int64))), .second, .val (.long (p2 &&& (4294967295 : Int64))), .second, .val (.long (mnL (p1 &&& (4294967295 : Int64)) (p2 &&& (4294967295 : Int64)))), .second, .val (.long (4294967295 : Int64)), .second, .val (.int (1 : Int32)), .unset, .unset, .unset, .unset, .unset, .unset, .unset, .unset] [(.long (mnL (p1 &&& (4294967295 : Int64)) (p2 &&& (4294967295 : Int64))))]))
    refine Go.via (fun t_ k_ => XS.lload H5.here hx rfl (hb hby at_62) rfl k_) ?_
    show Go _ _ _ _ (T5.setTop (mkF m 64 #[.val (.long p1), .second, .val (.long p2), .second, .val (.long p3), .second, .val (.int p4), .val (.long (4294967295 : Int64)), .second, .val (.long (p1 &&& (4294967295 : Int64))), .second, .val (.long (p2 &&& (4294967295 : Int64))), .second, .val (.long (mnL (p1 &&& (4294967295 : Int64)) (p2 &&& (4294967295 : Int64)))), .second, .val (.long (4294967295 : Int64)), .second, .val (.int (1 : Int32)), .unset, .unset, .unset, .unset, .unset, .unset, .unset, .unset] [(.long (4294967295 : Int64)), (.long (mnL (p1 &&& (4294967295 : Int64)) (p2 &&& (4294967295 : Int64))))]))
    refine Go.via (fun t_ k_ => XS.lcmp H5.here hx rfl (hb hby at_64) rfl k_) ?_
    show Go _ _ _ _ (T5.setTop (mkF m 65 #[.val (.long p1), .second, .val (.long p2), .second, .val (.long p3), .second, .val (.int p4), .val (.long (4294967295 : Int64)), .second, .val (.long (p1 &&& (4294967295 : Int64))), .second, .val (.long (p2 &&& (4294967295 : Int64))), .second, .val (.long (mnL (p1 &&& (4294967295 : Int64)) (p2 &&& (4294967295 : Int64)))), .second, .val (.long (4294967295 : Int64)), .second, .val (.int (1 : Int32)), .unset, .unset, .unset, .unset, .unset, .unset, .unset, .unset] [(.int (lcmpW (mnL (p1 &&& (4294967295 : Int64)) (p2 &&& (4294967295 : Int64))) (4294967295 : Int64)))]))
    by_cases hc65 : (mnL (p1 &&& (4294967295 : Int64)) (p2 &&& (4294967295 : Int64))) = (4294967295 : Int64)
    · refine Go.via (fun t_ k_ => XS.ifNo H5.here hx rfl (hb hby at_65) rfl ((own_leq hc65).2) k_) ?_
      show Go _ _ _ _ (T5.setTop (mkF m 68 #[.val (.long p1), .second, .val (.long p2), .second, .val (.long p3), .second, .val (.int p4), .val (.long (4294967295 : Int64)), .second, .val (.long (p1 &&& (4294967295 : Int64))), .second, .val (.long (p2 &&& (4294967295 : Int64))), .second, .val (.long (mnL (p1 &&& (4294967295 : Int64)) (p2 &&& (4294967295 : Int64)))), .second, .val (.long (4294967295 : Int64)), .second, .val (.int (1 : Int32)), .unset, .unset, .unset, .unset, .unset, .unset, .unset, .unset] []))
      refine Go.via (fun t_ k_ => XS.lload H5.here hx rfl (hb hby at_68) rfl k_) ?_
      show Go _ _ _ _ (T5.setTop (mkF m 70 #[.val (.long p1), .second, .val (.long p2), .second, .val (.long p3), .second, .val (.int p4), .val (.long (4294967295 : Int64)), .second, .val (.long (p1 &&& (4294967295 : Int64))), .second, .val (.long (p2 &&& (4294967295 : Int64))), .second, .val (.long (mnL (p1 &&& (4294967295 : Int64)) (p2 &&& (4294967295 : Int64)))), .second, .val (.long (4294967295 : Int64)), .second, .val (.int (1 : Int32)), .unset, .unset, .unset, .unset, .unset, .unset, .unset, .unset] [(.long (4294967295 : Int64))]))
      refine Go.via (fun t_ k_ => XS.lload H5.here hx rfl (hb hby at_70) rfl k_) ?_
      show Go _ _ _ _ (T5.setTop (mkF m 72 #[.val (.long p1), .second, .val (.long p2), .second, .val (.long p3), .second, .val (.int p4), .val (.long (4294967295 : Int64)), .second, .val (.long (p1 &&& (4294967295 : Int64))), .second, .val (.long (p2 &&& (4294967295 : Int64))), .second, .val (.long (mnL (p1 &&& (4294967295 : Int64)) (p2 &&& (4294967295 : Int64)))), .second, .val (.long (4294967295 : Int64)), .second, .val (.int (1 : Int32)), .unset, .unset, .unset, .unset, .unset, .unset, .unset, .unset] [(.long (4294967295 : Int64)), (.long (4294967295 : Int64))]))
      refine Go.via (fun t_ k_ => XS.lcmp H5.here hx rfl (hb hby at_72) rfl k_) ?_
      show Go _ _ _ _ (T5.setTop (mkF m 73 #[.val (.long p1), .second, .val (.long p2), .second, .val (.long p3), .second, .val (.int p4), .val (.long (4294967295 : Int64)), .second, .val (.long (p1 &&& (4294967295 : Int64))), .second, .val (.long (p2 &&& (4294967295 : Int64))), .second, .val (.long (mnL (p1 &&& (4294967295 : Int64)) (p2 &&& (4294967295 : Int64)))), .second, .val (.long (4294967295 : Int64)), .second, .val (.int (1 : Int32)), .unset, .unset, .unset, .unset, .unset, .unset, .unset, .unset] [(.int (lcmpW (4294967295 : Int64) (4294967295 : Int64)))]))
      refine Go.via (fun t_ k_ => XS.ifYes H5.here hx rfl (pc0 := 73) (pc' := 85) rfl (hb hby at_73) rfl ((own_nlt (show ¬ ((4294967295 : Int64) < (4294967295 : Int64)) from (by decide))).2) (by decide) (by decide) k_) ?_
      show Go _ _ _ _ (T5.setTop (mkF m 85 #[.val (.long p1), .second, .val (.long p2), .second, .val (.long p3), .second, .val (.int p4), .val (.long (4294967295 : Int64)), .second, .val (.long (p1 &&& (4294967295 : Int64))), .second, .val (.long (p2 &&& (4294967295 : Int64))), .second, .val (.long (mnL (p1 &&& (4294967295 : Int64)) (p2 &&& (4294967295 : Int64)))), .second, .val (.long (4294967295 : Int64)), .second, .val (.int (1 : Int32)), .unset, .unset, .unset, .unset, .unset, .unset, .unset, .unset] []))
      refine Go.via (fun t_ k_ => XS.lload H5.here hx rfl (hb hby at_85) rfl k_) ?_
      show Go _ _ _ _ (T5.setTop (mkF m 87 #[.val (.long p1), .second, .val (.long p2), .second, .val (.long p3), .second, .val (.int p4), .val (.long (4294967295 : Int64)), .second, .val (.long (p1 &&& (4294967295 : Int64))), .second, .val (.long (p2 &&& (4294967295 : Int64))), .second, .val (.long (mnL (p1 &&& (4294967295 : Int64)) (p2 &&& (4294967295 : Int64)))), .second, .val (.long (4294967295 : Int64)), .second, .val (.int (1 : Int32)), .unset, .unset, .unset, .unset, .unset, .unset, .unset, .unset] [(.long (mnL (p1 &&& (4294967295 : Int64)) (p2 &&& (4294967295 : Int64))))]))
      refine Go.via (fun t_ k_ => XS.lconst H5.here hx rfl (hb hby at_87) k_) ?_
      show Go _ _ _ _ (T5.setTop (mkF m 88 #[.val (.long p1), .second, .val (.long p2), .second, .val (.long p3), .second, .val (.int p4), .val (.long (4294967295 : Int64)), .second, .val (.long (p1 &&& (4294967295 : Int64))), .second, .val (.long (p2 &&& (4294967295 : Int64))), .second, .val (.long (mnL (p1 &&& (4294967295 : Int64)) (p2 &&& (4294967295 : Int64)))), .second, .val (.long (4294967295 : Int64)), .second, .val (.int (1 : Int32)), .unset, .unset, .unset, .unset, .unset, .unset, .unset, .unset] [(.long (1 : Int64)), (.long (mnL (p1 &&& (4294967295 : Int64)) (p2 &&& (4294967295 : Int64))))]))
      refine Go.via (fun t_ k_ => XS.lsub H5.here hx rfl (hb hby at_88) rfl k_) ?_
      show Go _ _ _ _ (T5.setTop (mkF m 89 #[.val (.long p1), .second, .val (.long p2), .second, .val (.long p3), .second, .val (.int p4), .val (.long (4294967295 : Int64)), .second, .val (.long (p1 &&& (4294967295 : Int64))), .second, .val (.long (p2 &&& (4294967295 : Int64))), .second, .val (.long (mnL (p1 &&& (4294967295 : Int64)) (p2 &&& (4294967295 : Int64)))), .second, .val (.long (4294967295 : Int64)), .second, .val (.int (1 : Int32)), .unset, .unset, .unset, .unset, .unset, .unset, .unset, .unset] [(.long ((mnL (p1 &&& (4294967295 : Int64)) (p2 &&& (4294967295 : Int64))) - (1 : Int64)))]))
      refine Go.via (fun t_ k_ => XS.lstore H5.here hx rfl (hb hby at_89) rfl (l' := #[.val (.long p1), .second, .val (.long p2), .second, .val (.long p3), .second, .val (.int p4), .val (.long (4294967295 : Int64)), .second, .val (.long (p1 &&& (4294967295 : Int64))), .second, .val (.long (p2 &&& (4294967295 : Int64))), .second, .val (.long ((mnL (p1 &&& (4294967295 : Int64)) (p2 &&& (4294967295 : Int64))) - (1 : Int64))), .second, .val (.long (4294967295 : Int64)), .second, .val (.int (1 : Int32)), .unset, .unset, .unset, .unset, .unset, .unset, .unset, .unset]) rfl k_) ?_
      show Go _ _ _ _ (T5.setTop (mkF m 91 #[.val (.long p1), .second, .val (.long p2), .second, .val (.long p3), .second, .val (.int p4), .val (.long (4294967295 : Int64)), .second, .val (.long (p1 &&& (4294967295 : Int64))), .second, .val (.long (p2 &&& (4294967295 : Int64))), .second, .val (.long ((mnL (p1 &&& (4294967295 : Int64)) (p2 &&& (4294967295 : Int64))) - (1 : Int64))), .second, .val (.long (4294967295 : Int64)), .second, .val (.int (1 : Int32)), .unset, .unset, .unset, .unset, .unset, .unset, .unset, .unset] []))
      have m1 := own_mask p1
      have m2 := own_mask p2
      have m3 := own_mm (p1 &&& (4294967295 : Int64)) (p2 &&& (4294967295 : Int64)) m1 m2
      have i1 := own_inc (mnL (p1 &&& (4294967295 : Int64)) (p2 &&& (4294967295 : Int64))) ⟨m3.1, Int.le_trans m3.2.1 m3.2.2⟩
      have i2 := own_inc (mxL (p1 &&& (4294967295 : Int64)) (p2 &&& (4294967295 : Int64))) ⟨Int.le_trans m3.1 m3.2.1, m3.2.2⟩
      have e2 : (4294967295 : Int64).toInt = 4294967295 := by decide
      simp only [Int64.lt_iff_toInt_lt, ← Int64.toInt_inj, e2] at hc65
      obtain ⟨q1, q2, q3⟩ := own_pre ((mnL (p1 &&& (4294967295 : Int64)) (p2 &&& (4294967295 : Int64))) - (1 : Int64)) (4294967295 : Int64) (by omega) (by omega) (by omega)
      exact J91 T5 ((mnL (p1 &&& (4294967295 : Int64)) (p2 &&& (4294967295 : Int64))) - (1 : Int64)) (4294967295 : Int64) (1 : Int32) H5 q1 q2 q3
    · refine Go.via (fun t_ k_ => XS.ifYes H5.here hx rfl (pc0 := 65) (pc' := 91) rfl (hb hby at_65) rfl ((own_neq hc65).2) (by decide) (by decide) k_) ?_
      show Go _ _ _ _ (T5.setTop (mkF m 91 #[.val (.long p1), .second, .val (.long p2), .second, .val (.long p3), .second, .val (.int p4), .val (.long (4294967295 : Int64)), .second, .val (.long (p1 &&& (4294967295 : Int64))), .second, .val (.long (p2 &&& (4294967295 : Int64))), .second, .val (.long (mnL (p1 &&& (4294967295 : Int64)) (p2 &&& (4294967295 : Int64)))), .second, .val (.long (4294967295 : Int64)), .second, .val (.int (1 : Int32)), .unset, .unset, .unset, .unset, .unset, .unset, .unset, .unset] []))
      have m1 := own_mask p1
      have m2 := own_mask p2
      have m3 := own_mm (p1 &&& (4294967295 : Int64)) (p2 &&& (4294967295 : Int64)) m1 m2
      have i1 := own_inc (mnL (p1 &&& (4294967295 : Int64)) (p2 &&& (4294967295 : Int64))) ⟨m3.1, Int.le_trans m3.2.1 m3.2.2⟩
      have i2 := own_inc (mxL (p1 &&& (4294967295 : Int64)) (p2 &&& (4294967295 : Int64))) ⟨Int.le_trans m3.1 m3.2.1, m3.2.2⟩
      have e2 : (4294967295 : Int64).toInt = 4294967295 := by decide
      simp only [Int64.lt_iff_toInt_lt, ← Int64.toInt_inj, e2] at hc65
      obtain ⟨q1, q2, q3⟩ := own_pre (mnL (p1 &&& (4294967295 : Int64)) (p2 &&& (4294967295 : Int64))) (4294967295 : Int64) (by omega) (by omega) (by omega)
      exact J91 T5 (mnL (p1 &&& (4294967295 : Int64)) (p2 &&& (4294967295 : Int64))) (4294967295 : Int64) (1 : Int32) H5 q1 q2 q3
set_option maxRecDepth 65536 in
set_option maxHeartbeats 40000000 in
theorem comes_1 {Post : Tables → Env → Array Value → State → Outcome → State → Prop} (hpost : ∀ tb e args s v u, (limb_1_1.after args s (.returned v) u = true ∧ limb_1_2.after args s (.returned v) u = true ∧ True) → FrameEnd s (.returned v) u (Jvm.fieldLocs frame_1_writes args s ++ Jvm.arrayLocs frame_1_arrays args s ++ Jvm.staticLocs frame_1_statics s) 16 128 → Post tb e args s (.returned v) u) :
    ArmFor flags0 classFile x code maxLocals ret World_1 tables_1 room_1 Calls_1 rest_1 Pre_1 Post := by
  intro l hfl _ _ p e ha hc hk s m args below hf hA hF happ hP
  obtain ⟨hcalls, hrest, hpre⟩ := hP
  obtain ⟨-, -, -, hnamed, -, -, -, hat⟩ := (Spec.applies_iff hf).mp happ
  obtain ⟨hg, hn⟩ := and_e (Cond.before_iff.mp (show (Jvm.Cond.and given_1 narrow_1).before args s = true from hpre))
  obtain ⟨g0, g1⟩ := and_e hg
  obtain ⟨i0, r0⟩ := and_e g1
  obtain ⟨i1, r1⟩ := and_e r0
  obtain ⟨i2, r2⟩ := and_e r1
  obtain ⟨w0, w1, w2, w3, rfl⟩ : ∃ w0 w1 w2 w3 : Value, args = #[w0, w1, w2, w3] := by
    have hs : args.size = 4 := by simpa [Cond.value, given_1] using g0
    obtain ⟨L⟩ := args
    match L, hs with
    | [w0, w1, w2, w3], _ => exact ⟨w0, w1, w2, w3, rfl⟩
  have hw := fun d (hd : d ∈ tables_1) => atoms_spec (ws := Jvm.Cond.code x code maxLocals ret :: tables_1) hat d (List.mem_cons_of_mem _ hd)
  have hfit : Fit s := fun {y c} hc i hi => by
    obtain ⟨ha, rfl⟩ := Array.getElem?_eq_some_iff.mp hc
    have q := List.all_eq_true.mp ((Array.all_eq_true_iff_forall_mem.mp hF) _ (Array.getElem_mem ha)) i (List.mem_range.mpr hi)
    simpa [Array.getElem?_eq_getElem hi] using q
  obtain ⟨v0, e0⟩ := isL_v i0
  obtain rfl : w0 = (.long v0) := Option.some.inj e0
  obtain ⟨v1, e1⟩ := isL_v i1
  obtain rfl : w1 = (.long v1) := Option.some.inj e1
  obtain ⟨v2, e2⟩ := isL_v i2
  obtain rfl : w2 = (.long v2) := Option.some.inj e2
  obtain ⟨v3, e3⟩ := is_v r2
  obtain rfl : w3 = (.int v3) := Option.some.inj e3
  obtain ⟨n, o, h1, h2, h3, _, L, rfl, ⟨rfl, N⟩, hq⟩ := rm0 l s _ hw v0 v1 v2 v3 s.heap s.heap.size (Nat.le_refl _) tables_1 p e ha hc hk s m _ below hf ((Spec.applies_iff_loose hf).mp happ).1 ⟨rfl, State.Warmed39.refl s, rfl⟩ trivial
  refine ⟨n, _, h1, h2, h3, hpost _ _ _ _ _ _ ⟨Cond.after_iff.mpr rfl, Cond.after_iff.mpr (eq_i res_at (Term.int_eval (1)) rfl), trivial⟩ ⟨hq.1, hq.2.1, (hq.2.2.sift fun y hy => Or.inr (N y hy)).mono (by decide) (by decide)⟩⟩
theorem main_1_1 : Claimed_1_1 := comes_1 fun _ _ _ _ _ _ h hF => ⟨h.1, hF⟩
theorem main_1_2 : Claimed_1_2 := comes_1 fun _ _ _ _ _ _ h hF => ⟨h.2.1, hF⟩
end Jvm.Pilot.@@N@@
namespace Jvm.Pilot.@@N@@
open Jvm Jvm.ClassFile Sem Op Lib Jvm.Free Jvm.Stand Jvm.Pilot.@@N@@.Jvm.D
/-! MADE BY PROGRAM (witnessworld.py) out of the Statement's table words and the real class files: 10 classes; the members and pool entries that the words name. The judged class is class 1, her method 1. -/
namespace start1
open Jvm.ClassFile
def u (s : String) : CpInfo := .utf8 (stringToUtf16 s)
/-- a pool by its gaps: so many unusable entries, then the entry; so many at the end -/
def gap : Nat → List CpInfo → List CpInfo
  | 0, r => r
  | n + 1, r => .unusable :: gap n r
def poolList (es : List (Nat × CpInfo)) (last : Nat) : List CpInfo := es.foldr (fun e r => gap e.1 (e.2 :: r)) (gap last [])
def pool (es : List (Nat × CpInfo)) (last : Nat) : Array CpInfo := ⟨poolList es last⟩
def fileOf (pool : Array CpInfo) (this : Nat) (attrs : Array Attribute := #[]) (ms : Array MethodInfo := #[]) (fl : Nat := 33) (sup : Nat := 0) (ifs : Array Nat := #[]) (fds : Array FieldInfo := #[]) : ClassFile where
  minorVersion := 0
  majorVersion := 65
  constantPool := pool
  accessFlags := fl
  thisClass := this
  superClass := sup
  interfaces := ifs
  fields := fds
  methods := ms
  attributes := attrs
def plain (name : String) (sup : Option ClassId) : Class where
  name := name
  kind := .ordinary
  loader := none
  accessFlags := 33
  super := sup
  interfaces := #[]
  cf := none
  fields := #[]
  methods := #[]
  instanceTypes := #[]
  staticTypes := #[]
  resolved := #[]
  callSites := []
  init := .initialized
  statics := none
  mirror := none

def pool0 : Array CpInfo := pool [(5, u "<init>"), (0, u "()V"), (1, .class_ 10), (1, u "java/lang/Object")] 113

def k0c0 : Code := { maxStack := 0, maxLocals := 1, code := object_method_1_code, exceptionTable := #[], attributes := #[] }
def k0m0 : Method := { name := "<init>", desc := "()V", sig := { parameters := [], returnType := none }, accessFlags := 1, code := some k0c0 }
/-- java/lang/Object -/
def k0 : Class := { plain "java/lang/Object" none with
  accessFlags := 33
  interfaces := #[]
  cf := some (fileOf pool0 8 #[] #[{ accessFlags := 1, nameIndex := 5, descriptorIndex := 6, attributes := #[] }] 33 0 #[] #[])
  fields := #[]
  methods := #[k0m0]
  instanceTypes := #[]
  staticTypes := #[]
  resolved := Array.replicate 124 none
  statics := none }

def pool1 : Array CpInfo := pool [(2, .class_ 4), (1, u "java/lang/Object"), (0, u "<init>"), (0, u "()V"), (0, .long 4294967295), (1, .methodref 10 11), (0, .class_ 12), (0, .nameAndType 13 14), (0, u "java/lang/Math"), (0, u "min"), (0, u "(JJ)J"), (0, .methodref 10 16), (0, .nameAndType 17 14), (0, u "max"), (0, .class_ 19), (0, u "com/example/tidy_balancer/tidybalancer/model/BundleRange"), (0, .methodref 18 21), (0, .nameAndType 5 22), (0, u "(JJ)V"), (0, .methodref 18 24), (0, .nameAndType 25 26), (0, u "contains"), (0, u "(J)Z"), (0, .class_ 28), (0, u "com/example/tidy_balancer/tidybalancer/model/BundleRangeContainsPinLaw"), (2, u "law"), (0, u "(JJJI)Z")] 3

def k1m0 : Method := { name := "<init>", desc := "()V", sig := { parameters := [], returnType := none }, accessFlags := 1, code := none }
def k1c1 : Code := { maxStack := 6, maxLocals := 26, code := code, exceptionTable := #[], attributes := #[] }
def k1m1 : Method := { name := "law", desc := "(JJJI)Z", sig := { parameters := [.long, .long, .long, .int], returnType := some .boolean }, accessFlags := 9, code := some k1c1 }
/-- com/example/tidy_balancer/tidybalancer/model/BundleRangeContainsPinLaw -/
def k1 : Class := { plain "com/example/tidy_balancer/tidybalancer/model/BundleRangeContainsPinLaw" (some 0) with
  accessFlags := 49
  interfaces := #[]
  cf := some (fileOf pool1 27 #[] #[{ accessFlags := 1, nameIndex := 5, descriptorIndex := 6, attributes := #[] }, { accessFlags := 9, nameIndex := 31, descriptorIndex := 32, attributes := #[] }] 49 2 #[] #[])
  fields := #[]
  methods := #[k1m0, k1m1]
  instanceTypes := #[]
  staticTypes := #[]
  resolved := Array.replicate 36 none
  statics := none }

def pool2 : Array CpInfo := pool [(1, .class_ 2), (0, u "java/lang/Math"), (1, .class_ 6), (1, u "java/lang/Object"), (0, u "<init>"), (0, u "()V"), (89, .class_ 100), (1, u "java/lang/Math$RandomNumberGeneratorHolder"), (20, u "(JJ)J"), (50, u "negativeZeroFloatBits"), (0, u "J"), (2, u "negativeZeroDoubleBits"), (21, u "max"), (2, u "min"), (43, u "$assertionsDisabled"), (0, u "Z"), (91, u "twoToTheDoubleScaleDown"), (0, u "D"), (4, u "twoToTheDoubleScaleUp"), (9, u "E"), (3, u "PI"), (2, u "TAU"), (2, u "DEGREES_TO_RADIANS"), (0, u "RADIANS_TO_DEGREES")] 94

def k2m0 : Method := { name := "<init>", desc := "()V", sig := { parameters := [], returnType := none }, accessFlags := 2, code := none }
def k2c1 : Code := { maxStack := 4, maxLocals := 4, code := jdk_29_method_66_code, exceptionTable := #[], attributes := #[] }
def k2m1 : Method := { name := "max", desc := "(JJ)J", sig := { parameters := [.long, .long], returnType := some .long }, accessFlags := 9, code := some k2c1 }
def k2c2 : Code := { maxStack := 4, maxLocals := 4, code := jdk_29_method_70_code, exceptionTable := #[], attributes := #[] }
def k2m2 : Method := { name := "min", desc := "(JJ)J", sig := { parameters := [.long, .long], returnType := some .long }, accessFlags := 9, code := some k2c2 }
/-- java/lang/Math -/
def k2 : Class := { plain "java/lang/Math" (some 0) with
  accessFlags := 49
  interfaces := #[]
  cf := some (fileOf pool2 1 #[.nestMembers #[98]] #[{ accessFlags := 2, nameIndex := 7, descriptorIndex := 8, attributes := #[] }, { accessFlags := 9, nameIndex := 198, descriptorIndex := 121, attributes := #[] }, { accessFlags := 9, nameIndex := 201, descriptorIndex := 121, attributes := #[] }] 49 4 #[] #[{ accessFlags := 25, nameIndex := 354, descriptorIndex := 339, attributes := #[] }, { accessFlags := 25, nameIndex := 358, descriptorIndex := 339, attributes := #[] }, { accessFlags := 25, nameIndex := 361, descriptorIndex := 339, attributes := #[] }, { accessFlags := 26, nameIndex := 364, descriptorIndex := 339, attributes := #[] }, { accessFlags := 26, nameIndex := 365, descriptorIndex := 339, attributes := #[] }, { accessFlags := 26, nameIndex := 172, descriptorIndex := 173, attributes := #[] }, { accessFlags := 26, nameIndex := 176, descriptorIndex := 173, attributes := #[] }, { accessFlags := 8, nameIndex := 344, descriptorIndex := 339, attributes := #[] }, { accessFlags := 8, nameIndex := 338, descriptorIndex := 339, attributes := #[] }, { accessFlags := 4120, nameIndex := 245, descriptorIndex := 246, attributes := #[] }])
  fields := #[{ name := "E", type := .double, accessFlags := 25, slot := 0, constantValue := 0 }, { name := "PI", type := .double, accessFlags := 25, slot := 1, constantValue := 0 }, { name := "TAU", type := .double, accessFlags := 25, slot := 2, constantValue := 0 }, { name := "DEGREES_TO_RADIANS", type := .double, accessFlags := 26, slot := 3, constantValue := 0 }, { name := "RADIANS_TO_DEGREES", type := .double, accessFlags := 26, slot := 4, constantValue := 0 }, { name := "negativeZeroFloatBits", type := .long, accessFlags := 26, slot := 5, constantValue := 0 }, { name := "negativeZeroDoubleBits", type := .long, accessFlags := 26, slot := 6, constantValue := 0 }, { name := "twoToTheDoubleScaleUp", type := .double, accessFlags := 8, slot := 7, constantValue := 0 }, { name := "twoToTheDoubleScaleDown", type := .double, accessFlags := 8, slot := 8, constantValue := 0 }, { name := "$assertionsDisabled", type := .boolean, accessFlags := 4120, slot := 9, constantValue := 0 }]
  methods := #[k2m0, k2m1, k2m2]
  instanceTypes := #[]
  staticTypes := #[.double, .double, .double, .double, .double, .long, .long, .double, .double, .boolean]
  resolved := Array.replicate 460 none
  statics := none }

def pool3 : Array CpInfo := pool [(1, .methodref 2 3), (0, .class_ 4), (0, .nameAndType 5 6), (0, u "java/lang/Object"), (0, u "<init>"), (0, u "()V"), (2, .long 4294967295), (16, .fieldref 27 28), (0, .class_ 29), (0, .nameAndType 30 31), (0, u "com/example/tidy_balancer/tidybalancer/model/BundleRange"), (0, u "lower"), (0, u "J"), (0, .fieldref 27 33), (0, .nameAndType 34 31), (0, u "upper"), (23, u "(JJ)V"), (14, u "SEPARATOR"), (0, u "C"), (7, u "contains"), (0, u "(J)Z")] 26

def k3c0 : Code := { maxStack := 5, maxLocals := 5, code := prog_29_method_1_code, exceptionTable := #[], attributes := #[] }
def k3m0 : Method := { name := "<init>", desc := "(JJ)V", sig := { parameters := [.long, .long], returnType := none }, accessFlags := 1, code := some k3c0 }
def k3c1 : Code := { maxStack := 4, maxLocals := 4, code := prog_29_method_5_code, exceptionTable := #[], attributes := #[] }
def k3m1 : Method := { name := "contains", desc := "(J)Z", sig := { parameters := [.long], returnType := some .boolean }, accessFlags := 1, code := some k3c1 }
/-- com/example/tidy_balancer/tidybalancer/model/BundleRange -/
def k3 : Class := { plain "com/example/tidy_balancer/tidybalancer/model/BundleRange" (some 0) with
  accessFlags := 49
  interfaces := #[]
  cf := some (fileOf pool3 27 #[] #[{ accessFlags := 1, nameIndex := 5, descriptorIndex := 58, attributes := #[] }, { accessFlags := 1, nameIndex := 82, descriptorIndex := 83, attributes := #[] }] 49 2 #[] #[{ accessFlags := 26, nameIndex := 73, descriptorIndex := 74, attributes := #[] }, { accessFlags := 18, nameIndex := 30, descriptorIndex := 31, attributes := #[] }, { accessFlags := 18, nameIndex := 34, descriptorIndex := 31, attributes := #[] }])
  fields := #[{ name := "SEPARATOR", type := .char, accessFlags := 26, slot := 0, constantValue := 0 }, { name := "lower", type := .long, accessFlags := 18, slot := 0, constantValue := 0 }, { name := "upper", type := .long, accessFlags := 18, slot := 1, constantValue := 0 }]
  methods := #[k3m0, k3m1]
  instanceTypes := #[.long, .long]
  staticTypes := #[.char]
  resolved := Array.replicate 110 none
  statics := none }

def pool4 : Array CpInfo := pool [(1, u "java/lang/Cloneable"), (0, .class_ 1), (0, u "java/lang/Object"), (0, .class_ 3)] 3

/-- java/lang/Cloneable -/
def k4 : Class := { plain "java/lang/Cloneable" (some 0) with
  accessFlags := 1537
  interfaces := #[]
  cf := some (fileOf pool4 2 #[] #[] 1537 4 #[] #[])
  fields := #[]
  methods := #[]
  instanceTypes := #[]
  staticTypes := #[]
  resolved := Array.replicate 8 none
  statics := none }

def pool5 : Array CpInfo := pool [(1, u "java/io/Serializable"), (0, .class_ 1), (0, u "java/lang/Object"), (0, .class_ 3)] 3

/-- java/io/Serializable -/
def k5 : Class := { plain "java/io/Serializable" (some 0) with
  accessFlags := 1537
  interfaces := #[]
  cf := some (fileOf pool5 2 #[] #[] 1537 4 #[] #[])
  fields := #[]
  methods := #[]
  instanceTypes := #[]
  staticTypes := #[]
  resolved := Array.replicate 8 none
  statics := none }

/-- the primitive byte -/
def k6 : Class := { plain "byte" none with kind := .primitive 'B', accessFlags := 0x411 }
/-- [B -/
def k7 : Class := { plain "[B" (some 0) with kind := .array 6 .byte, interfaces := #[4, 5], accessFlags := 1041 }

/-- the primitive int -/
def k8 : Class := { plain "int" none with kind := .primitive 'I', accessFlags := 0x411 }
/-- [I -/
def k9 : Class := { plain "[I" (some 0) with kind := .array 8 .int, interfaces := #[4, 5], accessFlags := 1041 }

def heap : Heap := #[]
def classes : Array Class := #[k0, k1, k2, k3, k4, k5, k6, k7, k8, k9]
def interned : List (Array UInt16 × Addr) := []
def slotsUsed : Nat := 0
def theMethod : MethodId := ⟨1, 1⟩
def args0 : Array Value := #[.long 5, .long 300, .long 7, .int 0]
def aboutOver (below : List Frame) : State where
  vm := { classes := classes, interned := interned.toArray }
  heap := heap
  slotsUsed := slotsUsed
  threads := #[{ frames := .invoking theMethod args0 :: below }]
def below0 : List Frame := [.native { method := ⟨0, 0⟩, args := #[] }]
def about1 : State := aboutOver below0
def p0 : Program := .bare "" "" ""
def e0 : Env := launch0.env 0 0 0
theorem w_frames : about1.frames = Frame.invoking theMethod args0 :: below0 := rfl
set_option maxRecDepth 65536 in
theorem w_args : argsFit about1.vm theMethod args0 = true := by decide +kernel
set_option maxRecDepth 65536 in
theorem w_heap : heapFits about1 = true := by decide +kernel
set_option maxRecDepth 65536 in
theorem w_runnable : about1.curStatus? = some .runnable := by decide +kernel
set_option maxRecDepth 65536 in
theorem w_alone : about1.alone = true := by decide +kernel
set_option maxRecDepth 65536 in
theorem w_named : about1.methodNamed? x = some theMethod := by decide +kernel
set_option maxRecDepth 65536 in
theorem w_hears : about1.hears theMethod below0 = true := by decide +kernel
set_option maxRecDepth 65536 in
theorem w_ripe : about1.ripe theMethod args0 below0 = true := by decide +kernel
theorem w_running : about1.status = .running := rfl
set_option maxRecDepth 65536 in
theorem w_room : about1.hasRoom e0.platform room_1 = true :=
  launch0.hasRoom_least _ room_1 (by decide +kernel) (by decide +kernel) (by decide +kernel) (by decide +kernel) (by decide +kernel) (by decide +kernel)
theorem allAtoms_all (ts : List Jvm.Cond) (a : Array Jvm.Value) (st : Jvm.State) : (allAtoms ts).before a st = ts.all (fun c => c.before a st) := by
  induction ts with
  | nil => rfl
  | cons c t ih =>
    show (Jvm.Cond.and c (allAtoms t)).before a st = _
    rw [Jvm.Cond.before_and, ih, List.all_cons]
def words1 : List Jvm.Cond := Jvm.Cond.code x code maxLocals ret :: tables_1
/-- a 'code' word, met by the world's own term for the bytes: nothing is compared byte by byte -/
theorem code_word {y : MethodName} {bytes : ByteArray} {mx : Nat} {rt : Option FieldType} {a : Array Value} {s : State} {m : MethodId} {meth : Method} {c : Code} (h1 : s.methodNamed? y = some m) (h2 : s.vm.method? m = some meth) (h3 : meth.code = some c) (h4 : c.code = bytes)
    (h5 : (c.maxLocals == mx && c.exceptionTable.isEmpty && decide (c.maxStack ≤ mostOperands) && decide (meth.sig.returnType = rt) && !meth.locks && decide (parseMethodDescriptor y.desc = some meth.sig)) = true) : (Jvm.Cond.code y bytes mx rt).before a s = true := by
  simp only [Bool.and_eq_true, beq_iff_eq, Bool.not_eq_true', decide_eq_true_eq] at h5
  obtain ⟨⟨⟨⟨⟨g1, g2⟩, g3⟩, g4⟩, g5⟩, g6⟩ := h5
  simp [Cond.before, Cond.holds, Cond.value, h1, h2, h3, h4, g1, g2, g3, g4, g5, g6]
def isCode : Jvm.Cond → Bool
  | .code _ _ _ _ => true
  | _ => false
theorem all_split {L : List Jvm.Cond} {P : Jvm.Cond → Bool} (h1 : L.all (fun c => isCode c || P c) = true) (h2 : ∀ c ∈ L.filter isCode, P c = true) : L.all P = true := by
  refine List.all_eq_true.mpr fun c hc => ?_
  have h := List.all_eq_true.mp h1 c hc
  rcases Bool.eq_false_or_eq_true (isCode c) with hi | hi
  · exact h2 c (List.mem_filter.mpr ⟨hc, hi⟩)
  · simpa [hi] using h
set_option maxRecDepth 65536 in
theorem w_c0 : (Jvm.Cond.code x code maxLocals ret).before args0 about1 = true := code_word (m := ⟨1, 1⟩) (meth := k1m1) (c := k1c1) (by decide +kernel) rfl rfl rfl (by decide +kernel)
set_option maxRecDepth 65536 in
theorem w_c1 : (Jvm.Cond.code ({ cls := "java/lang/Math", name := "min", desc := "(JJ)J" } : Jvm.MethodName) jdk_29_method_70_code (4 : Nat) (Option.some Jvm.ClassFile.FieldType.long)).before args0 about1 = true := code_word (m := ⟨2, 2⟩) (meth := k2m2) (c := k2c2) (by decide +kernel) rfl rfl rfl (by decide +kernel)
set_option maxRecDepth 65536 in
theorem w_c2 : (Jvm.Cond.code ({ cls := "java/lang/Math", name := "max", desc := "(JJ)J" } : Jvm.MethodName) jdk_29_method_66_code (4 : Nat) (Option.some Jvm.ClassFile.FieldType.long)).before args0 about1 = true := code_word (m := ⟨2, 1⟩) (meth := k2m1) (c := k2c1) (by decide +kernel) rfl rfl rfl (by decide +kernel)
set_option maxRecDepth 65536 in
theorem w_c3 : (Jvm.Cond.code ({ cls := "com/example/tidy_balancer/tidybalancer/model/BundleRange", name := "<init>", desc := "(JJ)V" } : Jvm.MethodName) prog_29_method_1_code (5 : Nat) (Option.none : Option Jvm.ClassFile.FieldType)).before args0 about1 = true := code_word (m := ⟨3, 0⟩) (meth := k3m0) (c := k3c0) (by decide +kernel) rfl rfl rfl (by decide +kernel)
set_option maxRecDepth 65536 in
theorem w_c4 : (Jvm.Cond.code ({ cls := "java/lang/Object", name := "<init>", desc := "()V" } : Jvm.MethodName) object_method_1_code (1 : Nat) (Option.none : Option Jvm.ClassFile.FieldType)).before args0 about1 = true := code_word (m := ⟨0, 0⟩) (meth := k0m0) (c := k0c0) (by decide +kernel) rfl rfl rfl (by decide +kernel)
set_option maxRecDepth 65536 in
theorem w_c5 : (Jvm.Cond.code ({ cls := "com/example/tidy_balancer/tidybalancer/model/BundleRange", name := "contains", desc := "(J)Z" } : Jvm.MethodName) prog_29_method_5_code (4 : Nat) (Option.some Jvm.ClassFile.FieldType.boolean)).before args0 about1 = true := code_word (m := ⟨3, 1⟩) (meth := k3m1) (c := k3c1) (by decide +kernel) rfl rfl rfl (by decide +kernel)
def codes1 : List Jvm.Cond := [Jvm.Cond.code x code maxLocals ret, Jvm.Cond.code ({ cls := "java/lang/Math", name := "min", desc := "(JJ)J" } : Jvm.MethodName) jdk_29_method_70_code (4 : Nat) (Option.some Jvm.ClassFile.FieldType.long), Jvm.Cond.code ({ cls := "java/lang/Math", name := "max", desc := "(JJ)J" } : Jvm.MethodName) jdk_29_method_66_code (4 : Nat) (Option.some Jvm.ClassFile.FieldType.long), Jvm.Cond.code ({ cls := "com/example/tidy_balancer/tidybalancer/model/BundleRange", name := "<init>", desc := "(JJ)V" } : Jvm.MethodName) prog_29_method_1_code (5 : Nat) (Option.none : Option Jvm.ClassFile.FieldType), Jvm.Cond.code ({ cls := "java/lang/Object", name := "<init>", desc := "()V" } : Jvm.MethodName) object_method_1_code (1 : Nat) (Option.none : Option Jvm.ClassFile.FieldType), Jvm.Cond.code ({ cls := "com/example/tidy_balancer/tidybalancer/model/BundleRange", name := "contains", desc := "(J)Z" } : Jvm.MethodName) prog_29_method_5_code (4 : Nat) (Option.some Jvm.ClassFile.FieldType.boolean)]
set_option maxRecDepth 65536 in
theorem codes_eq : words1.filter isCode = codes1 := rfl
theorem w_codes : ∀ c ∈ words1.filter isCode, c.before args0 about1 = true := by
  rw [codes_eq]
  intro c hc
  simp only [codes1, List.mem_cons, List.not_mem_nil, or_false] at hc
  rcases hc with rfl | rfl | rfl | rfl | rfl | rfl
  · exact w_c0
  · exact w_c1
  · exact w_c2
  · exact w_c3
  · exact w_c4
  · exact w_c5
set_option maxRecDepth 65536 in
theorem w_t1 : (words1.take 24).all (fun c => isCode c || c.before args0 about1) = true := by decide +kernel
set_option maxRecDepth 65536 in
theorem w_t2 : (words1.drop 24).all (fun c => isCode c || c.before args0 about1) = true := by decide +kernel
theorem w_tables : (allAtoms (Jvm.Cond.code x code maxLocals ret :: tables_1)).before args0 about1 = true := by
  rw [allAtoms_all]
  show words1.all (fun c => c.before args0 about1) = true
  refine all_split ?_ w_codes
  rw [← List.take_append_drop 24 words1, List.all_append, w_t1, w_t2]
  rfl
set_option maxRecDepth 65536 in
theorem w_case : (Jvm.Cond.and given_1 narrow_1).before args0 about1 = true := by decide +kernel
theorem w_applies : (headSpec (Jvm.Cond.code x code maxLocals ret :: tables_1) room_1).applies x e0.platform about1 = true :=
  (Spec.applies_iff w_frames).mpr ⟨w_running, w_runnable, w_alone, w_named, w_hears, w_ripe, w_room, w_tables⟩
theorem atStart : AtStart classFile x code maxLocals ret World_1 tables_1 room_1 Calls_1 rest_1 Pre_1 launch0 p0 e0 about1 theMethod args0 below0 :=
  ⟨lists_1, trivial, launch0.admits_env _ _ _, launch0.least_env, fairChoices_fair.cas, fairChoices_fair.clock, w_frames, w_args, w_heap, w_applies, trivial, trivial, w_case⟩
end start1
theorem witness_1 : WitnessClaimed_1 := ⟨start1.p0, start1.e0, start1.about1, start1.theMethod, start1.args0, start1.below0, start1.atStart⟩
end Jvm.Pilot.@@N@@
