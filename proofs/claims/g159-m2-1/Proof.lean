import JvmDerived
import JvmDerived.Pilot.@@N@@Statement
import JvmDerived.Pilot.@@N@@Code
set_option linter.unusedVariables false
set_option linter.unusedSimpArgs false
namespace Jvm.Pilot.@@N@@
open Jvm Jvm.ClassFile Sem Op Lib Jvm.Free Jvm.Stand Jvm.LawKit Jvm.RoadKit Bundle Jvm.Pilot.@@N@@.Jvm.D
/-! THE WALK IN CONTINUATION FORM. Here: the run stands in T, its heap is h, nothing old was written. Go: from the state F the run ends as Q says. CM: a callee's contract. -/
def Here (p : Program) (l : Launch) (e : Env) (R : Room) (s : State) (m : MethodId) (args : Array Value) (below : List Frame) (meth : Method) (c : Code) (n0 : Nat) (T : State) (h : Heap) (k n : Nat) : Prop :=
  ∃ locs, Stand p l e R s m args below meth c T locs k n ∧ T.heap = h ∧ Fr n0 locs
def Fini (below : List Frame) (s : State) (n0 : Nat) (Q : Option Value → Heap → Prop) (K N : Nat) (t : State) (o : Outcome) : Prop :=
  t.status = .running ∧ Ended t below o ∧ ∃ v L, o = .returned v ∧ (Q v t.heap ∧ Fr n0 L) ∧ FrameEnd s o t L K N
def Go (p : Program) (e : Env) (below : List Frame) (Φ : State → Outcome → Prop) (F : State) : Prop :=
  ∃ t o, Steps p.tables e below F t ∧ Φ t o
def CM (l : Launch) (Z : State) (y : MethodName) (code : ByteArray) (maxL : Nat) (ret : Option FieldType) (R : Room) (as : Array Value) (h0 : Heap) (n0 : Nat) (Q : Option Value → Heap → Prop) : Prop :=
  ∀ ws, MetFree l y (head1 (Jvm.Cond.code y code maxL ret :: ws) R) (fun a U => a = as ∧ Z.Warmed39 U.vm ∧ U.heap = h0) (fun _ _ _ _ _ => True) (fun _ U o U' => ∃ v L, o = .returned v ∧ (Q v U'.heap ∧ Fr n0 L) ∧ FrameEnd U o U' L R.cells R.slots)
section Own
variable {p : Program} {l : Launch} {e : Env} {R : Room} {s : State} {m : MethodId} {args : Array Value} {below : List Frame} {meth : Method} {c : Code} {T : State} {h : Heap} {k n n0 K N : Nat} {Q : Option Value → Heap → Prop} {Z : State} {a0 : Array Value} {Φ : State → Outcome → Prop}
theorem Here.here (H : Here p l e R s m args below meth c n0 T h k n) : At T m c below := by obtain ⟨_, X, _, _⟩ := H; exact X.here
theorem Here.stand (H : Here p l e R s m args below meth c n0 T h k n) : ∃ locs, Stand p l e R s m args below meth c T locs k n ∧ T.heap = h ∧ Fr n0 locs := H
theorem Go.via {F F' : State} (st : ∀ t, Steps p.tables e below F' t → Steps p.tables e below F t) (g : Go p e below Φ F') : Go p e below Φ F := by
  obtain ⟨t, o, h1, r⟩ := g; exact ⟨t, o, st t h1, r⟩
theorem own_enter {y : MethodName} {code : ByteArray} {maxL : Nat} {ret : Option FieldType} {as : Array Value} {h0 : Heap} (hpl : plainFor y = true)
    (body : ∀ (p : Program) (e : Env) (s : State) (m : MethodId) (below : List Frame) (meth : Method) (c : Code) (T : State), p.tables.exec = Jvm.exec → c.code = code → c.maxLocals = maxL → s.vm.findClass y.cls = some m.cls → meth.name = y.name → Z.Warmed39 s.vm → meth.sig.returnType = ret → meth.locks = false → Here p l e R s m as below meth c n0 T h0 0 0 → Go p e below (Fini below s n0 Q R.cells R.slots) (T.setTop (entryFrame m as maxL))) :
    CM l Z y code maxL ret R as h0 n0 Q := by
  intro ws
  refine MetFree.of_bodySF hpl hisR ?_
  intro p e s m args below meth c s₁ Bd hml0 hP hK
  obtain ⟨rfl, hZ, hh⟩ := hP
  exact body p e s m below meth c s₁ Bd.exec Bd.bytes hml0 (findClass_of_methodNamed Bd.named) (name_of_methodNamed Bd.named Bd.method).1 hZ Bd.returns Bd.notSynchronized ⟨[], Stand.of_body Bd, by rw [← hh, Bd.state]; rfl, Fr.nil n0⟩
theorem Here.leave (H : Here p l e R s m args below meth c n0 T h k n) (hlk : meth.locks = false) {v : Option Value} (hv : meth.sig.returnType = none → v = none) (hQ : Q v h) (hk : k ≤ K) (hn : n ≤ N) {F : State}
    (st : ∀ fs, (∀ (f : JFrame) (acts : List Action), f.method = m → f.locked = none → f.entered = [] → (doReturn e (T.setTop f) acts v).1 = T.setFrames fs) → Steps p.tables e below F (T.setFrames fs)) : Go p e below (Fini below s n0 Q K N) F := by
  obtain ⟨locs, X, rfl, F0⟩ := H
  obtain ⟨fs, hr, hrun, hended, hW, hsame⟩ := X.leave (v := v) hv hlk
  exact ⟨_, _, st fs hr, hrun, hended, v, locs, rfl, ⟨hQ, F0⟩, ⟨_, rfl⟩, hW, hsame.mono hk hn⟩
theorem own_retV (H : Here p l e R s m args below meth c n0 T h k n) (hx : p.tables.exec = Jvm.exec) (hlk : meth.locks = false) (hret : meth.sig.returnType = none) {pc : Nat} {Ls : Array Slot} (hd : decode c.code pc = .ok (.return_, 1)) (hQ : Q none h) (hk : k ≤ K) (hn : n ≤ N) :
    Go p e below (Fini below s n0 Q K N) (T.setTop (mkF m pc Ls [])) := by
  obtain ⟨locs, X, r1, r2⟩ := H.stand
  exact H.leave hlk (fun _ => rfl) hQ hk hn fun fs hr => X.returnOut hx hret hd hr
theorem own_retI (H : Here p l e R s m args below meth c n0 T h k n) (hx : p.tables.exec = Jvm.exec) (hlk : meth.locks = false) (hret : meth.sig.returnType = some .int) {pc : Nat} {Ls : Array Slot} {z : Int32} {rest : List Value} (hd : decode c.code pc = .ok (.ireturn, 1)) (hQ : Q (some (.int z)) h) (hk : k ≤ K) (hn : n ≤ N) :
    Go p e below (Fini below s n0 Q K N) (T.setTop (mkF m pc Ls (.int z :: rest))) := by
  obtain ⟨locs, X, r1, r2⟩ := H.stand
  exact H.leave hlk (fun q => by rw [hret] at q; cases q) hQ hk hn fun fs hr => retOut X hx hret rfl (Or.inl ⟨rfl, Or.inl rfl, z, rfl⟩) hd hr
theorem own_retN (H : Here p l e R s m args below meth c n0 T h k n) (hx : p.tables.exec = Jvm.exec) (hlk : meth.locks = false) {t : FieldType} (ht : t = .boolean ∨ t = .byte ∨ t = .char ∨ t = .short) (hret : meth.sig.returnType = some t) {pc : Nat} {Ls : Array Slot} {z : Int32} {rest : List Value} (hd : decode c.code pc = .ok (.ireturn, 1)) (hQ : Q (some (.int (nar t z))) h) (hk : k ≤ K) (hn : n ≤ N) :
    Go p e below (Fini below s n0 Q K N) (T.setTop (mkF m pc Ls (.int z :: rest))) := by
  obtain ⟨locs, X, r1, r2⟩ := H.stand
  exact H.leave hlk (fun q => by rw [hret] at q; cases q) hQ hk hn fun fs hr => retN X hx hret ht hd hr
theorem own_retL (H : Here p l e R s m args below meth c n0 T h k n) (hx : p.tables.exec = Jvm.exec) (hlk : meth.locks = false) (hret : meth.sig.returnType = some .long) {pc : Nat} {Ls : Array Slot} {z : Int64} {rest : List Value} (hd : decode c.code pc = .ok (.lreturn, 1)) (hQ : Q (some (.long z)) h) (hk : k ≤ K) (hn : n ≤ N) :
    Go p e below (Fini below s n0 Q K N) (T.setTop (mkF m pc Ls (.long z :: rest))) := by
  obtain ⟨locs, X, r1, r2⟩ := H.stand
  exact H.leave hlk (fun q => by rw [hret] at q; cases q) hQ hk hn fun fs hr => retOut X hx hret rfl (Or.inr (Or.inl ⟨rfl, rfl, z, rfl⟩)) hd hr
theorem own_retA (H : Here p l e R s m args below meth c n0 T h k n) (hx : p.tables.exec = Jvm.exec) (hlk : meth.locks = false) {t : FieldType} (ht : t.isReference = true) (hret : meth.sig.returnType = some t) {pc : Nat} {Ls : Array Slot} {w : Value} {rest : List Value} (hn' : narrow t w = w) (hw : w.isRef = true) (hd : decode c.code pc = .ok (.areturn, 1)) (hQ : Q (some w) h) (hk : k ≤ K) (hn : n ≤ N) :
    Go p e below (Fini below s n0 Q K N) (T.setTop (mkF m pc Ls (w :: rest))) := by
  obtain ⟨locs, X, r1, r2⟩ := H.stand
  exact H.leave hlk (fun q => by rw [hret] at q; cases q) hQ hk hn fun fs hr => retOut X hx hret hn' (Or.inr (Or.inr (Or.inr (Or.inr ⟨rfl, ht, hw⟩)))) hd hr
/-! calls -/
theorem own_callS (H : Here p l e R s m args below meth c n0 T h k n) (hx : p.tables.exec = Jvm.exec) (hZ : Z.Warmed39 s.vm) {own : String} {index : Nat} {y : MethodName} {bytes : ByteArray} {maxL : Nat} {ret : Option FieldType} {rm : Room} {argsL rest : List Value} {Q' : Option Value → Heap → Prop}
    (hown : s.vm.findClass own = some m.cls) (w1 : (Jvm.Cond.methodLink own index y).before a0 Z = true) (w2 : (Jvm.Cond.static y).before a0 Z = true) (w3 : (Jvm.Cond.initialized y.cls).before a0 Z = true) (w4 : (Jvm.Cond.code y bytes maxL ret).before a0 Z = true)
    (hy : y.cls ≠ "java/lang/invoke/MethodHandle" ∧ y.cls ≠ "java/lang/invoke/VarHandle") (hM : CM l Z y bytes maxL ret rm argsL.toArray h n0 Q')
    {g : JFrame} (hg : g.method = m) (hsize : g.locals.size = c.maxLocals) (hlen : ∀ sig, parseMethodDescriptor y.desc = some sig → argsL.length = sig.parameters.length)
    (hstack : g.stack = argsL.reverse ++ rest) (W : Nat) (hW : 2 * g.monitorRoom + (rest.map fun v => v.category).sum ≤ W) (hd : decode c.code g.pc = .ok (.invokestatic index, 3))
    (hf : rm.frames + 1 ≤ R.frames) (hl : W + (maxL + 11) + rm.locals ≤ R.locals) (hc : k + rm.cells ≤ R.cells) (hs : n + rm.slots ≤ R.slots)
    (next : ∀ v T' h', Q' v h' → Here p l e R s m args below meth c n0 T' h' (k + rm.cells) (n + rm.slots) → Go p e below Φ (T'.setTop { g with pc := g.pc + 3, stack := v.toList ++ rest })) :
    Go p e below Φ (T.setTop g) := by
  obtain ⟨locs, X, rfl, F⟩ := H
  obtain ⟨v, _, ⟨T3, L3, k3, n3⟩, -, X3, ⟨Lc3, hQ3, l3, y3, z3⟩, st3⟩ := Jvm.LawKit.callS X hx (y := y) hown (mvT hZ w1) (mvT hZ w2) (mvT hZ w3) (mvT hZ w4) hy (backOf (W := W) (Q := fun v h L => Q' v h ∧ Fr n0 L) (hM []) hZ w4 w3 hf hl) (g := g) hg hsize (argsL := argsL) (rest := rest) hlen hstack hW hd (fun _ _ => ⟨rfl, rfl, hc, hs⟩)
  dsimp only [Pt.U, Pt.locs, Pt.cells, Pt.slots] at X3 l3 y3 z3 st3 hQ3
  subst l3 y3 z3
  exact Go.via st3 (next v T3 T3.heap hQ3.1 ⟨_, X3, rfl, F.app hQ3.2⟩)
theorem own_callI (H : Here p l e R s m args below meth c n0 T h k n) (hx : p.tables.exec = Jvm.exec) (hZ : Z.Warmed39 s.vm) {own : String} {index : Nat} {y : MethodName} {bytes : ByteArray} {maxL : Nat} {rm : Room} {a : Addr} {argsL rest : List Value} {Q' : Option Value → Heap → Prop}
    (hy1 : y.name = "<init>") (hown : s.vm.findClass own = some m.cls) (w1 : (Jvm.Cond.methodLink own index y).before a0 Z = true) (w2 : (Jvm.Cond.instanceMethod y).before a0 Z = true) (w3 : (Jvm.Cond.initialized y.cls).before a0 Z = true) (w4 : (Jvm.Cond.code y bytes maxL none).before a0 Z = true)
    (hy : y.cls ≠ "java/lang/invoke/MethodHandle" ∧ y.cls ≠ "java/lang/invoke/VarHandle") (hM : CM l Z y bytes maxL none rm (Value.ref a :: argsL).toArray h n0 Q')
    {g : JFrame} (hg : g.method = m) (hsize : g.locals.size = c.maxLocals) (hlen : ∀ sig, parseMethodDescriptor y.desc = some sig → argsL.length = sig.parameters.length)
    (hstack : g.stack = argsL.reverse ++ .ref a :: rest) (W : Nat) (hW : 2 * g.monitorRoom + (rest.map fun v => v.category).sum ≤ W) (hd : decode c.code g.pc = .ok (.invokespecial index, 3))
    (hf : rm.frames + 1 ≤ R.frames) (hl : W + (maxL + 11) + rm.locals ≤ R.locals) (hc : k + rm.cells ≤ R.cells) (hs : n + rm.slots ≤ R.slots)
    (next : ∀ v T' h', Q' v h' → Here p l e R s m args below meth c n0 T' h' (k + rm.cells) (n + rm.slots) → Go p e below Φ (T'.setTop { g with pc := g.pc + 3, stack := v.toList ++ rest })) :
    Go p e below Φ (T.setTop g) := by
  obtain ⟨locs, X, rfl, F⟩ := H
  obtain ⟨v, _, ⟨T3, L3, k3, n3⟩, -, X3, ⟨Lc3, hQ3, l3, y3, z3⟩, st3⟩ := X.specialBack hx (y := y) hy1 hown (mvT hZ w1) (mvT hZ w2) (mvT hZ w4) hy (backOf (W := W) (Q := fun v h L => Q' v h ∧ Fr n0 L) (hM []) hZ w4 w3 hf hl) (g := g) hg hsize (Steps.refl _) (a := a) (argsL := argsL) (rest := rest) hlen hstack hW hd (fun _ _ => ⟨rfl, rfl, hc, hs⟩)
  dsimp only [Pt.U, Pt.locs, Pt.cells, Pt.slots] at X3 l3 y3 z3 st3 hQ3
  subst l3 y3 z3
  exact Go.via (fun t q => st3.trans q) (next v T3 T3.heap hQ3.1 ⟨_, X3, rfl, F.app hQ3.2⟩)
theorem own_callV (H : Here p l e R s m args below meth c n0 T h k n) (hx : p.tables.exec = Jvm.exec) (hZ : Z.Warmed39 s.vm) {own C : String} {index : Nat} {y : MethodName} {bytes : ByteArray} {maxL : Nat} {ret : Option FieldType} {rm : Room} {a : Addr} {argsL rest : List Value} {Q' : Option Value → Heap → Prop}
    (hown : s.vm.findClass own = some m.cls) (w1 : (Jvm.Cond.methodLink own index y).before a0 Z = true) (w2 : (Jvm.Cond.declares y).before a0 Z = true) (w3 : (Jvm.Cond.selects C y y).before a0 Z = true) (w4 : (Jvm.Cond.instanceMethod y).before a0 Z = true) (w5 : (Jvm.Cond.initialized y.cls).before a0 Z = true) (w6 : (Jvm.Cond.code y bytes maxL ret).before a0 Z = true)
    (hy : y.cls ≠ "java/lang/invoke/MethodHandle" ∧ y.cls ≠ "java/lang/invoke/VarHandle") (hE : Exa Z h a C) (hM : CM l Z y bytes maxL ret rm (Value.ref a :: argsL).toArray h n0 Q')
    {g : JFrame} (hg : g.method = m) (hsize : g.locals.size = c.maxLocals) (hlen : ∀ sig, parseMethodDescriptor y.desc = some sig → argsL.length = sig.parameters.length)
    (hstack : g.stack = argsL.reverse ++ .ref a :: rest) (W : Nat) (hW : 2 * g.monitorRoom + (rest.map fun v => v.category).sum ≤ W) (hd : decode c.code g.pc = .ok (.invokevirtual index, 3))
    (hf : rm.frames + 1 ≤ R.frames) (hl : W + (maxL + 11) + rm.locals ≤ R.locals) (hc : k + rm.cells ≤ R.cells) (hs : n + rm.slots ≤ R.slots)
    (next : ∀ v T' h', Q' v h' → Here p l e R s m args below meth c n0 T' h' (k + rm.cells) (n + rm.slots) → Go p e below Φ (T'.setTop { g with pc := g.pc + 3, stack := v.toList ++ rest })) :
    Go p e below Φ (T.setTop g) := by
  obtain ⟨locs, X, rfl, F⟩ := H
  obtain ⟨cq, kq, qa, qb, qc⟩ := isOf hZ rfl hE
  obtain ⟨v, _, ⟨T3, L3, k3, n3⟩, -, X3, ⟨Lc3, hQ3, l3, y3, z3⟩, st3⟩ := X.virtualBack hx (y := y) (z := y) hown (mvT hZ w1) (mvT hZ w2) (notFace_of_selects (args := #[]) (mvT hZ w3)) (mvT hZ w3) (mvT hZ w4) hy (backOf (W := W) (Q := fun v h L => Q' v h ∧ Fr n0 L) (hM []) hZ w6 w5 hf hl) qa qc (g := g) hg hsize (Steps.refl _) (argsL := argsL) (rest := rest) hlen hstack hW hd (fun _ _ => ⟨rfl, rfl, hc, hs⟩)
  dsimp only [Pt.U, Pt.locs, Pt.cells, Pt.slots] at X3 l3 y3 z3 st3 hQ3
  subst l3 y3 z3
  exact Go.via (fun t q => st3.trans q) (next v T3 T3.heap hQ3.1 ⟨_, X3, rfl, F.app hQ3.2⟩)
theorem own_initO (H : Here p l e R s m args below meth c n0 T h k n) (hx : p.tables.exec = Jvm.exec) (hZ : Z.Warmed39 s.vm) {own : String} {idx : Nat} (hown : s.vm.findClass own = some m.cls) (w1 : (Jvm.Cond.methodLink own idx Lib.objectInit).before a0 Z = true) (w2 : (Jvm.Cond.instanceMethod Lib.objectInit).before a0 Z = true)
    (w3 : (Jvm.Cond.code Lib.objectInit object_method_1_code 1 none).before a0 Z = true) {g : JFrame} (hg : g.method = m) (hsize : g.locals.size = c.maxLocals) {a : Addr} {rest : List Value} (hs : g.stack = .ref a :: rest) (hd : decode c.code g.pc = .ok (.invokespecial idx, 3))
    (hf : 1 ≤ R.frames) (W : Nat) (hW : 2 * g.monitorRoom + (rest.map fun v => v.category).sum ≤ W) (hl : W + 12 ≤ R.locals)
    (next : ∀ T', Here p l e R s m args below meth c n0 T' h k n → Go p e below Φ (T'.setTop { g with pc := g.pc + 3, stack := rest })) : Go p e below Φ (T.setTop g) := by
  obtain ⟨locs, X, r1, r2⟩ := H.stand
  obtain ⟨T', X', e', st⟩ := initO X hx hZ hown w1 w2 w3 r1 hg hsize hs hd hf hW hl
  exact Go.via st (next T' ⟨_, X', e', r2⟩)
/-! fields, objects -/
theorem own_getF (H : Here p l e R s m args below meth c n0 T h k n) (hx : p.tables.exec = Jvm.exec) (hZ : Z.Warmed39 s.vm) {own O nm d : String} {index : Nat} (hown : s.vm.findClass own = some m.cls) (w : (Jvm.Cond.fieldLink own index O nm d).before a0 Z = true)
    {a : Addr} {v : Value} (F : Fld Z h a O nm d v) {g : JFrame} (hg : g.method = m) {rest : List Value} (hs : g.stack = .ref a :: rest) (hd : decode c.code g.pc = .ok (.getfield index, 3))
    (next : ∀ T', Here p l e R s m args below meth c n0 T' h k n → Go p e below Φ (T'.setTop { g with pc := g.pc + 3, stack := v :: rest })) : Go p e below Φ (T.setTop g) := by
  obtain ⟨locs, X, r1, r2⟩ := H.stand
  obtain ⟨T', X', e', st⟩ := getF X hx hZ hown (host := "") (Or.inl w) Via.refl r1 F hg hs hd
  exact Go.via st (next T' ⟨_, X', e', r2⟩)
theorem own_putF (H : Here p l e R s m args below meth c n0 T h k n) (hx : p.tables.exec = Jvm.exec) (hZ : Z.Warmed39 s.vm) {own O nm d C : String} {index kk : Nat} {ty : FieldType} (hown : s.vm.findClass own = some m.cls) (w : (Jvm.Cond.fieldLink own index O nm d).before a0 Z = true)
    {a : Addr} {v old : Value} (F : Fld Z h a O nm d old) (E : Exa Z h a C) (L : (Jvm.Cond.lays C O nm d).before a0 Z = true ∨ ((Jvm.Cond.laysFinal C O nm d).before a0 Z = true ∧ own = O ∧ meth.name = "<init>")) (wi : (Jvm.Cond.instantiable C kk).before a0 Z = true) (ha : n0 ≤ a)
    (hty : parseFieldDescriptor d = some ty) (hn : narrow ty v = v) (hf : fits ty v = true) {g : JFrame} (hg : g.method = m) {rest : List Value} (hs : g.stack = v :: .ref a :: rest) (hd : decode c.code g.pc = .ok (.putfield index, 3))
    (next : ∀ T' h', Wr h h' a (Jvm.RoadKit.slotOf Z O nm d) v → Here p l e R s m args below meth c n0 T' h' k n → Go p e below Φ (T'.setTop { g with pc := g.pc + 3, stack := rest })) : Go p e below Φ (T.setTop g) := by
  obtain ⟨locs, X, r1, r2⟩ := H.stand
  obtain ⟨T', h', X', e', W, st⟩ := putF X hx hZ hown (host := "") (Or.inl w) Via.refl r1 F E L wi hty hn hf hg hs hd
  exact Go.via st (next T' h' W ⟨_, X', e', Fr.snoc X' r2 ha⟩)
theorem own_putFN (H : Here p l e R s m args below meth c n0 T h k n) (hx : p.tables.exec = Jvm.exec) (hZ : Z.Warmed39 s.vm) {own O nm d C : String} {index kk : Nat} {ty : FieldType} (hown : s.vm.findClass own = some m.cls) (w : (Jvm.Cond.fieldLink own index O nm d).before a0 Z = true)
    {a : Addr} {v v' old : Value} (F : Fld Z h a O nm d old) (E : Exa Z h a C) (L : (Jvm.Cond.lays C O nm d).before a0 Z = true ∨ ((Jvm.Cond.laysFinal C O nm d).before a0 Z = true ∧ own = O ∧ meth.name = "<init>")) (wi : (Jvm.Cond.instantiable C kk).before a0 Z = true) (ha : n0 ≤ a)
    (hty : parseFieldDescriptor d = some ty) (hn : narrow ty v = v') (hf : fits ty v' = true) {g : JFrame} (hg : g.method = m) {rest : List Value} (hs : g.stack = v :: .ref a :: rest) (hd : decode c.code g.pc = .ok (.putfield index, 3))
    (next : ∀ T' h', Wr h h' a (Jvm.RoadKit.slotOf Z O nm d) v' → Here p l e R s m args below meth c n0 T' h' k n → Go p e below Φ (T'.setTop { g with pc := g.pc + 3, stack := rest })) : Go p e below Φ (T.setTop g) := by
  obtain ⟨locs, X, r1, r2⟩ := H.stand
  obtain ⟨T', h', X', e', W, st⟩ := putFN X hx hZ hown w Via.refl r1 F E L wi hty hn hf hg hs hd
  exact Go.via st (next T' h' W ⟨_, X', e', Fr.snoc X' r2 ha⟩)
theorem own_newO (H : Here p l e R s m args below meth c n0 T h k n) (hx : p.tables.exec = Jvm.exec) (hZ : Z.Warmed39 s.vm) {own C : String} {index sl : Nat} (hown : s.vm.findClass own = some m.cls) (w : (Jvm.Cond.classLink own index C).before a0 Z = true) (wi : (Jvm.Cond.instantiable C sl).before a0 Z = true) (wz : (Jvm.Cond.initialized C).before a0 Z = true)
    {g : JFrame} (hg : g.method = m) (hd : decode c.code g.pc = .ok (.new index, 3)) (hc : k + 1 ≤ R.cells) (hl : n + sl ≤ R.slots)
    (next : ∀ T' h' a, a = h.size → Ext h h' → Exa Z h' a C → (∀ {O nm d : String} {ty : FieldType}, Laid Z a0 C O nm d → parseFieldDescriptor d = some ty → Fld Z h' a O nm d (defaultValue ty)) → Here p l e R s m args below meth c n0 T' h' (k + 1) (n + sl) → Go p e below Φ (T'.setTop { g with pc := g.pc + 3, stack := .ref a :: g.stack })) : Go p e below Φ (T.setTop g) := by
  obtain ⟨locs, X, r1, r2⟩ := H.stand
  obtain ⟨T', h', X', e', E, A, D, -, st⟩ := newO X hx hZ hown w wi wz r1 hg hd hc hl
  exact Go.via st (next T' h' _ rfl E A D ⟨_, X', e', r2⟩)
/-! arrays -/
theorem own_newP (H : Here p l e R s m args below meth c n0 T h k n) (hx : p.tables.exec = Jvm.exec) (hZ : Z.Warmed39 s.vm) {aty : ArrayType} (w : (Jvm.Cond.arrayClass (newarray.typeOf aty)).before a0 Z = true) {g : JFrame} (hg : g.method = m) (hd : decode c.code g.pc = .ok (.newarray aty, 2)) {z : Int32} {rest : List Value} (hs : g.stack = .int z :: rest)
    (hn : ¬ z < 0) (cap : Nat) (hcap : z.toNatClampNeg ≤ cap) (hb : cap * 8 ≤ 536870912) (hc : k + 1 ≤ R.cells) (hl : n + cap ≤ R.slots)
    (next : ∀ T' h' a cA, a = h.size → Ext h h' → Arr Z h' a (newA cA (newarray.typeOf aty) z) (newarray.typeOf aty) → Here p l e R s m args below meth c n0 T' h' (k + 1) (n + cap) → Go p e below Φ (T'.setTop { g with pc := g.pc + 2, stack := .ref a :: rest })) : Go p e below Φ (T.setTop g) := by
  obtain ⟨locs, X, r1, r2⟩ := H.stand
  obtain ⟨T', h', cA, X', e', E, A, st⟩ := newP X hx hZ w r1 hg hd hs hn hcap hb hc hl
  exact Go.via st (next T' h' _ cA rfl E A ⟨_, X', e', r2⟩)
theorem own_stI (H : Here p l e R s m args below meth c n0 T h k n) (hx : p.tables.exec = Jvm.exec) (hZ : Z.Warmed39 s.vm) {a : Addr} {cl : Cell} (A : Arr Z h a cl .int) {j x : Int32} (hj : ¬ (j < 0 ∨ cl.slots.size ≤ j.toNatClampNeg)) (ha : n0 ≤ a) {g : JFrame} (hg : g.method = m) {rest : List Value} (hs : g.stack = .int x :: .int j :: .ref a :: rest) (hd : decode c.code g.pc = .ok (.iastore, 1))
    (next : ∀ T' h', Wr h h' a j.toNatClampNeg (.int x) → Here p l e R s m args below meth c n0 T' h' k n → Go p e below Φ (T'.setTop { g with pc := g.pc + 1, stack := rest })) : Go p e below Φ (T.setTop g) := by
  obtain ⟨locs, X, r1, r2⟩ := H.stand
  obtain ⟨T', h', X', e', W, st⟩ := stI X hx hZ r1 A hj hg hs hd
  exact Go.via st (next T' h' W ⟨_, X', e', Fr.snoc X' r2 ha⟩)
theorem own_stB (H : Here p l e R s m args below meth c n0 T h k n) (hx : p.tables.exec = Jvm.exec) (hZ : Z.Warmed39 s.vm) {a : Addr} {cl : Cell} (A : Arr Z h a cl .byte) {j x : Int32} (hj : ¬ (j < 0 ∨ cl.slots.size ≤ j.toNatClampNeg)) (ha : n0 ≤ a) {g : JFrame} (hg : g.method = m) {rest : List Value} (hs : g.stack = .int x :: .int j :: .ref a :: rest) (hd : decode c.code g.pc = .ok (.bastore, 1))
    (next : ∀ T' h', Wr h h' a j.toNatClampNeg (.int (nar .byte x)) → Here p l e R s m args below meth c n0 T' h' k n → Go p e below Φ (T'.setTop { g with pc := g.pc + 1, stack := rest })) : Go p e below Φ (T.setTop g) := by
  obtain ⟨locs, X, r1, r2⟩ := H.stand
  obtain ⟨T', h', X', e', W, st⟩ := stB X hx hZ r1 A hj hg hs hd
  exact Go.via st (next T' h' W ⟨_, X', e', Fr.snoc X' r2 ha⟩)
theorem own_len (H : Here p l e R s m args below meth c n0 T h k n) (hx : p.tables.exec = Jvm.exec) (hZ : Z.Warmed39 s.vm) {a : Addr} {cl : Cell} {ty : FieldType} (A : Arr Z h a cl ty) {g : JFrame} (hg : g.method = m) {rest : List Value} (hs : g.stack = .ref a :: rest) (hd : decode c.code g.pc = .ok (.arraylength, 1))
    (next : Go p e below Φ (T.setTop { g with pc := g.pc + 1, stack := .int cl.slots.size.toInt32 :: rest })) : Go p e below Φ (T.setTop g) := by
  obtain ⟨locs, X, r1, r2⟩ := H.stand
  exact Go.via (fun t q => X.arraylength hx (by rw [r1]; exact A.1) (State.isArrayOf_alike hZ.alike A.2.1) hg hs hd t q) next
theorem own_ldI (H : Here p l e R s m args below meth c n0 T h k n) (hx : p.tables.exec = Jvm.exec) (hZ : Z.Warmed39 s.vm) {a : Addr} {cl : Cell} (A : Arr Z h a cl .int) {j : Int32} {v : Value} (hj : ¬ (j < 0 ∨ cl.slots.size ≤ j.toNatClampNeg)) (hv : cl.slots[j.toNatClampNeg]? = some v) {g : JFrame} (hg : g.method = m) {rest : List Value} (hs : g.stack = .int j :: .ref a :: rest) (hd : decode c.code g.pc = .ok (.iaload, 1))
    (next : Go p e below Φ (T.setTop { g with pc := g.pc + 1, stack := v :: rest })) : Go p e below Φ (T.setTop g) := by
  obtain ⟨locs, X, r1, r2⟩ := H.stand
  exact Go.via (fun t q => X.iaload hx (by rw [r1]; exact A.1) (State.isArrayOf_alike hZ.alike A.2.1) A.2.2 hj hv hg hs hd t q) next
theorem own_ldB (H : Here p l e R s m args below meth c n0 T h k n) (hx : p.tables.exec = Jvm.exec) (hZ : Z.Warmed39 s.vm) {a : Addr} {cl : Cell} (A : Arr Z h a cl .byte) {j : Int32} {v : Value} (hj : ¬ (j < 0 ∨ cl.slots.size ≤ j.toNatClampNeg)) (hv : cl.slots[j.toNatClampNeg]? = some v) {g : JFrame} (hg : g.method = m) {rest : List Value} (hs : g.stack = .int j :: .ref a :: rest) (hd : decode c.code g.pc = .ok (.baload, 1))
    (next : Go p e below Φ (T.setTop { g with pc := g.pc + 1, stack := v :: rest })) : Go p e below Φ (T.setTop g) := by
  obtain ⟨locs, X, r1, r2⟩ := H.stand
  exact Go.via (fun t q => X.baloadBytes hx (by rw [r1]; exact A.1) (State.isArrayOf_alike hZ.alike A.2.1) A.2.2 hj hv hg hs hd t q) next
/-! arrays of ints by a function of the place -/
def upd (B : Nat → Int32) (j : Nat) (v : Int32) : Nat → Int32 := fun i => if i = j then v else B i
theorem upd_hit {B : Nat → Int32} {j : Nat} {v : Int32} : upd B j v j = v := if_pos rfl
theorem upd_miss {B : Nat → Int32} {i j : Nat} {v : Int32} (q : i ≠ j) : upd B j v i = B i := if_neg q
def Ab (Z : State) (h : Heap) (a : Addr) (ty : FieldType) (n : Nat) (B : Nat → Int32) : Prop := ∃ c : Cell, Arr Z h a c ty ∧ c.slots.size = n ∧ ∀ i, i < n → c.slots[i]? = some (.int (B i))
theorem Ab.lt {a : Addr} {ty : FieldType} {B : Nat → Int32} (F : Ab Z h a ty n B) : a < h.size := by obtain ⟨c, A, -⟩ := F; exact A.lt
theorem Ab.ext {h' : Heap} {a : Addr} {ty : FieldType} {B : Nat → Int32} (F : Ab Z h a ty n B) (E : Ext h h') : Ab Z h' a ty n B := by obtain ⟨c, A, r⟩ := F; exact ⟨c, A.ext E, r⟩
theorem Ab.other {h' : Heap} {a b : Addr} {sl : Nat} {v : Value} {ty : FieldType} {B : Nat → Int32} (F : Ab Z h b ty n B) (W : Wr h h' a sl v) (q : b ≠ a) : Ab Z h' b ty n B := by obtain ⟨c, A, r⟩ := F; exact ⟨c, A.other W q, r⟩
theorem Ab.keep {h' : Heap} {a : Addr} {ws : List Addr} {ty : FieldType} {B : Nat → Int32} (F : Ab Z h a ty n B) (Kp : Keep h h' ws) (q : a ∉ ws) : Ab Z h' a ty n B := by obtain ⟨c, A, r⟩ := F; exact ⟨c, ⟨Kp.2.1 a c A.1 q, A.2⟩, r⟩
theorem Ab.set {h' : Heap} {a : Addr} {j : Nat} {v : Int32} {ty : FieldType} {B : Nat → Int32} (F : Ab Z h a ty n B) (W : Wr h h' a j (.int v)) : Ab Z h' a ty n (upd B j v) := by
  obtain ⟨c, A, S, G⟩ := F
  obtain ⟨c', q1, -, -, q4, -, q6, q7⟩ := wr_at W A.1
  obtain ⟨rfl, q8, -⟩ := q7 rfl
  refine ⟨_, A.same W, q4.trans S, fun i hi => ?_⟩
  by_cases q : i = j
  · subst q; rw [q8, upd_hit]
  · rw [q6 i q, G i hi, upd_miss q]
theorem Ab.new {a : Addr} {ty : FieldType} {kk : ClassId} {z : Int32} (A : Arr Z h a (newA kk ty z) ty) (hz : z.toNatClampNeg = n) (hd : defaultValue ty = .int 0) : Ab Z h a ty n (fun _ => 0) := by
  refine ⟨_, A, (sz_new _ _ _).trans hz, fun i hi => ?_⟩
  have hz' : z.toNatClampNeg < 2 ^ 31 := by
    by_cases q : z < 0
    · have : z.toNatClampNeg ≤ 0 := by rw [Int32.lt_iff_toInt_lt] at q; have e0 : (0 : Int32).toInt = 0 := rfl; have : z.toNatClampNeg = z.toInt.toNat := rfl; omega
      omega
    · exact (back32 q).2
  have e1 : i.toInt32.toNatClampNeg = i := by
    have q := idx_in (i := i) (n := i + 1) (Nat.lt_succ_self i) (by omega)
    have q2 : i.toInt32.toInt = i := len_toInt (by omega)
    have := nat_of (j := i.toInt32) (fun z => q (Or.inl z))
    omega
  have q0 : ¬ (i.toInt32 < 0 ∨ z.toNatClampNeg ≤ i.toInt32.toNatClampNeg) := by
    rw [hz, e1]
    intro q
    rcases q with q | q
    · have q3 : i.toInt32.toInt = i := len_toInt (by omega)
      rw [Int32.lt_iff_toInt_lt, q3] at q
      have e0 : (0 : Int32).toInt = 0 := rfl
      omega
    · omega
  have g := get_new (cA := kk) (ty := ty) (n := z) (k := i.toInt32) q0
  rw [e1] at g
  rw [g, hd]
theorem own_idx {J : Int32} {j : Nat} (e : J.toInt = (j : Int)) : ¬ J < 0 ∧ J.toNatClampNeg = j := by
  have h0 : ¬ J < 0 := by rw [Int32.lt_iff_toInt_lt]; have e0 : (0 : Int32).toInt = 0 := rfl; omega
  have := nat_of h0
  exact ⟨h0, by omega⟩
theorem own_in {c : Cell} {J : Int32} {j N' : Nat} (e : J.toInt = (j : Int)) (S : c.slots.size = N') (hj : j < N') : ¬ (J < 0 ∨ c.slots.size ≤ J.toNatClampNeg) := by
  obtain ⟨q1, q2⟩ := own_idx e
  rw [q2, S]; intro q; rcases q with q | q
  · exact q1 q
  · omega
theorem own_newA (H : Here p l e R s m args below meth c n0 T h k n) (hx : p.tables.exec = Jvm.exec) (hZ : Z.Warmed39 s.vm) {aty : ArrayType} (w : (Jvm.Cond.arrayClass (newarray.typeOf aty)).before a0 Z = true) {g : JFrame} (hg : g.method = m) (hd : decode c.code g.pc = .ok (.newarray aty, 2)) {z : Int32} {rest : List Value} (hs : g.stack = .int z :: rest)
    (hn : ¬ z < 0) (N' : Nat) (hz : z.toNatClampNeg = N') (hdv : defaultValue (newarray.typeOf aty) = .int 0) (cap : Nat) (hcap : N' ≤ cap) (hb : cap * 8 ≤ 536870912) (hc : k + 1 ≤ R.cells) (hl : n + cap ≤ R.slots)
    (next : ∀ T' h' a, a = h.size → Ext h h' → Ab Z h' a (newarray.typeOf aty) N' (fun _ => 0) → Here p l e R s m args below meth c n0 T' h' (k + 1) (n + cap) → Go p e below Φ (T'.setTop { g with pc := g.pc + 2, stack := .ref a :: rest })) : Go p e below Φ (T.setTop g) :=
  own_newP H hx hZ w hg hd hs hn cap (by rw [hz]; exact hcap) hb hc hl fun T' h' a cA q1 q2 q3 q4 => next T' h' a q1 q2 (Ab.new q3 hz hdv) q4
theorem own_stIA (H : Here p l e R s m args below meth c n0 T h k n) (hx : p.tables.exec = Jvm.exec) (hZ : Z.Warmed39 s.vm) {a : Addr} {N' : Nat} {B : Nat → Int32} (A : Ab Z h a .int N' B) {J x : Int32} {j : Nat} (ej : J.toInt = (j : Int)) (hj : j < N') (ha : n0 ≤ a) {g : JFrame} (hg : g.method = m) {rest : List Value} (hs : g.stack = .int x :: .int J :: .ref a :: rest) (hd : decode c.code g.pc = .ok (.iastore, 1))
    (next : ∀ T' h', Wr h h' a j (.int x) → Ab Z h' a .int N' (upd B j x) → Here p l e R s m args below meth c n0 T' h' k n → Go p e below Φ (T'.setTop { g with pc := g.pc + 1, stack := rest })) : Go p e below Φ (T.setTop g) := by
  have A' := A
  obtain ⟨cl, A0, S, G⟩ := A
  refine own_stI H hx hZ A0 (own_in ej S hj) ha hg hs hd fun T' h' W H' => ?_
  rw [(own_idx ej).2] at W
  exact next T' h' W (A'.set W) H'
theorem own_stBA (H : Here p l e R s m args below meth c n0 T h k n) (hx : p.tables.exec = Jvm.exec) (hZ : Z.Warmed39 s.vm) {a : Addr} {N' : Nat} {B : Nat → Int32} (A : Ab Z h a .byte N' B) {J x : Int32} {j : Nat} (ej : J.toInt = (j : Int)) (hj : j < N') (ha : n0 ≤ a) {g : JFrame} (hg : g.method = m) {rest : List Value} (hs : g.stack = .int x :: .int J :: .ref a :: rest) (hd : decode c.code g.pc = .ok (.bastore, 1))
    (next : ∀ T' h', Wr h h' a j (.int (nar .byte x)) → Ab Z h' a .byte N' (upd B j (nar .byte x)) → Here p l e R s m args below meth c n0 T' h' k n → Go p e below Φ (T'.setTop { g with pc := g.pc + 1, stack := rest })) : Go p e below Φ (T.setTop g) := by
  have A' := A
  obtain ⟨cl, A0, S, G⟩ := A
  refine own_stB H hx hZ A0 (own_in ej S hj) ha hg hs hd fun T' h' W H' => ?_
  rw [(own_idx ej).2] at W
  exact next T' h' W (A'.set W) H'
theorem own_ldIA (H : Here p l e R s m args below meth c n0 T h k n) (hx : p.tables.exec = Jvm.exec) (hZ : Z.Warmed39 s.vm) {a : Addr} {N' : Nat} {B : Nat → Int32} (A : Ab Z h a .int N' B) {J : Int32} {j : Nat} (ej : J.toInt = (j : Int)) (hj : j < N') {g : JFrame} (hg : g.method = m) {rest : List Value} (hs : g.stack = .int J :: .ref a :: rest) (hd : decode c.code g.pc = .ok (.iaload, 1))
    (next : Go p e below Φ (T.setTop { g with pc := g.pc + 1, stack := .int (B j) :: rest })) : Go p e below Φ (T.setTop g) := by
  obtain ⟨cl, A0, S, G⟩ := A
  exact own_ldI H hx hZ A0 (own_in ej S hj) (by rw [(own_idx ej).2]; exact G j hj) hg hs hd next
theorem own_ldBA (H : Here p l e R s m args below meth c n0 T h k n) (hx : p.tables.exec = Jvm.exec) (hZ : Z.Warmed39 s.vm) {a : Addr} {N' : Nat} {B : Nat → Int32} (A : Ab Z h a .byte N' B) {J : Int32} {j : Nat} (ej : J.toInt = (j : Int)) (hj : j < N') {g : JFrame} (hg : g.method = m) {rest : List Value} (hs : g.stack = .int J :: .ref a :: rest) (hd : decode c.code g.pc = .ok (.baload, 1))
    (next : Go p e below Φ (T.setTop { g with pc := g.pc + 1, stack := .int (B j) :: rest })) : Go p e below Φ (T.setTop g) := by
  obtain ⟨cl, A0, S, G⟩ := A
  exact own_ldB H hx hZ A0 (own_in ej S hj) (by rw [(own_idx ej).2]; exact G j hj) hg hs hd next
theorem own_lenA (H : Here p l e R s m args below meth c n0 T h k n) (hx : p.tables.exec = Jvm.exec) (hZ : Z.Warmed39 s.vm) {a : Addr} {N' : Nat} {B : Nat → Int32} {ty : FieldType} (A : Ab Z h a ty N' B) {z : Int32} (hz : N'.toInt32 = z) {g : JFrame} (hg : g.method = m) {rest : List Value} (hs : g.stack = .ref a :: rest) (hd : decode c.code g.pc = .ok (.arraylength, 1))
    (next : Go p e below Φ (T.setTop { g with pc := g.pc + 1, stack := .int z :: rest })) : Go p e below Φ (T.setTop g) := by
  obtain ⟨cl, A0, S, G⟩ := A
  subst S; subst hz
  exact own_len H hx hZ A0 hg hs hd next
/-! constants -/
theorem own_ldcI (H : Here p l e R s m args below meth c n0 T h k n) (hx : p.tables.exec = Jvm.exec) (hZ : Z.Warmed39 s.vm) {own : String} {index : Nat} {v : Int32} (hown : s.vm.findClass own = some m.cls) (w : (Jvm.Cond.constant own index v).before a0 Z = true) {g : JFrame} (hg : g.method = m) (hd : decode c.code g.pc = .ok (.ldc index, 2))
    (next : Go p e below Φ (T.setTop { g with pc := g.pc + 2, stack := .int v :: g.stack })) : Go p e below Φ (T.setTop g) := by
  obtain ⟨locs, X, r1, r2⟩ := H.stand
  exact Go.via (X.ldcInt hx hown (mvT hZ w) hg hd) next
theorem own_ldcL (H : Here p l e R s m args below meth c n0 T h k n) (hx : p.tables.exec = Jvm.exec) (hZ : Z.Warmed39 s.vm) {own : String} {index : Nat} {v : Int64} (hown : s.vm.findClass own = some m.cls) (w : (Jvm.Cond.constantLong own index v).before a0 Z = true) {g : JFrame} (hg : g.method = m) (hd : decode c.code g.pc = .ok (.ldc2_w index, 3))
    (next : Go p e below Φ (T.setTop { g with pc := g.pc + 3, stack := .long v :: g.stack })) : Go p e below Φ (T.setTop g) := by
  obtain ⟨locs, X, r1, r2⟩ := H.stand
  exact Go.via (X.ldc2Long hx hown (mvT hZ w) hg hd) next
/-! comparisons of longs -/
theorem own_llt {x y : Int64} (q : x < y) : ifCond.holds .lt (lcmpW x y) = true ∧ ifCond.holds .ge (lcmpW x y) = false := by
  have := (lw_lt x y).mpr q; rw [if0, if0]; exact ⟨(tlt this).1, (tlt this).2.1⟩
theorem own_nlt {x y : Int64} (q : ¬ x < y) : ifCond.holds .lt (lcmpW x y) = false ∧ ifCond.holds .ge (lcmpW x y) = true := by
  have : ¬ lcmpW x y < 0 := fun z => q ((lw_lt x y).mp z); rw [if0, if0]; exact ⟨(flt this).1, (flt this).2.1⟩
theorem own_lgt {x y : Int64} (q : y < x) : ifCond.holds .gt (lcmpW x y) = true ∧ ifCond.holds .le (lcmpW x y) = false := by
  have := (lw_gt x y).mpr q; rw [if0, if0]; exact ⟨(tlt this).2.2.1, (tlt this).2.2.2⟩
theorem own_ngt {x y : Int64} (q : ¬ y < x) : ifCond.holds .gt (lcmpW x y) = false ∧ ifCond.holds .le (lcmpW x y) = true := by
  have : ¬ 0 < lcmpW x y := fun z => q ((lw_gt x y).mp z); rw [if0, if0]; exact ⟨(flt this).2.2.1, (flt this).2.2.2⟩
theorem own_leq {x y : Int64} (q : x = y) : ifCond.holds .eq (lcmpW x y) = true ∧ ifCond.holds .ne (lcmpW x y) = false := by
  have := (lw_eq x y).mpr q; rw [if0, if0]; exact ⟨(teq this).1, (teq this).2⟩
theorem own_neq {x y : Int64} (q : ¬ x = y) : ifCond.holds .eq (lcmpW x y) = false ∧ ifCond.holds .ne (lcmpW x y) = true := by
  have : ¬ lcmpW x y = 0 := fun z => q ((lw_eq x y).mp z); rw [if0, if0]; exact ⟨(feq this).1, (feq this).2⟩
end Own
def hshI (k : Int32) : Int32 := (k * (-1640531527 : Int32)) &&& ((64 : Int32) - (1 : Int32))
def hsh (k : Int32) : Nat := (hshI k).toInt.toNat
theorem own_hsh (k : Int32) : (hshI k).toInt = (hsh k : Int) ∧ hsh k < 64 := by
  have e1 : (hshI k).toInt = (k * (-1640531527 : Int32)).toInt % (2 ^ 6 : Nat) := c_mask _ _ 6 (by decide) (by decide)
  unfold hsh
  omega
theorem own_nxt {I : Int32} {i : Nat} (hI : I.toInt = (i : Int)) (hi : i < 64) : ((I + (1 : Int32)) &&& ((64 : Int32) - (1 : Int32))).toInt = (((i + 1) % 64 : Nat) : Int) := by
  have e1 : ((I + (1 : Int32)) &&& ((64 : Int32) - (1 : Int32))).toInt = (I + 1).toInt % (2 ^ 6 : Nat) := c_mask _ _ 6 (by decide) (by decide)
  have c1 := c_iadd I 1
  have r := rng32 (I + 1)
  have e2 : (1 : Int32).toInt = 1 := by decide
  omega
theorem own_least (P : Nat → Prop) (d : Nat) : P d → ∃ e, e ≤ d ∧ P e ∧ ∀ f, f < e → ¬ P f := by
  induction d using Nat.strongRecOn with
  | ind d ih =>
    intro h
    by_cases q : ∃ f, f < d ∧ P f
    · obtain ⟨f, hf, pf⟩ := q
      obtain ⟨e, he, r⟩ := ih f hf pf
      exact ⟨e, by omega, r⟩
    · exact ⟨d, Nat.le_refl _, h, fun f hf pf => q ⟨f, hf, pf⟩⟩
def ext (M : Int32 → Option Int32) (k v : Int32) : Int32 → Option Int32 := fun q => if q = k then some v else M q
def Inv (K V : Nat → Int32) (M : Int32 → Option Int32) (B : Nat) : Prop :=
  (∀ i, i < 64 → ∃ d, d ≤ B ∧ K ((i + d) % 64) = -1) ∧
  (∀ i, i < 64 → K i ≠ -1 → M (K i) = some (V i)) ∧
  (∀ k v, M k = some v → k ≠ -1 ∧ ∃ d, K ((hsh k + d) % 64) = k ∧ ∀ e, e < d → K ((hsh k + e) % 64) ≠ -1) ∧
  (∀ i j, i < 64 → j < 64 → K i = K j → K i ≠ -1 → i = j)
def Stop (K : Nat → Int32) (key : Int32) (d jj : Nat) : Prop :=
  (hsh key + d) % 64 = jj ∧ jj < 64 ∧ (∀ e, e < d → K ((hsh key + e) % 64) ≠ -1 ∧ K ((hsh key + e) % 64) ≠ key) ∧ (K jj = -1 ∨ K jj = key)
theorem own_inv0 : Inv (fun _ => -1) (fun _ => 0) (fun _ => none) 0 := by
  refine ⟨fun i hi => ⟨0, Nat.le_refl _, rfl⟩, fun i hi q => absurd rfl q, ?_, fun i j hi hj _ q => absurd rfl q⟩
  intro k v q; cases q
theorem own_slot {K V : Nat → Int32} {M : Int32 → Option Int32} {B : Nat} (I : Inv K V M B) (key : Int32) : ∃ d jj, Stop K key d jj := by
  obtain ⟨d, -, hd⟩ := I.1 (hsh key) (own_hsh key).2
  obtain ⟨e, he, pe, hl⟩ := own_least (fun d => K ((hsh key + d) % 64) = -1 ∨ K ((hsh key + d) % 64) = key) d (Or.inl hd)
  exact ⟨e, _, rfl, by omega, fun f hf => ⟨fun q => hl f hf (Or.inl q), fun q => hl f hf (Or.inr q)⟩, pe⟩
theorem own_none {K V : Nat → Int32} {M : Int32 → Option Int32} {B d jj : Nat} {key : Int32} (I : Inv K V M B) (S : Stop K key d jj) (h : K jj = -1) : M key = none := by
  obtain ⟨s1, s2, s3, s4⟩ := S
  cases q : M key with
  | none => rfl
  | some v =>
    obtain ⟨q1, d', q2, q3⟩ := I.2.2.1 key v q
    by_cases h1 : d' < d
    · exact absurd q2 (s3 d' h1).2
    · by_cases h2 : d < d'
      · exact absurd (by rw [s1]; exact h) (q3 d h2)
      · have : d = d' := by omega
        subst this
        rw [s1, h] at q2
        exact absurd q2.symm q1
theorem own_get {K V : Nat → Int32} {M : Int32 → Option Int32} {B d jj : Nat} {key : Int32} (I : Inv K V M B) (S : Stop K key d jj) (miss : Int32) : (if K jj = -1 then miss else V jj) = (M key).getD miss := by
  by_cases h : K jj = -1
  · rw [if_pos h, own_none I S h]; rfl
  · rw [if_neg h]
    have h2 : K jj = key := S.2.2.2.resolve_left h
    have := I.2.1 jj S.2.1 h
    rw [h2] at this
    rw [this]; rfl
theorem own_put {K V : Nat → Int32} {M : Int32 → Option Int32} {B d jj : Nat} {key : Int32} (I : Inv K V M B) (S : Stop K key d jj) (hB : B ≤ 7) (hk : key ≠ -1) (val : Int32) :
    Inv (if K jj = -1 then upd K jj key else K) (upd V jj val) (ext M key val) (2 * B + 1) := by
  have S' := S
  obtain ⟨s1, s2, s3, s4⟩ := S
  obtain ⟨i1, i2, i3, i4⟩ := I
  have hdlt : ∀ e, e < d → (hsh key + e) % 64 ≠ jj := fun e he q => by
    rcases s4 with h | h
    · exact (s3 e he).1 (by rw [q]; exact h)
    · exact (s3 e he).2 (by rw [q]; exact h)
  by_cases h : K jj = -1
  · rw [if_pos h]
    have hn : M key = none := own_none ⟨i1, i2, i3, i4⟩ S' h
    refine ⟨fun i hi => ?_, fun i hi q => ?_, fun k v q => ?_, fun i j hi hj q1 q2 => ?_⟩
    · obtain ⟨d1, e1, e2⟩ := i1 i hi
      by_cases hj : (i + d1) % 64 = jj
      · obtain ⟨d2, e3, e4⟩ := i1 ((i + d1 + 1) % 64) (Nat.mod_lt _ (by decide))
        have e5 : (i + (d1 + 1 + d2)) % 64 = ((i + d1 + 1) % 64 + d2) % 64 := by omega
        refine ⟨d1 + 1 + d2, by omega, ?_⟩
        rw [upd_miss (by omega), e5]; exact e4
      · exact ⟨d1, by omega, by rw [upd_miss hj]; exact e2⟩
    · by_cases hj : i = jj
      · subst hj; rw [upd_hit, upd_hit]; exact if_pos rfl
      · rw [upd_miss hj] at q ⊢
        rw [upd_miss hj]
        have e1 := i2 i hi q
        have : K i ≠ key := fun z => by rw [z, hn] at e1; cases e1
        rw [ext, if_neg this]; exact e1
    · by_cases hq : k = key
      · subst hq
        refine ⟨hk, d, by rw [s1, upd_hit], fun e he => ?_⟩
        rw [upd_miss (hdlt e he)]; exact (s3 e he).1
      · rw [ext, if_neg hq] at q
        obtain ⟨q1, d', q2, q3⟩ := i3 k v q
        refine ⟨q1, d', ?_, fun e he => ?_⟩
        · rw [upd_miss (fun z => q1 (by rw [← q2, z]; exact h))]; exact q2
        · by_cases hj : (hsh k + e) % 64 = jj
          · rw [hj, upd_hit]; exact hk
          · rw [upd_miss hj]; exact q3 e he
    · by_cases ha : i = jj <;> by_cases hb : j = jj
      · omega
      · subst ha; rw [upd_hit, upd_miss hb] at q1
        have e1 := i2 j hj (by rw [← q1]; exact hk)
        rw [← q1, hn] at e1; cases e1
      · subst hb; rw [upd_hit, upd_miss ha] at q1
        have e1 := i2 i hi (by rw [q1]; exact hk)
        rw [q1, hn] at e1; cases e1
      · rw [upd_miss ha, upd_miss hb] at q1
        rw [upd_miss ha] at q2
        exact i4 i j hi hj q1 q2
  · rw [if_neg h]
    have h2 : K jj = key := s4.resolve_left h
    refine ⟨fun i hi => ?_, fun i hi q => ?_, fun k v q => ?_, i4⟩
    · obtain ⟨d1, e1, e2⟩ := i1 i hi
      exact ⟨d1, by omega, e2⟩
    · by_cases hj : i = jj
      · subst hj; rw [upd_hit, h2]; exact if_pos rfl
      · rw [upd_miss hj]
        have : K i ≠ key := fun z => hj (i4 i jj hi s2 (by rw [z, h2]) q)
        rw [ext, if_neg this]; exact i2 i hi q
    · by_cases hq : k = key
      · subst hq
        exact ⟨hk, d, by rw [s1]; exact h2, fun e he => (s3 e he).1⟩
      · rw [ext, if_neg hq] at q
        exact i3 k v q
theorem own_Ab {Z : State} {h : Heap} {a : Addr} {ty : FieldType} {n : Nat} {B B' : Nat → Int32} (A : Ab Z h a ty n B) (q : ∀ i, i < n → B i = B' i) : Ab Z h a ty n B' := by
  obtain ⟨c, A0, S, G⟩ := A
  exact ⟨c, A0, S, fun i hi => by rw [← q i hi]; exact G i hi⟩
theorem own_next {J : Int32} {j : Nat} (e : J.toInt = (j : Int)) (h : j < 1000) : (J + 1).toInt = ((j + 1 : Nat) : Int) := by
  have c1 := c_iadd J 1
  have r := rng32 (J + 1)
  have e1 : (1 : Int32).toInt = 1 := by decide
  omega
theorem own_lt {J T : Int32} {j t : Nat} (e : J.toInt = (j : Int)) (e' : T.toInt = (t : Int)) (h : j < t) : J < T := by
  rw [Int32.lt_iff_toInt_lt]; omega
theorem own_nlt' {J T : Int32} {j t : Nat} (e : J.toInt = (j : Int)) (e' : T.toInt = (t : Int)) (h : j = t) : ¬ J < T := by
  rw [Int32.lt_iff_toInt_lt]; omega
theorem own_size (sz : Int32) (n : Nat) (h : 0 ≤ sz.toInt ∧ sz.toInt ≤ n) (hn : n ≤ 7) : ¬ (64 : Int32) < (2 : Int32) * (sz + (1 : Int32)) := by
  have c1 := c_iadd sz 1; have c2 := c_imul 2 (sz + 1)
  have r := rng32 (sz + 1); have r2 := rng32 (2 * (sz + 1))
  have e1 : (1 : Int32).toInt = 1 := by decide
  have e2 : (2 : Int32).toInt = 2 := by decide
  have e3 : (64 : Int32).toInt = 64 := by decide
  rw [Int32.lt_iff_toInt_lt]
  rw [e2] at c2
  omega
theorem own_size' (sz sz' : Int32) (n : Nat) (h : 0 ≤ sz.toInt ∧ sz.toInt ≤ n) (hn : n ≤ 7) (q : sz' = sz ∨ sz' = sz + 1) : 0 ≤ sz'.toInt ∧ sz'.toInt ≤ ((n + 1 : Nat) : Int) := by
  have c1 := c_iadd sz 1
  have r := rng32 (sz + 1)
  have e1 : (1 : Int32).toInt = 1 := by decide
  rcases q with rfl | rfl <;> omega
theorem own_pos (x : Int32) : 0 ≤ (x &&& 2147483647).toInt := by
  have e1 := c_mask x 2147483647 31 (by decide) (by decide)
  omega
theorem own_pos' (a x : Int32) (h : 0 ≤ a.toInt) : 0 ≤ (a ^^^ (x &&& 2147483584)).toInt :=
  (c_xorS a (x &&& 2147483584)).2.2.2 h ((c_and x 2147483584) (by decide)).1
theorem own_ne1 {a : Int32} (h : 0 ≤ a.toInt) : a ≠ -1 := fun q => by
  subst q
  exact absurd h (by decide)
def MapAt (Z : State) (h : Heap) (a ka va : Addr) (sz : Int32) (K V : Nat → Int32) : Prop := Exa Z h a "com/example/neardb/neardb/query/IntIntMap" ∧ Fld Z h a "com/example/neardb/neardb/query/IntIntMap" "keys" "[I" (.ref ka) ∧ Fld Z h a "com/example/neardb/neardb/query/IntIntMap" "values" "[I" (.ref va) ∧ Fld Z h a "com/example/neardb/neardb/query/IntIntMap" "size" "I" (.int sz) ∧ Ab Z h ka .int 64 K ∧ Ab Z h va .int 64 V ∧ a ≠ ka ∧ a ≠ va ∧ ka ≠ va
theorem d3_0 : decode jdk_65_method_103_code 0 = .ok (.iconst 0, 1) := by decide +kernel
theorem d3_1 : decode jdk_65_method_103_code 1 = .ok (.istore_n 2, 1) := by decide +kernel
theorem d3_2 : decode jdk_65_method_103_code 2 = .ok (.aload_n 0, 1) := by decide +kernel
theorem d3_3 : decode jdk_65_method_103_code 3 = .ok (.arraylength, 1) := by decide +kernel
theorem d3_4 : decode jdk_65_method_103_code 4 = .ok (.istore_n 3, 1) := by decide +kernel
theorem d3_5 : decode jdk_65_method_103_code 5 = .ok (.iload_n 2, 1) := by decide +kernel
theorem d3_6 : decode jdk_65_method_103_code 6 = .ok (.iload_n 3, 1) := by decide +kernel
theorem d3_7 : decode jdk_65_method_103_code 7 = .ok (.if_icmp .ge 13, 3) := by decide +kernel
theorem d3_10 : decode jdk_65_method_103_code 10 = .ok (.aload_n 0, 1) := by decide +kernel
theorem d3_11 : decode jdk_65_method_103_code 11 = .ok (.iload_n 2, 1) := by decide +kernel
theorem d3_12 : decode jdk_65_method_103_code 12 = .ok (.iload_n 1, 1) := by decide +kernel
theorem d3_13 : decode jdk_65_method_103_code 13 = .ok (.iastore, 1) := by decide +kernel
theorem d3_14 : decode jdk_65_method_103_code 14 = .ok (.iinc 2 1, 3) := by decide +kernel
theorem d3_17 : decode jdk_65_method_103_code 17 = .ok (.goto (-12), 3) := by decide +kernel
theorem d3_20 : decode jdk_65_method_103_code 20 = .ok (.return_, 1) := by decide +kernel
theorem ef_rmFill (m : MethodId) (x0 : Addr) (x1 : Int32) : entryFrame m #[(.ref x0), (.int x1)] 4 = mkF m 0 #[.val (.ref x0), .val (.int x1), .unset, .unset] [] := by first | (simp [entryFrame, mkF, argsToLocals, Value.category]; done) | rfl
set_option maxRecDepth 65536 in
set_option maxHeartbeats 40000000 in
theorem rmFill (l : Launch) (Z : State) (a0 : Array Value) (hw : ∀ d ∈ tables_1, d.before a0 Z = true) (a : Addr) (B : Nat → Int32) (N' : Nat) (z : Int32) (val : Int32) (h0 : Heap) (n0 : Nat) (A : Ab Z h0 a .int N' B) (g : n0 ≤ a) (hN : N' < 1000) (hz : N'.toInt32 = z) (hz' : z.toInt = (N' : Int)) :
    CM l Z (⟨"java/util/Arrays", "fill", "([II)V"⟩ : MethodName) jdk_65_method_103_code 4 none ({ frames := 0, cells := 0, slots := 0, locals := 0 } : Room) #[(.ref a), (.int val)] h0 n0 (fun v h => v = none ∧ Keep h0 h [a] ∧ Ab Z h a .int N' (fun _ => val)) := by
  refine own_enter (by decide +kernel) ?_
  intro p e s m below meth c T0 hx hby hml hown hnm hZ hret hlk H0
  replace hown : s.vm.findClass "java/util/Arrays" = some m.cls := hown
  replace hret : meth.sig.returnType = none := hret
  refine Go.via (fun t_ k_ => castTop (ef_rmFill m a val) k_) ?_
  have loop : ∀ (k i : Nat) (I : Int32) (Tj : State) (hj : Heap), I.toInt = (i : Int) → i + k = N' → Keep h0 hj [a] → Ab Z hj a .int N' (fun q => if q < i then val else B q) → Here p l e ({ frames := 0, cells := 0, slots := 0, locals := 0 } : Room) s m #[(.ref a), (.int val)] below meth c n0 Tj hj 0 0 → Go p e below (Fini below s n0 (fun v h => v = none ∧ Keep h0 h [a] ∧ Ab Z h a .int N' (fun _ => val)) ({ frames := 0, cells := 0, slots := 0, locals := 0 } : Room).cells ({ frames := 0, cells := 0, slots := 0, locals := 0 } : Room).slots) (Tj.setTop (mkF m 5 #[.val (.ref a), .val (.int val), .val (.int I), .val (.int z)] [])) := by
    intro k
    induction k with
    | zero =>
      intro i I Tj hj hI hk Kj Bj Hj
      refine Go.via (fun t_ k_ => XS.iloadN Hj.here hx rfl (hb hby d3_5) rfl k_) ?_
      show Go _ _ _ _ (Tj.setTop (mkF m 6 #[.val (.ref a), .val (.int val), .val (.int I), .val (.int z)] [(.int I)]))
      refine Go.via (fun t_ k_ => XS.iloadN Hj.here hx rfl (hb hby d3_6) rfl k_) ?_
      show Go _ _ _ _ (Tj.setTop (mkF m 7 #[.val (.ref a), .val (.int val), .val (.int I), .val (.int z)] [(.int z), (.int I)]))
      refine Go.via (fun t_ k_ => XS.icmpYes Hj.here hx rfl (pc0 := 7) (pc' := 20) rfl (hb hby d3_7) rfl ((flt (show ¬ (I < z) from (own_nlt' hI hz' (by omega)))).2.1) (by decide) (by decide) k_) ?_
      show Go _ _ _ _ (Tj.setTop (mkF m 20 #[.val (.ref a), .val (.int val), .val (.int I), .val (.int z)] []))
      exact own_retV Hj hx hlk hret (hb hby d3_20) ⟨rfl, Kj, own_Ab Bj (fun q hq => if_pos (by omega))⟩ (by decide) (by decide)
    | succ k ih =>
      intro i I Tj hj hI hk Kj Bj Hj
      refine Go.via (fun t_ k_ => XS.iloadN Hj.here hx rfl (hb hby d3_5) rfl k_) ?_
      show Go _ _ _ _ (Tj.setTop (mkF m 6 #[.val (.ref a), .val (.int val), .val (.int I), .val (.int z)] [(.int I)]))
      refine Go.via (fun t_ k_ => XS.iloadN Hj.here hx rfl (hb hby d3_6) rfl k_) ?_
      show Go _ _ _ _ (Tj.setTop (mkF m 7 #[.val (.ref a), .val (.int val), .val (.int I), .val (.int z)] [(.int z), (.int I)]))
      refine Go.via (fun t_ k_ => XS.icmpNo Hj.here hx rfl (hb hby d3_7) rfl ((tlt (show I < z from (own_lt hI hz' (by omega)))).2.1) k_) ?_
      show Go _ _ _ _ (Tj.setTop (mkF m 10 #[.val (.ref a), .val (.int val), .val (.int I), .val (.int z)] []))
      refine Go.via (fun t_ k_ => XS.aloadN Hj.here hx rfl (hb hby d3_10) rfl rfl k_) ?_
      show Go _ _ _ _ (Tj.setTop (mkF m 11 #[.val (.ref a), .val (.int val), .val (.int I), .val (.int z)] [(.ref a)]))
      refine Go.via (fun t_ k_ => XS.iloadN Hj.here hx rfl (hb hby d3_11) rfl k_) ?_
      show Go _ _ _ _ (Tj.setTop (mkF m 12 #[.val (.ref a), .val (.int val), .val (.int I), .val (.int z)] [(.int I), (.ref a)]))
      refine Go.via (fun t_ k_ => XS.iloadN Hj.here hx rfl (hb hby d3_12) rfl k_) ?_
      show Go _ _ _ _ (Tj.setTop (mkF m 13 #[.val (.ref a), .val (.int val), .val (.int I), .val (.int z)] [(.int val), (.int I), (.ref a)]))
      refine own_stIA Hj hx hZ Bj (j := i) hI (by omega) g (g := (mkF m 13 #[.val (.ref a), .val (.int val), .val (.int I), .val (.int z)] [(.int val), (.int I), (.ref a)])) rfl rfl (hb hby d3_13) ?_
      intro T1 h1 W1 B1 H1
      have K1 := (Kj).wr W1 (Or.inl (List.mem_of_getElem? (i := 0) rfl))
      show Go _ _ _ _ (T1.setTop (mkF m 14 #[.val (.ref a), .val (.int val), .val (.int I), .val (.int z)] []))
      refine Go.via (fun t_ k_ => XS.iinc H1.here hx rfl (hb hby d3_14) rfl (l' := #[.val (.ref a), .val (.int val), .val (.int (I + (1 : Int32))), .val (.int z)]) rfl k_) ?_
      show Go _ _ _ _ (T1.setTop (mkF m 17 #[.val (.ref a), .val (.int val), .val (.int (I + (1 : Int32))), .val (.int z)] []))
      refine Go.via (fun t_ k_ => XS.goto H1.here hx rfl (pc0 := 17) (pc' := 5) rfl (hb hby d3_17) (by decide) (by decide) k_) ?_
      show Go _ _ _ _ (T1.setTop (mkF m 5 #[.val (.ref a), .val (.int val), .val (.int (I + (1 : Int32))), .val (.int z)] []))
      exact ih (i + 1) _ T1 h1 (own_next hI (by omega)) (by omega) K1 (own_Ab B1 (fun q hq => by
        by_cases e1 : q = i
        · subst e1; rw [upd_hit, if_pos (by omega)]
        · rw [upd_miss e1]; by_cases e2 : q < i
          · rw [if_pos e2, if_pos (by omega)]
          · rw [if_neg e2, if_neg (by omega)])) H1
  show Go _ _ _ _ (T0.setTop (mkF m 0 #[.val (.ref a), .val (.int val), .unset, .unset] []))
  refine Go.via (fun t_ k_ => XS.iconst H0.here hx rfl (hb hby d3_0) k_) ?_
  show Go _ _ _ _ (T0.setTop (mkF m 1 #[.val (.ref a), .val (.int val), .unset, .unset] [(.int (0 : Int32))]))
  refine Go.via (fun t_ k_ => XS.istoreN H0.here hx rfl (hb hby d3_1) rfl (l' := #[.val (.ref a), .val (.int val), .val (.int (0 : Int32)), .unset]) rfl k_) ?_
  show Go _ _ _ _ (T0.setTop (mkF m 2 #[.val (.ref a), .val (.int val), .val (.int (0 : Int32)), .unset] []))
  refine Go.via (fun t_ k_ => XS.aloadN H0.here hx rfl (hb hby d3_2) rfl rfl k_) ?_
  show Go _ _ _ _ (T0.setTop (mkF m 3 #[.val (.ref a), .val (.int val), .val (.int (0 : Int32)), .unset] [(.ref a)]))
  refine own_lenA H0 hx hZ A (z := z) hz (g := (mkF m 3 #[.val (.ref a), .val (.int val), .val (.int (0 : Int32)), .unset] [(.ref a)])) rfl rfl (hb hby d3_3) ?_
  show Go _ _ _ _ (T0.setTop (mkF m 4 #[.val (.ref a), .val (.int val), .val (.int (0 : Int32)), .unset] [(.int z)]))
  refine Go.via (fun t_ k_ => XS.istoreN H0.here hx rfl (hb hby d3_4) rfl (l' := #[.val (.ref a), .val (.int val), .val (.int (0 : Int32)), .val (.int z)]) rfl k_) ?_
  show Go _ _ _ _ (T0.setTop (mkF m 5 #[.val (.ref a), .val (.int val), .val (.int (0 : Int32)), .val (.int z)] []))
  exact loop N' 0 _ T0 h0 (by decide) (by omega) (Keep.refl _ _) (own_Ab A (fun q hq => by rw [if_neg (by omega)])) H0
theorem d1_0 : decode prog_74_method_1_code 0 = .ok (.aload_n 0, 1) := by decide +kernel
theorem d1_1 : decode prog_74_method_1_code 1 = .ok (.invokespecial 1, 3) := by decide +kernel
theorem d1_4 : decode prog_74_method_1_code 4 = .ok (.aload_n 0, 1) := by decide +kernel
theorem d1_5 : decode prog_74_method_1_code 5 = .ok (.bipush 64, 2) := by decide +kernel
theorem d1_7 : decode prog_74_method_1_code 7 = .ok (.newarray .int, 2) := by decide +kernel
theorem d1_9 : decode prog_74_method_1_code 9 = .ok (.putfield 9, 3) := by decide +kernel
theorem d1_12 : decode prog_74_method_1_code 12 = .ok (.aload_n 0, 1) := by decide +kernel
theorem d1_13 : decode prog_74_method_1_code 13 = .ok (.bipush 64, 2) := by decide +kernel
theorem d1_15 : decode prog_74_method_1_code 15 = .ok (.newarray .int, 2) := by decide +kernel
theorem d1_17 : decode prog_74_method_1_code 17 = .ok (.putfield 13, 3) := by decide +kernel
theorem d1_20 : decode prog_74_method_1_code 20 = .ok (.aload_n 0, 1) := by decide +kernel
theorem d1_21 : decode prog_74_method_1_code 21 = .ok (.getfield 9, 3) := by decide +kernel
theorem d1_24 : decode prog_74_method_1_code 24 = .ok (.iconst (-1), 1) := by decide +kernel
theorem d1_25 : decode prog_74_method_1_code 25 = .ok (.invokestatic 16, 3) := by decide +kernel
theorem d1_28 : decode prog_74_method_1_code 28 = .ok (.return_, 1) := by decide +kernel
theorem ef_rmInit (m : MethodId) (x0 : Addr) : entryFrame m #[(.ref x0)] 1 = mkF m 0 #[.val (.ref x0)] [] := by first | (simp [entryFrame, mkF, argsToLocals, Value.category]; done) | rfl
theorem pd_0 : parseMethodDescriptor "([II)V" = some ⟨[(.array .int), .int], none⟩ := by decide +kernel
set_option maxRecDepth 65536 in
set_option maxHeartbeats 40000000 in
theorem rmInit (l : Launch) (Z : State) (a0 : Array Value) (hw : ∀ d ∈ tables_1, d.before a0 Z = true) (a : Addr) (h0 : Heap) (n0 : Nat) (E : Exa Z h0 a "com/example/neardb/neardb/query/IntIntMap") (Fk : Fld Z h0 a "com/example/neardb/neardb/query/IntIntMap" "keys" "[I" .null) (Fv : Fld Z h0 a "com/example/neardb/neardb/query/IntIntMap" "values" "[I" .null) (Fs : Fld Z h0 a "com/example/neardb/neardb/query/IntIntMap" "size" "I" (.int (0 : Int32))) (g : n0 ≤ a) (Z0 : n0 ≤ h0.size) :
    CM l Z (⟨"com/example/neardb/neardb/query/IntIntMap", "<init>", "()V"⟩ : MethodName) prog_74_method_1_code 1 none ({ frames := 1, cells := 2, slots := 128, locals := 15 } : Room) #[(.ref a)] h0 n0 (fun v h => v = none ∧ ∃ ka va, MapAt Z h a ka va 0 (fun _ => -1) (fun _ => 0) ∧ n0 ≤ ka ∧ n0 ≤ va) := by
  refine own_enter (by decide +kernel) ?_
  intro p e s m below meth c T0 hx hby hml hown hnm hZ hret hlk H0
  replace hown : s.vm.findClass "com/example/neardb/neardb/query/IntIntMap" = some m.cls := hown
  replace hret : meth.sig.returnType = none := hret
  refine Go.via (fun t_ k_ => castTop (ef_rmInit m a) k_) ?_
  show Go _ _ _ _ (T0.setTop (mkF m 0 #[.val (.ref a)] []))
  refine Go.via (fun t_ k_ => XS.aloadN H0.here hx rfl (hb hby d1_0) rfl rfl k_) ?_
  show Go _ _ _ _ (T0.setTop (mkF m 1 #[.val (.ref a)] [(.ref a)]))
  refine own_initO H0 hx hZ hown (hw _ (List.mem_of_getElem? (i := 9) rfl)) (hw _ (List.mem_of_getElem? (i := 10) rfl)) (hw _ (List.mem_of_getElem? (i := 11) rfl)) (g := (mkF m 1 #[.val (.ref a)] [(.ref a)])) rfl (by rw [hml]; rfl) rfl (hb hby d1_1) (by decide) 0 (Nat.le_of_eq rfl) (by decide) ?_
  intro T1 H1
  show Go _ _ _ _ (T1.setTop (mkF m 4 #[.val (.ref a)] []))
  refine Go.via (fun t_ k_ => XS.aloadN H1.here hx rfl (hb hby d1_4) rfl rfl k_) ?_
  show Go _ _ _ _ (T1.setTop (mkF m 5 #[.val (.ref a)] [(.ref a)]))
  refine Go.via (fun t_ k_ => XS.bipush H1.here hx rfl (hb hby d1_5) k_) ?_
  show Go _ _ _ _ (T1.setTop (mkF m 7 #[.val (.ref a)] [(.int (64 : Int32)), (.ref a)]))
  refine own_newA H1 hx hZ (aty := .int) (hw _ (List.mem_of_getElem? (i := 12) rfl)) (g := (mkF m 7 #[.val (.ref a)] [(.int (64 : Int32)), (.ref a)])) rfl (hb hby d1_7) rfl (by decide) 64 (by decide) rfl 64 (by decide) (by decide) (by decide) (by decide) ?_
  intro T2 h2 a2 ga2 E2 B2 H2
  replace B2 : Ab Z h2 a2 .int 64 (fun _ => 0) := B2
  have ne_a_a2 : a ≠ a2 := by rw [ga2]; exact Nat.ne_of_lt E.lt
  have g_a2 : n0 ≤ a2 := by rw [ga2]; exact Z0
  have sz2 : n0 ≤ h2.size := Nat.le_trans Z0 E2.1
  show Go _ _ _ _ (T2.setTop (mkF m 9 #[.val (.ref a)] [(.ref a2), (.ref a)]))
  refine own_putF H2 hx hZ hown (hw _ (List.mem_of_getElem? (i := 13) rfl)) (Fk.ext E2) (E.ext E2) (Or.inl (hw _ (List.mem_of_getElem? (i := 14) rfl))) (hw _ (List.mem_of_getElem? (i := 4) rfl)) g (ty := (.array .int)) (by decide) rfl rfl (g := (mkF m 9 #[.val (.ref a)] [(.ref a2), (.ref a)])) rfl rfl (hb hby d1_9) ?_
  intro T3 h3 W3 H3
  have F3_keys := (Fk.ext E2).same W3
  have sz3 : n0 ≤ h3.size := Nat.le_trans sz2 (Keep.of_wr W3).1
  show Go _ _ _ _ (T3.setTop (mkF m 12 #[.val (.ref a)] []))
  refine Go.via (fun t_ k_ => XS.aloadN H3.here hx rfl (hb hby d1_12) rfl rfl k_) ?_
  show Go _ _ _ _ (T3.setTop (mkF m 13 #[.val (.ref a)] [(.ref a)]))
  refine Go.via (fun t_ k_ => XS.bipush H3.here hx rfl (hb hby d1_13) k_) ?_
  show Go _ _ _ _ (T3.setTop (mkF m 15 #[.val (.ref a)] [(.int (64 : Int32)), (.ref a)]))
  refine own_newA H3 hx hZ (aty := .int) (hw _ (List.mem_of_getElem? (i := 12) rfl)) (g := (mkF m 15 #[.val (.ref a)] [(.int (64 : Int32)), (.ref a)])) rfl (hb hby d1_15) rfl (by decide) 64 (by decide) rfl 64 (by decide) (by decide) (by decide) (by decide) ?_
  intro T4 h4 a4 ga4 E4 B4 H4
  replace B4 : Ab Z h4 a4 .int 64 (fun _ => 0) := B4
  have ne_a_a4 : a ≠ a4 := by rw [ga4]; exact Nat.ne_of_lt ((E.ext E2).wr W3).lt
  have ne_a2_a4 : a2 ≠ a4 := by rw [ga4]; exact Nat.ne_of_lt (B2.other W3 (Ne.symm ne_a_a2)).lt
  have g_a4 : n0 ≤ a4 := by rw [ga4]; exact sz3
  have sz4 : n0 ≤ h4.size := Nat.le_trans sz3 E4.1
  show Go _ _ _ _ (T4.setTop (mkF m 17 #[.val (.ref a)] [(.ref a4), (.ref a)]))
  refine own_putF H4 hx hZ hown (hw _ (List.mem_of_getElem? (i := 15) rfl)) (((Fv.ext E2).other W3 (Or.inr (slot_ne (Or.inl (hw _ (List.mem_of_getElem? (i := 16) rfl))) (Or.inl (hw _ (List.mem_of_getElem? (i := 14) rfl))) (by decide) (t := (.array .int)) (t' := (.array .int)) (by decide) (by decide)))).ext E4) (((E.ext E2).wr W3).ext E4) (Or.inl (hw _ (List.mem_of_getElem? (i := 16) rfl))) (hw _ (List.mem_of_getElem? (i := 4) rfl)) g (ty := (.array .int)) (by decide) rfl rfl (g := (mkF m 17 #[.val (.ref a)] [(.ref a4), (.ref a)])) rfl rfl (hb hby d1_17) ?_
  intro T5 h5 W5 H5
  have F5_values := (((Fv.ext E2).other W3 (Or.inr (slot_ne (Or.inl (hw _ (List.mem_of_getElem? (i := 16) rfl))) (Or.inl (hw _ (List.mem_of_getElem? (i := 14) rfl))) (by decide) (t := (.array .int)) (t' := (.array .int)) (by decide) (by decide)))).ext E4).same W5
  have sz5 : n0 ≤ h5.size := Nat.le_trans sz4 (Keep.of_wr W5).1
  show Go _ _ _ _ (T5.setTop (mkF m 20 #[.val (.ref a)] []))
  refine Go.via (fun t_ k_ => XS.aloadN H5.here hx rfl (hb hby d1_20) rfl rfl k_) ?_
  show Go _ _ _ _ (T5.setTop (mkF m 21 #[.val (.ref a)] [(.ref a)]))
  refine own_getF H5 hx hZ hown (hw _ (List.mem_of_getElem? (i := 13) rfl)) ((F3_keys.ext E4).other W5 (Or.inr (slot_ne (Or.inl (hw _ (List.mem_of_getElem? (i := 14) rfl))) (Or.inl (hw _ (List.mem_of_getElem? (i := 16) rfl))) (by decide) (t := (.array .int)) (t' := (.array .int)) (by decide) (by decide)))) (g := (mkF m 21 #[.val (.ref a)] [(.ref a)])) rfl rfl (hb hby d1_21) ?_
  intro T6 H6
  show Go _ _ _ _ (T6.setTop (mkF m 24 #[.val (.ref a)] [(.ref a2)]))
  refine Go.via (fun t_ k_ => XS.iconst H6.here hx rfl (hb hby d1_24) k_) ?_
  show Go _ _ _ _ (T6.setTop (mkF m 25 #[.val (.ref a)] [(.int (-1 : Int32)), (.ref a2)]))
  refine own_callS H6 hx hZ (y := (⟨"java/util/Arrays", "fill", "([II)V"⟩ : MethodName)) hown (hw _ (List.mem_of_getElem? (i := 17) rfl)) (hw _ (List.mem_of_getElem? (i := 18) rfl)) (hw _ (List.mem_of_getElem? (i := 19) rfl)) (hw _ (List.mem_of_getElem? (i := 20) rfl)) (by decide) (rmFill l Z a0 hw a2 (fun _ => (0 : Int32)) 64 64 (-1 : Int32) h5 n0 (((B2.other W3 (Ne.symm ne_a_a2)).ext E4).other W5 (Ne.symm ne_a_a2)) g_a2 (by decide) (by decide) (by decide)) (g := (mkF m 25 #[.val (.ref a)] [(.int (-1 : Int32)), (.ref a2)])) rfl (by rw [hml]; rfl) (argsL := [(.ref a2), (.int (-1 : Int32))]) (rest := []) (lenOf pd_0 rfl) rfl 0 (Nat.le_of_eq rfl) (hb hby d1_25) (by decide) (by decide) (by decide) (by decide) ?_
  rintro _ T7 h7 ⟨rfl, K7, B7⟩ H7
  show Go _ _ _ _ (T7.setTop (mkF m 28 #[.val (.ref a)] []))
  exact own_retV H7 hx hlk hret (hb hby d1_28) ⟨rfl, a2, a4, ⟨(((((E.ext E2).wr W3).ext E4).wr W5).keep K7), (((F3_keys.ext E4).other W5 (Or.inr (slot_ne (Or.inl (hw _ (List.mem_of_getElem? (i := 14) rfl))) (Or.inl (hw _ (List.mem_of_getElem? (i := 16) rfl))) (by decide) (t := (.array .int)) (t' := (.array .int)) (by decide) (by decide)))).keep K7 (ninS ne_a_a2 nin0)), (F5_values.keep K7 (ninS ne_a_a2 nin0)), (((((Fs.ext E2).other W3 (Or.inr (slot_ne (Or.inl (hw _ (List.mem_of_getElem? (i := 27) rfl))) (Or.inl (hw _ (List.mem_of_getElem? (i := 14) rfl))) (by decide) (t := .int) (t' := (.array .int)) (by decide) (by decide)))).ext E4).other W5 (Or.inr (slot_ne (Or.inl (hw _ (List.mem_of_getElem? (i := 27) rfl))) (Or.inl (hw _ (List.mem_of_getElem? (i := 16) rfl))) (by decide) (t := .int) (t' := (.array .int)) (by decide) (by decide)))).keep K7 (ninS ne_a_a2 nin0)), B7, ((B4.other W5 (Ne.symm ne_a_a4)).keep K7 (ninS (Ne.symm ne_a2_a4) nin0)), ne_a_a2, ne_a_a4, ne_a2_a4⟩, g_a2, g_a4⟩ (by decide) (by decide)
theorem d4_0 : decode prog_74_method_3_code 0 = .ok (.iconst 2, 1) := by decide +kernel
theorem d4_1 : decode prog_74_method_3_code 1 = .ok (.aload_n 0, 1) := by decide +kernel
theorem d4_2 : decode prog_74_method_3_code 2 = .ok (.getfield 23, 3) := by decide +kernel
theorem d4_5 : decode prog_74_method_3_code 5 = .ok (.iconst 1, 1) := by decide +kernel
theorem d4_6 : decode prog_74_method_3_code 6 = .ok (.iadd, 1) := by decide +kernel
theorem d4_7 : decode prog_74_method_3_code 7 = .ok (.imul, 1) := by decide +kernel
theorem d4_8 : decode prog_74_method_3_code 8 = .ok (.aload_n 0, 1) := by decide +kernel
theorem d4_9 : decode prog_74_method_3_code 9 = .ok (.getfield 9, 3) := by decide +kernel
theorem d4_12 : decode prog_74_method_3_code 12 = .ok (.arraylength, 1) := by decide +kernel
theorem d4_13 : decode prog_74_method_3_code 13 = .ok (.if_icmp .le 7, 3) := by decide +kernel
theorem d4_16 : decode prog_74_method_3_code 16 = .ok (.aload_n 0, 1) := by decide +kernel
theorem d4_17 : decode prog_74_method_3_code 17 = .ok (.invokevirtual 27, 3) := by decide +kernel
theorem d4_20 : decode prog_74_method_3_code 20 = .ok (.aload_n 0, 1) := by decide +kernel
theorem d4_21 : decode prog_74_method_3_code 21 = .ok (.getfield 9, 3) := by decide +kernel
theorem d4_24 : decode prog_74_method_3_code 24 = .ok (.arraylength, 1) := by decide +kernel
theorem d4_25 : decode prog_74_method_3_code 25 = .ok (.iconst 1, 1) := by decide +kernel
theorem d4_26 : decode prog_74_method_3_code 26 = .ok (.isub, 1) := by decide +kernel
theorem d4_27 : decode prog_74_method_3_code 27 = .ok (.istore_n 3, 1) := by decide +kernel
theorem d4_28 : decode prog_74_method_3_code 28 = .ok (.iload_n 1, 1) := by decide +kernel
theorem d4_29 : decode prog_74_method_3_code 29 = .ok (.ldc 22, 2) := by decide +kernel
theorem d4_31 : decode prog_74_method_3_code 31 = .ok (.imul, 1) := by decide +kernel
theorem d4_32 : decode prog_74_method_3_code 32 = .ok (.iload_n 3, 1) := by decide +kernel
theorem d4_33 : decode prog_74_method_3_code 33 = .ok (.iand, 1) := by decide +kernel
theorem d4_34 : decode prog_74_method_3_code 34 = .ok (.istore 4, 2) := by decide +kernel
theorem d4_36 : decode prog_74_method_3_code 36 = .ok (.aload_n 0, 1) := by decide +kernel
theorem d4_37 : decode prog_74_method_3_code 37 = .ok (.getfield 9, 3) := by decide +kernel
theorem d4_40 : decode prog_74_method_3_code 40 = .ok (.iload 4, 2) := by decide +kernel
theorem d4_42 : decode prog_74_method_3_code 42 = .ok (.iaload, 1) := by decide +kernel
theorem d4_43 : decode prog_74_method_3_code 43 = .ok (.iconst (-1), 1) := by decide +kernel
theorem d4_44 : decode prog_74_method_3_code 44 = .ok (.if_icmp .eq 25, 3) := by decide +kernel
theorem d4_47 : decode prog_74_method_3_code 47 = .ok (.aload_n 0, 1) := by decide +kernel
theorem d4_48 : decode prog_74_method_3_code 48 = .ok (.getfield 9, 3) := by decide +kernel
theorem d4_51 : decode prog_74_method_3_code 51 = .ok (.iload 4, 2) := by decide +kernel
theorem d4_53 : decode prog_74_method_3_code 53 = .ok (.iaload, 1) := by decide +kernel
theorem d4_54 : decode prog_74_method_3_code 54 = .ok (.iload_n 1, 1) := by decide +kernel
theorem d4_55 : decode prog_74_method_3_code 55 = .ok (.if_icmp .eq 14, 3) := by decide +kernel
theorem d4_58 : decode prog_74_method_3_code 58 = .ok (.iload 4, 2) := by decide +kernel
theorem d4_60 : decode prog_74_method_3_code 60 = .ok (.iconst 1, 1) := by decide +kernel
theorem d4_61 : decode prog_74_method_3_code 61 = .ok (.iadd, 1) := by decide +kernel
theorem d4_62 : decode prog_74_method_3_code 62 = .ok (.iload_n 3, 1) := by decide +kernel
theorem d4_63 : decode prog_74_method_3_code 63 = .ok (.iand, 1) := by decide +kernel
theorem d4_64 : decode prog_74_method_3_code 64 = .ok (.istore 4, 2) := by decide +kernel
theorem d4_66 : decode prog_74_method_3_code 66 = .ok (.goto (-30), 3) := by decide +kernel
theorem d4_69 : decode prog_74_method_3_code 69 = .ok (.aload_n 0, 1) := by decide +kernel
theorem d4_70 : decode prog_74_method_3_code 70 = .ok (.getfield 9, 3) := by decide +kernel
theorem d4_73 : decode prog_74_method_3_code 73 = .ok (.iload 4, 2) := by decide +kernel
theorem d4_75 : decode prog_74_method_3_code 75 = .ok (.iaload, 1) := by decide +kernel
theorem d4_76 : decode prog_74_method_3_code 76 = .ok (.iconst (-1), 1) := by decide +kernel
theorem d4_77 : decode prog_74_method_3_code 77 = .ok (.if_icmp .ne 21, 3) := by decide +kernel
theorem d4_80 : decode prog_74_method_3_code 80 = .ok (.aload_n 0, 1) := by decide +kernel
theorem d4_81 : decode prog_74_method_3_code 81 = .ok (.getfield 9, 3) := by decide +kernel
theorem d4_84 : decode prog_74_method_3_code 84 = .ok (.iload 4, 2) := by decide +kernel
theorem d4_86 : decode prog_74_method_3_code 86 = .ok (.iload_n 1, 1) := by decide +kernel
theorem d4_87 : decode prog_74_method_3_code 87 = .ok (.iastore, 1) := by decide +kernel
theorem d4_88 : decode prog_74_method_3_code 88 = .ok (.aload_n 0, 1) := by decide +kernel
theorem d4_89 : decode prog_74_method_3_code 89 = .ok (.dup, 1) := by decide +kernel
theorem d4_90 : decode prog_74_method_3_code 90 = .ok (.getfield 23, 3) := by decide +kernel
theorem d4_93 : decode prog_74_method_3_code 93 = .ok (.iconst 1, 1) := by decide +kernel
theorem d4_94 : decode prog_74_method_3_code 94 = .ok (.iadd, 1) := by decide +kernel
theorem d4_95 : decode prog_74_method_3_code 95 = .ok (.putfield 23, 3) := by decide +kernel
theorem d4_98 : decode prog_74_method_3_code 98 = .ok (.aload_n 0, 1) := by decide +kernel
theorem d4_99 : decode prog_74_method_3_code 99 = .ok (.getfield 13, 3) := by decide +kernel
theorem d4_102 : decode prog_74_method_3_code 102 = .ok (.iload 4, 2) := by decide +kernel
theorem d4_104 : decode prog_74_method_3_code 104 = .ok (.iload_n 2, 1) := by decide +kernel
theorem d4_105 : decode prog_74_method_3_code 105 = .ok (.iastore, 1) := by decide +kernel
theorem d4_106 : decode prog_74_method_3_code 106 = .ok (.return_, 1) := by decide +kernel
theorem ef_rmPut (m : MethodId) (x0 : Addr) (x1 : Int32) (x2 : Int32) : entryFrame m #[(.ref x0), (.int x1), (.int x2)] 5 = mkF m 0 #[.val (.ref x0), .val (.int x1), .val (.int x2), .unset, .unset] [] := by first | (simp [entryFrame, mkF, argsToLocals, Value.category]; done) | rfl
set_option maxRecDepth 65536 in
set_option maxHeartbeats 40000000 in
theorem rmPut (l : Launch) (Z : State) (a0 : Array Value) (hw : ∀ d ∈ tables_1, d.before a0 Z = true) (a ka va : Addr) (sz p1 p2 : Int32) (K V : Nat → Int32) (M : Int32 → Option Int32) (B : Nat) (h0 : Heap) (n0 : Nat) (MA : MapAt Z h0 a ka va sz K V) (IV : Inv K V M B) (hB : B ≤ 7) (hk : p1 ≠ -1) (g : n0 ≤ a) (gk : n0 ≤ ka) (gv : n0 ≤ va) (hsz : ¬ (64 : Int32) < (2 : Int32) * (sz + (1 : Int32))) :
    CM l Z (⟨"com/example/neardb/neardb/query/IntIntMap", "put", "(II)V"⟩ : MethodName) prog_74_method_3_code 5 none ({ frames := 0, cells := 0, slots := 0, locals := 0 } : Room) #[(.ref a), (.int p1), (.int p2)] h0 n0 (fun v h => v = none ∧ ∃ sz' K' V', (sz' = sz ∨ sz' = sz + 1) ∧ MapAt Z h a ka va sz' K' V' ∧ Inv K' V' (ext M p1 p2) (2 * B + 1)) := by
  refine own_enter (by decide +kernel) ?_
  intro p e s m below meth c T0 hx hby hml hown hnm hZ hret hlk H0
  replace hown : s.vm.findClass "com/example/neardb/neardb/query/IntIntMap" = some m.cls := hown
  replace hret : meth.sig.returnType = none := hret
  refine Go.via (fun t_ k_ => castTop (ef_rmPut m a p1 p2) k_) ?_
  obtain ⟨d0, jj, ST⟩ := own_slot IV p1
  have ST' := ST
  obtain ⟨sj, hjj, sb, ss⟩ := ST
  obtain ⟨E, Fk, Fv, Fs, Bk, Bv, n1, n2, n3⟩ := MA
  have J69 : ∀ (Tj : State) (I : Int32), Here p l e ({ frames := 0, cells := 0, slots := 0, locals := 0 } : Room) s m #[(.ref a), (.int p1), (.int p2)] below meth c n0 Tj h0 0 0 → (I.toInt = (jj : Int)) → Go p e below (Fini below s n0 (fun v h => v = none ∧ ∃ sz' K' V', (sz' = sz ∨ sz' = sz + 1) ∧ MapAt Z h a ka va sz' K' V' ∧ Inv K' V' (ext M p1 p2) (2 * B + 1)) ({ frames := 0, cells := 0, slots := 0, locals := 0 } : Room).cells ({ frames := 0, cells := 0, slots := 0, locals := 0 } : Room).slots) (Tj.setTop (mkF m 69 #[.val (.ref a), .val (.int p1), .val (.int p2), .val (.int ((64 : Int32) - (1 : Int32))), .val (.int I)] [])) := by
    intro Tj I Hj hI
    show Go _ _ _ _ (Tj.setTop (mkF m 69 #[.val (.ref a), .val (.int p1), .val (.int p2), .val (.int ((64 : Int32) - (1 : Int32))), .val (.int I)] []))
    refine Go.via (fun t_ k_ => XS.aloadN Hj.here hx rfl (hb hby d4_69) rfl rfl k_) ?_
    show Go _ _ _ _ (Tj.setTop (mkF m 70 #[.val (.ref a), .val (.int p1), .val (.int p2), .val (.int ((64 : Int32) - (1 : Int32))), .val (.int I)] [(.ref a)]))
    refine own_getF Hj hx hZ hown (hw _ (List.mem_of_getElem? (i := 13) rfl)) Fk (g := (mkF m 70 #[.val (.ref a), .val (.int p1), .val (.int p2), .val (.int ((64 : Int32) - (1 : Int32))), .val (.int I)] [(.ref a)])) rfl rfl (hb hby d4_70) ?_
    intro T1 H1
    show Go _ _ _ _ (T1.setTop (mkF m 73 #[.val (.ref a), .val (.int p1), .val (.int p2), .val (.int ((64 : Int32) - (1 : Int32))), .val (.int I)] [(.ref ka)]))
    refine Go.via (fun t_ k_ => XS.iload H1.here hx rfl (hb hby d4_73) rfl k_) ?_
    show Go _ _ _ _ (T1.setTop (mkF m 75 #[.val (.ref a), .val (.int p1), .val (.int p2), .val (.int ((64 : Int32) - (1 : Int32))), .val (.int I)] [(.int I), (.ref ka)]))
    refine own_ldIA H1 hx hZ Bk (j := jj) hI hjj (g := (mkF m 75 #[.val (.ref a), .val (.int p1), .val (.int p2), .val (.int ((64 : Int32) - (1 : Int32))), .val (.int I)] [(.int I), (.ref ka)])) rfl rfl (hb hby d4_75) ?_
    show Go _ _ _ _ (T1.setTop (mkF m 76 #[.val (.ref a), .val (.int p1), .val (.int p2), .val (.int ((64 : Int32) - (1 : Int32))), .val (.int I)] [(.int (K jj))]))
    refine Go.via (fun t_ k_ => XS.iconst H1.here hx rfl (hb hby d4_76) k_) ?_
    show Go _ _ _ _ (T1.setTop (mkF m 77 #[.val (.ref a), .val (.int p1), .val (.int p2), .val (.int ((64 : Int32) - (1 : Int32))), .val (.int I)] [(.int (-1 : Int32)), (.int (K jj))]))
    by_cases hc77 : (K jj) = (-1 : Int32)
    · refine Go.via (fun t_ k_ => XS.icmpNo H1.here hx rfl (hb hby d4_77) rfl ((teq hc77).2) k_) ?_
      show Go _ _ _ _ (T1.setTop (mkF m 80 #[.val (.ref a), .val (.int p1), .val (.int p2), .val (.int ((64 : Int32) - (1 : Int32))), .val (.int I)] []))
      refine Go.via (fun t_ k_ => XS.aloadN H1.here hx rfl (hb hby d4_80) rfl rfl k_) ?_
      show Go _ _ _ _ (T1.setTop (mkF m 81 #[.val (.ref a), .val (.int p1), .val (.int p2), .val (.int ((64 : Int32) - (1 : Int32))), .val (.int I)] [(.ref a)]))
      refine own_getF H1 hx hZ hown (hw _ (List.mem_of_getElem? (i := 13) rfl)) Fk (g := (mkF m 81 #[.val (.ref a), .val (.int p1), .val (.int p2), .val (.int ((64 : Int32) - (1 : Int32))), .val (.int I)] [(.ref a)])) rfl rfl (hb hby d4_81) ?_
      intro T2 H2
      show Go _ _ _ _ (T2.setTop (mkF m 84 #[.val (.ref a), .val (.int p1), .val (.int p2), .val (.int ((64 : Int32) - (1 : Int32))), .val (.int I)] [(.ref ka)]))
      refine Go.via (fun t_ k_ => XS.iload H2.here hx rfl (hb hby d4_84) rfl k_) ?_
      show Go _ _ _ _ (T2.setTop (mkF m 86 #[.val (.ref a), .val (.int p1), .val (.int p2), .val (.int ((64 : Int32) - (1 : Int32))), .val (.int I)] [(.int I), (.ref ka)]))
      refine Go.via (fun t_ k_ => XS.iloadN H2.here hx rfl (hb hby d4_86) rfl k_) ?_
      show Go _ _ _ _ (T2.setTop (mkF m 87 #[.val (.ref a), .val (.int p1), .val (.int p2), .val (.int ((64 : Int32) - (1 : Int32))), .val (.int I)] [(.int p1), (.int I), (.ref ka)]))
      refine own_stIA H2 hx hZ Bk (j := jj) hI hjj gk (g := (mkF m 87 #[.val (.ref a), .val (.int p1), .val (.int p2), .val (.int ((64 : Int32) - (1 : Int32))), .val (.int I)] [(.int p1), (.int I), (.ref ka)])) rfl rfl (hb hby d4_87) ?_
      intro T3 h3 W3 B3 H3
      show Go _ _ _ _ (T3.setTop (mkF m 88 #[.val (.ref a), .val (.int p1), .val (.int p2), .val (.int ((64 : Int32) - (1 : Int32))), .val (.int I)] []))
      refine Go.via (fun t_ k_ => XS.aloadN H3.here hx rfl (hb hby d4_88) rfl rfl k_) ?_
      show Go _ _ _ _ (T3.setTop (mkF m 89 #[.val (.ref a), .val (.int p1), .val (.int p2), .val (.int ((64 : Int32) - (1 : Int32))), .val (.int I)] [(.ref a)]))
      refine Go.via (fun t_ k_ => XS.dup H3.here hx rfl (hb hby d4_89) rfl rfl k_) ?_
      show Go _ _ _ _ (T3.setTop (mkF m 90 #[.val (.ref a), .val (.int p1), .val (.int p2), .val (.int ((64 : Int32) - (1 : Int32))), .val (.int I)] [(.ref a), (.ref a)]))
      refine own_getF H3 hx hZ hown (hw _ (List.mem_of_getElem? (i := 26) rfl)) (Fs.other W3 (Or.inl n1)) (g := (mkF m 90 #[.val (.ref a), .val (.int p1), .val (.int p2), .val (.int ((64 : Int32) - (1 : Int32))), .val (.int I)] [(.ref a), (.ref a)])) rfl rfl (hb hby d4_90) ?_
      intro T4 H4
      show Go _ _ _ _ (T4.setTop (mkF m 93 #[.val (.ref a), .val (.int p1), .val (.int p2), .val (.int ((64 : Int32) - (1 : Int32))), .val (.int I)] [(.int sz), (.ref a)]))
      refine Go.via (fun t_ k_ => XS.iconst H4.here hx rfl (hb hby d4_93) k_) ?_
      show Go _ _ _ _ (T4.setTop (mkF m 94 #[.val (.ref a), .val (.int p1), .val (.int p2), .val (.int ((64 : Int32) - (1 : Int32))), .val (.int I)] [(.int (1 : Int32)), (.int sz), (.ref a)]))
      refine Go.via (fun t_ k_ => XS.iadd H4.here hx rfl (hb hby d4_94) rfl k_) ?_
      show Go _ _ _ _ (T4.setTop (mkF m 95 #[.val (.ref a), .val (.int p1), .val (.int p2), .val (.int ((64 : Int32) - (1 : Int32))), .val (.int I)] [(.int (sz + (1 : Int32))), (.ref a)]))
      refine own_putF H4 hx hZ hown (hw _ (List.mem_of_getElem? (i := 26) rfl)) (Fs.other W3 (Or.inl n1)) (E.wr W3) (Or.inl (hw _ (List.mem_of_getElem? (i := 27) rfl))) (hw _ (List.mem_of_getElem? (i := 4) rfl)) g (ty := .int) (by decide) rfl rfl (g := (mkF m 95 #[.val (.ref a), .val (.int p1), .val (.int p2), .val (.int ((64 : Int32) - (1 : Int32))), .val (.int I)] [(.int (sz + (1 : Int32))), (.ref a)])) rfl rfl (hb hby d4_95) ?_
      intro T5 h5 W5 H5
      have F5_size := (Fs.other W3 (Or.inl n1)).same W5
      show Go _ _ _ _ (T5.setTop (mkF m 98 #[.val (.ref a), .val (.int p1), .val (.int p2), .val (.int ((64 : Int32) - (1 : Int32))), .val (.int I)] []))
      refine Go.via (fun t_ k_ => XS.aloadN H5.here hx rfl (hb hby d4_98) rfl rfl k_) ?_
      show Go _ _ _ _ (T5.setTop (mkF m 99 #[.val (.ref a), .val (.int p1), .val (.int p2), .val (.int ((64 : Int32) - (1 : Int32))), .val (.int I)] [(.ref a)]))
      refine own_getF H5 hx hZ hown (hw _ (List.mem_of_getElem? (i := 15) rfl)) ((Fv.other W3 (Or.inl n1)).other W5 (Or.inr (slot_ne (Or.inl (hw _ (List.mem_of_getElem? (i := 16) rfl))) (Or.inl (hw _ (List.mem_of_getElem? (i := 27) rfl))) (by decide) (t := (.array .int)) (t' := .int) (by decide) (by decide)))) (g := (mkF m 99 #[.val (.ref a), .val (.int p1), .val (.int p2), .val (.int ((64 : Int32) - (1 : Int32))), .val (.int I)] [(.ref a)])) rfl rfl (hb hby d4_99) ?_
      intro T6 H6
      show Go _ _ _ _ (T6.setTop (mkF m 102 #[.val (.ref a), .val (.int p1), .val (.int p2), .val (.int ((64 : Int32) - (1 : Int32))), .val (.int I)] [(.ref va)]))
      refine Go.via (fun t_ k_ => XS.iload H6.here hx rfl (hb hby d4_102) rfl k_) ?_
      show Go _ _ _ _ (T6.setTop (mkF m 104 #[.val (.ref a), .val (.int p1), .val (.int p2), .val (.int ((64 : Int32) - (1 : Int32))), .val (.int I)] [(.int I), (.ref va)]))
      refine Go.via (fun t_ k_ => XS.iloadN H6.here hx rfl (hb hby d4_104) rfl k_) ?_
      show Go _ _ _ _ (T6.setTop (mkF m 105 #[.val (.ref a), .val (.int p1), .val (.int p2), .val (.int ((64 : Int32) - (1 : Int32))), .val (.int I)] [(.int p2), (.int I), (.ref va)]))
      refine own_stIA H6 hx hZ ((Bv.other W3 (Ne.symm n3)).other W5 (Ne.symm n2)) (j := jj) hI hjj gv (g := (mkF m 105 #[.val (.ref a), .val (.int p1), .val (.int p2), .val (.int ((64 : Int32) - (1 : Int32))), .val (.int I)] [(.int p2), (.int I), (.ref va)])) rfl rfl (hb hby d4_105) ?_
      intro T7 h7 W7 B7 H7
      show Go _ _ _ _ (T7.setTop (mkF m 106 #[.val (.ref a), .val (.int p1), .val (.int p2), .val (.int ((64 : Int32) - (1 : Int32))), .val (.int I)] []))
      exact own_retV H7 hx hlk hret (hb hby d4_106) ⟨rfl, sz + 1, _, _, Or.inr rfl, ⟨(((E.wr W3).wr W5).wr W7), (((Fk.other W3 (Or.inl n1)).other W5 (Or.inr (slot_ne (Or.inl (hw _ (List.mem_of_getElem? (i := 14) rfl))) (Or.inl (hw _ (List.mem_of_getElem? (i := 27) rfl))) (by decide) (t := (.array .int)) (t' := .int) (by decide) (by decide)))).other W7 (Or.inl n2)), (((Fv.other W3 (Or.inl n1)).other W5 (Or.inr (slot_ne (Or.inl (hw _ (List.mem_of_getElem? (i := 16) rfl))) (Or.inl (hw _ (List.mem_of_getElem? (i := 27) rfl))) (by decide) (t := (.array .int)) (t' := .int) (by decide) (by decide)))).other W7 (Or.inl n2)), (F5_size.other W7 (Or.inl n2)), ((B3.other W5 (Ne.symm n1)).other W7 n3), B7, n1, n2, n3⟩, (by have := own_put IV ST' hB hk p2; rw [if_pos hc77] at this; exact this)⟩ (by decide) (by decide)
    · refine Go.via (fun t_ k_ => XS.icmpYes H1.here hx rfl (pc0 := 77) (pc' := 98) rfl (hb hby d4_77) rfl ((feq hc77).2) (by decide) (by decide) k_) ?_
      show Go _ _ _ _ (T1.setTop (mkF m 98 #[.val (.ref a), .val (.int p1), .val (.int p2), .val (.int ((64 : Int32) - (1 : Int32))), .val (.int I)] []))
      refine Go.via (fun t_ k_ => XS.aloadN H1.here hx rfl (hb hby d4_98) rfl rfl k_) ?_
      show Go _ _ _ _ (T1.setTop (mkF m 99 #[.val (.ref a), .val (.int p1), .val (.int p2), .val (.int ((64 : Int32) - (1 : Int32))), .val (.int I)] [(.ref a)]))
      refine own_getF H1 hx hZ hown (hw _ (List.mem_of_getElem? (i := 15) rfl)) Fv (g := (mkF m 99 #[.val (.ref a), .val (.int p1), .val (.int p2), .val (.int ((64 : Int32) - (1 : Int32))), .val (.int I)] [(.ref a)])) rfl rfl (hb hby d4_99) ?_
      intro T8 H8
      show Go _ _ _ _ (T8.setTop (mkF m 102 #[.val (.ref a), .val (.int p1), .val (.int p2), .val (.int ((64 : Int32) - (1 : Int32))), .val (.int I)] [(.ref va)]))
      refine Go.via (fun t_ k_ => XS.iload H8.here hx rfl (hb hby d4_102) rfl k_) ?_
      show Go _ _ _ _ (T8.setTop (mkF m 104 #[.val (.ref a), .val (.int p1), .val (.int p2), .val (.int ((64 : Int32) - (1 : Int32))), .val (.int I)] [(.int I), (.ref va)]))
      refine Go.via (fun t_ k_ => XS.iloadN H8.here hx rfl (hb hby d4_104) rfl k_) ?_
      show Go _ _ _ _ (T8.setTop (mkF m 105 #[.val (.ref a), .val (.int p1), .val (.int p2), .val (.int ((64 : Int32) - (1 : Int32))), .val (.int I)] [(.int p2), (.int I), (.ref va)]))
      refine own_stIA H8 hx hZ Bv (j := jj) hI hjj gv (g := (mkF m 105 #[.val (.ref a), .val (.int p1), .val (.int p2), .val (.int ((64 : Int32) - (1 : Int32))), .val (.int I)] [(.int p2), (.int I), (.ref va)])) rfl rfl (hb hby d4_105) ?_
      intro T9 h9 W9 B9 H9
      show Go _ _ _ _ (T9.setTop (mkF m 106 #[.val (.ref a), .val (.int p1), .val (.int p2), .val (.int ((64 : Int32) - (1 : Int32))), .val (.int I)] []))
      exact own_retV H9 hx hlk hret (hb hby d4_106) ⟨rfl, sz, _, _, Or.inl rfl, ⟨(E.wr W9), (Fk.other W9 (Or.inl n2)), (Fv.other W9 (Or.inl n2)), (Fs.other W9 (Or.inl n2)), (Bk.other W9 n3), B9, n1, n2, n3⟩, (by have := own_put IV ST' hB hk p2; rw [if_neg hc77] at this; exact this)⟩ (by decide) (by decide)
  have loop : ∀ (d i : Nat) (I : Int32) (Tj : State), I.toInt = (i : Int) → i < 64 → (i + d) % 64 = jj → (∀ e, e < d → K ((i + e) % 64) ≠ -1 ∧ K ((i + e) % 64) ≠ p1) → Here p l e ({ frames := 0, cells := 0, slots := 0, locals := 0 } : Room) s m #[(.ref a), (.int p1), (.int p2)] below meth c n0 Tj h0 0 0 → Go p e below (Fini below s n0 (fun v h => v = none ∧ ∃ sz' K' V', (sz' = sz ∨ sz' = sz + 1) ∧ MapAt Z h a ka va sz' K' V' ∧ Inv K' V' (ext M p1 p2) (2 * B + 1)) ({ frames := 0, cells := 0, slots := 0, locals := 0 } : Room).cells ({ frames := 0, cells := 0, slots := 0, locals := 0 } : Room).slots) (Tj.setTop (mkF m 36 #[.val (.ref a), .val (.int p1), .val (.int p2), .val (.int ((64 : Int32) - (1 : Int32))), .val (.int I)] [])) := by
    intro d
    induction d with
    | zero =>
      intro i I Tj hI0 hi hj hs Hj
      have hI : I.toInt = (jj : Int) := by omega
      refine Go.via (fun t_ k_ => XS.aloadN Hj.here hx rfl (hb hby d4_36) rfl rfl k_) ?_
      show Go _ _ _ _ (Tj.setTop (mkF m 37 #[.val (.ref a), .val (.int p1), .val (.int p2), .val (.int ((64 : Int32) - (1 : Int32))), .val (.int I)] [(.ref a)]))
      refine own_getF Hj hx hZ hown (hw _ (List.mem_of_getElem? (i := 13) rfl)) Fk (g := (mkF m 37 #[.val (.ref a), .val (.int p1), .val (.int p2), .val (.int ((64 : Int32) - (1 : Int32))), .val (.int I)] [(.ref a)])) rfl rfl (hb hby d4_37) ?_
      intro T10 H10
      show Go _ _ _ _ (T10.setTop (mkF m 40 #[.val (.ref a), .val (.int p1), .val (.int p2), .val (.int ((64 : Int32) - (1 : Int32))), .val (.int I)] [(.ref ka)]))
      refine Go.via (fun t_ k_ => XS.iload H10.here hx rfl (hb hby d4_40) rfl k_) ?_
      show Go _ _ _ _ (T10.setTop (mkF m 42 #[.val (.ref a), .val (.int p1), .val (.int p2), .val (.int ((64 : Int32) - (1 : Int32))), .val (.int I)] [(.int I), (.ref ka)]))
      refine own_ldIA H10 hx hZ Bk (j := jj) hI hjj (g := (mkF m 42 #[.val (.ref a), .val (.int p1), .val (.int p2), .val (.int ((64 : Int32) - (1 : Int32))), .val (.int I)] [(.int I), (.ref ka)])) rfl rfl (hb hby d4_42) ?_
      show Go _ _ _ _ (T10.setTop (mkF m 43 #[.val (.ref a), .val (.int p1), .val (.int p2), .val (.int ((64 : Int32) - (1 : Int32))), .val (.int I)] [(.int (K jj))]))
      refine Go.via (fun t_ k_ => XS.iconst H10.here hx rfl (hb hby d4_43) k_) ?_
      show Go _ _ _ _ (T10.setTop (mkF m 44 #[.val (.ref a), .val (.int p1), .val (.int p2), .val (.int ((64 : Int32) - (1 : Int32))), .val (.int I)] [(.int (-1 : Int32)), (.int (K jj))]))
      by_cases hc44 : (K jj) = (-1 : Int32)
      · refine Go.via (fun t_ k_ => XS.icmpYes H10.here hx rfl (pc0 := 44) (pc' := 69) rfl (hb hby d4_44) rfl ((teq hc44).1) (by decide) (by decide) k_) ?_
        show Go _ _ _ _ (T10.setTop (mkF m 69 #[.val (.ref a), .val (.int p1), .val (.int p2), .val (.int ((64 : Int32) - (1 : Int32))), .val (.int I)] []))
        exact J69 T10 I H10 hI
      · refine Go.via (fun t_ k_ => XS.icmpNo H10.here hx rfl (hb hby d4_44) rfl ((feq hc44).1) k_) ?_
        show Go _ _ _ _ (T10.setTop (mkF m 47 #[.val (.ref a), .val (.int p1), .val (.int p2), .val (.int ((64 : Int32) - (1 : Int32))), .val (.int I)] []))
        refine Go.via (fun t_ k_ => XS.aloadN H10.here hx rfl (hb hby d4_47) rfl rfl k_) ?_
        show Go _ _ _ _ (T10.setTop (mkF m 48 #[.val (.ref a), .val (.int p1), .val (.int p2), .val (.int ((64 : Int32) - (1 : Int32))), .val (.int I)] [(.ref a)]))
        refine own_getF H10 hx hZ hown (hw _ (List.mem_of_getElem? (i := 13) rfl)) Fk (g := (mkF m 48 #[.val (.ref a), .val (.int p1), .val (.int p2), .val (.int ((64 : Int32) - (1 : Int32))), .val (.int I)] [(.ref a)])) rfl rfl (hb hby d4_48) ?_
        intro T11 H11
        show Go _ _ _ _ (T11.setTop (mkF m 51 #[.val (.ref a), .val (.int p1), .val (.int p2), .val (.int ((64 : Int32) - (1 : Int32))), .val (.int I)] [(.ref ka)]))
        refine Go.via (fun t_ k_ => XS.iload H11.here hx rfl (hb hby d4_51) rfl k_) ?_
        show Go _ _ _ _ (T11.setTop (mkF m 53 #[.val (.ref a), .val (.int p1), .val (.int p2), .val (.int ((64 : Int32) - (1 : Int32))), .val (.int I)] [(.int I), (.ref ka)]))
        refine own_ldIA H11 hx hZ Bk (j := jj) hI hjj (g := (mkF m 53 #[.val (.ref a), .val (.int p1), .val (.int p2), .val (.int ((64 : Int32) - (1 : Int32))), .val (.int I)] [(.int I), (.ref ka)])) rfl rfl (hb hby d4_53) ?_
        show Go _ _ _ _ (T11.setTop (mkF m 54 #[.val (.ref a), .val (.int p1), .val (.int p2), .val (.int ((64 : Int32) - (1 : Int32))), .val (.int I)] [(.int (K jj))]))
        refine Go.via (fun t_ k_ => XS.iloadN H11.here hx rfl (hb hby d4_54) rfl k_) ?_
        show Go _ _ _ _ (T11.setTop (mkF m 55 #[.val (.ref a), .val (.int p1), .val (.int p2), .val (.int ((64 : Int32) - (1 : Int32))), .val (.int I)] [(.int p1), (.int (K jj))]))
        refine Go.via (fun t_ k_ => XS.icmpYes H11.here hx rfl (pc0 := 55) (pc' := 69) rfl (hb hby d4_55) rfl ((teq (show (K jj) = p1 from (ss.resolve_left hc44))).1) (by decide) (by decide) k_) ?_
        show Go _ _ _ _ (T11.setTop (mkF m 69 #[.val (.ref a), .val (.int p1), .val (.int p2), .val (.int ((64 : Int32) - (1 : Int32))), .val (.int I)] []))
        exact J69 T11 I H11 hI
    | succ d ih =>
      intro i I Tj hI hi hj hs Hj
      have z1 : K i ≠ -1 ∧ K i ≠ p1 := by have := hs 0 (Nat.succ_pos _); rwa [show (i + 0) % 64 = i by omega] at this
      refine Go.via (fun t_ k_ => XS.aloadN Hj.here hx rfl (hb hby d4_36) rfl rfl k_) ?_
      show Go _ _ _ _ (Tj.setTop (mkF m 37 #[.val (.ref a), .val (.int p1), .val (.int p2), .val (.int ((64 : Int32) - (1 : Int32))), .val (.int I)] [(.ref a)]))
      refine own_getF Hj hx hZ hown (hw _ (List.mem_of_getElem? (i := 13) rfl)) Fk (g := (mkF m 37 #[.val (.ref a), .val (.int p1), .val (.int p2), .val (.int ((64 : Int32) - (1 : Int32))), .val (.int I)] [(.ref a)])) rfl rfl (hb hby d4_37) ?_
      intro T12 H12
      show Go _ _ _ _ (T12.setTop (mkF m 40 #[.val (.ref a), .val (.int p1), .val (.int p2), .val (.int ((64 : Int32) - (1 : Int32))), .val (.int I)] [(.ref ka)]))
      refine Go.via (fun t_ k_ => XS.iload H12.here hx rfl (hb hby d4_40) rfl k_) ?_
      show Go _ _ _ _ (T12.setTop (mkF m 42 #[.val (.ref a), .val (.int p1), .val (.int p2), .val (.int ((64 : Int32) - (1 : Int32))), .val (.int I)] [(.int I), (.ref ka)]))
      refine own_ldIA H12 hx hZ Bk (j := i) hI hi (g := (mkF m 42 #[.val (.ref a), .val (.int p1), .val (.int p2), .val (.int ((64 : Int32) - (1 : Int32))), .val (.int I)] [(.int I), (.ref ka)])) rfl rfl (hb hby d4_42) ?_
      show Go _ _ _ _ (T12.setTop (mkF m 43 #[.val (.ref a), .val (.int p1), .val (.int p2), .val (.int ((64 : Int32) - (1 : Int32))), .val (.int I)] [(.int (K i))]))
      refine Go.via (fun t_ k_ => XS.iconst H12.here hx rfl (hb hby d4_43) k_) ?_
      show Go _ _ _ _ (T12.setTop (mkF m 44 #[.val (.ref a), .val (.int p1), .val (.int p2), .val (.int ((64 : Int32) - (1 : Int32))), .val (.int I)] [(.int (-1 : Int32)), (.int (K i))]))
      refine Go.via (fun t_ k_ => XS.icmpNo H12.here hx rfl (hb hby d4_44) rfl ((feq (show ¬ ((K i) = (-1 : Int32)) from z1.1)).1) k_) ?_
      show Go _ _ _ _ (T12.setTop (mkF m 47 #[.val (.ref a), .val (.int p1), .val (.int p2), .val (.int ((64 : Int32) - (1 : Int32))), .val (.int I)] []))
      refine Go.via (fun t_ k_ => XS.aloadN H12.here hx rfl (hb hby d4_47) rfl rfl k_) ?_
      show Go _ _ _ _ (T12.setTop (mkF m 48 #[.val (.ref a), .val (.int p1), .val (.int p2), .val (.int ((64 : Int32) - (1 : Int32))), .val (.int I)] [(.ref a)]))
      refine own_getF H12 hx hZ hown (hw _ (List.mem_of_getElem? (i := 13) rfl)) Fk (g := (mkF m 48 #[.val (.ref a), .val (.int p1), .val (.int p2), .val (.int ((64 : Int32) - (1 : Int32))), .val (.int I)] [(.ref a)])) rfl rfl (hb hby d4_48) ?_
      intro T13 H13
      show Go _ _ _ _ (T13.setTop (mkF m 51 #[.val (.ref a), .val (.int p1), .val (.int p2), .val (.int ((64 : Int32) - (1 : Int32))), .val (.int I)] [(.ref ka)]))
      refine Go.via (fun t_ k_ => XS.iload H13.here hx rfl (hb hby d4_51) rfl k_) ?_
      show Go _ _ _ _ (T13.setTop (mkF m 53 #[.val (.ref a), .val (.int p1), .val (.int p2), .val (.int ((64 : Int32) - (1 : Int32))), .val (.int I)] [(.int I), (.ref ka)]))
      refine own_ldIA H13 hx hZ Bk (j := i) hI hi (g := (mkF m 53 #[.val (.ref a), .val (.int p1), .val (.int p2), .val (.int ((64 : Int32) - (1 : Int32))), .val (.int I)] [(.int I), (.ref ka)])) rfl rfl (hb hby d4_53) ?_
      show Go _ _ _ _ (T13.setTop (mkF m 54 #[.val (.ref a), .val (.int p1), .val (.int p2), .val (.int ((64 : Int32) - (1 : Int32))), .val (.int I)] [(.int (K i))]))
      refine Go.via (fun t_ k_ => XS.iloadN H13.here hx rfl (hb hby d4_54) rfl k_) ?_
      show Go _ _ _ _ (T13.setTop (mkF m 55 #[.val (.ref a), .val (.int p1), .val (.int p2), .val (.int ((64 : Int32) - (1 : Int32))), .val (.int I)] [(.int p1), (.int (K i))]))
      refine Go.via (fun t_ k_ => XS.icmpNo H13.here hx rfl (hb hby d4_55) rfl ((feq (show ¬ ((K i) = p1) from z1.2)).1) k_) ?_
      show Go _ _ _ _ (T13.setTop (mkF m 58 #[.val (.ref a), .val (.int p1), .val (.int p2), .val (.int ((64 : Int32) - (1 : Int32))), .val (.int I)] []))
      refine Go.via (fun t_ k_ => XS.iload H13.here hx rfl (hb hby d4_58) rfl k_) ?_
      show Go _ _ _ _ (T13.setTop (mkF m 60 #[.val (.ref a), .val (.int p1), .val (.int p2), .val (.int ((64 : Int32) - (1 : Int32))), .val (.int I)] [(.int I)]))
      refine Go.via (fun t_ k_ => XS.iconst H13.here hx rfl (hb hby d4_60) k_) ?_
      show Go _ _ _ _ (T13.setTop (mkF m 61 #[.val (.ref a), .val (.int p1), .val (.int p2), .val (.int ((64 : Int32) - (1 : Int32))), .val (.int I)] [(.int (1 : Int32)), (.int I)]))
      refine Go.via (fun t_ k_ => XS.iadd H13.here hx rfl (hb hby d4_61) rfl k_) ?_
      show Go _ _ _ _ (T13.setTop (mkF m 62 #[.val (.ref a), .val (.int p1), .val (.int p2), .val (.int ((64 : Int32) - (1 : Int32))), .val (.int I)] [(.int (I + (1 : Int32)))]))
      refine Go.via (fun t_ k_ => XS.iloadN H13.here hx rfl (hb hby d4_62) rfl k_) ?_
      show Go _ _ _ _ (T13.setTop (mkF m 63 #[.val (.ref a), .val (.int p1), .val (.int p2), .val (.int ((64 : Int32) - (1 : Int32))), .val (.int I)] [(.int ((64 : Int32) - (1 : Int32))), (.int (I + (1 : Int32)))]))
      refine Go.via (fun t_ k_ => XS.iand H13.here hx rfl (hb hby d4_63) rfl k_) ?_
      show Go _ _ _ _ (T13.setTop (mkF m 64 #[.val (.ref a), .val (.int p1), .val (.int p2), .val (.int ((64 : Int32) - (1 : Int32))), .val (.int I)] [(.int ((I + (1 : Int32)) &&& ((64 : Int32) - (1 : Int32))))]))
      refine Go.via (fun t_ k_ => XS.istore H13.here hx rfl (hb hby d4_64) rfl (l' := #[.val (.ref a), .val (.int p1), .val (.int p2), .val (.int ((64 : Int32) - (1 : Int32))), .val (.int ((I + (1 : Int32)) &&& ((64 : Int32) - (1 : Int32))))]) rfl k_) ?_
      show Go _ _ _ _ (T13.setTop (mkF m 66 #[.val (.ref a), .val (.int p1), .val (.int p2), .val (.int ((64 : Int32) - (1 : Int32))), .val (.int ((I + (1 : Int32)) &&& ((64 : Int32) - (1 : Int32))))] []))
      refine Go.via (fun t_ k_ => XS.goto H13.here hx rfl (pc0 := 66) (pc' := 36) rfl (hb hby d4_66) (by decide) (by decide) k_) ?_
      show Go _ _ _ _ (T13.setTop (mkF m 36 #[.val (.ref a), .val (.int p1), .val (.int p2), .val (.int ((64 : Int32) - (1 : Int32))), .val (.int ((I + (1 : Int32)) &&& ((64 : Int32) - (1 : Int32))))] []))
      exact ih ((i + 1) % 64) _ T13 (own_nxt hI hi) (by omega) (by omega) (fun e he => by have := hs (e + 1) (by omega); rwa [show (i + (e + 1)) % 64 = ((i + 1) % 64 + e) % 64 by omega] at this) H13
  show Go _ _ _ _ (T0.setTop (mkF m 0 #[.val (.ref a), .val (.int p1), .val (.int p2), .unset, .unset] []))
  refine Go.via (fun t_ k_ => XS.iconst H0.here hx rfl (hb hby d4_0) k_) ?_
  show Go _ _ _ _ (T0.setTop (mkF m 1 #[.val (.ref a), .val (.int p1), .val (.int p2), .unset, .unset] [(.int (2 : Int32))]))
  refine Go.via (fun t_ k_ => XS.aloadN H0.here hx rfl (hb hby d4_1) rfl rfl k_) ?_
  show Go _ _ _ _ (T0.setTop (mkF m 2 #[.val (.ref a), .val (.int p1), .val (.int p2), .unset, .unset] [(.ref a), (.int (2 : Int32))]))
  refine own_getF H0 hx hZ hown (hw _ (List.mem_of_getElem? (i := 26) rfl)) Fs (g := (mkF m 2 #[.val (.ref a), .val (.int p1), .val (.int p2), .unset, .unset] [(.ref a), (.int (2 : Int32))])) rfl rfl (hb hby d4_2) ?_
  intro T14 H14
  show Go _ _ _ _ (T14.setTop (mkF m 5 #[.val (.ref a), .val (.int p1), .val (.int p2), .unset, .unset] [(.int sz), (.int (2 : Int32))]))
  refine Go.via (fun t_ k_ => XS.iconst H14.here hx rfl (hb hby d4_5) k_) ?_
  show Go _ _ _ _ (T14.setTop (mkF m 6 #[.val (.ref a), .val (.int p1), .val (.int p2), .unset, .unset] [(.int (1 : Int32)), (.int sz), (.int (2 : Int32))]))
  refine Go.via (fun t_ k_ => XS.iadd H14.here hx rfl (hb hby d4_6) rfl k_) ?_
  show Go _ _ _ _ (T14.setTop (mkF m 7 #[.val (.ref a), .val (.int p1), .val (.int p2), .unset, .unset] [(.int (sz + (1 : Int32))), (.int (2 : Int32))]))
  refine Go.via (fun t_ k_ => XS.imul H14.here hx rfl (hb hby d4_7) rfl k_) ?_
  show Go _ _ _ _ (T14.setTop (mkF m 8 #[.val (.ref a), .val (.int p1), .val (.int p2), .unset, .unset] [(.int ((2 : Int32) * (sz + (1 : Int32))))]))
  refine Go.via (fun t_ k_ => XS.aloadN H14.here hx rfl (hb hby d4_8) rfl rfl k_) ?_
  show Go _ _ _ _ (T14.setTop (mkF m 9 #[.val (.ref a), .val (.int p1), .val (.int p2), .unset, .unset] [(.ref a), (.int ((2 : Int32) * (sz + (1 : Int32))))]))
  refine own_getF H14 hx hZ hown (hw _ (List.mem_of_getElem? (i := 13) rfl)) Fk (g := (mkF m 9 #[.val (.ref a), .val (.int p1), .val (.int p2), .unset, .unset] [(.ref a), (.int ((2 : Int32) * (sz + (1 : Int32))))])) rfl rfl (hb hby d4_9) ?_
  intro T15 H15
  show Go _ _ _ _ (T15.setTop (mkF m 12 #[.val (.ref a), .val (.int p1), .val (.int p2), .unset, .unset] [(.ref ka), (.int ((2 : Int32) * (sz + (1 : Int32))))]))
  refine own_lenA H15 hx hZ Bk (z := (64 : Int32)) (by decide) (g := (mkF m 12 #[.val (.ref a), .val (.int p1), .val (.int p2), .unset, .unset] [(.ref ka), (.int ((2 : Int32) * (sz + (1 : Int32))))])) rfl rfl (hb hby d4_12) ?_
  show Go _ _ _ _ (T15.setTop (mkF m 13 #[.val (.ref a), .val (.int p1), .val (.int p2), .unset, .unset] [(.int (64 : Int32)), (.int ((2 : Int32) * (sz + (1 : Int32))))]))
  refine Go.via (fun t_ k_ => XS.icmpYes H15.here hx rfl (pc0 := 13) (pc' := 20) rfl (hb hby d4_13) rfl ((flt (show ¬ ((64 : Int32) < ((2 : Int32) * (sz + (1 : Int32)))) from hsz)).2.2.2) (by decide) (by decide) k_) ?_
  show Go _ _ _ _ (T15.setTop (mkF m 20 #[.val (.ref a), .val (.int p1), .val (.int p2), .unset, .unset] []))
  refine Go.via (fun t_ k_ => XS.aloadN H15.here hx rfl (hb hby d4_20) rfl rfl k_) ?_
  show Go _ _ _ _ (T15.setTop (mkF m 21 #[.val (.ref a), .val (.int p1), .val (.int p2), .unset, .unset] [(.ref a)]))
  refine own_getF H15 hx hZ hown (hw _ (List.mem_of_getElem? (i := 13) rfl)) Fk (g := (mkF m 21 #[.val (.ref a), .val (.int p1), .val (.int p2), .unset, .unset] [(.ref a)])) rfl rfl (hb hby d4_21) ?_
  intro T16 H16
  show Go _ _ _ _ (T16.setTop (mkF m 24 #[.val (.ref a), .val (.int p1), .val (.int p2), .unset, .unset] [(.ref ka)]))
  refine own_lenA H16 hx hZ Bk (z := (64 : Int32)) (by decide) (g := (mkF m 24 #[.val (.ref a), .val (.int p1), .val (.int p2), .unset, .unset] [(.ref ka)])) rfl rfl (hb hby d4_24) ?_
  show Go _ _ _ _ (T16.setTop (mkF m 25 #[.val (.ref a), .val (.int p1), .val (.int p2), .unset, .unset] [(.int (64 : Int32))]))
  refine Go.via (fun t_ k_ => XS.iconst H16.here hx rfl (hb hby d4_25) k_) ?_
  show Go _ _ _ _ (T16.setTop (mkF m 26 #[.val (.ref a), .val (.int p1), .val (.int p2), .unset, .unset] [(.int (1 : Int32)), (.int (64 : Int32))]))
  refine Go.via (fun t_ k_ => XS.isub H16.here hx rfl (hb hby d4_26) rfl k_) ?_
  show Go _ _ _ _ (T16.setTop (mkF m 27 #[.val (.ref a), .val (.int p1), .val (.int p2), .unset, .unset] [(.int ((64 : Int32) - (1 : Int32)))]))
  refine Go.via (fun t_ k_ => XS.istoreN H16.here hx rfl (hb hby d4_27) rfl (l' := #[.val (.ref a), .val (.int p1), .val (.int p2), .val (.int ((64 : Int32) - (1 : Int32))), .unset]) rfl k_) ?_
  show Go _ _ _ _ (T16.setTop (mkF m 28 #[.val (.ref a), .val (.int p1), .val (.int p2), .val (.int ((64 : Int32) - (1 : Int32))), .unset] []))
  refine Go.via (fun t_ k_ => XS.iloadN H16.here hx rfl (hb hby d4_28) rfl k_) ?_
  show Go _ _ _ _ (T16.setTop (mkF m 29 #[.val (.ref a), .val (.int p1), .val (.int p2), .val (.int ((64 : Int32) - (1 : Int32))), .unset] [(.int p1)]))
  refine own_ldcI H16 hx hZ hown (hw _ (List.mem_of_getElem? (i := 28) rfl)) (g := (mkF m 29 #[.val (.ref a), .val (.int p1), .val (.int p2), .val (.int ((64 : Int32) - (1 : Int32))), .unset] [(.int p1)])) rfl (hb hby d4_29) ?_
  show Go _ _ _ _ (T16.setTop (mkF m 31 #[.val (.ref a), .val (.int p1), .val (.int p2), .val (.int ((64 : Int32) - (1 : Int32))), .unset] [(.int (-1640531527 : Int32)), (.int p1)]))
  refine Go.via (fun t_ k_ => XS.imul H16.here hx rfl (hb hby d4_31) rfl k_) ?_
  show Go _ _ _ _ (T16.setTop (mkF m 32 #[.val (.ref a), .val (.int p1), .val (.int p2), .val (.int ((64 : Int32) - (1 : Int32))), .unset] [(.int (p1 * (-1640531527 : Int32)))]))
  refine Go.via (fun t_ k_ => XS.iloadN H16.here hx rfl (hb hby d4_32) rfl k_) ?_
  show Go _ _ _ _ (T16.setTop (mkF m 33 #[.val (.ref a), .val (.int p1), .val (.int p2), .val (.int ((64 : Int32) - (1 : Int32))), .unset] [(.int ((64 : Int32) - (1 : Int32))), (.int (p1 * (-1640531527 : Int32)))]))
  refine Go.via (fun t_ k_ => XS.iand H16.here hx rfl (hb hby d4_33) rfl k_) ?_
  show Go _ _ _ _ (T16.setTop (mkF m 34 #[.val (.ref a), .val (.int p1), .val (.int p2), .val (.int ((64 : Int32) - (1 : Int32))), .unset] [(.int ((p1 * (-1640531527 : Int32)) &&& ((64 : Int32) - (1 : Int32))))]))
  refine Go.via (fun t_ k_ => XS.istore H16.here hx rfl (hb hby d4_34) rfl (l' := #[.val (.ref a), .val (.int p1), .val (.int p2), .val (.int ((64 : Int32) - (1 : Int32))), .val (.int ((p1 * (-1640531527 : Int32)) &&& ((64 : Int32) - (1 : Int32))))]) rfl k_) ?_
  show Go _ _ _ _ (T16.setTop (mkF m 36 #[.val (.ref a), .val (.int p1), .val (.int p2), .val (.int ((64 : Int32) - (1 : Int32))), .val (.int ((p1 * (-1640531527 : Int32)) &&& ((64 : Int32) - (1 : Int32))))] []))
  exact loop d0 (hsh p1) _ T16 (own_hsh p1).1 (own_hsh p1).2 sj sb H16
theorem d5_0 : decode prog_74_method_2_code 0 = .ok (.aload_n 0, 1) := by decide +kernel
theorem d5_1 : decode prog_74_method_2_code 1 = .ok (.getfield 9, 3) := by decide +kernel
theorem d5_4 : decode prog_74_method_2_code 4 = .ok (.arraylength, 1) := by decide +kernel
theorem d5_5 : decode prog_74_method_2_code 5 = .ok (.iconst 1, 1) := by decide +kernel
theorem d5_6 : decode prog_74_method_2_code 6 = .ok (.isub, 1) := by decide +kernel
theorem d5_7 : decode prog_74_method_2_code 7 = .ok (.istore_n 3, 1) := by decide +kernel
theorem d5_8 : decode prog_74_method_2_code 8 = .ok (.iload_n 1, 1) := by decide +kernel
theorem d5_9 : decode prog_74_method_2_code 9 = .ok (.ldc 22, 2) := by decide +kernel
theorem d5_11 : decode prog_74_method_2_code 11 = .ok (.imul, 1) := by decide +kernel
theorem d5_12 : decode prog_74_method_2_code 12 = .ok (.iload_n 3, 1) := by decide +kernel
theorem d5_13 : decode prog_74_method_2_code 13 = .ok (.iand, 1) := by decide +kernel
theorem d5_14 : decode prog_74_method_2_code 14 = .ok (.istore 4, 2) := by decide +kernel
theorem d5_16 : decode prog_74_method_2_code 16 = .ok (.iload_n 2, 1) := by decide +kernel
theorem d5_17 : decode prog_74_method_2_code 17 = .ok (.istore 5, 2) := by decide +kernel
theorem d5_19 : decode prog_74_method_2_code 19 = .ok (.aload_n 0, 1) := by decide +kernel
theorem d5_20 : decode prog_74_method_2_code 20 = .ok (.getfield 9, 3) := by decide +kernel
theorem d5_23 : decode prog_74_method_2_code 23 = .ok (.iload 4, 2) := by decide +kernel
theorem d5_25 : decode prog_74_method_2_code 25 = .ok (.iaload, 1) := by decide +kernel
theorem d5_26 : decode prog_74_method_2_code 26 = .ok (.iconst (-1), 1) := by decide +kernel
theorem d5_27 : decode prog_74_method_2_code 27 = .ok (.if_icmp .eq 37, 3) := by decide +kernel
theorem d5_30 : decode prog_74_method_2_code 30 = .ok (.aload_n 0, 1) := by decide +kernel
theorem d5_31 : decode prog_74_method_2_code 31 = .ok (.getfield 9, 3) := by decide +kernel
theorem d5_34 : decode prog_74_method_2_code 34 = .ok (.iload 4, 2) := by decide +kernel
theorem d5_36 : decode prog_74_method_2_code 36 = .ok (.iaload, 1) := by decide +kernel
theorem d5_37 : decode prog_74_method_2_code 37 = .ok (.iload_n 1, 1) := by decide +kernel
theorem d5_38 : decode prog_74_method_2_code 38 = .ok (.if_icmp .ne 15, 3) := by decide +kernel
theorem d5_41 : decode prog_74_method_2_code 41 = .ok (.aload_n 0, 1) := by decide +kernel
theorem d5_42 : decode prog_74_method_2_code 42 = .ok (.getfield 13, 3) := by decide +kernel
theorem d5_45 : decode prog_74_method_2_code 45 = .ok (.iload 4, 2) := by decide +kernel
theorem d5_47 : decode prog_74_method_2_code 47 = .ok (.iaload, 1) := by decide +kernel
theorem d5_48 : decode prog_74_method_2_code 48 = .ok (.istore 5, 2) := by decide +kernel
theorem d5_50 : decode prog_74_method_2_code 50 = .ok (.goto 14, 3) := by decide +kernel
theorem d5_53 : decode prog_74_method_2_code 53 = .ok (.iload 4, 2) := by decide +kernel
theorem d5_55 : decode prog_74_method_2_code 55 = .ok (.iconst 1, 1) := by decide +kernel
theorem d5_56 : decode prog_74_method_2_code 56 = .ok (.iadd, 1) := by decide +kernel
theorem d5_57 : decode prog_74_method_2_code 57 = .ok (.iload_n 3, 1) := by decide +kernel
theorem d5_58 : decode prog_74_method_2_code 58 = .ok (.iand, 1) := by decide +kernel
theorem d5_59 : decode prog_74_method_2_code 59 = .ok (.istore 4, 2) := by decide +kernel
theorem d5_61 : decode prog_74_method_2_code 61 = .ok (.goto (-42), 3) := by decide +kernel
theorem d5_64 : decode prog_74_method_2_code 64 = .ok (.iload 5, 2) := by decide +kernel
theorem d5_66 : decode prog_74_method_2_code 66 = .ok (.ireturn, 1) := by decide +kernel
theorem ef_rmGet (m : MethodId) (x0 : Addr) (x1 : Int32) (x2 : Int32) : entryFrame m #[(.ref x0), (.int x1), (.int x2)] 6 = mkF m 0 #[.val (.ref x0), .val (.int x1), .val (.int x2), .unset, .unset, .unset] [] := by first | (simp [entryFrame, mkF, argsToLocals, Value.category]; done) | rfl
set_option maxRecDepth 65536 in
set_option maxHeartbeats 40000000 in
theorem rmGet (l : Launch) (Z : State) (a0 : Array Value) (hw : ∀ d ∈ tables_1, d.before a0 Z = true) (a ka va : Addr) (sz p1 p2 : Int32) (K V : Nat → Int32) (M : Int32 → Option Int32) (B : Nat) (h0 : Heap) (n0 : Nat) (MA : MapAt Z h0 a ka va sz K V) (IV : Inv K V M B) :
    CM l Z (⟨"com/example/neardb/neardb/query/IntIntMap", "get", "(II)I"⟩ : MethodName) prog_74_method_2_code 6 (some .int) ({ frames := 0, cells := 0, slots := 0, locals := 0 } : Room) #[(.ref a), (.int p1), (.int p2)] h0 n0 (fun v h => v = some (.int ((M p1).getD p2)) ∧ h0 = h) := by
  refine own_enter (by decide +kernel) ?_
  intro p e s m below meth c T0 hx hby hml hown hnm hZ hret hlk H0
  replace hown : s.vm.findClass "com/example/neardb/neardb/query/IntIntMap" = some m.cls := hown
  replace hret : meth.sig.returnType = some .int := hret
  refine Go.via (fun t_ k_ => castTop (ef_rmGet m a p1 p2) k_) ?_
  obtain ⟨d0, jj, ST⟩ := own_slot IV p1
  have ST' := ST
  obtain ⟨sj, hjj, sb, ss⟩ := ST
  obtain ⟨E, Fk, Fv, Fs, Bk, Bv, n1, n2, n3⟩ := MA
  have loop : ∀ (d i : Nat) (I : Int32) (Tj : State), I.toInt = (i : Int) → i < 64 → (i + d) % 64 = jj → (∀ e, e < d → K ((i + e) % 64) ≠ -1 ∧ K ((i + e) % 64) ≠ p1) → Here p l e ({ frames := 0, cells := 0, slots := 0, locals := 0 } : Room) s m #[(.ref a), (.int p1), (.int p2)] below meth c n0 Tj h0 0 0 → Go p e below (Fini below s n0 (fun v h => v = some (.int ((M p1).getD p2)) ∧ h0 = h) ({ frames := 0, cells := 0, slots := 0, locals := 0 } : Room).cells ({ frames := 0, cells := 0, slots := 0, locals := 0 } : Room).slots) (Tj.setTop (mkF m 19 #[.val (.ref a), .val (.int p1), .val (.int p2), .val (.int ((64 : Int32) - (1 : Int32))), .val (.int I), .val (.int p2)] [])) := by
    intro d
    induction d with
    | zero =>
      intro i I Tj hI0 hi hj hs Hj
      have hI : I.toInt = (jj : Int) := by omega
      refine Go.via (fun t_ k_ => XS.aloadN Hj.here hx rfl (hb hby d5_19) rfl rfl k_) ?_
      show Go _ _ _ _ (Tj.setTop (mkF m 20 #[.val (.ref a), .val (.int p1), .val (.int p2), .val (.int ((64 : Int32) - (1 : Int32))), .val (.int I), .val (.int p2)] [(.ref a)]))
      refine own_getF Hj hx hZ hown (hw _ (List.mem_of_getElem? (i := 13) rfl)) Fk (g := (mkF m 20 #[.val (.ref a), .val (.int p1), .val (.int p2), .val (.int ((64 : Int32) - (1 : Int32))), .val (.int I), .val (.int p2)] [(.ref a)])) rfl rfl (hb hby d5_20) ?_
      intro T1 H1
      show Go _ _ _ _ (T1.setTop (mkF m 23 #[.val (.ref a), .val (.int p1), .val (.int p2), .val (.int ((64 : Int32) - (1 : Int32))), .val (.int I), .val (.int p2)] [(.ref ka)]))
      refine Go.via (fun t_ k_ => XS.iload H1.here hx rfl (hb hby d5_23) rfl k_) ?_
      show Go _ _ _ _ (T1.setTop (mkF m 25 #[.val (.ref a), .val (.int p1), .val (.int p2), .val (.int ((64 : Int32) - (1 : Int32))), .val (.int I), .val (.int p2)] [(.int I), (.ref ka)]))
      refine own_ldIA H1 hx hZ Bk (j := jj) hI hjj (g := (mkF m 25 #[.val (.ref a), .val (.int p1), .val (.int p2), .val (.int ((64 : Int32) - (1 : Int32))), .val (.int I), .val (.int p2)] [(.int I), (.ref ka)])) rfl rfl (hb hby d5_25) ?_
      show Go _ _ _ _ (T1.setTop (mkF m 26 #[.val (.ref a), .val (.int p1), .val (.int p2), .val (.int ((64 : Int32) - (1 : Int32))), .val (.int I), .val (.int p2)] [(.int (K jj))]))
      refine Go.via (fun t_ k_ => XS.iconst H1.here hx rfl (hb hby d5_26) k_) ?_
      show Go _ _ _ _ (T1.setTop (mkF m 27 #[.val (.ref a), .val (.int p1), .val (.int p2), .val (.int ((64 : Int32) - (1 : Int32))), .val (.int I), .val (.int p2)] [(.int (-1 : Int32)), (.int (K jj))]))
      by_cases hc27 : (K jj) = (-1 : Int32)
      · refine Go.via (fun t_ k_ => XS.icmpYes H1.here hx rfl (pc0 := 27) (pc' := 64) rfl (hb hby d5_27) rfl ((teq hc27).1) (by decide) (by decide) k_) ?_
        show Go _ _ _ _ (T1.setTop (mkF m 64 #[.val (.ref a), .val (.int p1), .val (.int p2), .val (.int ((64 : Int32) - (1 : Int32))), .val (.int I), .val (.int p2)] []))
        refine Go.via (fun t_ k_ => XS.iload H1.here hx rfl (hb hby d5_64) rfl k_) ?_
        show Go _ _ _ _ (T1.setTop (mkF m 66 #[.val (.ref a), .val (.int p1), .val (.int p2), .val (.int ((64 : Int32) - (1 : Int32))), .val (.int I), .val (.int p2)] [(.int p2)]))
        exact own_retI H1 hx hlk hret (hb hby d5_66) ⟨congrArg (fun z => some (Value.int z)) ((if_pos hc27).symm.trans (own_get IV ST' p2)), rfl⟩ (by decide) (by decide)
      · refine Go.via (fun t_ k_ => XS.icmpNo H1.here hx rfl (hb hby d5_27) rfl ((feq hc27).1) k_) ?_
        show Go _ _ _ _ (T1.setTop (mkF m 30 #[.val (.ref a), .val (.int p1), .val (.int p2), .val (.int ((64 : Int32) - (1 : Int32))), .val (.int I), .val (.int p2)] []))
        refine Go.via (fun t_ k_ => XS.aloadN H1.here hx rfl (hb hby d5_30) rfl rfl k_) ?_
        show Go _ _ _ _ (T1.setTop (mkF m 31 #[.val (.ref a), .val (.int p1), .val (.int p2), .val (.int ((64 : Int32) - (1 : Int32))), .val (.int I), .val (.int p2)] [(.ref a)]))
        refine own_getF H1 hx hZ hown (hw _ (List.mem_of_getElem? (i := 13) rfl)) Fk (g := (mkF m 31 #[.val (.ref a), .val (.int p1), .val (.int p2), .val (.int ((64 : Int32) - (1 : Int32))), .val (.int I), .val (.int p2)] [(.ref a)])) rfl rfl (hb hby d5_31) ?_
        intro T2 H2
        show Go _ _ _ _ (T2.setTop (mkF m 34 #[.val (.ref a), .val (.int p1), .val (.int p2), .val (.int ((64 : Int32) - (1 : Int32))), .val (.int I), .val (.int p2)] [(.ref ka)]))
        refine Go.via (fun t_ k_ => XS.iload H2.here hx rfl (hb hby d5_34) rfl k_) ?_
        show Go _ _ _ _ (T2.setTop (mkF m 36 #[.val (.ref a), .val (.int p1), .val (.int p2), .val (.int ((64 : Int32) - (1 : Int32))), .val (.int I), .val (.int p2)] [(.int I), (.ref ka)]))
        refine own_ldIA H2 hx hZ Bk (j := jj) hI hjj (g := (mkF m 36 #[.val (.ref a), .val (.int p1), .val (.int p2), .val (.int ((64 : Int32) - (1 : Int32))), .val (.int I), .val (.int p2)] [(.int I), (.ref ka)])) rfl rfl (hb hby d5_36) ?_
        show Go _ _ _ _ (T2.setTop (mkF m 37 #[.val (.ref a), .val (.int p1), .val (.int p2), .val (.int ((64 : Int32) - (1 : Int32))), .val (.int I), .val (.int p2)] [(.int (K jj))]))
        refine Go.via (fun t_ k_ => XS.iloadN H2.here hx rfl (hb hby d5_37) rfl k_) ?_
        show Go _ _ _ _ (T2.setTop (mkF m 38 #[.val (.ref a), .val (.int p1), .val (.int p2), .val (.int ((64 : Int32) - (1 : Int32))), .val (.int I), .val (.int p2)] [(.int p1), (.int (K jj))]))
        refine Go.via (fun t_ k_ => XS.icmpNo H2.here hx rfl (hb hby d5_38) rfl ((teq (show (K jj) = p1 from (ss.resolve_left hc27))).2) k_) ?_
        show Go _ _ _ _ (T2.setTop (mkF m 41 #[.val (.ref a), .val (.int p1), .val (.int p2), .val (.int ((64 : Int32) - (1 : Int32))), .val (.int I), .val (.int p2)] []))
        refine Go.via (fun t_ k_ => XS.aloadN H2.here hx rfl (hb hby d5_41) rfl rfl k_) ?_
        show Go _ _ _ _ (T2.setTop (mkF m 42 #[.val (.ref a), .val (.int p1), .val (.int p2), .val (.int ((64 : Int32) - (1 : Int32))), .val (.int I), .val (.int p2)] [(.ref a)]))
        refine own_getF H2 hx hZ hown (hw _ (List.mem_of_getElem? (i := 15) rfl)) Fv (g := (mkF m 42 #[.val (.ref a), .val (.int p1), .val (.int p2), .val (.int ((64 : Int32) - (1 : Int32))), .val (.int I), .val (.int p2)] [(.ref a)])) rfl rfl (hb hby d5_42) ?_
        intro T3 H3
        show Go _ _ _ _ (T3.setTop (mkF m 45 #[.val (.ref a), .val (.int p1), .val (.int p2), .val (.int ((64 : Int32) - (1 : Int32))), .val (.int I), .val (.int p2)] [(.ref va)]))
        refine Go.via (fun t_ k_ => XS.iload H3.here hx rfl (hb hby d5_45) rfl k_) ?_
        show Go _ _ _ _ (T3.setTop (mkF m 47 #[.val (.ref a), .val (.int p1), .val (.int p2), .val (.int ((64 : Int32) - (1 : Int32))), .val (.int I), .val (.int p2)] [(.int I), (.ref va)]))
        refine own_ldIA H3 hx hZ Bv (j := jj) hI hjj (g := (mkF m 47 #[.val (.ref a), .val (.int p1), .val (.int p2), .val (.int ((64 : Int32) - (1 : Int32))), .val (.int I), .val (.int p2)] [(.int I), (.ref va)])) rfl rfl (hb hby d5_47) ?_
        show Go _ _ _ _ (T3.setTop (mkF m 48 #[.val (.ref a), .val (.int p1), .val (.int p2), .val (.int ((64 : Int32) - (1 : Int32))), .val (.int I), .val (.int p2)] [(.int (V jj))]))
        refine Go.via (fun t_ k_ => XS.istore H3.here hx rfl (hb hby d5_48) rfl (l' := #[.val (.ref a), .val (.int p1), .val (.int p2), .val (.int ((64 : Int32) - (1 : Int32))), .val (.int I), .val (.int (V jj))]) rfl k_) ?_
        show Go _ _ _ _ (T3.setTop (mkF m 50 #[.val (.ref a), .val (.int p1), .val (.int p2), .val (.int ((64 : Int32) - (1 : Int32))), .val (.int I), .val (.int (V jj))] []))
        refine Go.via (fun t_ k_ => XS.goto H3.here hx rfl (pc0 := 50) (pc' := 64) rfl (hb hby d5_50) (by decide) (by decide) k_) ?_
        show Go _ _ _ _ (T3.setTop (mkF m 64 #[.val (.ref a), .val (.int p1), .val (.int p2), .val (.int ((64 : Int32) - (1 : Int32))), .val (.int I), .val (.int (V jj))] []))
        refine Go.via (fun t_ k_ => XS.iload H3.here hx rfl (hb hby d5_64) rfl k_) ?_
        show Go _ _ _ _ (T3.setTop (mkF m 66 #[.val (.ref a), .val (.int p1), .val (.int p2), .val (.int ((64 : Int32) - (1 : Int32))), .val (.int I), .val (.int (V jj))] [(.int (V jj))]))
        exact own_retI H3 hx hlk hret (hb hby d5_66) ⟨congrArg (fun z => some (Value.int z)) ((if_neg hc27).symm.trans (own_get IV ST' p2)), rfl⟩ (by decide) (by decide)
    | succ d ih =>
      intro i I Tj hI hi hj hs Hj
      have z1 : K i ≠ -1 ∧ K i ≠ p1 := by have := hs 0 (Nat.succ_pos _); rwa [show (i + 0) % 64 = i by omega] at this
      refine Go.via (fun t_ k_ => XS.aloadN Hj.here hx rfl (hb hby d5_19) rfl rfl k_) ?_
      show Go _ _ _ _ (Tj.setTop (mkF m 20 #[.val (.ref a), .val (.int p1), .val (.int p2), .val (.int ((64 : Int32) - (1 : Int32))), .val (.int I), .val (.int p2)] [(.ref a)]))
      refine own_getF Hj hx hZ hown (hw _ (List.mem_of_getElem? (i := 13) rfl)) Fk (g := (mkF m 20 #[.val (.ref a), .val (.int p1), .val (.int p2), .val (.int ((64 : Int32) - (1 : Int32))), .val (.int I), .val (.int p2)] [(.ref a)])) rfl rfl (hb hby d5_20) ?_
      intro T4 H4
      show Go _ _ _ _ (T4.setTop (mkF m 23 #[.val (.ref a), .val (.int p1), .val (.int p2), .val (.int ((64 : Int32) - (1 : Int32))), .val (.int I), .val (.int p2)] [(.ref ka)]))
      refine Go.via (fun t_ k_ => XS.iload H4.here hx rfl (hb hby d5_23) rfl k_) ?_
      show Go _ _ _ _ (T4.setTop (mkF m 25 #[.val (.ref a), .val (.int p1), .val (.int p2), .val (.int ((64 : Int32) - (1 : Int32))), .val (.int I), .val (.int p2)] [(.int I), (.ref ka)]))
      refine own_ldIA H4 hx hZ Bk (j := i) hI hi (g := (mkF m 25 #[.val (.ref a), .val (.int p1), .val (.int p2), .val (.int ((64 : Int32) - (1 : Int32))), .val (.int I), .val (.int p2)] [(.int I), (.ref ka)])) rfl rfl (hb hby d5_25) ?_
      show Go _ _ _ _ (T4.setTop (mkF m 26 #[.val (.ref a), .val (.int p1), .val (.int p2), .val (.int ((64 : Int32) - (1 : Int32))), .val (.int I), .val (.int p2)] [(.int (K i))]))
      refine Go.via (fun t_ k_ => XS.iconst H4.here hx rfl (hb hby d5_26) k_) ?_
      show Go _ _ _ _ (T4.setTop (mkF m 27 #[.val (.ref a), .val (.int p1), .val (.int p2), .val (.int ((64 : Int32) - (1 : Int32))), .val (.int I), .val (.int p2)] [(.int (-1 : Int32)), (.int (K i))]))
      refine Go.via (fun t_ k_ => XS.icmpNo H4.here hx rfl (hb hby d5_27) rfl ((feq (show ¬ ((K i) = (-1 : Int32)) from z1.1)).1) k_) ?_
      show Go _ _ _ _ (T4.setTop (mkF m 30 #[.val (.ref a), .val (.int p1), .val (.int p2), .val (.int ((64 : Int32) - (1 : Int32))), .val (.int I), .val (.int p2)] []))
      refine Go.via (fun t_ k_ => XS.aloadN H4.here hx rfl (hb hby d5_30) rfl rfl k_) ?_
      show Go _ _ _ _ (T4.setTop (mkF m 31 #[.val (.ref a), .val (.int p1), .val (.int p2), .val (.int ((64 : Int32) - (1 : Int32))), .val (.int I), .val (.int p2)] [(.ref a)]))
      refine own_getF H4 hx hZ hown (hw _ (List.mem_of_getElem? (i := 13) rfl)) Fk (g := (mkF m 31 #[.val (.ref a), .val (.int p1), .val (.int p2), .val (.int ((64 : Int32) - (1 : Int32))), .val (.int I), .val (.int p2)] [(.ref a)])) rfl rfl (hb hby d5_31) ?_
      intro T5 H5
      show Go _ _ _ _ (T5.setTop (mkF m 34 #[.val (.ref a), .val (.int p1), .val (.int p2), .val (.int ((64 : Int32) - (1 : Int32))), .val (.int I), .val (.int p2)] [(.ref ka)]))
      refine Go.via (fun t_ k_ => XS.iload H5.here hx rfl (hb hby d5_34) rfl k_) ?_
      show Go _ _ _ _ (T5.setTop (mkF m 36 #[.val (.ref a), .val (.int p1), .val (.int p2), .val (.int ((64 : Int32) - (1 : Int32))), .val (.int I), .val (.int p2)] [(.int I), (.ref ka)]))
      refine own_ldIA H5 hx hZ Bk (j := i) hI hi (g := (mkF m 36 #[.val (.ref a), .val (.int p1), .val (.int p2), .val (.int ((64 : Int32) - (1 : Int32))), .val (.int I), .val (.int p2)] [(.int I), (.ref ka)])) rfl rfl (hb hby d5_36) ?_
      show Go _ _ _ _ (T5.setTop (mkF m 37 #[.val (.ref a), .val (.int p1), .val (.int p2), .val (.int ((64 : Int32) - (1 : Int32))), .val (.int I), .val (.int p2)] [(.int (K i))]))
      refine Go.via (fun t_ k_ => XS.iloadN H5.here hx rfl (hb hby d5_37) rfl k_) ?_
      show Go _ _ _ _ (T5.setTop (mkF m 38 #[.val (.ref a), .val (.int p1), .val (.int p2), .val (.int ((64 : Int32) - (1 : Int32))), .val (.int I), .val (.int p2)] [(.int p1), (.int (K i))]))
      refine Go.via (fun t_ k_ => XS.icmpYes H5.here hx rfl (pc0 := 38) (pc' := 53) rfl (hb hby d5_38) rfl ((feq (show ¬ ((K i) = p1) from z1.2)).2) (by decide) (by decide) k_) ?_
      show Go _ _ _ _ (T5.setTop (mkF m 53 #[.val (.ref a), .val (.int p1), .val (.int p2), .val (.int ((64 : Int32) - (1 : Int32))), .val (.int I), .val (.int p2)] []))
      refine Go.via (fun t_ k_ => XS.iload H5.here hx rfl (hb hby d5_53) rfl k_) ?_
      show Go _ _ _ _ (T5.setTop (mkF m 55 #[.val (.ref a), .val (.int p1), .val (.int p2), .val (.int ((64 : Int32) - (1 : Int32))), .val (.int I), .val (.int p2)] [(.int I)]))
      refine Go.via (fun t_ k_ => XS.iconst H5.here hx rfl (hb hby d5_55) k_) ?_
      show Go _ _ _ _ (T5.setTop (mkF m 56 #[.val (.ref a), .val (.int p1), .val (.int p2), .val (.int ((64 : Int32) - (1 : Int32))), .val (.int I), .val (.int p2)] [(.int (1 : Int32)), (.int I)]))
      refine Go.via (fun t_ k_ => XS.iadd H5.here hx rfl (hb hby d5_56) rfl k_) ?_
      show Go _ _ _ _ (T5.setTop (mkF m 57 #[.val (.ref a), .val (.int p1), .val (.int p2), .val (.int ((64 : Int32) - (1 : Int32))), .val (.int I), .val (.int p2)] [(.int (I + (1 : Int32)))]))
      refine Go.via (fun t_ k_ => XS.iloadN H5.here hx rfl (hb hby d5_57) rfl k_) ?_
      show Go _ _ _ _ (T5.setTop (mkF m 58 #[.val (.ref a), .val (.int p1), .val (.int p2), .val (.int ((64 : Int32) - (1 : Int32))), .val (.int I), .val (.int p2)] [(.int ((64 : Int32) - (1 : Int32))), (.int (I + (1 : Int32)))]))
      refine Go.via (fun t_ k_ => XS.iand H5.here hx rfl (hb hby d5_58) rfl k_) ?_
      show Go _ _ _ _ (T5.setTop (mkF m 59 #[.val (.ref a), .val (.int p1), .val (.int p2), .val (.int ((64 : Int32) - (1 : Int32))), .val (.int I), .val (.int p2)] [(.int ((I + (1 : Int32)) &&& ((64 : Int32) - (1 : Int32))))]))
      refine Go.via (fun t_ k_ => XS.istore H5.here hx rfl (hb hby d5_59) rfl (l' := #[.val (.ref a), .val (.int p1), .val (.int p2), .val (.int ((64 : Int32) - (1 : Int32))), .val (.int ((I + (1 : Int32)) &&& ((64 : Int32) - (1 : Int32)))), .val (.int p2)]) rfl k_) ?_
      show Go _ _ _ _ (T5.setTop (mkF m 61 #[.val (.ref a), .val (.int p1), .val (.int p2), .val (.int ((64 : Int32) - (1 : Int32))), .val (.int ((I + (1 : Int32)) &&& ((64 : Int32) - (1 : Int32)))), .val (.int p2)] []))
      refine Go.via (fun t_ k_ => XS.goto H5.here hx rfl (pc0 := 61) (pc' := 19) rfl (hb hby d5_61) (by decide) (by decide) k_) ?_
      show Go _ _ _ _ (T5.setTop (mkF m 19 #[.val (.ref a), .val (.int p1), .val (.int p2), .val (.int ((64 : Int32) - (1 : Int32))), .val (.int ((I + (1 : Int32)) &&& ((64 : Int32) - (1 : Int32)))), .val (.int p2)] []))
      exact ih ((i + 1) % 64) _ T5 (own_nxt hI hi) (by omega) (by omega) (fun e he => by have := hs (e + 1) (by omega); rwa [show (i + (e + 1)) % 64 = ((i + 1) % 64 + e) % 64 by omega] at this) H5
  show Go _ _ _ _ (T0.setTop (mkF m 0 #[.val (.ref a), .val (.int p1), .val (.int p2), .unset, .unset, .unset] []))
  refine Go.via (fun t_ k_ => XS.aloadN H0.here hx rfl (hb hby d5_0) rfl rfl k_) ?_
  show Go _ _ _ _ (T0.setTop (mkF m 1 #[.val (.ref a), .val (.int p1), .val (.int p2), .unset, .unset, .unset] [(.ref a)]))
  refine own_getF H0 hx hZ hown (hw _ (List.mem_of_getElem? (i := 13) rfl)) Fk (g := (mkF m 1 #[.val (.ref a), .val (.int p1), .val (.int p2), .unset, .unset, .unset] [(.ref a)])) rfl rfl (hb hby d5_1) ?_
  intro T6 H6
  show Go _ _ _ _ (T6.setTop (mkF m 4 #[.val (.ref a), .val (.int p1), .val (.int p2), .unset, .unset, .unset] [(.ref ka)]))
  refine own_lenA H6 hx hZ Bk (z := (64 : Int32)) (by decide) (g := (mkF m 4 #[.val (.ref a), .val (.int p1), .val (.int p2), .unset, .unset, .unset] [(.ref ka)])) rfl rfl (hb hby d5_4) ?_
  show Go _ _ _ _ (T6.setTop (mkF m 5 #[.val (.ref a), .val (.int p1), .val (.int p2), .unset, .unset, .unset] [(.int (64 : Int32))]))
  refine Go.via (fun t_ k_ => XS.iconst H6.here hx rfl (hb hby d5_5) k_) ?_
  show Go _ _ _ _ (T6.setTop (mkF m 6 #[.val (.ref a), .val (.int p1), .val (.int p2), .unset, .unset, .unset] [(.int (1 : Int32)), (.int (64 : Int32))]))
  refine Go.via (fun t_ k_ => XS.isub H6.here hx rfl (hb hby d5_6) rfl k_) ?_
  show Go _ _ _ _ (T6.setTop (mkF m 7 #[.val (.ref a), .val (.int p1), .val (.int p2), .unset, .unset, .unset] [(.int ((64 : Int32) - (1 : Int32)))]))
  refine Go.via (fun t_ k_ => XS.istoreN H6.here hx rfl (hb hby d5_7) rfl (l' := #[.val (.ref a), .val (.int p1), .val (.int p2), .val (.int ((64 : Int32) - (1 : Int32))), .unset, .unset]) rfl k_) ?_
  show Go _ _ _ _ (T6.setTop (mkF m 8 #[.val (.ref a), .val (.int p1), .val (.int p2), .val (.int ((64 : Int32) - (1 : Int32))), .unset, .unset] []))
  refine Go.via (fun t_ k_ => XS.iloadN H6.here hx rfl (hb hby d5_8) rfl k_) ?_
  show Go _ _ _ _ (T6.setTop (mkF m 9 #[.val (.ref a), .val (.int p1), .val (.int p2), .val (.int ((64 : Int32) - (1 : Int32))), .unset, .unset] [(.int p1)]))
  refine own_ldcI H6 hx hZ hown (hw _ (List.mem_of_getElem? (i := 28) rfl)) (g := (mkF m 9 #[.val (.ref a), .val (.int p1), .val (.int p2), .val (.int ((64 : Int32) - (1 : Int32))), .unset, .unset] [(.int p1)])) rfl (hb hby d5_9) ?_
  show Go _ _ _ _ (T6.setTop (mkF m 11 #[.val (.ref a), .val (.int p1), .val (.int p2), .val (.int ((64 : Int32) - (1 : Int32))), .unset, .unset] [(.int (-1640531527 : Int32)), (.int p1)]))
  refine Go.via (fun t_ k_ => XS.imul H6.here hx rfl (hb hby d5_11) rfl k_) ?_
  show Go _ _ _ _ (T6.setTop (mkF m 12 #[.val (.ref a), .val (.int p1), .val (.int p2), .val (.int ((64 : Int32) - (1 : Int32))), .unset, .unset] [(.int (p1 * (-1640531527 : Int32)))]))
  refine Go.via (fun t_ k_ => XS.iloadN H6.here hx rfl (hb hby d5_12) rfl k_) ?_
  show Go _ _ _ _ (T6.setTop (mkF m 13 #[.val (.ref a), .val (.int p1), .val (.int p2), .val (.int ((64 : Int32) - (1 : Int32))), .unset, .unset] [(.int ((64 : Int32) - (1 : Int32))), (.int (p1 * (-1640531527 : Int32)))]))
  refine Go.via (fun t_ k_ => XS.iand H6.here hx rfl (hb hby d5_13) rfl k_) ?_
  show Go _ _ _ _ (T6.setTop (mkF m 14 #[.val (.ref a), .val (.int p1), .val (.int p2), .val (.int ((64 : Int32) - (1 : Int32))), .unset, .unset] [(.int ((p1 * (-1640531527 : Int32)) &&& ((64 : Int32) - (1 : Int32))))]))
  refine Go.via (fun t_ k_ => XS.istore H6.here hx rfl (hb hby d5_14) rfl (l' := #[.val (.ref a), .val (.int p1), .val (.int p2), .val (.int ((64 : Int32) - (1 : Int32))), .val (.int ((p1 * (-1640531527 : Int32)) &&& ((64 : Int32) - (1 : Int32)))), .unset]) rfl k_) ?_
  show Go _ _ _ _ (T6.setTop (mkF m 16 #[.val (.ref a), .val (.int p1), .val (.int p2), .val (.int ((64 : Int32) - (1 : Int32))), .val (.int ((p1 * (-1640531527 : Int32)) &&& ((64 : Int32) - (1 : Int32)))), .unset] []))
  refine Go.via (fun t_ k_ => XS.iloadN H6.here hx rfl (hb hby d5_16) rfl k_) ?_
  show Go _ _ _ _ (T6.setTop (mkF m 17 #[.val (.ref a), .val (.int p1), .val (.int p2), .val (.int ((64 : Int32) - (1 : Int32))), .val (.int ((p1 * (-1640531527 : Int32)) &&& ((64 : Int32) - (1 : Int32)))), .unset] [(.int p2)]))
  refine Go.via (fun t_ k_ => XS.istore H6.here hx rfl (hb hby d5_17) rfl (l' := #[.val (.ref a), .val (.int p1), .val (.int p2), .val (.int ((64 : Int32) - (1 : Int32))), .val (.int ((p1 * (-1640531527 : Int32)) &&& ((64 : Int32) - (1 : Int32)))), .val (.int p2)]) rfl k_) ?_
  show Go _ _ _ _ (T6.setTop (mkF m 19 #[.val (.ref a), .val (.int p1), .val (.int p2), .val (.int ((64 : Int32) - (1 : Int32))), .val (.int ((p1 * (-1640531527 : Int32)) &&& ((64 : Int32) - (1 : Int32)))), .val (.int p2)] []))
  exact loop d0 (hsh p1) _ T6 (own_hsh p1).1 (own_hsh p1).2 sj sb H6
theorem pd_1 : parseMethodDescriptor "(II)I" = some ⟨[.int, .int], some .int⟩ := by decide +kernel
theorem pd_2 : parseMethodDescriptor "()V" = some ⟨[], none⟩ := by decide +kernel
theorem pd_3 : parseMethodDescriptor "(II)V" = some ⟨[.int, .int], none⟩ := by decide +kernel
theorem ef_rm0 (m : MethodId) (x0 : Int32) (x1 : Int32) (x2 : Int32) (x3 : Int32) (x4 : Int32) (x5 : Int32) : entryFrame m #[(.int x0), (.int x1), (.int x2), (.int x3), (.int x4), (.int x5)] maxLocals = mkF m 0 #[.val (.int x0), .val (.int x1), .val (.int x2), .val (.int x3), .val (.int x4), .val (.int x5), .unset, .unset, .unset, .unset, .unset, .unset, .unset, .unset, .unset, .unset] [] := by first | (simp [entryFrame, mkF, argsToLocals, Value.category, maxLocals]; done) | rfl
set_option maxRecDepth 65536 in
set_option maxHeartbeats 40000000 in
theorem rm0 (l : Launch) (Z : State) (a0 : Array Value) (hw : ∀ d ∈ tables_1, d.before a0 Z = true) (p1 p2 p3 p4 p5 p6 : Int32) (h0 : Heap) (n0 : Nat) (Z0 : n0 ≤ h0.size) :
    CM l Z x code maxLocals ret room_1 #[(.int p1), (.int p2), (.int p3), (.int p4), (.int p5), (.int p6)] h0 n0 (fun v h => v = some (.int (1 : Int32))) := by
  refine own_enter (by decide +kernel) ?_
  intro p e s m below meth c T0 hx hby hml hown hnm hZ hret hlk H0
  replace hown : s.vm.findClass "com/example/neardb/neardb/query/IntIntMapGetPinLaw" = some m.cls := hown
  replace hret : meth.sig.returnType = some .boolean := hret
  replace hml : c.maxLocals = 16 := hml
  refine Go.via (fun t_ k_ => castTop (ef_rm0 m p1 p2 p3 p4 p5 p6) k_) ?_
  have J141 : ∀ (Tj : State) (hj : Heap) (o ka va : Addr) (sz u1 u2 u3 x md : Int32) (K V : Nat → Int32), Here p l e room_1 s m #[(.int p1), (.int p2), (.int p3), (.int p4), (.int p5), (.int p6)] below meth c n0 Tj hj 3 131 → (MapAt Z hj o ka va sz K V) → (Inv K V (ext (ext (ext (fun _ => none) u1 p4) u2 (p4 ^^^ (-1 : Int32))) u3 (p4 ^^^ (1431655765 : Int32))) 7) → Go p e below (Fini below s n0 (fun v h => v = some (.int (1 : Int32))) room_1.cells room_1.slots) (Tj.setTop (mkF m 141 #[.val (.int p1), .val (.int p2), .val (.int p3), .val (.int p4), .val (.int p5), .val (.int p6), .val (.int u1), .val (.int u2), .val (.int u3), .val (.int p4), .val (.int (p4 ^^^ (-1 : Int32))), .val (.int (p4 ^^^ (1431655765 : Int32))), .val (.ref o), .val (.int md), .val (.int x), .unset] [])) := by
    intro Tj hj o ka va sz u1 u2 u3 x md K V Hj MA IV
    show Go _ _ _ _ (Tj.setTop (mkF m 141 #[.val (.int p1), .val (.int p2), .val (.int p3), .val (.int p4), .val (.int p5), .val (.int p6), .val (.int u1), .val (.int u2), .val (.int u3), .val (.int p4), .val (.int (p4 ^^^ (-1 : Int32))), .val (.int (p4 ^^^ (1431655765 : Int32))), .val (.ref o), .val (.int md), .val (.int x), .unset] []))
    refine Go.via (fun t_ k_ => XS.iload Hj.here hx rfl (hb hby at_141) rfl k_) ?_
    show Go _ _ _ _ (Tj.setTop (mkF m 143 #[.val (.int p1), .val (.int p2), .val (.int p3), .val (.int p4), .val (.int p5), .val (.int p6), .val (.int u1), .val (.int u2), .val (.int u3), .val (.int p4), .val (.int (p4 ^^^ (-1 : Int32))), .val (.int (p4 ^^^ (1431655765 : Int32))), .val (.ref o), .val (.int md), .val (.int x), .unset] [(.int x)]))
    refine Go.via (fun t_ k_ => XS.iload Hj.here hx rfl (hb hby at_143) rfl k_) ?_
    show Go _ _ _ _ (Tj.setTop (mkF m 145 #[.val (.int p1), .val (.int p2), .val (.int p3), .val (.int p4), .val (.int p5), .val (.int p6), .val (.int u1), .val (.int u2), .val (.int u3), .val (.int p4), .val (.int (p4 ^^^ (-1 : Int32))), .val (.int (p4 ^^^ (1431655765 : Int32))), .val (.ref o), .val (.int md), .val (.int x), .unset] [(.int u3), (.int x)]))
    by_cases hc145 : x = u3
    · refine Go.via (fun t_ k_ => XS.icmpNo Hj.here hx rfl (hb hby at_145) rfl ((teq hc145).2) k_) ?_
      show Go _ _ _ _ (Tj.setTop (mkF m 148 #[.val (.int p1), .val (.int p2), .val (.int p3), .val (.int p4), .val (.int p5), .val (.int p6), .val (.int u1), .val (.int u2), .val (.int u3), .val (.int p4), .val (.int (p4 ^^^ (-1 : Int32))), .val (.int (p4 ^^^ (1431655765 : Int32))), .val (.ref o), .val (.int md), .val (.int x), .unset] []))
      refine Go.via (fun t_ k_ => XS.iload Hj.here hx rfl (hb hby at_148) rfl k_) ?_
      show Go _ _ _ _ (Tj.setTop (mkF m 150 #[.val (.int p1), .val (.int p2), .val (.int p3), .val (.int p4), .val (.int p5), .val (.int p6), .val (.int u1), .val (.int u2), .val (.int u3), .val (.int p4), .val (.int (p4 ^^^ (-1 : Int32))), .val (.int (p4 ^^^ (1431655765 : Int32))), .val (.ref o), .val (.int md), .val (.int x), .unset] [(.int (p4 ^^^ (1431655765 : Int32)))]))
      refine Go.via (fun t_ k_ => XS.istore Hj.here hx rfl (hb hby at_150) rfl (l' := #[.val (.int p1), .val (.int p2), .val (.int p3), .val (.int p4), .val (.int p5), .val (.int p6), .val (.int u1), .val (.int u2), .val (.int u3), .val (.int p4), .val (.int (p4 ^^^ (-1 : Int32))), .val (.int (p4 ^^^ (1431655765 : Int32))), .val (.ref o), .val (.int md), .val (.int x), .val (.int (p4 ^^^ (1431655765 : Int32)))]) rfl k_) ?_
      show Go _ _ _ _ (Tj.setTop (mkF m 152 #[.val (.int p1), .val (.int p2), .val (.int p3), .val (.int p4), .val (.int p5), .val (.int p6), .val (.int u1), .val (.int u2), .val (.int u3), .val (.int p4), .val (.int (p4 ^^^ (-1 : Int32))), .val (.int (p4 ^^^ (1431655765 : Int32))), .val (.ref o), .val (.int md), .val (.int x), .val (.int (p4 ^^^ (1431655765 : Int32)))] []))
      refine Go.via (fun t_ k_ => XS.goto Hj.here hx rfl (pc0 := 152) (pc' := 187) rfl (hb hby at_152) (by decide) (by decide) k_) ?_
      show Go _ _ _ _ (Tj.setTop (mkF m 187 #[.val (.int p1), .val (.int p2), .val (.int p3), .val (.int p4), .val (.int p5), .val (.int p6), .val (.int u1), .val (.int u2), .val (.int u3), .val (.int p4), .val (.int (p4 ^^^ (-1 : Int32))), .val (.int (p4 ^^^ (1431655765 : Int32))), .val (.ref o), .val (.int md), .val (.int x), .val (.int (p4 ^^^ (1431655765 : Int32)))] []))
      refine Go.via (fun t_ k_ => XS.aload Hj.here hx rfl (hb hby at_187) rfl rfl k_) ?_
      show Go _ _ _ _ (Tj.setTop (mkF m 189 #[.val (.int p1), .val (.int p2), .val (.int p3), .val (.int p4), .val (.int p5), .val (.int p6), .val (.int u1), .val (.int u2), .val (.int u3), .val (.int p4), .val (.int (p4 ^^^ (-1 : Int32))), .val (.int (p4 ^^^ (1431655765 : Int32))), .val (.ref o), .val (.int md), .val (.int x), .val (.int (p4 ^^^ (1431655765 : Int32)))] [(.ref o)]))
      refine Go.via (fun t_ k_ => XS.iload Hj.here hx rfl (hb hby at_189) rfl k_) ?_
      show Go _ _ _ _ (Tj.setTop (mkF m 191 #[.val (.int p1), .val (.int p2), .val (.int p3), .val (.int p4), .val (.int p5), .val (.int p6), .val (.int u1), .val (.int u2), .val (.int u3), .val (.int p4), .val (.int (p4 ^^^ (-1 : Int32))), .val (.int (p4 ^^^ (1431655765 : Int32))), .val (.ref o), .val (.int md), .val (.int x), .val (.int (p4 ^^^ (1431655765 : Int32)))] [(.int x), (.ref o)]))
      refine Go.via (fun t_ k_ => XS.iload Hj.here hx rfl (hb hby at_191) rfl k_) ?_
      show Go _ _ _ _ (Tj.setTop (mkF m 193 #[.val (.int p1), .val (.int p2), .val (.int p3), .val (.int p4), .val (.int p5), .val (.int p6), .val (.int u1), .val (.int u2), .val (.int u3), .val (.int p4), .val (.int (p4 ^^^ (-1 : Int32))), .val (.int (p4 ^^^ (1431655765 : Int32))), .val (.ref o), .val (.int md), .val (.int x), .val (.int (p4 ^^^ (1431655765 : Int32)))] [(.int p5), (.int x), (.ref o)]))
      refine own_callV Hj hx hZ (C := "com/example/neardb/neardb/query/IntIntMap") (y := (⟨"com/example/neardb/neardb/query/IntIntMap", "get", "(II)I"⟩ : MethodName)) (a := o) hown (hw _ (List.mem_of_getElem? (i := 29) rfl)) (hw _ (List.mem_of_getElem? (i := 30) rfl)) (hw _ (List.mem_of_getElem? (i := 32) rfl)) (hw _ (List.mem_of_getElem? (i := 31) rfl)) (hw _ (List.mem_of_getElem? (i := 5) rfl)) (hw _ (List.mem_of_getElem? (i := 33) rfl)) (by decide) MA.1 (rmGet l Z a0 hw o ka va sz x p5 K V (ext (ext (ext (fun _ => none) u1 p4) u2 (p4 ^^^ (-1 : Int32))) u3 (p4 ^^^ (1431655765 : Int32))) 7 hj n0 MA IV) (g := (mkF m 193 #[.val (.int p1), .val (.int p2), .val (.int p3), .val (.int p4), .val (.int p5), .val (.int p6), .val (.int u1), .val (.int u2), .val (.int u3), .val (.int p4), .val (.int (p4 ^^^ (-1 : Int32))), .val (.int (p4 ^^^ (1431655765 : Int32))), .val (.ref o), .val (.int md), .val (.int x), .val (.int (p4 ^^^ (1431655765 : Int32)))] [(.int p5), (.int x), (.ref o)])) rfl (by rw [hml]; rfl) (argsL := [(.int x), (.int p5)]) (rest := []) (lenOf pd_1 rfl) rfl 0 (Nat.le_of_eq rfl) (hb hby at_193) (by decide) (by decide) (by decide) (by decide) ?_
      rintro _ T1 _ ⟨rfl, rfl⟩ H1
      show Go _ _ _ _ (T1.setTop (mkF m 196 #[.val (.int p1), .val (.int p2), .val (.int p3), .val (.int p4), .val (.int p5), .val (.int p6), .val (.int u1), .val (.int u2), .val (.int u3), .val (.int p4), .val (.int (p4 ^^^ (-1 : Int32))), .val (.int (p4 ^^^ (1431655765 : Int32))), .val (.ref o), .val (.int md), .val (.int x), .val (.int (p4 ^^^ (1431655765 : Int32)))] [(.int (((ext (ext (ext (fun _ => none) u1 p4) u2 (p4 ^^^ (-1 : Int32))) u3 (p4 ^^^ (1431655765 : Int32))) x).getD p5))]))
      refine Go.via (fun t_ k_ => XS.iload H1.here hx rfl (hb hby at_196) rfl k_) ?_
      show Go _ _ _ _ (T1.setTop (mkF m 198 #[.val (.int p1), .val (.int p2), .val (.int p3), .val (.int p4), .val (.int p5), .val (.int p6), .val (.int u1), .val (.int u2), .val (.int u3), .val (.int p4), .val (.int (p4 ^^^ (-1 : Int32))), .val (.int (p4 ^^^ (1431655765 : Int32))), .val (.ref o), .val (.int md), .val (.int x), .val (.int (p4 ^^^ (1431655765 : Int32)))] [(.int (p4 ^^^ (1431655765 : Int32))), (.int (((ext (ext (ext (fun _ => none) u1 p4) u2 (p4 ^^^ (-1 : Int32))) u3 (p4 ^^^ (1431655765 : Int32))) x).getD p5))]))
      refine Go.via (fun t_ k_ => XS.icmpNo H1.here hx rfl (hb hby at_198) rfl ((teq (show (((ext (ext (ext (fun _ => none) u1 p4) u2 (p4 ^^^ (-1 : Int32))) u3 (p4 ^^^ (1431655765 : Int32))) x).getD p5) = (p4 ^^^ (1431655765 : Int32)) from (by simp [ext, eq_true hc145]))).2) k_) ?_
      show Go _ _ _ _ (T1.setTop (mkF m 201 #[.val (.int p1), .val (.int p2), .val (.int p3), .val (.int p4), .val (.int p5), .val (.int p6), .val (.int u1), .val (.int u2), .val (.int u3), .val (.int p4), .val (.int (p4 ^^^ (-1 : Int32))), .val (.int (p4 ^^^ (1431655765 : Int32))), .val (.ref o), .val (.int md), .val (.int x), .val (.int (p4 ^^^ (1431655765 : Int32)))] []))
      refine Go.via (fun t_ k_ => XS.iconst H1.here hx rfl (hb hby at_201) k_) ?_
      show Go _ _ _ _ (T1.setTop (mkF m 202 #[.val (.int p1), .val (.int p2), .val (.int p3), .val (.int p4), .val (.int p5), .val (.int p6), .val (.int u1), .val (.int u2), .val (.int u3), .val (.int p4), .val (.int (p4 ^^^ (-1 : Int32))), .val (.int (p4 ^^^ (1431655765 : Int32))), .val (.ref o), .val (.int md), .val (.int x), .val (.int (p4 ^^^ (1431655765 : Int32)))] [(.int (1 : Int32))]))
      refine Go.via (fun t_ k_ => XS.goto H1.here hx rfl (pc0 := 202) (pc' := 206) rfl (hb hby at_202) (by decide) (by decide) k_) ?_
      show Go _ _ _ _ (T1.setTop (mkF m 206 #[.val (.int p1), .val (.int p2), .val (.int p3), .val (.int p4), .val (.int p5), .val (.int p6), .val (.int u1), .val (.int u2), .val (.int u3), .val (.int p4), .val (.int (p4 ^^^ (-1 : Int32))), .val (.int (p4 ^^^ (1431655765 : Int32))), .val (.ref o), .val (.int md), .val (.int x), .val (.int (p4 ^^^ (1431655765 : Int32)))] [(.int (1 : Int32))]))
      exact own_retN H1 hx hlk (by simp) hret (hb hby at_206) rfl (by decide) (by decide)
    · refine Go.via (fun t_ k_ => XS.icmpYes Hj.here hx rfl (pc0 := 145) (pc' := 155) rfl (hb hby at_145) rfl ((feq hc145).2) (by decide) (by decide) k_) ?_
      show Go _ _ _ _ (Tj.setTop (mkF m 155 #[.val (.int p1), .val (.int p2), .val (.int p3), .val (.int p4), .val (.int p5), .val (.int p6), .val (.int u1), .val (.int u2), .val (.int u3), .val (.int p4), .val (.int (p4 ^^^ (-1 : Int32))), .val (.int (p4 ^^^ (1431655765 : Int32))), .val (.ref o), .val (.int md), .val (.int x), .unset] []))
      refine Go.via (fun t_ k_ => XS.iload Hj.here hx rfl (hb hby at_155) rfl k_) ?_
      show Go _ _ _ _ (Tj.setTop (mkF m 157 #[.val (.int p1), .val (.int p2), .val (.int p3), .val (.int p4), .val (.int p5), .val (.int p6), .val (.int u1), .val (.int u2), .val (.int u3), .val (.int p4), .val (.int (p4 ^^^ (-1 : Int32))), .val (.int (p4 ^^^ (1431655765 : Int32))), .val (.ref o), .val (.int md), .val (.int x), .unset] [(.int x)]))
      refine Go.via (fun t_ k_ => XS.iload Hj.here hx rfl (hb hby at_157) rfl k_) ?_
      show Go _ _ _ _ (Tj.setTop (mkF m 159 #[.val (.int p1), .val (.int p2), .val (.int p3), .val (.int p4), .val (.int p5), .val (.int p6), .val (.int u1), .val (.int u2), .val (.int u3), .val (.int p4), .val (.int (p4 ^^^ (-1 : Int32))), .val (.int (p4 ^^^ (1431655765 : Int32))), .val (.ref o), .val (.int md), .val (.int x), .unset] [(.int u2), (.int x)]))
      by_cases hc159 : x = u2
      · refine Go.via (fun t_ k_ => XS.icmpNo Hj.here hx rfl (hb hby at_159) rfl ((teq hc159).2) k_) ?_
        show Go _ _ _ _ (Tj.setTop (mkF m 162 #[.val (.int p1), .val (.int p2), .val (.int p3), .val (.int p4), .val (.int p5), .val (.int p6), .val (.int u1), .val (.int u2), .val (.int u3), .val (.int p4), .val (.int (p4 ^^^ (-1 : Int32))), .val (.int (p4 ^^^ (1431655765 : Int32))), .val (.ref o), .val (.int md), .val (.int x), .unset] []))
        refine Go.via (fun t_ k_ => XS.iload Hj.here hx rfl (hb hby at_162) rfl k_) ?_
        show Go _ _ _ _ (Tj.setTop (mkF m 164 #[.val (.int p1), .val (.int p2), .val (.int p3), .val (.int p4), .val (.int p5), .val (.int p6), .val (.int u1), .val (.int u2), .val (.int u3), .val (.int p4), .val (.int (p4 ^^^ (-1 : Int32))), .val (.int (p4 ^^^ (1431655765 : Int32))), .val (.ref o), .val (.int md), .val (.int x), .unset] [(.int (p4 ^^^ (-1 : Int32)))]))
        refine Go.via (fun t_ k_ => XS.istore Hj.here hx rfl (hb hby at_164) rfl (l' := #[.val (.int p1), .val (.int p2), .val (.int p3), .val (.int p4), .val (.int p5), .val (.int p6), .val (.int u1), .val (.int u2), .val (.int u3), .val (.int p4), .val (.int (p4 ^^^ (-1 : Int32))), .val (.int (p4 ^^^ (1431655765 : Int32))), .val (.ref o), .val (.int md), .val (.int x), .val (.int (p4 ^^^ (-1 : Int32)))]) rfl k_) ?_
        show Go _ _ _ _ (Tj.setTop (mkF m 166 #[.val (.int p1), .val (.int p2), .val (.int p3), .val (.int p4), .val (.int p5), .val (.int p6), .val (.int u1), .val (.int u2), .val (.int u3), .val (.int p4), .val (.int (p4 ^^^ (-1 : Int32))), .val (.int (p4 ^^^ (1431655765 : Int32))), .val (.ref o), .val (.int md), .val (.int x), .val (.int (p4 ^^^ (-1 : Int32)))] []))
        refine Go.via (fun t_ k_ => XS.goto Hj.here hx rfl (pc0 := 166) (pc' := 187) rfl (hb hby at_166) (by decide) (by decide) k_) ?_
        show Go _ _ _ _ (Tj.setTop (mkF m 187 #[.val (.int p1), .val (.int p2), .val (.int p3), .val (.int p4), .val (.int p5), .val (.int p6), .val (.int u1), .val (.int u2), .val (.int u3), .val (.int p4), .val (.int (p4 ^^^ (-1 : Int32))), .val (.int (p4 ^^^ (1431655765 : Int32))), .val (.ref o), .val (.int md), .val (.int x), .val (.int (p4 ^^^ (-1 : Int32)))] []))
        refine Go.via (fun t_ k_ => XS.aload Hj.here hx rfl (hb hby at_187) rfl rfl k_) ?_
        show Go _ _ _ _ (Tj.setTop (mkF m 189 #[.val (.int p1), .val (.int p2), .val (.int p3), .val (.int p4), .val (.int p5), .val (.int p6), .val (.int u1), .val (.int u2), .val (.int u3), .val (.int p4), .val (.int (p4 ^^^ (-1 : Int32))), .val (.int (p4 ^^^ (1431655765 : Int32))), .val (.ref o), .val (.int md), .val (.int x), .val (.int (p4 ^^^ (-1 : Int32)))] [(.ref o)]))
        refine Go.via (fun t_ k_ => XS.iload Hj.here hx rfl (hb hby at_189) rfl k_) ?_
        show Go _ _ _ _ (Tj.setTop (mkF m 191 #[.val (.int p1), .val (.int p2), .val (.int p3), .val (.int p4), .val (.int p5), .val (.int p6), .val (.int u1), .val (.int u2), .val (.int u3), .val (.int p4), .val (.int (p4 ^^^ (-1 : Int32))), .val (.int (p4 ^^^ (1431655765 : Int32))), .val (.ref o), .val (.int md), .val (.int x), .val (.int (p4 ^^^ (-1 : Int32)))] [(.int x), (.ref o)]))
        refine Go.via (fun t_ k_ => XS.iload Hj.here hx rfl (hb hby at_191) rfl k_) ?_
        show Go _ _ _ _ (Tj.setTop (mkF m 193 #[.val (.int p1), .val (.int p2), .val (.int p3), .val (.int p4), .val (.int p5), .val (.int p6), .val (.int u1), .val (.int u2), .val (.int u3), .val (.int p4), .val (.int (p4 ^^^ (-1 : Int32))), .val (.int (p4 ^^^ (1431655765 : Int32))), .val (.ref o), .val (.int md), .val (.int x), .val (.int (p4 ^^^ (-1 : Int32)))] [(.int p5), (.int x), (.ref o)]))
        refine own_callV Hj hx hZ (C := "com/example/neardb/neardb/query/IntIntMap") (y := (⟨"com/example/neardb/neardb/query/IntIntMap", "get", "(II)I"⟩ : MethodName)) (a := o) hown (hw _ (List.mem_of_getElem? (i := 29) rfl)) (hw _ (List.mem_of_getElem? (i := 30) rfl)) (hw _ (List.mem_of_getElem? (i := 32) rfl)) (hw _ (List.mem_of_getElem? (i := 31) rfl)) (hw _ (List.mem_of_getElem? (i := 5) rfl)) (hw _ (List.mem_of_getElem? (i := 33) rfl)) (by decide) MA.1 (rmGet l Z a0 hw o ka va sz x p5 K V (ext (ext (ext (fun _ => none) u1 p4) u2 (p4 ^^^ (-1 : Int32))) u3 (p4 ^^^ (1431655765 : Int32))) 7 hj n0 MA IV) (g := (mkF m 193 #[.val (.int p1), .val (.int p2), .val (.int p3), .val (.int p4), .val (.int p5), .val (.int p6), .val (.int u1), .val (.int u2), .val (.int u3), .val (.int p4), .val (.int (p4 ^^^ (-1 : Int32))), .val (.int (p4 ^^^ (1431655765 : Int32))), .val (.ref o), .val (.int md), .val (.int x), .val (.int (p4 ^^^ (-1 : Int32)))] [(.int p5), (.int x), (.ref o)])) rfl (by rw [hml]; rfl) (argsL := [(.int x), (.int p5)]) (rest := []) (lenOf pd_1 rfl) rfl 0 (Nat.le_of_eq rfl) (hb hby at_193) (by decide) (by decide) (by decide) (by decide) ?_
        rintro _ T2 _ ⟨rfl, rfl⟩ H2
        show Go _ _ _ _ (T2.setTop (mkF m 196 #[.val (.int p1), .val (.int p2), .val (.int p3), .val (.int p4), .val (.int p5), .val (.int p6), .val (.int u1), .val (.int u2), .val (.int u3), .val (.int p4), .val (.int (p4 ^^^ (-1 : Int32))), .val (.int (p4 ^^^ (1431655765 : Int32))), .val (.ref o), .val (.int md), .val (.int x), .val (.int (p4 ^^^ (-1 : Int32)))] [(.int (((ext (ext (ext (fun _ => none) u1 p4) u2 (p4 ^^^ (-1 : Int32))) u3 (p4 ^^^ (1431655765 : Int32))) x).getD p5))]))
        refine Go.via (fun t_ k_ => XS.iload H2.here hx rfl (hb hby at_196) rfl k_) ?_
        show Go _ _ _ _ (T2.setTop (mkF m 198 #[.val (.int p1), .val (.int p2), .val (.int p3), .val (.int p4), .val (.int p5), .val (.int p6), .val (.int u1), .val (.int u2), .val (.int u3), .val (.int p4), .val (.int (p4 ^^^ (-1 : Int32))), .val (.int (p4 ^^^ (1431655765 : Int32))), .val (.ref o), .val (.int md), .val (.int x), .val (.int (p4 ^^^ (-1 : Int32)))] [(.int (p4 ^^^ (-1 : Int32))), (.int (((ext (ext (ext (fun _ => none) u1 p4) u2 (p4 ^^^ (-1 : Int32))) u3 (p4 ^^^ (1431655765 : Int32))) x).getD p5))]))
        refine Go.via (fun t_ k_ => XS.icmpNo H2.here hx rfl (hb hby at_198) rfl ((teq (show (((ext (ext (ext (fun _ => none) u1 p4) u2 (p4 ^^^ (-1 : Int32))) u3 (p4 ^^^ (1431655765 : Int32))) x).getD p5) = (p4 ^^^ (-1 : Int32)) from (by simp [ext, eq_false hc145, eq_true hc159]))).2) k_) ?_
        show Go _ _ _ _ (T2.setTop (mkF m 201 #[.val (.int p1), .val (.int p2), .val (.int p3), .val (.int p4), .val (.int p5), .val (.int p6), .val (.int u1), .val (.int u2), .val (.int u3), .val (.int p4), .val (.int (p4 ^^^ (-1 : Int32))), .val (.int (p4 ^^^ (1431655765 : Int32))), .val (.ref o), .val (.int md), .val (.int x), .val (.int (p4 ^^^ (-1 : Int32)))] []))
        refine Go.via (fun t_ k_ => XS.iconst H2.here hx rfl (hb hby at_201) k_) ?_
        show Go _ _ _ _ (T2.setTop (mkF m 202 #[.val (.int p1), .val (.int p2), .val (.int p3), .val (.int p4), .val (.int p5), .val (.int p6), .val (.int u1), .val (.int u2), .val (.int u3), .val (.int p4), .val (.int (p4 ^^^ (-1 : Int32))), .val (.int (p4 ^^^ (1431655765 : Int32))), .val (.ref o), .val (.int md), .val (.int x), .val (.int (p4 ^^^ (-1 : Int32)))] [(.int (1 : Int32))]))
        refine Go.via (fun t_ k_ => XS.goto H2.here hx rfl (pc0 := 202) (pc' := 206) rfl (hb hby at_202) (by decide) (by decide) k_) ?_
        show Go _ _ _ _ (T2.setTop (mkF m 206 #[.val (.int p1), .val (.int p2), .val (.int p3), .val (.int p4), .val (.int p5), .val (.int p6), .val (.int u1), .val (.int u2), .val (.int u3), .val (.int p4), .val (.int (p4 ^^^ (-1 : Int32))), .val (.int (p4 ^^^ (1431655765 : Int32))), .val (.ref o), .val (.int md), .val (.int x), .val (.int (p4 ^^^ (-1 : Int32)))] [(.int (1 : Int32))]))
        exact own_retN H2 hx hlk (by simp) hret (hb hby at_206) rfl (by decide) (by decide)
      · refine Go.via (fun t_ k_ => XS.icmpYes Hj.here hx rfl (pc0 := 159) (pc' := 169) rfl (hb hby at_159) rfl ((feq hc159).2) (by decide) (by decide) k_) ?_
        show Go _ _ _ _ (Tj.setTop (mkF m 169 #[.val (.int p1), .val (.int p2), .val (.int p3), .val (.int p4), .val (.int p5), .val (.int p6), .val (.int u1), .val (.int u2), .val (.int u3), .val (.int p4), .val (.int (p4 ^^^ (-1 : Int32))), .val (.int (p4 ^^^ (1431655765 : Int32))), .val (.ref o), .val (.int md), .val (.int x), .unset] []))
        refine Go.via (fun t_ k_ => XS.iload Hj.here hx rfl (hb hby at_169) rfl k_) ?_
        show Go _ _ _ _ (Tj.setTop (mkF m 171 #[.val (.int p1), .val (.int p2), .val (.int p3), .val (.int p4), .val (.int p5), .val (.int p6), .val (.int u1), .val (.int u2), .val (.int u3), .val (.int p4), .val (.int (p4 ^^^ (-1 : Int32))), .val (.int (p4 ^^^ (1431655765 : Int32))), .val (.ref o), .val (.int md), .val (.int x), .unset] [(.int x)]))
        refine Go.via (fun t_ k_ => XS.iload Hj.here hx rfl (hb hby at_171) rfl k_) ?_
        show Go _ _ _ _ (Tj.setTop (mkF m 173 #[.val (.int p1), .val (.int p2), .val (.int p3), .val (.int p4), .val (.int p5), .val (.int p6), .val (.int u1), .val (.int u2), .val (.int u3), .val (.int p4), .val (.int (p4 ^^^ (-1 : Int32))), .val (.int (p4 ^^^ (1431655765 : Int32))), .val (.ref o), .val (.int md), .val (.int x), .unset] [(.int u1), (.int x)]))
        by_cases hc173 : x = u1
        · refine Go.via (fun t_ k_ => XS.icmpNo Hj.here hx rfl (hb hby at_173) rfl ((teq hc173).2) k_) ?_
          show Go _ _ _ _ (Tj.setTop (mkF m 176 #[.val (.int p1), .val (.int p2), .val (.int p3), .val (.int p4), .val (.int p5), .val (.int p6), .val (.int u1), .val (.int u2), .val (.int u3), .val (.int p4), .val (.int (p4 ^^^ (-1 : Int32))), .val (.int (p4 ^^^ (1431655765 : Int32))), .val (.ref o), .val (.int md), .val (.int x), .unset] []))
          refine Go.via (fun t_ k_ => XS.iload Hj.here hx rfl (hb hby at_176) rfl k_) ?_
          show Go _ _ _ _ (Tj.setTop (mkF m 178 #[.val (.int p1), .val (.int p2), .val (.int p3), .val (.int p4), .val (.int p5), .val (.int p6), .val (.int u1), .val (.int u2), .val (.int u3), .val (.int p4), .val (.int (p4 ^^^ (-1 : Int32))), .val (.int (p4 ^^^ (1431655765 : Int32))), .val (.ref o), .val (.int md), .val (.int x), .unset] [(.int p4)]))
          refine Go.via (fun t_ k_ => XS.istore Hj.here hx rfl (hb hby at_178) rfl (l' := #[.val (.int p1), .val (.int p2), .val (.int p3), .val (.int p4), .val (.int p5), .val (.int p6), .val (.int u1), .val (.int u2), .val (.int u3), .val (.int p4), .val (.int (p4 ^^^ (-1 : Int32))), .val (.int (p4 ^^^ (1431655765 : Int32))), .val (.ref o), .val (.int md), .val (.int x), .val (.int p4)]) rfl k_) ?_
          show Go _ _ _ _ (Tj.setTop (mkF m 180 #[.val (.int p1), .val (.int p2), .val (.int p3), .val (.int p4), .val (.int p5), .val (.int p6), .val (.int u1), .val (.int u2), .val (.int u3), .val (.int p4), .val (.int (p4 ^^^ (-1 : Int32))), .val (.int (p4 ^^^ (1431655765 : Int32))), .val (.ref o), .val (.int md), .val (.int x), .val (.int p4)] []))
          refine Go.via (fun t_ k_ => XS.goto Hj.here hx rfl (pc0 := 180) (pc' := 187) rfl (hb hby at_180) (by decide) (by decide) k_) ?_
          show Go _ _ _ _ (Tj.setTop (mkF m 187 #[.val (.int p1), .val (.int p2), .val (.int p3), .val (.int p4), .val (.int p5), .val (.int p6), .val (.int u1), .val (.int u2), .val (.int u3), .val (.int p4), .val (.int (p4 ^^^ (-1 : Int32))), .val (.int (p4 ^^^ (1431655765 : Int32))), .val (.ref o), .val (.int md), .val (.int x), .val (.int p4)] []))
          refine Go.via (fun t_ k_ => XS.aload Hj.here hx rfl (hb hby at_187) rfl rfl k_) ?_
          show Go _ _ _ _ (Tj.setTop (mkF m 189 #[.val (.int p1), .val (.int p2), .val (.int p3), .val (.int p4), .val (.int p5), .val (.int p6), .val (.int u1), .val (.int u2), .val (.int u3), .val (.int p4), .val (.int (p4 ^^^ (-1 : Int32))), .val (.int (p4 ^^^ (1431655765 : Int32))), .val (.ref o), .val (.int md), .val (.int x), .val (.int p4)] [(.ref o)]))
          refine Go.via (fun t_ k_ => XS.iload Hj.here hx rfl (hb hby at_189) rfl k_) ?_
          show Go _ _ _ _ (Tj.setTop (mkF m 191 #[.val (.int p1), .val (.int p2), .val (.int p3), .val (.int p4), .val (.int p5), .val (.int p6), .val (.int u1), .val (.int u2), .val (.int u3), .val (.int p4), .val (.int (p4 ^^^ (-1 : Int32))), .val (.int (p4 ^^^ (1431655765 : Int32))), .val (.ref o), .val (.int md), .val (.int x), .val (.int p4)] [(.int x), (.ref o)]))
          refine Go.via (fun t_ k_ => XS.iload Hj.here hx rfl (hb hby at_191) rfl k_) ?_
          show Go _ _ _ _ (Tj.setTop (mkF m 193 #[.val (.int p1), .val (.int p2), .val (.int p3), .val (.int p4), .val (.int p5), .val (.int p6), .val (.int u1), .val (.int u2), .val (.int u3), .val (.int p4), .val (.int (p4 ^^^ (-1 : Int32))), .val (.int (p4 ^^^ (1431655765 : Int32))), .val (.ref o), .val (.int md), .val (.int x), .val (.int p4)] [(.int p5), (.int x), (.ref o)]))
          refine own_callV Hj hx hZ (C := "com/example/neardb/neardb/query/IntIntMap") (y := (⟨"com/example/neardb/neardb/query/IntIntMap", "get", "(II)I"⟩ : MethodName)) (a := o) hown (hw _ (List.mem_of_getElem? (i := 29) rfl)) (hw _ (List.mem_of_getElem? (i := 30) rfl)) (hw _ (List.mem_of_getElem? (i := 32) rfl)) (hw _ (List.mem_of_getElem? (i := 31) rfl)) (hw _ (List.mem_of_getElem? (i := 5) rfl)) (hw _ (List.mem_of_getElem? (i := 33) rfl)) (by decide) MA.1 (rmGet l Z a0 hw o ka va sz x p5 K V (ext (ext (ext (fun _ => none) u1 p4) u2 (p4 ^^^ (-1 : Int32))) u3 (p4 ^^^ (1431655765 : Int32))) 7 hj n0 MA IV) (g := (mkF m 193 #[.val (.int p1), .val (.int p2), .val (.int p3), .val (.int p4), .val (.int p5), .val (.int p6), .val (.int u1), .val (.int u2), .val (.int u3), .val (.int p4), .val (.int (p4 ^^^ (-1 : Int32))), .val (.int (p4 ^^^ (1431655765 : Int32))), .val (.ref o), .val (.int md), .val (.int x), .val (.int p4)] [(.int p5), (.int x), (.ref o)])) rfl (by rw [hml]; rfl) (argsL := [(.int x), (.int p5)]) (rest := []) (lenOf pd_1 rfl) rfl 0 (Nat.le_of_eq rfl) (hb hby at_193) (by decide) (by decide) (by decide) (by decide) ?_
          rintro _ T3 _ ⟨rfl, rfl⟩ H3
          show Go _ _ _ _ (T3.setTop (mkF m 196 #[.val (.int p1), .val (.int p2), .val (.int p3), .val (.int p4), .val (.int p5), .val (.int p6), .val (.int u1), .val (.int u2), .val (.int u3), .val (.int p4), .val (.int (p4 ^^^ (-1 : Int32))), .val (.int (p4 ^^^ (1431655765 : Int32))), .val (.ref o), .val (.int md), .val (.int x), .val (.int p4)] [(.int (((ext (ext (ext (fun _ => none) u1 p4) u2 (p4 ^^^ (-1 : Int32))) u3 (p4 ^^^ (1431655765 : Int32))) x).getD p5))]))
          refine Go.via (fun t_ k_ => XS.iload H3.here hx rfl (hb hby at_196) rfl k_) ?_
          show Go _ _ _ _ (T3.setTop (mkF m 198 #[.val (.int p1), .val (.int p2), .val (.int p3), .val (.int p4), .val (.int p5), .val (.int p6), .val (.int u1), .val (.int u2), .val (.int u3), .val (.int p4), .val (.int (p4 ^^^ (-1 : Int32))), .val (.int (p4 ^^^ (1431655765 : Int32))), .val (.ref o), .val (.int md), .val (.int x), .val (.int p4)] [(.int p4), (.int (((ext (ext (ext (fun _ => none) u1 p4) u2 (p4 ^^^ (-1 : Int32))) u3 (p4 ^^^ (1431655765 : Int32))) x).getD p5))]))
          refine Go.via (fun t_ k_ => XS.icmpNo H3.here hx rfl (hb hby at_198) rfl ((teq (show (((ext (ext (ext (fun _ => none) u1 p4) u2 (p4 ^^^ (-1 : Int32))) u3 (p4 ^^^ (1431655765 : Int32))) x).getD p5) = p4 from (by simp [ext, eq_false hc145, eq_false hc159, eq_true hc173]))).2) k_) ?_
          show Go _ _ _ _ (T3.setTop (mkF m 201 #[.val (.int p1), .val (.int p2), .val (.int p3), .val (.int p4), .val (.int p5), .val (.int p6), .val (.int u1), .val (.int u2), .val (.int u3), .val (.int p4), .val (.int (p4 ^^^ (-1 : Int32))), .val (.int (p4 ^^^ (1431655765 : Int32))), .val (.ref o), .val (.int md), .val (.int x), .val (.int p4)] []))
          refine Go.via (fun t_ k_ => XS.iconst H3.here hx rfl (hb hby at_201) k_) ?_
          show Go _ _ _ _ (T3.setTop (mkF m 202 #[.val (.int p1), .val (.int p2), .val (.int p3), .val (.int p4), .val (.int p5), .val (.int p6), .val (.int u1), .val (.int u2), .val (.int u3), .val (.int p4), .val (.int (p4 ^^^ (-1 : Int32))), .val (.int (p4 ^^^ (1431655765 : Int32))), .val (.ref o), .val (.int md), .val (.int x), .val (.int p4)] [(.int (1 : Int32))]))
          refine Go.via (fun t_ k_ => XS.goto H3.here hx rfl (pc0 := 202) (pc' := 206) rfl (hb hby at_202) (by decide) (by decide) k_) ?_
          show Go _ _ _ _ (T3.setTop (mkF m 206 #[.val (.int p1), .val (.int p2), .val (.int p3), .val (.int p4), .val (.int p5), .val (.int p6), .val (.int u1), .val (.int u2), .val (.int u3), .val (.int p4), .val (.int (p4 ^^^ (-1 : Int32))), .val (.int (p4 ^^^ (1431655765 : Int32))), .val (.ref o), .val (.int md), .val (.int x), .val (.int p4)] [(.int (1 : Int32))]))
          exact own_retN H3 hx hlk (by simp) hret (hb hby at_206) rfl (by decide) (by decide)
        · refine Go.via (fun t_ k_ => XS.icmpYes Hj.here hx rfl (pc0 := 173) (pc' := 183) rfl (hb hby at_173) rfl ((feq hc173).2) (by decide) (by decide) k_) ?_
          show Go _ _ _ _ (Tj.setTop (mkF m 183 #[.val (.int p1), .val (.int p2), .val (.int p3), .val (.int p4), .val (.int p5), .val (.int p6), .val (.int u1), .val (.int u2), .val (.int u3), .val (.int p4), .val (.int (p4 ^^^ (-1 : Int32))), .val (.int (p4 ^^^ (1431655765 : Int32))), .val (.ref o), .val (.int md), .val (.int x), .unset] []))
          refine Go.via (fun t_ k_ => XS.iload Hj.here hx rfl (hb hby at_183) rfl k_) ?_
          show Go _ _ _ _ (Tj.setTop (mkF m 185 #[.val (.int p1), .val (.int p2), .val (.int p3), .val (.int p4), .val (.int p5), .val (.int p6), .val (.int u1), .val (.int u2), .val (.int u3), .val (.int p4), .val (.int (p4 ^^^ (-1 : Int32))), .val (.int (p4 ^^^ (1431655765 : Int32))), .val (.ref o), .val (.int md), .val (.int x), .unset] [(.int p5)]))
          refine Go.via (fun t_ k_ => XS.istore Hj.here hx rfl (hb hby at_185) rfl (l' := #[.val (.int p1), .val (.int p2), .val (.int p3), .val (.int p4), .val (.int p5), .val (.int p6), .val (.int u1), .val (.int u2), .val (.int u3), .val (.int p4), .val (.int (p4 ^^^ (-1 : Int32))), .val (.int (p4 ^^^ (1431655765 : Int32))), .val (.ref o), .val (.int md), .val (.int x), .val (.int p5)]) rfl k_) ?_
          show Go _ _ _ _ (Tj.setTop (mkF m 187 #[.val (.int p1), .val (.int p2), .val (.int p3), .val (.int p4), .val (.int p5), .val (.int p6), .val (.int u1), .val (.int u2), .val (.int u3), .val (.int p4), .val (.int (p4 ^^^ (-1 : Int32))), .val (.int (p4 ^^^ (1431655765 : Int32))), .val (.ref o), .val (.int md), .val (.int x), .val (.int p5)] []))
          refine Go.via (fun t_ k_ => XS.aload Hj.here hx rfl (hb hby at_187) rfl rfl k_) ?_
          show Go _ _ _ _ (Tj.setTop (mkF m 189 #[.val (.int p1), .val (.int p2), .val (.int p3), .val (.int p4), .val (.int p5), .val (.int p6), .val (.int u1), .val (.int u2), .val (.int u3), .val (.int p4), .val (.int (p4 ^^^ (-1 : Int32))), .val (.int (p4 ^^^ (1431655765 : Int32))), .val (.ref o), .val (.int md), .val (.int x), .val (.int p5)] [(.ref o)]))
          refine Go.via (fun t_ k_ => XS.iload Hj.here hx rfl (hb hby at_189) rfl k_) ?_
          show Go _ _ _ _ (Tj.setTop (mkF m 191 #[.val (.int p1), .val (.int p2), .val (.int p3), .val (.int p4), .val (.int p5), .val (.int p6), .val (.int u1), .val (.int u2), .val (.int u3), .val (.int p4), .val (.int (p4 ^^^ (-1 : Int32))), .val (.int (p4 ^^^ (1431655765 : Int32))), .val (.ref o), .val (.int md), .val (.int x), .val (.int p5)] [(.int x), (.ref o)]))
          refine Go.via (fun t_ k_ => XS.iload Hj.here hx rfl (hb hby at_191) rfl k_) ?_
          show Go _ _ _ _ (Tj.setTop (mkF m 193 #[.val (.int p1), .val (.int p2), .val (.int p3), .val (.int p4), .val (.int p5), .val (.int p6), .val (.int u1), .val (.int u2), .val (.int u3), .val (.int p4), .val (.int (p4 ^^^ (-1 : Int32))), .val (.int (p4 ^^^ (1431655765 : Int32))), .val (.ref o), .val (.int md), .val (.int x), .val (.int p5)] [(.int p5), (.int x), (.ref o)]))
          refine own_callV Hj hx hZ (C := "com/example/neardb/neardb/query/IntIntMap") (y := (⟨"com/example/neardb/neardb/query/IntIntMap", "get", "(II)I"⟩ : MethodName)) (a := o) hown (hw _ (List.mem_of_getElem? (i := 29) rfl)) (hw _ (List.mem_of_getElem? (i := 30) rfl)) (hw _ (List.mem_of_getElem? (i := 32) rfl)) (hw _ (List.mem_of_getElem? (i := 31) rfl)) (hw _ (List.mem_of_getElem? (i := 5) rfl)) (hw _ (List.mem_of_getElem? (i := 33) rfl)) (by decide) MA.1 (rmGet l Z a0 hw o ka va sz x p5 K V (ext (ext (ext (fun _ => none) u1 p4) u2 (p4 ^^^ (-1 : Int32))) u3 (p4 ^^^ (1431655765 : Int32))) 7 hj n0 MA IV) (g := (mkF m 193 #[.val (.int p1), .val (.int p2), .val (.int p3), .val (.int p4), .val (.int p5), .val (.int p6), .val (.int u1), .val (.int u2), .val (.int u3), .val (.int p4), .val (.int (p4 ^^^ (-1 : Int32))), .val (.int (p4 ^^^ (1431655765 : Int32))), .val (.ref o), .val (.int md), .val (.int x), .val (.int p5)] [(.int p5), (.int x), (.ref o)])) rfl (by rw [hml]; rfl) (argsL := [(.int x), (.int p5)]) (rest := []) (lenOf pd_1 rfl) rfl 0 (Nat.le_of_eq rfl) (hb hby at_193) (by decide) (by decide) (by decide) (by decide) ?_
          rintro _ T4 _ ⟨rfl, rfl⟩ H4
          show Go _ _ _ _ (T4.setTop (mkF m 196 #[.val (.int p1), .val (.int p2), .val (.int p3), .val (.int p4), .val (.int p5), .val (.int p6), .val (.int u1), .val (.int u2), .val (.int u3), .val (.int p4), .val (.int (p4 ^^^ (-1 : Int32))), .val (.int (p4 ^^^ (1431655765 : Int32))), .val (.ref o), .val (.int md), .val (.int x), .val (.int p5)] [(.int (((ext (ext (ext (fun _ => none) u1 p4) u2 (p4 ^^^ (-1 : Int32))) u3 (p4 ^^^ (1431655765 : Int32))) x).getD p5))]))
          refine Go.via (fun t_ k_ => XS.iload H4.here hx rfl (hb hby at_196) rfl k_) ?_
          show Go _ _ _ _ (T4.setTop (mkF m 198 #[.val (.int p1), .val (.int p2), .val (.int p3), .val (.int p4), .val (.int p5), .val (.int p6), .val (.int u1), .val (.int u2), .val (.int u3), .val (.int p4), .val (.int (p4 ^^^ (-1 : Int32))), .val (.int (p4 ^^^ (1431655765 : Int32))), .val (.ref o), .val (.int md), .val (.int x), .val (.int p5)] [(.int p5), (.int (((ext (ext (ext (fun _ => none) u1 p4) u2 (p4 ^^^ (-1 : Int32))) u3 (p4 ^^^ (1431655765 : Int32))) x).getD p5))]))
          refine Go.via (fun t_ k_ => XS.icmpNo H4.here hx rfl (hb hby at_198) rfl ((teq (show (((ext (ext (ext (fun _ => none) u1 p4) u2 (p4 ^^^ (-1 : Int32))) u3 (p4 ^^^ (1431655765 : Int32))) x).getD p5) = p5 from (by simp [ext, eq_false hc145, eq_false hc159, eq_false hc173]))).2) k_) ?_
          show Go _ _ _ _ (T4.setTop (mkF m 201 #[.val (.int p1), .val (.int p2), .val (.int p3), .val (.int p4), .val (.int p5), .val (.int p6), .val (.int u1), .val (.int u2), .val (.int u3), .val (.int p4), .val (.int (p4 ^^^ (-1 : Int32))), .val (.int (p4 ^^^ (1431655765 : Int32))), .val (.ref o), .val (.int md), .val (.int x), .val (.int p5)] []))
          refine Go.via (fun t_ k_ => XS.iconst H4.here hx rfl (hb hby at_201) k_) ?_
          show Go _ _ _ _ (T4.setTop (mkF m 202 #[.val (.int p1), .val (.int p2), .val (.int p3), .val (.int p4), .val (.int p5), .val (.int p6), .val (.int u1), .val (.int u2), .val (.int u3), .val (.int p4), .val (.int (p4 ^^^ (-1 : Int32))), .val (.int (p4 ^^^ (1431655765 : Int32))), .val (.ref o), .val (.int md), .val (.int x), .val (.int p5)] [(.int (1 : Int32))]))
          refine Go.via (fun t_ k_ => XS.goto H4.here hx rfl (pc0 := 202) (pc' := 206) rfl (hb hby at_202) (by decide) (by decide) k_) ?_
          show Go _ _ _ _ (T4.setTop (mkF m 206 #[.val (.int p1), .val (.int p2), .val (.int p3), .val (.int p4), .val (.int p5), .val (.int p6), .val (.int u1), .val (.int u2), .val (.int u3), .val (.int p4), .val (.int (p4 ^^^ (-1 : Int32))), .val (.int (p4 ^^^ (1431655765 : Int32))), .val (.ref o), .val (.int md), .val (.int x), .val (.int p5)] [(.int (1 : Int32))]))
          exact own_retN H4 hx hlk (by simp) hret (hb hby at_206) rfl (by decide) (by decide)
  have J35 : ∀ (Tj : State) (u1 u2 u3 : Int32), Here p l e room_1 s m #[(.int p1), (.int p2), (.int p3), (.int p4), (.int p5), (.int p6)] below meth c n0 Tj h0 0 0 → (0 ≤ u1.toInt) → (0 ≤ u2.toInt) → (0 ≤ u3.toInt) → Go p e below (Fini below s n0 (fun v h => v = some (.int (1 : Int32))) room_1.cells room_1.slots) (Tj.setTop (mkF m 35 #[.val (.int p1), .val (.int p2), .val (.int p3), .val (.int p4), .val (.int p5), .val (.int p6), .val (.int u1), .val (.int u2), .unset, .unset, .unset, .unset, .unset, .unset, .unset, .unset] [(.int u3)])) := by
    intro Tj u1 u2 u3 Hj g1 g2 g3
    show Go _ _ _ _ (Tj.setTop (mkF m 35 #[.val (.int p1), .val (.int p2), .val (.int p3), .val (.int p4), .val (.int p5), .val (.int p6), .val (.int u1), .val (.int u2), .unset, .unset, .unset, .unset, .unset, .unset, .unset, .unset] [(.int u3)]))
    refine Go.via (fun t_ k_ => XS.istore Hj.here hx rfl (hb hby at_35) rfl (l' := #[.val (.int p1), .val (.int p2), .val (.int p3), .val (.int p4), .val (.int p5), .val (.int p6), .val (.int u1), .val (.int u2), .val (.int u3), .unset, .unset, .unset, .unset, .unset, .unset, .unset]) rfl k_) ?_
    show Go _ _ _ _ (Tj.setTop (mkF m 37 #[.val (.int p1), .val (.int p2), .val (.int p3), .val (.int p4), .val (.int p5), .val (.int p6), .val (.int u1), .val (.int u2), .val (.int u3), .unset, .unset, .unset, .unset, .unset, .unset, .unset] []))
    refine Go.via (fun t_ k_ => XS.iloadN Hj.here hx rfl (hb hby at_37) rfl k_) ?_
    show Go _ _ _ _ (Tj.setTop (mkF m 38 #[.val (.int p1), .val (.int p2), .val (.int p3), .val (.int p4), .val (.int p5), .val (.int p6), .val (.int u1), .val (.int u2), .val (.int u3), .unset, .unset, .unset, .unset, .unset, .unset, .unset] [(.int p4)]))
    refine Go.via (fun t_ k_ => XS.istore Hj.here hx rfl (hb hby at_38) rfl (l' := #[.val (.int p1), .val (.int p2), .val (.int p3), .val (.int p4), .val (.int p5), .val (.int p6), .val (.int u1), .val (.int u2), .val (.int u3), .val (.int p4), .unset, .unset, .unset, .unset, .unset, .unset]) rfl k_) ?_
    show Go _ _ _ _ (Tj.setTop (mkF m 40 #[.val (.int p1), .val (.int p2), .val (.int p3), .val (.int p4), .val (.int p5), .val (.int p6), .val (.int u1), .val (.int u2), .val (.int u3), .val (.int p4), .unset, .unset, .unset, .unset, .unset, .unset] []))
    refine Go.via (fun t_ k_ => XS.iloadN Hj.here hx rfl (hb hby at_40) rfl k_) ?_
    show Go _ _ _ _ (Tj.setTop (mkF m 41 #[.val (.int p1), .val (.int p2), .val (.int p3), .val (.int p4), .val (.int p5), .val (.int p6), .val (.int u1), .val (.int u2), .val (.int u3), .val (.int p4), .unset, .unset, .unset, .unset, .unset, .unset] [(.int p4)]))
    refine Go.via (fun t_ k_ => XS.iconst Hj.here hx rfl (hb hby at_41) k_) ?_
    show Go _ _ _ _ (Tj.setTop (mkF m 42 #[.val (.int p1), .val (.int p2), .val (.int p3), .val (.int p4), .val (.int p5), .val (.int p6), .val (.int u1), .val (.int u2), .val (.int u3), .val (.int p4), .unset, .unset, .unset, .unset, .unset, .unset] [(.int (-1 : Int32)), (.int p4)]))
    refine Go.via (fun t_ k_ => XS.ixor Hj.here hx rfl (hb hby at_42) rfl k_) ?_
    show Go _ _ _ _ (Tj.setTop (mkF m 43 #[.val (.int p1), .val (.int p2), .val (.int p3), .val (.int p4), .val (.int p5), .val (.int p6), .val (.int u1), .val (.int u2), .val (.int u3), .val (.int p4), .unset, .unset, .unset, .unset, .unset, .unset] [(.int (p4 ^^^ (-1 : Int32)))]))
    refine Go.via (fun t_ k_ => XS.istore Hj.here hx rfl (hb hby at_43) rfl (l' := #[.val (.int p1), .val (.int p2), .val (.int p3), .val (.int p4), .val (.int p5), .val (.int p6), .val (.int u1), .val (.int u2), .val (.int u3), .val (.int p4), .val (.int (p4 ^^^ (-1 : Int32))), .unset, .unset, .unset, .unset, .unset]) rfl k_) ?_
    show Go _ _ _ _ (Tj.setTop (mkF m 45 #[.val (.int p1), .val (.int p2), .val (.int p3), .val (.int p4), .val (.int p5), .val (.int p6), .val (.int u1), .val (.int u2), .val (.int u3), .val (.int p4), .val (.int (p4 ^^^ (-1 : Int32))), .unset, .unset, .unset, .unset, .unset] []))
    refine Go.via (fun t_ k_ => XS.iloadN Hj.here hx rfl (hb hby at_45) rfl k_) ?_
    show Go _ _ _ _ (Tj.setTop (mkF m 46 #[.val (.int p1), .val (.int p2), .val (.int p3), .val (.int p4), .val (.int p5), .val (.int p6), .val (.int u1), .val (.int u2), .val (.int u3), .val (.int p4), .val (.int (p4 ^^^ (-1 : Int32))), .unset, .unset, .unset, .unset, .unset] [(.int p4)]))
    refine own_ldcI Hj hx hZ hown (hw _ (List.mem_of_getElem? (i := 2) rfl)) (g := (mkF m 46 #[.val (.int p1), .val (.int p2), .val (.int p3), .val (.int p4), .val (.int p5), .val (.int p6), .val (.int u1), .val (.int u2), .val (.int u3), .val (.int p4), .val (.int (p4 ^^^ (-1 : Int32))), .unset, .unset, .unset, .unset, .unset] [(.int p4)])) rfl (hb hby at_46) ?_
    show Go _ _ _ _ (Tj.setTop (mkF m 48 #[.val (.int p1), .val (.int p2), .val (.int p3), .val (.int p4), .val (.int p5), .val (.int p6), .val (.int u1), .val (.int u2), .val (.int u3), .val (.int p4), .val (.int (p4 ^^^ (-1 : Int32))), .unset, .unset, .unset, .unset, .unset] [(.int (1431655765 : Int32)), (.int p4)]))
    refine Go.via (fun t_ k_ => XS.ixor Hj.here hx rfl (hb hby at_48) rfl k_) ?_
    show Go _ _ _ _ (Tj.setTop (mkF m 49 #[.val (.int p1), .val (.int p2), .val (.int p3), .val (.int p4), .val (.int p5), .val (.int p6), .val (.int u1), .val (.int u2), .val (.int u3), .val (.int p4), .val (.int (p4 ^^^ (-1 : Int32))), .unset, .unset, .unset, .unset, .unset] [(.int (p4 ^^^ (1431655765 : Int32)))]))
    refine Go.via (fun t_ k_ => XS.istore Hj.here hx rfl (hb hby at_49) rfl (l' := #[.val (.int p1), .val (.int p2), .val (.int p3), .val (.int p4), .val (.int p5), .val (.int p6), .val (.int u1), .val (.int u2), .val (.int u3), .val (.int p4), .val (.int (p4 ^^^ (-1 : Int32))), .val (.int (p4 ^^^ (1431655765 : Int32))), .unset, .unset, .unset, .unset]) rfl k_) ?_
    show Go _ _ _ _ (Tj.setTop (mkF m 51 #[.val (.int p1), .val (.int p2), .val (.int p3), .val (.int p4), .val (.int p5), .val (.int p6), .val (.int u1), .val (.int u2), .val (.int u3), .val (.int p4), .val (.int (p4 ^^^ (-1 : Int32))), .val (.int (p4 ^^^ (1431655765 : Int32))), .unset, .unset, .unset, .unset] []))
    refine own_newO Hj hx hZ hown (hw _ (List.mem_of_getElem? (i := 3) rfl)) (hw _ (List.mem_of_getElem? (i := 4) rfl)) (hw _ (List.mem_of_getElem? (i := 5) rfl)) (g := (mkF m 51 #[.val (.int p1), .val (.int p2), .val (.int p3), .val (.int p4), .val (.int p5), .val (.int p6), .val (.int u1), .val (.int u2), .val (.int u3), .val (.int p4), .val (.int (p4 ^^^ (-1 : Int32))), .val (.int (p4 ^^^ (1431655765 : Int32))), .unset, .unset, .unset, .unset] [])) rfl (hb hby at_51) (by decide) (by decide) ?_
    intro T5 h5 a5 ga5 E5 A5 D5 H5
    have g_a5 : n0 ≤ a5 := by rw [ga5]; exact Z0
    have sz5 : n0 ≤ h5.size := Nat.le_trans Z0 E5.1
    have F5_keys : Fld Z h5 a5 "com/example/neardb/neardb/query/IntIntMap" "keys" "[I" .null := D5 (Or.inl (hw _ (List.mem_of_getElem? (i := 14) rfl))) (ty := (.array .int)) (by decide)
    have F5_values : Fld Z h5 a5 "com/example/neardb/neardb/query/IntIntMap" "values" "[I" .null := D5 (Or.inl (hw _ (List.mem_of_getElem? (i := 16) rfl))) (ty := (.array .int)) (by decide)
    have F5_size : Fld Z h5 a5 "com/example/neardb/neardb/query/IntIntMap" "size" "I" (.int (0 : Int32)) := D5 (Or.inl (hw _ (List.mem_of_getElem? (i := 27) rfl))) (ty := .int) (by decide)
    show Go _ _ _ _ (T5.setTop (mkF m 54 #[.val (.int p1), .val (.int p2), .val (.int p3), .val (.int p4), .val (.int p5), .val (.int p6), .val (.int u1), .val (.int u2), .val (.int u3), .val (.int p4), .val (.int (p4 ^^^ (-1 : Int32))), .val (.int (p4 ^^^ (1431655765 : Int32))), .unset, .unset, .unset, .unset] [(.ref a5)]))
    refine Go.via (fun t_ k_ => XS.dup H5.here hx rfl (hb hby at_54) rfl rfl k_) ?_
    show Go _ _ _ _ (T5.setTop (mkF m 55 #[.val (.int p1), .val (.int p2), .val (.int p3), .val (.int p4), .val (.int p5), .val (.int p6), .val (.int u1), .val (.int u2), .val (.int u3), .val (.int p4), .val (.int (p4 ^^^ (-1 : Int32))), .val (.int (p4 ^^^ (1431655765 : Int32))), .unset, .unset, .unset, .unset] [(.ref a5), (.ref a5)]))
    refine own_callI H5 hx hZ (y := (⟨"com/example/neardb/neardb/query/IntIntMap", "<init>", "()V"⟩ : MethodName)) (a := a5) rfl hown (hw _ (List.mem_of_getElem? (i := 6) rfl)) (hw _ (List.mem_of_getElem? (i := 7) rfl)) (hw _ (List.mem_of_getElem? (i := 5) rfl)) (hw _ (List.mem_of_getElem? (i := 8) rfl)) (by decide) (rmInit l Z a0 hw a5 h5 n0 A5 F5_keys F5_values F5_size g_a5 sz5) (g := (mkF m 55 #[.val (.int p1), .val (.int p2), .val (.int p3), .val (.int p4), .val (.int p5), .val (.int p6), .val (.int u1), .val (.int u2), .val (.int u3), .val (.int p4), .val (.int (p4 ^^^ (-1 : Int32))), .val (.int (p4 ^^^ (1431655765 : Int32))), .unset, .unset, .unset, .unset] [(.ref a5), (.ref a5)])) rfl (by rw [hml]; rfl) (argsL := []) (rest := [(.ref a5)]) (lenOf pd_2 rfl) rfl 1 (Nat.le_of_eq rfl) (hb hby at_55) (by decide) (by decide) (by decide) (by decide) ?_
    rintro _ T6 h6 ⟨rfl, ka, va, MA6, gk, gv⟩ H6
    show Go _ _ _ _ (T6.setTop (mkF m 58 #[.val (.int p1), .val (.int p2), .val (.int p3), .val (.int p4), .val (.int p5), .val (.int p6), .val (.int u1), .val (.int u2), .val (.int u3), .val (.int p4), .val (.int (p4 ^^^ (-1 : Int32))), .val (.int (p4 ^^^ (1431655765 : Int32))), .unset, .unset, .unset, .unset] [(.ref a5)]))
    refine Go.via (fun t_ k_ => XS.astore H6.here hx rfl (hb hby at_58) rfl rfl (l' := #[.val (.int p1), .val (.int p2), .val (.int p3), .val (.int p4), .val (.int p5), .val (.int p6), .val (.int u1), .val (.int u2), .val (.int u3), .val (.int p4), .val (.int (p4 ^^^ (-1 : Int32))), .val (.int (p4 ^^^ (1431655765 : Int32))), .val (.ref a5), .unset, .unset, .unset]) rfl k_) ?_
    show Go _ _ _ _ (T6.setTop (mkF m 60 #[.val (.int p1), .val (.int p2), .val (.int p3), .val (.int p4), .val (.int p5), .val (.int p6), .val (.int u1), .val (.int u2), .val (.int u3), .val (.int p4), .val (.int (p4 ^^^ (-1 : Int32))), .val (.int (p4 ^^^ (1431655765 : Int32))), .val (.ref a5), .unset, .unset, .unset] []))
    refine Go.via (fun t_ k_ => XS.aload H6.here hx rfl (hb hby at_60) rfl rfl k_) ?_
    show Go _ _ _ _ (T6.setTop (mkF m 62 #[.val (.int p1), .val (.int p2), .val (.int p3), .val (.int p4), .val (.int p5), .val (.int p6), .val (.int u1), .val (.int u2), .val (.int u3), .val (.int p4), .val (.int (p4 ^^^ (-1 : Int32))), .val (.int (p4 ^^^ (1431655765 : Int32))), .val (.ref a5), .unset, .unset, .unset] [(.ref a5)]))
    refine Go.via (fun t_ k_ => XS.iload H6.here hx rfl (hb hby at_62) rfl k_) ?_
    show Go _ _ _ _ (T6.setTop (mkF m 64 #[.val (.int p1), .val (.int p2), .val (.int p3), .val (.int p4), .val (.int p5), .val (.int p6), .val (.int u1), .val (.int u2), .val (.int u3), .val (.int p4), .val (.int (p4 ^^^ (-1 : Int32))), .val (.int (p4 ^^^ (1431655765 : Int32))), .val (.ref a5), .unset, .unset, .unset] [(.int u1), (.ref a5)]))
    refine Go.via (fun t_ k_ => XS.iload H6.here hx rfl (hb hby at_64) rfl k_) ?_
    show Go _ _ _ _ (T6.setTop (mkF m 66 #[.val (.int p1), .val (.int p2), .val (.int p3), .val (.int p4), .val (.int p5), .val (.int p6), .val (.int u1), .val (.int u2), .val (.int u3), .val (.int p4), .val (.int (p4 ^^^ (-1 : Int32))), .val (.int (p4 ^^^ (1431655765 : Int32))), .val (.ref a5), .unset, .unset, .unset] [(.int p4), (.int u1), (.ref a5)]))
    refine own_callV H6 hx hZ (C := "com/example/neardb/neardb/query/IntIntMap") (y := (⟨"com/example/neardb/neardb/query/IntIntMap", "put", "(II)V"⟩ : MethodName)) (a := a5) hown (hw _ (List.mem_of_getElem? (i := 21) rfl)) (hw _ (List.mem_of_getElem? (i := 22) rfl)) (hw _ (List.mem_of_getElem? (i := 24) rfl)) (hw _ (List.mem_of_getElem? (i := 23) rfl)) (hw _ (List.mem_of_getElem? (i := 5) rfl)) (hw _ (List.mem_of_getElem? (i := 25) rfl)) (by decide) MA6.1 (rmPut l Z a0 hw a5 ka va (0 : Int32) u1 p4 (fun _ => (-1 : Int32)) (fun _ => (0 : Int32)) (fun _ => none) 0 h6 n0 MA6 own_inv0 (by decide) (own_ne1 g1) g_a5 gk gv (own_size (0 : Int32) 0 (by decide) (by decide))) (g := (mkF m 66 #[.val (.int p1), .val (.int p2), .val (.int p3), .val (.int p4), .val (.int p5), .val (.int p6), .val (.int u1), .val (.int u2), .val (.int u3), .val (.int p4), .val (.int (p4 ^^^ (-1 : Int32))), .val (.int (p4 ^^^ (1431655765 : Int32))), .val (.ref a5), .unset, .unset, .unset] [(.int p4), (.int u1), (.ref a5)])) rfl (by rw [hml]; rfl) (argsL := [(.int u1), (.int p4)]) (rest := []) (lenOf pd_3 rfl) rfl 0 (Nat.le_of_eq rfl) (hb hby at_66) (by decide) (by decide) (by decide) (by decide) ?_
    rintro _ T7 h7 ⟨rfl, sz7, K7, V7, q7, MA7, IV7⟩ H7
    show Go _ _ _ _ (T7.setTop (mkF m 69 #[.val (.int p1), .val (.int p2), .val (.int p3), .val (.int p4), .val (.int p5), .val (.int p6), .val (.int u1), .val (.int u2), .val (.int u3), .val (.int p4), .val (.int (p4 ^^^ (-1 : Int32))), .val (.int (p4 ^^^ (1431655765 : Int32))), .val (.ref a5), .unset, .unset, .unset] []))
    refine Go.via (fun t_ k_ => XS.aload H7.here hx rfl (hb hby at_69) rfl rfl k_) ?_
    show Go _ _ _ _ (T7.setTop (mkF m 71 #[.val (.int p1), .val (.int p2), .val (.int p3), .val (.int p4), .val (.int p5), .val (.int p6), .val (.int u1), .val (.int u2), .val (.int u3), .val (.int p4), .val (.int (p4 ^^^ (-1 : Int32))), .val (.int (p4 ^^^ (1431655765 : Int32))), .val (.ref a5), .unset, .unset, .unset] [(.ref a5)]))
    refine Go.via (fun t_ k_ => XS.iload H7.here hx rfl (hb hby at_71) rfl k_) ?_
    show Go _ _ _ _ (T7.setTop (mkF m 73 #[.val (.int p1), .val (.int p2), .val (.int p3), .val (.int p4), .val (.int p5), .val (.int p6), .val (.int u1), .val (.int u2), .val (.int u3), .val (.int p4), .val (.int (p4 ^^^ (-1 : Int32))), .val (.int (p4 ^^^ (1431655765 : Int32))), .val (.ref a5), .unset, .unset, .unset] [(.int u2), (.ref a5)]))
    refine Go.via (fun t_ k_ => XS.iload H7.here hx rfl (hb hby at_73) rfl k_) ?_
    show Go _ _ _ _ (T7.setTop (mkF m 75 #[.val (.int p1), .val (.int p2), .val (.int p3), .val (.int p4), .val (.int p5), .val (.int p6), .val (.int u1), .val (.int u2), .val (.int u3), .val (.int p4), .val (.int (p4 ^^^ (-1 : Int32))), .val (.int (p4 ^^^ (1431655765 : Int32))), .val (.ref a5), .unset, .unset, .unset] [(.int (p4 ^^^ (-1 : Int32))), (.int u2), (.ref a5)]))
    refine own_callV H7 hx hZ (C := "com/example/neardb/neardb/query/IntIntMap") (y := (⟨"com/example/neardb/neardb/query/IntIntMap", "put", "(II)V"⟩ : MethodName)) (a := a5) hown (hw _ (List.mem_of_getElem? (i := 21) rfl)) (hw _ (List.mem_of_getElem? (i := 22) rfl)) (hw _ (List.mem_of_getElem? (i := 24) rfl)) (hw _ (List.mem_of_getElem? (i := 23) rfl)) (hw _ (List.mem_of_getElem? (i := 5) rfl)) (hw _ (List.mem_of_getElem? (i := 25) rfl)) (by decide) MA7.1 (rmPut l Z a0 hw a5 ka va sz7 u2 (p4 ^^^ (-1 : Int32)) K7 V7 (ext (fun _ => none) u1 p4) 1 h7 n0 MA7 IV7 (by decide) (own_ne1 g2) g_a5 gk gv (own_size sz7 1 (own_size' (0 : Int32) sz7 0 (by decide) (by decide) q7) (by decide))) (g := (mkF m 75 #[.val (.int p1), .val (.int p2), .val (.int p3), .val (.int p4), .val (.int p5), .val (.int p6), .val (.int u1), .val (.int u2), .val (.int u3), .val (.int p4), .val (.int (p4 ^^^ (-1 : Int32))), .val (.int (p4 ^^^ (1431655765 : Int32))), .val (.ref a5), .unset, .unset, .unset] [(.int (p4 ^^^ (-1 : Int32))), (.int u2), (.ref a5)])) rfl (by rw [hml]; rfl) (argsL := [(.int u2), (.int (p4 ^^^ (-1 : Int32)))]) (rest := []) (lenOf pd_3 rfl) rfl 0 (Nat.le_of_eq rfl) (hb hby at_75) (by decide) (by decide) (by decide) (by decide) ?_
    rintro _ T8 h8 ⟨rfl, sz8, K8, V8, q8, MA8, IV8⟩ H8
    show Go _ _ _ _ (T8.setTop (mkF m 78 #[.val (.int p1), .val (.int p2), .val (.int p3), .val (.int p4), .val (.int p5), .val (.int p6), .val (.int u1), .val (.int u2), .val (.int u3), .val (.int p4), .val (.int (p4 ^^^ (-1 : Int32))), .val (.int (p4 ^^^ (1431655765 : Int32))), .val (.ref a5), .unset, .unset, .unset] []))
    refine Go.via (fun t_ k_ => XS.aload H8.here hx rfl (hb hby at_78) rfl rfl k_) ?_
    show Go _ _ _ _ (T8.setTop (mkF m 80 #[.val (.int p1), .val (.int p2), .val (.int p3), .val (.int p4), .val (.int p5), .val (.int p6), .val (.int u1), .val (.int u2), .val (.int u3), .val (.int p4), .val (.int (p4 ^^^ (-1 : Int32))), .val (.int (p4 ^^^ (1431655765 : Int32))), .val (.ref a5), .unset, .unset, .unset] [(.ref a5)]))
    refine Go.via (fun t_ k_ => XS.iload H8.here hx rfl (hb hby at_80) rfl k_) ?_
    show Go _ _ _ _ (T8.setTop (mkF m 82 #[.val (.int p1), .val (.int p2), .val (.int p3), .val (.int p4), .val (.int p5), .val (.int p6), .val (.int u1), .val (.int u2), .val (.int u3), .val (.int p4), .val (.int (p4 ^^^ (-1 : Int32))), .val (.int (p4 ^^^ (1431655765 : Int32))), .val (.ref a5), .unset, .unset, .unset] [(.int u3), (.ref a5)]))
    refine Go.via (fun t_ k_ => XS.iload H8.here hx rfl (hb hby at_82) rfl k_) ?_
    show Go _ _ _ _ (T8.setTop (mkF m 84 #[.val (.int p1), .val (.int p2), .val (.int p3), .val (.int p4), .val (.int p5), .val (.int p6), .val (.int u1), .val (.int u2), .val (.int u3), .val (.int p4), .val (.int (p4 ^^^ (-1 : Int32))), .val (.int (p4 ^^^ (1431655765 : Int32))), .val (.ref a5), .unset, .unset, .unset] [(.int (p4 ^^^ (1431655765 : Int32))), (.int u3), (.ref a5)]))
    refine own_callV H8 hx hZ (C := "com/example/neardb/neardb/query/IntIntMap") (y := (⟨"com/example/neardb/neardb/query/IntIntMap", "put", "(II)V"⟩ : MethodName)) (a := a5) hown (hw _ (List.mem_of_getElem? (i := 21) rfl)) (hw _ (List.mem_of_getElem? (i := 22) rfl)) (hw _ (List.mem_of_getElem? (i := 24) rfl)) (hw _ (List.mem_of_getElem? (i := 23) rfl)) (hw _ (List.mem_of_getElem? (i := 5) rfl)) (hw _ (List.mem_of_getElem? (i := 25) rfl)) (by decide) MA8.1 (rmPut l Z a0 hw a5 ka va sz8 u3 (p4 ^^^ (1431655765 : Int32)) K8 V8 (ext (ext (fun _ => none) u1 p4) u2 (p4 ^^^ (-1 : Int32))) 3 h8 n0 MA8 IV8 (by decide) (own_ne1 g3) g_a5 gk gv (own_size sz8 2 (own_size' sz7 sz8 1 (own_size' (0 : Int32) sz7 0 (by decide) (by decide) q7) (by decide) q8) (by decide))) (g := (mkF m 84 #[.val (.int p1), .val (.int p2), .val (.int p3), .val (.int p4), .val (.int p5), .val (.int p6), .val (.int u1), .val (.int u2), .val (.int u3), .val (.int p4), .val (.int (p4 ^^^ (-1 : Int32))), .val (.int (p4 ^^^ (1431655765 : Int32))), .val (.ref a5), .unset, .unset, .unset] [(.int (p4 ^^^ (1431655765 : Int32))), (.int u3), (.ref a5)])) rfl (by rw [hml]; rfl) (argsL := [(.int u3), (.int (p4 ^^^ (1431655765 : Int32)))]) (rest := []) (lenOf pd_3 rfl) rfl 0 (Nat.le_of_eq rfl) (hb hby at_84) (by decide) (by decide) (by decide) (by decide) ?_
    rintro _ T9 h9 ⟨rfl, sz9, K9, V9, q9, MA9, IV9⟩ H9
    show Go _ _ _ _ (T9.setTop (mkF m 87 #[.val (.int p1), .val (.int p2), .val (.int p3), .val (.int p4), .val (.int p5), .val (.int p6), .val (.int u1), .val (.int u2), .val (.int u3), .val (.int p4), .val (.int (p4 ^^^ (-1 : Int32))), .val (.int (p4 ^^^ (1431655765 : Int32))), .val (.ref a5), .unset, .unset, .unset] []))
    refine Go.via (fun t_ k_ => XS.iload H9.here hx rfl (hb hby at_87) rfl k_) ?_
    show Go _ _ _ _ (T9.setTop (mkF m 89 #[.val (.int p1), .val (.int p2), .val (.int p3), .val (.int p4), .val (.int p5), .val (.int p6), .val (.int u1), .val (.int u2), .val (.int u3), .val (.int p4), .val (.int (p4 ^^^ (-1 : Int32))), .val (.int (p4 ^^^ (1431655765 : Int32))), .val (.ref a5), .unset, .unset, .unset] [(.int p6)]))
    refine Go.via (fun t_ k_ => XS.iconst H9.here hx rfl (hb hby at_89) k_) ?_
    show Go _ _ _ _ (T9.setTop (mkF m 90 #[.val (.int p1), .val (.int p2), .val (.int p3), .val (.int p4), .val (.int p5), .val (.int p6), .val (.int u1), .val (.int u2), .val (.int u3), .val (.int p4), .val (.int (p4 ^^^ (-1 : Int32))), .val (.int (p4 ^^^ (1431655765 : Int32))), .val (.ref a5), .unset, .unset, .unset] [(.int (3 : Int32)), (.int p6)]))
    refine Go.via (fun t_ k_ => XS.iand H9.here hx rfl (hb hby at_90) rfl k_) ?_
    show Go _ _ _ _ (T9.setTop (mkF m 91 #[.val (.int p1), .val (.int p2), .val (.int p3), .val (.int p4), .val (.int p5), .val (.int p6), .val (.int u1), .val (.int u2), .val (.int u3), .val (.int p4), .val (.int (p4 ^^^ (-1 : Int32))), .val (.int (p4 ^^^ (1431655765 : Int32))), .val (.ref a5), .unset, .unset, .unset] [(.int (p6 &&& (3 : Int32)))]))
    refine Go.via (fun t_ k_ => XS.istore H9.here hx rfl (hb hby at_91) rfl (l' := #[.val (.int p1), .val (.int p2), .val (.int p3), .val (.int p4), .val (.int p5), .val (.int p6), .val (.int u1), .val (.int u2), .val (.int u3), .val (.int p4), .val (.int (p4 ^^^ (-1 : Int32))), .val (.int (p4 ^^^ (1431655765 : Int32))), .val (.ref a5), .val (.int (p6 &&& (3 : Int32))), .unset, .unset]) rfl k_) ?_
    show Go _ _ _ _ (T9.setTop (mkF m 93 #[.val (.int p1), .val (.int p2), .val (.int p3), .val (.int p4), .val (.int p5), .val (.int p6), .val (.int u1), .val (.int u2), .val (.int u3), .val (.int p4), .val (.int (p4 ^^^ (-1 : Int32))), .val (.int (p4 ^^^ (1431655765 : Int32))), .val (.ref a5), .val (.int (p6 &&& (3 : Int32))), .unset, .unset] []))
    refine Go.via (fun t_ k_ => XS.iload H9.here hx rfl (hb hby at_93) rfl k_) ?_
    show Go _ _ _ _ (T9.setTop (mkF m 95 #[.val (.int p1), .val (.int p2), .val (.int p3), .val (.int p4), .val (.int p5), .val (.int p6), .val (.int u1), .val (.int u2), .val (.int u3), .val (.int p4), .val (.int (p4 ^^^ (-1 : Int32))), .val (.int (p4 ^^^ (1431655765 : Int32))), .val (.ref a5), .val (.int (p6 &&& (3 : Int32))), .unset, .unset] [(.int (p6 &&& (3 : Int32)))]))
    by_cases hc95 : (p6 &&& (3 : Int32)) = (0 : Int32)
    · refine Go.via (fun t_ k_ => XS.ifNo H9.here hx rfl (hb hby at_95) rfl ((if0 _ _).trans (teq hc95).2) k_) ?_
      show Go _ _ _ _ (T9.setTop (mkF m 98 #[.val (.int p1), .val (.int p2), .val (.int p3), .val (.int p4), .val (.int p5), .val (.int p6), .val (.int u1), .val (.int u2), .val (.int u3), .val (.int p4), .val (.int (p4 ^^^ (-1 : Int32))), .val (.int (p4 ^^^ (1431655765 : Int32))), .val (.ref a5), .val (.int (p6 &&& (3 : Int32))), .unset, .unset] []))
      refine Go.via (fun t_ k_ => XS.iload H9.here hx rfl (hb hby at_98) rfl k_) ?_
      show Go _ _ _ _ (T9.setTop (mkF m 100 #[.val (.int p1), .val (.int p2), .val (.int p3), .val (.int p4), .val (.int p5), .val (.int p6), .val (.int u1), .val (.int u2), .val (.int u3), .val (.int p4), .val (.int (p4 ^^^ (-1 : Int32))), .val (.int (p4 ^^^ (1431655765 : Int32))), .val (.ref a5), .val (.int (p6 &&& (3 : Int32))), .unset, .unset] [(.int u1)]))
      refine Go.via (fun t_ k_ => XS.istore H9.here hx rfl (hb hby at_100) rfl (l' := #[.val (.int p1), .val (.int p2), .val (.int p3), .val (.int p4), .val (.int p5), .val (.int p6), .val (.int u1), .val (.int u2), .val (.int u3), .val (.int p4), .val (.int (p4 ^^^ (-1 : Int32))), .val (.int (p4 ^^^ (1431655765 : Int32))), .val (.ref a5), .val (.int (p6 &&& (3 : Int32))), .val (.int u1), .unset]) rfl k_) ?_
      show Go _ _ _ _ (T9.setTop (mkF m 102 #[.val (.int p1), .val (.int p2), .val (.int p3), .val (.int p4), .val (.int p5), .val (.int p6), .val (.int u1), .val (.int u2), .val (.int u3), .val (.int p4), .val (.int (p4 ^^^ (-1 : Int32))), .val (.int (p4 ^^^ (1431655765 : Int32))), .val (.ref a5), .val (.int (p6 &&& (3 : Int32))), .val (.int u1), .unset] []))
      refine Go.via (fun t_ k_ => XS.goto H9.here hx rfl (pc0 := 102) (pc' := 141) rfl (hb hby at_102) (by decide) (by decide) k_) ?_
      show Go _ _ _ _ (T9.setTop (mkF m 141 #[.val (.int p1), .val (.int p2), .val (.int p3), .val (.int p4), .val (.int p5), .val (.int p6), .val (.int u1), .val (.int u2), .val (.int u3), .val (.int p4), .val (.int (p4 ^^^ (-1 : Int32))), .val (.int (p4 ^^^ (1431655765 : Int32))), .val (.ref a5), .val (.int (p6 &&& (3 : Int32))), .val (.int u1), .unset] []))
      exact J141 T9 h9 a5 ka va sz9 u1 u2 u3 u1 (p6 &&& (3 : Int32)) K9 V9 H9 MA9 IV9
    · refine Go.via (fun t_ k_ => XS.ifYes H9.here hx rfl (pc0 := 95) (pc' := 105) rfl (hb hby at_95) rfl ((if0 _ _).trans (feq hc95).2) (by decide) (by decide) k_) ?_
      show Go _ _ _ _ (T9.setTop (mkF m 105 #[.val (.int p1), .val (.int p2), .val (.int p3), .val (.int p4), .val (.int p5), .val (.int p6), .val (.int u1), .val (.int u2), .val (.int u3), .val (.int p4), .val (.int (p4 ^^^ (-1 : Int32))), .val (.int (p4 ^^^ (1431655765 : Int32))), .val (.ref a5), .val (.int (p6 &&& (3 : Int32))), .unset, .unset] []))
      refine Go.via (fun t_ k_ => XS.iload H9.here hx rfl (hb hby at_105) rfl k_) ?_
      show Go _ _ _ _ (T9.setTop (mkF m 107 #[.val (.int p1), .val (.int p2), .val (.int p3), .val (.int p4), .val (.int p5), .val (.int p6), .val (.int u1), .val (.int u2), .val (.int u3), .val (.int p4), .val (.int (p4 ^^^ (-1 : Int32))), .val (.int (p4 ^^^ (1431655765 : Int32))), .val (.ref a5), .val (.int (p6 &&& (3 : Int32))), .unset, .unset] [(.int (p6 &&& (3 : Int32)))]))
      refine Go.via (fun t_ k_ => XS.iconst H9.here hx rfl (hb hby at_107) k_) ?_
      show Go _ _ _ _ (T9.setTop (mkF m 108 #[.val (.int p1), .val (.int p2), .val (.int p3), .val (.int p4), .val (.int p5), .val (.int p6), .val (.int u1), .val (.int u2), .val (.int u3), .val (.int p4), .val (.int (p4 ^^^ (-1 : Int32))), .val (.int (p4 ^^^ (1431655765 : Int32))), .val (.ref a5), .val (.int (p6 &&& (3 : Int32))), .unset, .unset] [(.int (1 : Int32)), (.int (p6 &&& (3 : Int32)))]))
      by_cases hc108 : (p6 &&& (3 : Int32)) = (1 : Int32)
      · refine Go.via (fun t_ k_ => XS.icmpNo H9.here hx rfl (hb hby at_108) rfl ((teq hc108).2) k_) ?_
        show Go _ _ _ _ (T9.setTop (mkF m 111 #[.val (.int p1), .val (.int p2), .val (.int p3), .val (.int p4), .val (.int p5), .val (.int p6), .val (.int u1), .val (.int u2), .val (.int u3), .val (.int p4), .val (.int (p4 ^^^ (-1 : Int32))), .val (.int (p4 ^^^ (1431655765 : Int32))), .val (.ref a5), .val (.int (p6 &&& (3 : Int32))), .unset, .unset] []))
        refine Go.via (fun t_ k_ => XS.iload H9.here hx rfl (hb hby at_111) rfl k_) ?_
        show Go _ _ _ _ (T9.setTop (mkF m 113 #[.val (.int p1), .val (.int p2), .val (.int p3), .val (.int p4), .val (.int p5), .val (.int p6), .val (.int u1), .val (.int u2), .val (.int u3), .val (.int p4), .val (.int (p4 ^^^ (-1 : Int32))), .val (.int (p4 ^^^ (1431655765 : Int32))), .val (.ref a5), .val (.int (p6 &&& (3 : Int32))), .unset, .unset] [(.int u2)]))
        refine Go.via (fun t_ k_ => XS.istore H9.here hx rfl (hb hby at_113) rfl (l' := #[.val (.int p1), .val (.int p2), .val (.int p3), .val (.int p4), .val (.int p5), .val (.int p6), .val (.int u1), .val (.int u2), .val (.int u3), .val (.int p4), .val (.int (p4 ^^^ (-1 : Int32))), .val (.int (p4 ^^^ (1431655765 : Int32))), .val (.ref a5), .val (.int (p6 &&& (3 : Int32))), .val (.int u2), .unset]) rfl k_) ?_
        show Go _ _ _ _ (T9.setTop (mkF m 115 #[.val (.int p1), .val (.int p2), .val (.int p3), .val (.int p4), .val (.int p5), .val (.int p6), .val (.int u1), .val (.int u2), .val (.int u3), .val (.int p4), .val (.int (p4 ^^^ (-1 : Int32))), .val (.int (p4 ^^^ (1431655765 : Int32))), .val (.ref a5), .val (.int (p6 &&& (3 : Int32))), .val (.int u2), .unset] []))
        refine Go.via (fun t_ k_ => XS.goto H9.here hx rfl (pc0 := 115) (pc' := 141) rfl (hb hby at_115) (by decide) (by decide) k_) ?_
        show Go _ _ _ _ (T9.setTop (mkF m 141 #[.val (.int p1), .val (.int p2), .val (.int p3), .val (.int p4), .val (.int p5), .val (.int p6), .val (.int u1), .val (.int u2), .val (.int u3), .val (.int p4), .val (.int (p4 ^^^ (-1 : Int32))), .val (.int (p4 ^^^ (1431655765 : Int32))), .val (.ref a5), .val (.int (p6 &&& (3 : Int32))), .val (.int u2), .unset] []))
        exact J141 T9 h9 a5 ka va sz9 u1 u2 u3 u2 (p6 &&& (3 : Int32)) K9 V9 H9 MA9 IV9
      · refine Go.via (fun t_ k_ => XS.icmpYes H9.here hx rfl (pc0 := 108) (pc' := 118) rfl (hb hby at_108) rfl ((feq hc108).2) (by decide) (by decide) k_) ?_
        show Go _ _ _ _ (T9.setTop (mkF m 118 #[.val (.int p1), .val (.int p2), .val (.int p3), .val (.int p4), .val (.int p5), .val (.int p6), .val (.int u1), .val (.int u2), .val (.int u3), .val (.int p4), .val (.int (p4 ^^^ (-1 : Int32))), .val (.int (p4 ^^^ (1431655765 : Int32))), .val (.ref a5), .val (.int (p6 &&& (3 : Int32))), .unset, .unset] []))
        refine Go.via (fun t_ k_ => XS.iload H9.here hx rfl (hb hby at_118) rfl k_) ?_
        show Go _ _ _ _ (T9.setTop (mkF m 120 #[.val (.int p1), .val (.int p2), .val (.int p3), .val (.int p4), .val (.int p5), .val (.int p6), .val (.int u1), .val (.int u2), .val (.int u3), .val (.int p4), .val (.int (p4 ^^^ (-1 : Int32))), .val (.int (p4 ^^^ (1431655765 : Int32))), .val (.ref a5), .val (.int (p6 &&& (3 : Int32))), .unset, .unset] [(.int (p6 &&& (3 : Int32)))]))
        refine Go.via (fun t_ k_ => XS.iconst H9.here hx rfl (hb hby at_120) k_) ?_
        show Go _ _ _ _ (T9.setTop (mkF m 121 #[.val (.int p1), .val (.int p2), .val (.int p3), .val (.int p4), .val (.int p5), .val (.int p6), .val (.int u1), .val (.int u2), .val (.int u3), .val (.int p4), .val (.int (p4 ^^^ (-1 : Int32))), .val (.int (p4 ^^^ (1431655765 : Int32))), .val (.ref a5), .val (.int (p6 &&& (3 : Int32))), .unset, .unset] [(.int (2 : Int32)), (.int (p6 &&& (3 : Int32)))]))
        by_cases hc121 : (p6 &&& (3 : Int32)) = (2 : Int32)
        · refine Go.via (fun t_ k_ => XS.icmpNo H9.here hx rfl (hb hby at_121) rfl ((teq hc121).2) k_) ?_
          show Go _ _ _ _ (T9.setTop (mkF m 124 #[.val (.int p1), .val (.int p2), .val (.int p3), .val (.int p4), .val (.int p5), .val (.int p6), .val (.int u1), .val (.int u2), .val (.int u3), .val (.int p4), .val (.int (p4 ^^^ (-1 : Int32))), .val (.int (p4 ^^^ (1431655765 : Int32))), .val (.ref a5), .val (.int (p6 &&& (3 : Int32))), .unset, .unset] []))
          refine Go.via (fun t_ k_ => XS.iload H9.here hx rfl (hb hby at_124) rfl k_) ?_
          show Go _ _ _ _ (T9.setTop (mkF m 126 #[.val (.int p1), .val (.int p2), .val (.int p3), .val (.int p4), .val (.int p5), .val (.int p6), .val (.int u1), .val (.int u2), .val (.int u3), .val (.int p4), .val (.int (p4 ^^^ (-1 : Int32))), .val (.int (p4 ^^^ (1431655765 : Int32))), .val (.ref a5), .val (.int (p6 &&& (3 : Int32))), .unset, .unset] [(.int u3)]))
          refine Go.via (fun t_ k_ => XS.istore H9.here hx rfl (hb hby at_126) rfl (l' := #[.val (.int p1), .val (.int p2), .val (.int p3), .val (.int p4), .val (.int p5), .val (.int p6), .val (.int u1), .val (.int u2), .val (.int u3), .val (.int p4), .val (.int (p4 ^^^ (-1 : Int32))), .val (.int (p4 ^^^ (1431655765 : Int32))), .val (.ref a5), .val (.int (p6 &&& (3 : Int32))), .val (.int u3), .unset]) rfl k_) ?_
          show Go _ _ _ _ (T9.setTop (mkF m 128 #[.val (.int p1), .val (.int p2), .val (.int p3), .val (.int p4), .val (.int p5), .val (.int p6), .val (.int u1), .val (.int u2), .val (.int u3), .val (.int p4), .val (.int (p4 ^^^ (-1 : Int32))), .val (.int (p4 ^^^ (1431655765 : Int32))), .val (.ref a5), .val (.int (p6 &&& (3 : Int32))), .val (.int u3), .unset] []))
          refine Go.via (fun t_ k_ => XS.goto H9.here hx rfl (pc0 := 128) (pc' := 141) rfl (hb hby at_128) (by decide) (by decide) k_) ?_
          show Go _ _ _ _ (T9.setTop (mkF m 141 #[.val (.int p1), .val (.int p2), .val (.int p3), .val (.int p4), .val (.int p5), .val (.int p6), .val (.int u1), .val (.int u2), .val (.int u3), .val (.int p4), .val (.int (p4 ^^^ (-1 : Int32))), .val (.int (p4 ^^^ (1431655765 : Int32))), .val (.ref a5), .val (.int (p6 &&& (3 : Int32))), .val (.int u3), .unset] []))
          exact J141 T9 h9 a5 ka va sz9 u1 u2 u3 u3 (p6 &&& (3 : Int32)) K9 V9 H9 MA9 IV9
        · refine Go.via (fun t_ k_ => XS.icmpYes H9.here hx rfl (pc0 := 121) (pc' := 131) rfl (hb hby at_121) rfl ((feq hc121).2) (by decide) (by decide) k_) ?_
          show Go _ _ _ _ (T9.setTop (mkF m 131 #[.val (.int p1), .val (.int p2), .val (.int p3), .val (.int p4), .val (.int p5), .val (.int p6), .val (.int u1), .val (.int u2), .val (.int u3), .val (.int p4), .val (.int (p4 ^^^ (-1 : Int32))), .val (.int (p4 ^^^ (1431655765 : Int32))), .val (.ref a5), .val (.int (p6 &&& (3 : Int32))), .unset, .unset] []))
          refine Go.via (fun t_ k_ => XS.iload H9.here hx rfl (hb hby at_131) rfl k_) ?_
          show Go _ _ _ _ (T9.setTop (mkF m 133 #[.val (.int p1), .val (.int p2), .val (.int p3), .val (.int p4), .val (.int p5), .val (.int p6), .val (.int u1), .val (.int u2), .val (.int u3), .val (.int p4), .val (.int (p4 ^^^ (-1 : Int32))), .val (.int (p4 ^^^ (1431655765 : Int32))), .val (.ref a5), .val (.int (p6 &&& (3 : Int32))), .unset, .unset] [(.int u1)]))
          refine Go.via (fun t_ k_ => XS.iload H9.here hx rfl (hb hby at_133) rfl k_) ?_
          show Go _ _ _ _ (T9.setTop (mkF m 135 #[.val (.int p1), .val (.int p2), .val (.int p3), .val (.int p4), .val (.int p5), .val (.int p6), .val (.int u1), .val (.int u2), .val (.int u3), .val (.int p4), .val (.int (p4 ^^^ (-1 : Int32))), .val (.int (p4 ^^^ (1431655765 : Int32))), .val (.ref a5), .val (.int (p6 &&& (3 : Int32))), .unset, .unset] [(.int p6), (.int u1)]))
          refine Go.via (fun t_ k_ => XS.bipush H9.here hx rfl (hb hby at_135) k_) ?_
          show Go _ _ _ _ (T9.setTop (mkF m 137 #[.val (.int p1), .val (.int p2), .val (.int p3), .val (.int p4), .val (.int p5), .val (.int p6), .val (.int u1), .val (.int u2), .val (.int u3), .val (.int p4), .val (.int (p4 ^^^ (-1 : Int32))), .val (.int (p4 ^^^ (1431655765 : Int32))), .val (.ref a5), .val (.int (p6 &&& (3 : Int32))), .unset, .unset] [(.int (-64 : Int32)), (.int p6), (.int u1)]))
          refine Go.via (fun t_ k_ => XS.iand H9.here hx rfl (hb hby at_137) rfl k_) ?_
          show Go _ _ _ _ (T9.setTop (mkF m 138 #[.val (.int p1), .val (.int p2), .val (.int p3), .val (.int p4), .val (.int p5), .val (.int p6), .val (.int u1), .val (.int u2), .val (.int u3), .val (.int p4), .val (.int (p4 ^^^ (-1 : Int32))), .val (.int (p4 ^^^ (1431655765 : Int32))), .val (.ref a5), .val (.int (p6 &&& (3 : Int32))), .unset, .unset] [(.int (p6 &&& (-64 : Int32))), (.int u1)]))
          refine Go.via (fun t_ k_ => XS.ixor H9.here hx rfl (hb hby at_138) rfl k_) ?_
          show Go _ _ _ _ (T9.setTop (mkF m 139 #[.val (.int p1), .val (.int p2), .val (.int p3), .val (.int p4), .val (.int p5), .val (.int p6), .val (.int u1), .val (.int u2), .val (.int u3), .val (.int p4), .val (.int (p4 ^^^ (-1 : Int32))), .val (.int (p4 ^^^ (1431655765 : Int32))), .val (.ref a5), .val (.int (p6 &&& (3 : Int32))), .unset, .unset] [(.int (u1 ^^^ (p6 &&& (-64 : Int32))))]))
          refine Go.via (fun t_ k_ => XS.istore H9.here hx rfl (hb hby at_139) rfl (l' := #[.val (.int p1), .val (.int p2), .val (.int p3), .val (.int p4), .val (.int p5), .val (.int p6), .val (.int u1), .val (.int u2), .val (.int u3), .val (.int p4), .val (.int (p4 ^^^ (-1 : Int32))), .val (.int (p4 ^^^ (1431655765 : Int32))), .val (.ref a5), .val (.int (p6 &&& (3 : Int32))), .val (.int (u1 ^^^ (p6 &&& (-64 : Int32)))), .unset]) rfl k_) ?_
          show Go _ _ _ _ (T9.setTop (mkF m 141 #[.val (.int p1), .val (.int p2), .val (.int p3), .val (.int p4), .val (.int p5), .val (.int p6), .val (.int u1), .val (.int u2), .val (.int u3), .val (.int p4), .val (.int (p4 ^^^ (-1 : Int32))), .val (.int (p4 ^^^ (1431655765 : Int32))), .val (.ref a5), .val (.int (p6 &&& (3 : Int32))), .val (.int (u1 ^^^ (p6 &&& (-64 : Int32)))), .unset] []))
          exact J141 T9 h9 a5 ka va sz9 u1 u2 u3 (u1 ^^^ (p6 &&& (-64 : Int32))) (p6 &&& (3 : Int32)) K9 V9 H9 MA9 IV9
  show Go _ _ _ _ (T0.setTop (mkF m 0 #[.val (.int p1), .val (.int p2), .val (.int p3), .val (.int p4), .val (.int p5), .val (.int p6), .unset, .unset, .unset, .unset, .unset, .unset, .unset, .unset, .unset, .unset] []))
  refine Go.via (fun t_ k_ => XS.iloadN H0.here hx rfl (hb hby at_0) rfl k_) ?_
  show Go _ _ _ _ (T0.setTop (mkF m 1 #[.val (.int p1), .val (.int p2), .val (.int p3), .val (.int p4), .val (.int p5), .val (.int p6), .unset, .unset, .unset, .unset, .unset, .unset, .unset, .unset, .unset, .unset] [(.int p1)]))
  refine own_ldcI H0 hx hZ hown (hw _ (List.mem_of_getElem? (i := 0) rfl)) (g := (mkF m 1 #[.val (.int p1), .val (.int p2), .val (.int p3), .val (.int p4), .val (.int p5), .val (.int p6), .unset, .unset, .unset, .unset, .unset, .unset, .unset, .unset, .unset, .unset] [(.int p1)])) rfl (hb hby at_1) ?_
  show Go _ _ _ _ (T0.setTop (mkF m 3 #[.val (.int p1), .val (.int p2), .val (.int p3), .val (.int p4), .val (.int p5), .val (.int p6), .unset, .unset, .unset, .unset, .unset, .unset, .unset, .unset, .unset, .unset] [(.int (2147483647 : Int32)), (.int p1)]))
  refine Go.via (fun t_ k_ => XS.iand H0.here hx rfl (hb hby at_3) rfl k_) ?_
  show Go _ _ _ _ (T0.setTop (mkF m 4 #[.val (.int p1), .val (.int p2), .val (.int p3), .val (.int p4), .val (.int p5), .val (.int p6), .unset, .unset, .unset, .unset, .unset, .unset, .unset, .unset, .unset, .unset] [(.int (p1 &&& (2147483647 : Int32)))]))
  refine Go.via (fun t_ k_ => XS.istore H0.here hx rfl (hb hby at_4) rfl (l' := #[.val (.int p1), .val (.int p2), .val (.int p3), .val (.int p4), .val (.int p5), .val (.int p6), .val (.int (p1 &&& (2147483647 : Int32))), .unset, .unset, .unset, .unset, .unset, .unset, .unset, .unset, .unset]) rfl k_) ?_
  show Go _ _ _ _ (T0.setTop (mkF m 6 #[.val (.int p1), .val (.int p2), .val (.int p3), .val (.int p4), .val (.int p5), .val (.int p6), .val (.int (p1 &&& (2147483647 : Int32))), .unset, .unset, .unset, .unset, .unset, .unset, .unset, .unset, .unset] []))
  refine Go.via (fun t_ k_ => XS.iload H0.here hx rfl (hb hby at_6) rfl k_) ?_
  show Go _ _ _ _ (T0.setTop (mkF m 8 #[.val (.int p1), .val (.int p2), .val (.int p3), .val (.int p4), .val (.int p5), .val (.int p6), .val (.int (p1 &&& (2147483647 : Int32))), .unset, .unset, .unset, .unset, .unset, .unset, .unset, .unset, .unset] [(.int (p1 &&& (2147483647 : Int32)))]))
  refine Go.via (fun t_ k_ => XS.iloadN H0.here hx rfl (hb hby at_8) rfl k_) ?_
  show Go _ _ _ _ (T0.setTop (mkF m 9 #[.val (.int p1), .val (.int p2), .val (.int p3), .val (.int p4), .val (.int p5), .val (.int p6), .val (.int (p1 &&& (2147483647 : Int32))), .unset, .unset, .unset, .unset, .unset, .unset, .unset, .unset, .unset] [(.int p2), (.int (p1 &&& (2147483647 : Int32)))]))
  refine own_ldcI H0 hx hZ hown (hw _ (List.mem_of_getElem? (i := 1) rfl)) (g := (mkF m 9 #[.val (.int p1), .val (.int p2), .val (.int p3), .val (.int p4), .val (.int p5), .val (.int p6), .val (.int (p1 &&& (2147483647 : Int32))), .unset, .unset, .unset, .unset, .unset, .unset, .unset, .unset, .unset] [(.int p2), (.int (p1 &&& (2147483647 : Int32)))])) rfl (hb hby at_9) ?_
  show Go _ _ _ _ (T0.setTop (mkF m 11 #[.val (.int p1), .val (.int p2), .val (.int p3), .val (.int p4), .val (.int p5), .val (.int p6), .val (.int (p1 &&& (2147483647 : Int32))), .unset, .unset, .unset, .unset, .unset, .unset, .unset, .unset, .unset] [(.int (2147483584 : Int32)), (.int p2), (.int (p1 &&& (2147483647 : Int32)))]))
  refine Go.via (fun t_ k_ => XS.iand H0.here hx rfl (hb hby at_11) rfl k_) ?_
  show Go _ _ _ _ (T0.setTop (mkF m 12 #[.val (.int p1), .val (.int p2), .val (.int p3), .val (.int p4), .val (.int p5), .val (.int p6), .val (.int (p1 &&& (2147483647 : Int32))), .unset, .unset, .unset, .unset, .unset, .unset, .unset, .unset, .unset] [(.int (p2 &&& (2147483584 : Int32))), (.int (p1 &&& (2147483647 : Int32)))]))
  refine Go.via (fun t_ k_ => XS.ixor H0.here hx rfl (hb hby at_12) rfl k_) ?_
  show Go _ _ _ _ (T0.setTop (mkF m 13 #[.val (.int p1), .val (.int p2), .val (.int p3), .val (.int p4), .val (.int p5), .val (.int p6), .val (.int (p1 &&& (2147483647 : Int32))), .unset, .unset, .unset, .unset, .unset, .unset, .unset, .unset, .unset] [(.int ((p1 &&& (2147483647 : Int32)) ^^^ (p2 &&& (2147483584 : Int32))))]))
  refine Go.via (fun t_ k_ => XS.istore H0.here hx rfl (hb hby at_13) rfl (l' := #[.val (.int p1), .val (.int p2), .val (.int p3), .val (.int p4), .val (.int p5), .val (.int p6), .val (.int (p1 &&& (2147483647 : Int32))), .val (.int ((p1 &&& (2147483647 : Int32)) ^^^ (p2 &&& (2147483584 : Int32)))), .unset, .unset, .unset, .unset, .unset, .unset, .unset, .unset]) rfl k_) ?_
  show Go _ _ _ _ (T0.setTop (mkF m 15 #[.val (.int p1), .val (.int p2), .val (.int p3), .val (.int p4), .val (.int p5), .val (.int p6), .val (.int (p1 &&& (2147483647 : Int32))), .val (.int ((p1 &&& (2147483647 : Int32)) ^^^ (p2 &&& (2147483584 : Int32)))), .unset, .unset, .unset, .unset, .unset, .unset, .unset, .unset] []))
  refine Go.via (fun t_ k_ => XS.iloadN H0.here hx rfl (hb hby at_15) rfl k_) ?_
  show Go _ _ _ _ (T0.setTop (mkF m 16 #[.val (.int p1), .val (.int p2), .val (.int p3), .val (.int p4), .val (.int p5), .val (.int p6), .val (.int (p1 &&& (2147483647 : Int32))), .val (.int ((p1 &&& (2147483647 : Int32)) ^^^ (p2 &&& (2147483584 : Int32)))), .unset, .unset, .unset, .unset, .unset, .unset, .unset, .unset] [(.int p3)]))
  refine Go.via (fun t_ k_ => XS.iconst H0.here hx rfl (hb hby at_16) k_) ?_
  show Go _ _ _ _ (T0.setTop (mkF m 17 #[.val (.int p1), .val (.int p2), .val (.int p3), .val (.int p4), .val (.int p5), .val (.int p6), .val (.int (p1 &&& (2147483647 : Int32))), .val (.int ((p1 &&& (2147483647 : Int32)) ^^^ (p2 &&& (2147483584 : Int32)))), .unset, .unset, .unset, .unset, .unset, .unset, .unset, .unset] [(.int (1 : Int32)), (.int p3)]))
  refine Go.via (fun t_ k_ => XS.iand H0.here hx rfl (hb hby at_17) rfl k_) ?_
  show Go _ _ _ _ (T0.setTop (mkF m 18 #[.val (.int p1), .val (.int p2), .val (.int p3), .val (.int p4), .val (.int p5), .val (.int p6), .val (.int (p1 &&& (2147483647 : Int32))), .val (.int ((p1 &&& (2147483647 : Int32)) ^^^ (p2 &&& (2147483584 : Int32)))), .unset, .unset, .unset, .unset, .unset, .unset, .unset, .unset] [(.int (p3 &&& (1 : Int32)))]))
  by_cases hc18 : (p3 &&& (1 : Int32)) = (0 : Int32)
  · refine Go.via (fun t_ k_ => XS.ifNo H0.here hx rfl (hb hby at_18) rfl ((if0 _ _).trans (teq hc18).2) k_) ?_
    show Go _ _ _ _ (T0.setTop (mkF m 21 #[.val (.int p1), .val (.int p2), .val (.int p3), .val (.int p4), .val (.int p5), .val (.int p6), .val (.int (p1 &&& (2147483647 : Int32))), .val (.int ((p1 &&& (2147483647 : Int32)) ^^^ (p2 &&& (2147483584 : Int32)))), .unset, .unset, .unset, .unset, .unset, .unset, .unset, .unset] []))
    refine Go.via (fun t_ k_ => XS.iload H0.here hx rfl (hb hby at_21) rfl k_) ?_
    show Go _ _ _ _ (T0.setTop (mkF m 23 #[.val (.int p1), .val (.int p2), .val (.int p3), .val (.int p4), .val (.int p5), .val (.int p6), .val (.int (p1 &&& (2147483647 : Int32))), .val (.int ((p1 &&& (2147483647 : Int32)) ^^^ (p2 &&& (2147483584 : Int32)))), .unset, .unset, .unset, .unset, .unset, .unset, .unset, .unset] [(.int (p1 &&& (2147483647 : Int32)))]))
    refine Go.via (fun t_ k_ => XS.iloadN H0.here hx rfl (hb hby at_23) rfl k_) ?_
    show Go _ _ _ _ (T0.setTop (mkF m 24 #[.val (.int p1), .val (.int p2), .val (.int p3), .val (.int p4), .val (.int p5), .val (.int p6), .val (.int (p1 &&& (2147483647 : Int32))), .val (.int ((p1 &&& (2147483647 : Int32)) ^^^ (p2 &&& (2147483584 : Int32)))), .unset, .unset, .unset, .unset, .unset, .unset, .unset, .unset] [(.int p3), (.int (p1 &&& (2147483647 : Int32)))]))
    refine own_ldcI H0 hx hZ hown (hw _ (List.mem_of_getElem? (i := 1) rfl)) (g := (mkF m 24 #[.val (.int p1), .val (.int p2), .val (.int p3), .val (.int p4), .val (.int p5), .val (.int p6), .val (.int (p1 &&& (2147483647 : Int32))), .val (.int ((p1 &&& (2147483647 : Int32)) ^^^ (p2 &&& (2147483584 : Int32)))), .unset, .unset, .unset, .unset, .unset, .unset, .unset, .unset] [(.int p3), (.int (p1 &&& (2147483647 : Int32)))])) rfl (hb hby at_24) ?_
    show Go _ _ _ _ (T0.setTop (mkF m 26 #[.val (.int p1), .val (.int p2), .val (.int p3), .val (.int p4), .val (.int p5), .val (.int p6), .val (.int (p1 &&& (2147483647 : Int32))), .val (.int ((p1 &&& (2147483647 : Int32)) ^^^ (p2 &&& (2147483584 : Int32)))), .unset, .unset, .unset, .unset, .unset, .unset, .unset, .unset] [(.int (2147483584 : Int32)), (.int p3), (.int (p1 &&& (2147483647 : Int32)))]))
    refine Go.via (fun t_ k_ => XS.iand H0.here hx rfl (hb hby at_26) rfl k_) ?_
    show Go _ _ _ _ (T0.setTop (mkF m 27 #[.val (.int p1), .val (.int p2), .val (.int p3), .val (.int p4), .val (.int p5), .val (.int p6), .val (.int (p1 &&& (2147483647 : Int32))), .val (.int ((p1 &&& (2147483647 : Int32)) ^^^ (p2 &&& (2147483584 : Int32)))), .unset, .unset, .unset, .unset, .unset, .unset, .unset, .unset] [(.int (p3 &&& (2147483584 : Int32))), (.int (p1 &&& (2147483647 : Int32)))]))
    refine Go.via (fun t_ k_ => XS.ixor H0.here hx rfl (hb hby at_27) rfl k_) ?_
    show Go _ _ _ _ (T0.setTop (mkF m 28 #[.val (.int p1), .val (.int p2), .val (.int p3), .val (.int p4), .val (.int p5), .val (.int p6), .val (.int (p1 &&& (2147483647 : Int32))), .val (.int ((p1 &&& (2147483647 : Int32)) ^^^ (p2 &&& (2147483584 : Int32)))), .unset, .unset, .unset, .unset, .unset, .unset, .unset, .unset] [(.int ((p1 &&& (2147483647 : Int32)) ^^^ (p3 &&& (2147483584 : Int32))))]))
    refine Go.via (fun t_ k_ => XS.goto H0.here hx rfl (pc0 := 28) (pc' := 35) rfl (hb hby at_28) (by decide) (by decide) k_) ?_
    show Go _ _ _ _ (T0.setTop (mkF m 35 #[.val (.int p1), .val (.int p2), .val (.int p3), .val (.int p4), .val (.int p5), .val (.int p6), .val (.int (p1 &&& (2147483647 : Int32))), .val (.int ((p1 &&& (2147483647 : Int32)) ^^^ (p2 &&& (2147483584 : Int32)))), .unset, .unset, .unset, .unset, .unset, .unset, .unset, .unset] [(.int ((p1 &&& (2147483647 : Int32)) ^^^ (p3 &&& (2147483584 : Int32))))]))
    exact J35 T0 (p1 &&& (2147483647 : Int32)) ((p1 &&& (2147483647 : Int32)) ^^^ (p2 &&& (2147483584 : Int32))) ((p1 &&& (2147483647 : Int32)) ^^^ (p3 &&& (2147483584 : Int32))) H0 (own_pos p1) (own_pos' _ p2 (own_pos p1)) (own_pos' _ p3 (own_pos p1))
  · refine Go.via (fun t_ k_ => XS.ifYes H0.here hx rfl (pc0 := 18) (pc' := 31) rfl (hb hby at_18) rfl ((if0 _ _).trans (feq hc18).2) (by decide) (by decide) k_) ?_
    show Go _ _ _ _ (T0.setTop (mkF m 31 #[.val (.int p1), .val (.int p2), .val (.int p3), .val (.int p4), .val (.int p5), .val (.int p6), .val (.int (p1 &&& (2147483647 : Int32))), .val (.int ((p1 &&& (2147483647 : Int32)) ^^^ (p2 &&& (2147483584 : Int32)))), .unset, .unset, .unset, .unset, .unset, .unset, .unset, .unset] []))
    refine Go.via (fun t_ k_ => XS.iloadN H0.here hx rfl (hb hby at_31) rfl k_) ?_
    show Go _ _ _ _ (T0.setTop (mkF m 32 #[.val (.int p1), .val (.int p2), .val (.int p3), .val (.int p4), .val (.int p5), .val (.int p6), .val (.int (p1 &&& (2147483647 : Int32))), .val (.int ((p1 &&& (2147483647 : Int32)) ^^^ (p2 &&& (2147483584 : Int32)))), .unset, .unset, .unset, .unset, .unset, .unset, .unset, .unset] [(.int p3)]))
    refine own_ldcI H0 hx hZ hown (hw _ (List.mem_of_getElem? (i := 0) rfl)) (g := (mkF m 32 #[.val (.int p1), .val (.int p2), .val (.int p3), .val (.int p4), .val (.int p5), .val (.int p6), .val (.int (p1 &&& (2147483647 : Int32))), .val (.int ((p1 &&& (2147483647 : Int32)) ^^^ (p2 &&& (2147483584 : Int32)))), .unset, .unset, .unset, .unset, .unset, .unset, .unset, .unset] [(.int p3)])) rfl (hb hby at_32) ?_
    show Go _ _ _ _ (T0.setTop (mkF m 34 #[.val (.int p1), .val (.int p2), .val (.int p3), .val (.int p4), .val (.int p5), .val (.int p6), .val (.int (p1 &&& (2147483647 : Int32))), .val (.int ((p1 &&& (2147483647 : Int32)) ^^^ (p2 &&& (2147483584 : Int32)))), .unset, .unset, .unset, .unset, .unset, .unset, .unset, .unset] [(.int (2147483647 : Int32)), (.int p3)]))
    refine Go.via (fun t_ k_ => XS.iand H0.here hx rfl (hb hby at_34) rfl k_) ?_
    show Go _ _ _ _ (T0.setTop (mkF m 35 #[.val (.int p1), .val (.int p2), .val (.int p3), .val (.int p4), .val (.int p5), .val (.int p6), .val (.int (p1 &&& (2147483647 : Int32))), .val (.int ((p1 &&& (2147483647 : Int32)) ^^^ (p2 &&& (2147483584 : Int32)))), .unset, .unset, .unset, .unset, .unset, .unset, .unset, .unset] [(.int (p3 &&& (2147483647 : Int32)))]))
    exact J35 T0 (p1 &&& (2147483647 : Int32)) ((p1 &&& (2147483647 : Int32)) ^^^ (p2 &&& (2147483584 : Int32))) (p3 &&& (2147483647 : Int32)) H0 (own_pos p1) (own_pos' _ p2 (own_pos p1)) (own_pos p3)
set_option maxRecDepth 65536 in
set_option maxHeartbeats 40000000 in
theorem comes_1 {Post : Tables → Env → Array Value → State → Outcome → State → Prop} (hpost : ∀ tb e args s v u, (limb_1_1.after args s (.returned v) u = true ∧ limb_1_2.after args s (.returned v) u = true ∧ True) → FrameEnd s (.returned v) u (Jvm.fieldLocs frame_1_writes args s ++ Jvm.arrayLocs frame_1_arrays args s ++ Jvm.staticLocs frame_1_statics s) 16 384 → Post tb e args s (.returned v) u) :
    ArmFor flags0 classFile x code maxLocals ret World_1 tables_1 room_1 Calls_1 rest_1 Pre_1 Post := by
  intro l hfl _ _ p e ha hc hk s m args below hf hA hF happ hP
  obtain ⟨hcalls, hrest, hpre⟩ := hP
  obtain ⟨-, -, -, hnamed, -, -, -, hat⟩ := (Spec.applies_iff hf).mp happ
  obtain ⟨hg, hn⟩ := and_e (Cond.before_iff.mp (show (Jvm.Cond.and given_1 narrow_1).before args s = true from hpre))
  obtain ⟨g0, g1⟩ := and_e hg
  obtain ⟨i0, r0⟩ := and_e g1
  obtain ⟨i1, r1⟩ := and_e r0
  obtain ⟨i2, r2⟩ := and_e r1
  obtain ⟨i3, r3⟩ := and_e r2
  obtain ⟨i4, r4⟩ := and_e r3
  obtain ⟨w0, w1, w2, w3, w4, w5, rfl⟩ : ∃ w0 w1 w2 w3 w4 w5 : Value, args = #[w0, w1, w2, w3, w4, w5] := by
    have hs : args.size = 6 := by simpa [Cond.value, given_1] using g0
    obtain ⟨L⟩ := args
    match L, hs with
    | [w0, w1, w2, w3, w4, w5], _ => exact ⟨w0, w1, w2, w3, w4, w5, rfl⟩
  have hw := fun d (hd : d ∈ tables_1) => atoms_spec (ws := Jvm.Cond.code x code maxLocals ret :: tables_1) hat d (List.mem_cons_of_mem _ hd)
  have hfit : Fit s := fun {y c} hc i hi => by
    obtain ⟨ha, rfl⟩ := Array.getElem?_eq_some_iff.mp hc
    have q := List.all_eq_true.mp ((Array.all_eq_true_iff_forall_mem.mp hF) _ (Array.getElem_mem ha)) i (List.mem_range.mpr hi)
    simpa [Array.getElem?_eq_getElem hi] using q
  obtain ⟨v0, e0⟩ := is_v i0
  obtain rfl : w0 = (.int v0) := Option.some.inj e0
  obtain ⟨v1, e1⟩ := is_v i1
  obtain rfl : w1 = (.int v1) := Option.some.inj e1
  obtain ⟨v2, e2⟩ := is_v i2
  obtain rfl : w2 = (.int v2) := Option.some.inj e2
  obtain ⟨v3, e3⟩ := is_v i3
  obtain rfl : w3 = (.int v3) := Option.some.inj e3
  obtain ⟨v4, e4⟩ := is_v i4
  obtain rfl : w4 = (.int v4) := Option.some.inj e4
  obtain ⟨v5, e5⟩ := is_v r4
  obtain rfl : w5 = (.int v5) := Option.some.inj e5
  obtain ⟨n, o, h1, h2, h3, _, L, rfl, ⟨rfl, N⟩, hq⟩ := rm0 l s _ hw v0 v1 v2 v3 v4 v5 s.heap s.heap.size (Nat.le_refl _) tables_1 p e ha hc hk s m _ below hf ((Spec.applies_iff_loose hf).mp happ).1 ⟨rfl, State.Warmed39.refl s, rfl⟩ trivial
  refine ⟨n, _, h1, h2, h3, hpost _ _ _ _ _ _ ⟨Cond.after_iff.mpr rfl, Cond.after_iff.mpr (eq_i res_at (Term.int_eval (1)) rfl), trivial⟩ ⟨hq.1, hq.2.1, (hq.2.2.sift fun y hy => Or.inr (N y hy)).mono (by decide) (by decide)⟩⟩
theorem main_1_1 : Claimed_1_1 := comes_1 fun _ _ _ _ _ _ h hF => ⟨h.1, hF⟩
theorem main_1_2 : Claimed_1_2 := comes_1 fun _ _ _ _ _ _ h hF => ⟨h.2.1, hF⟩
end Jvm.Pilot.@@N@@
namespace Jvm.Pilot.@@N@@
open Jvm Jvm.ClassFile Sem Op Lib Jvm.Free Jvm.Stand Jvm.Pilot.@@N@@.Jvm.D
/-! MADE BY PROGRAM (witnessworld.py) out of the Statement's table words and the real class files: 10 classes; the members and pool entries that the words name. The judged class is class 1, her method 1. -/
namespace start1
open Jvm.ClassFile
def u (s : String) : CpInfo := .utf8 (stringToUtf16 s)
/-- a pool by its gaps: so many unusable entries, then the entry; so many at the end -/
def gap : Nat → List CpInfo → List CpInfo
  | 0, r => r
  | n + 1, r => .unusable :: gap n r
def poolList (es : List (Nat × CpInfo)) (last : Nat) : List CpInfo := es.foldr (fun e r => gap e.1 (e.2 :: r)) (gap last [])
def pool (es : List (Nat × CpInfo)) (last : Nat) : Array CpInfo := ⟨poolList es last⟩
def fileOf (pool : Array CpInfo) (this : Nat) (attrs : Array Attribute := #[]) (ms : Array MethodInfo := #[]) (fl : Nat := 33) (sup : Nat := 0) (ifs : Array Nat := #[]) (fds : Array FieldInfo := #[]) : ClassFile where
  minorVersion := 0
  majorVersion := 65
  constantPool := pool
  accessFlags := fl
  thisClass := this
  superClass := sup
  interfaces := ifs
  fields := fds
  methods := ms
  attributes := attrs
def plain (name : String) (sup : Option ClassId) : Class where
  name := name
  kind := .ordinary
  loader := none
  accessFlags := 33
  super := sup
  interfaces := #[]
  cf := none
  fields := #[]
  methods := #[]
  instanceTypes := #[]
  staticTypes := #[]
  resolved := #[]
  callSites := []
  init := .initialized
  statics := none
  mirror := none

def pool0 : Array CpInfo := pool [(5, u "<init>"), (0, u "()V"), (1, .class_ 10), (1, u "java/lang/Object")] 113

def k0c0 : Code := { maxStack := 0, maxLocals := 1, code := object_method_1_code, exceptionTable := #[], attributes := #[] }
def k0m0 : Method := { name := "<init>", desc := "()V", sig := { parameters := [], returnType := none }, accessFlags := 1, code := some k0c0 }
/-- java/lang/Object -/
def k0 : Class := { plain "java/lang/Object" none with
  accessFlags := 33
  interfaces := #[]
  cf := some (fileOf pool0 8 #[] #[{ accessFlags := 1, nameIndex := 5, descriptorIndex := 6, attributes := #[] }] 33 0 #[] #[])
  fields := #[]
  methods := #[k0m0]
  instanceTypes := #[]
  staticTypes := #[]
  resolved := Array.replicate 124 none
  statics := none }

def pool1 : Array CpInfo := pool [(2, .class_ 4), (0, .nameAndType 5 6), (0, u "java/lang/Object"), (0, u "<init>"), (0, u "()V"), (0, .integer 2147483647), (0, .integer 2147483584), (0, .integer 1431655765), (0, .class_ 11), (0, u "com/example/neardb/neardb/query/IntIntMap"), (0, .methodref 10 3), (0, .methodref 10 14), (0, .nameAndType 15 16), (0, u "put"), (0, u "(II)V"), (0, .methodref 10 18), (0, .nameAndType 19 20), (0, u "get"), (0, u "(II)I"), (0, .class_ 22), (0, u "com/example/neardb/neardb/query/IntIntMapGetPinLaw"), (2, u "law"), (0, u "(IIIIII)Z")] 3

def k1m0 : Method := { name := "<init>", desc := "()V", sig := { parameters := [], returnType := none }, accessFlags := 1, code := none }
def k1c1 : Code := { maxStack := 3, maxLocals := 16, code := code, exceptionTable := #[], attributes := #[] }
def k1m1 : Method := { name := "law", desc := "(IIIIII)Z", sig := { parameters := [.int, .int, .int, .int, .int, .int], returnType := some .boolean }, accessFlags := 9, code := some k1c1 }
/-- com/example/neardb/neardb/query/IntIntMapGetPinLaw -/
def k1 : Class := { plain "com/example/neardb/neardb/query/IntIntMapGetPinLaw" (some 0) with
  accessFlags := 49
  interfaces := #[]
  cf := some (fileOf pool1 21 #[] #[{ accessFlags := 1, nameIndex := 5, descriptorIndex := 6, attributes := #[] }, { accessFlags := 9, nameIndex := 25, descriptorIndex := 26, attributes := #[] }] 49 2 #[] #[])
  fields := #[]
  methods := #[k1m0, k1m1]
  instanceTypes := #[]
  staticTypes := #[]
  resolved := Array.replicate 30 none
  statics := none }

def pool2 : Array CpInfo := pool [(1, .methodref 2 3), (0, .class_ 4), (0, .nameAndType 5 6), (0, u "java/lang/Object"), (0, u "<init>"), (0, u "()V"), (0, .class_ 8), (0, u "com/example/neardb/neardb/query/IntIntMap"), (0, .fieldref 7 10), (0, .nameAndType 11 12), (0, u "keys"), (0, u "[I"), (0, .fieldref 7 14), (0, .nameAndType 15 12), (0, u "values"), (0, .methodref 17 18), (0, .class_ 19), (0, .nameAndType 20 21), (0, u "java/util/Arrays"), (0, u "fill"), (0, u "([II)V"), (0, .integer 2654435769), (0, .fieldref 7 24), (0, .nameAndType 25 26), (0, u "size"), (0, u "I"), (5, u "put"), (0, u "(II)V"), (0, u "EMPTY"), (2, u "INITIAL_CAPACITY"), (1, u "SPREAD"), (2, u "get"), (0, u "(II)I")] 4

def k2c0 : Code := { maxStack := 2, maxLocals := 1, code := prog_74_method_1_code, exceptionTable := #[], attributes := #[] }
def k2m0 : Method := { name := "<init>", desc := "()V", sig := { parameters := [], returnType := none }, accessFlags := 0, code := some k2c0 }
def k2c1 : Code := { maxStack := 2, maxLocals := 6, code := prog_74_method_2_code, exceptionTable := #[], attributes := #[] }
def k2m1 : Method := { name := "get", desc := "(II)I", sig := { parameters := [.int, .int], returnType := some .int }, accessFlags := 0, code := some k2c1 }
def k2c2 : Code := { maxStack := 3, maxLocals := 5, code := prog_74_method_3_code, exceptionTable := #[], attributes := #[] }
def k2m2 : Method := { name := "put", desc := "(II)V", sig := { parameters := [.int, .int], returnType := none }, accessFlags := 0, code := some k2c2 }
/-- com/example/neardb/neardb/query/IntIntMap -/
def k2 : Class := { plain "com/example/neardb/neardb/query/IntIntMap" (some 0) with
  accessFlags := 48
  interfaces := #[]
  cf := some (fileOf pool2 7 #[] #[{ accessFlags := 0, nameIndex := 5, descriptorIndex := 6, attributes := #[] }, { accessFlags := 0, nameIndex := 42, descriptorIndex := 43, attributes := #[] }, { accessFlags := 0, nameIndex := 32, descriptorIndex := 33, attributes := #[] }] 48 2 #[] #[{ accessFlags := 26, nameIndex := 34, descriptorIndex := 26, attributes := #[] }, { accessFlags := 26, nameIndex := 37, descriptorIndex := 26, attributes := #[] }, { accessFlags := 26, nameIndex := 39, descriptorIndex := 26, attributes := #[] }, { accessFlags := 2, nameIndex := 11, descriptorIndex := 12, attributes := #[] }, { accessFlags := 2, nameIndex := 15, descriptorIndex := 12, attributes := #[] }, { accessFlags := 2, nameIndex := 25, descriptorIndex := 26, attributes := #[] }])
  fields := #[{ name := "EMPTY", type := .int, accessFlags := 26, slot := 0, constantValue := 0 }, { name := "INITIAL_CAPACITY", type := .int, accessFlags := 26, slot := 1, constantValue := 0 }, { name := "SPREAD", type := .int, accessFlags := 26, slot := 2, constantValue := 0 }, { name := "keys", type := (.array .int), accessFlags := 2, slot := 0, constantValue := 0 }, { name := "values", type := (.array .int), accessFlags := 2, slot := 1, constantValue := 0 }, { name := "size", type := .int, accessFlags := 2, slot := 2, constantValue := 0 }]
  methods := #[k2m0, k2m1, k2m2]
  instanceTypes := #[(.array .int), (.array .int), .int]
  staticTypes := #[.int, .int, .int]
  resolved := Array.replicate 48 none
  statics := none }

def pool3 : Array CpInfo := pool [(2, .class_ 4), (1, u "java/lang/Object"), (0, u "<init>"), (0, u "()V"), (7, .class_ 16), (1, u "java/util/Arrays"), (57, .class_ 76), (1, u "java/util/Arrays$NaturalOrder"), (36, .class_ 115), (1, u "java/util/Arrays$LegacyMergeSort"), (1, u "Z"), (257, .class_ 376), (0, u "java/util/Arrays$ArrayList"), (68, u "$assertionsDisabled"), (269, u "MIN_ARRAY_SORT_GRAN"), (0, u "I"), (2, u "INSERTIONSORT_THRESHOLD"), (120, u "fill"), (4, u "([II)V"), (129, .class_ 976), (0, u "java/util/Arrays$ArrayItr")] 52

def k3m0 : Method := { name := "<init>", desc := "()V", sig := { parameters := [], returnType := none }, accessFlags := 2, code := none }
def k3c1 : Code := { maxStack := 3, maxLocals := 4, code := jdk_65_method_103_code, exceptionTable := #[], attributes := #[] }
def k3m1 : Method := { name := "fill", desc := "([II)V", sig := { parameters := [(.array .int), .int], returnType := none }, accessFlags := 9, code := some k3c1 }
/-- java/util/Arrays -/
def k3 : Class := { plain "java/util/Arrays" (some 0) with
  accessFlags := 49
  interfaces := #[]
  cf := some (fileOf pool3 14 #[.nestMembers #[975, 375, 113, 74]] #[{ accessFlags := 2, nameIndex := 5, descriptorIndex := 6, attributes := #[] }, { accessFlags := 9, nameIndex := 840, descriptorIndex := 845, attributes := #[] }] 49 2 #[] #[{ accessFlags := 26, nameIndex := 715, descriptorIndex := 716, attributes := #[] }, { accessFlags := 26, nameIndex := 719, descriptorIndex := 716, attributes := #[] }, { accessFlags := 4120, nameIndex := 445, descriptorIndex := 117, attributes := #[] }])
  fields := #[{ name := "MIN_ARRAY_SORT_GRAN", type := .int, accessFlags := 26, slot := 0, constantValue := 0 }, { name := "INSERTIONSORT_THRESHOLD", type := .int, accessFlags := 26, slot := 1, constantValue := 0 }, { name := "$assertionsDisabled", type := .boolean, accessFlags := 4120, slot := 2, constantValue := 0 }]
  methods := #[k3m0, k3m1]
  instanceTypes := #[]
  staticTypes := #[.int, .int, .boolean]
  resolved := Array.replicate 1029 none
  statics := none }

def pool4 : Array CpInfo := pool [(1, u "java/lang/Cloneable"), (0, .class_ 1), (0, u "java/lang/Object"), (0, .class_ 3)] 3

/-- java/lang/Cloneable -/
def k4 : Class := { plain "java/lang/Cloneable" (some 0) with
  accessFlags := 1537
  interfaces := #[]
  cf := some (fileOf pool4 2 #[] #[] 1537 4 #[] #[])
  fields := #[]
  methods := #[]
  instanceTypes := #[]
  staticTypes := #[]
  resolved := Array.replicate 8 none
  statics := none }

def pool5 : Array CpInfo := pool [(1, u "java/io/Serializable"), (0, .class_ 1), (0, u "java/lang/Object"), (0, .class_ 3)] 3

/-- java/io/Serializable -/
def k5 : Class := { plain "java/io/Serializable" (some 0) with
  accessFlags := 1537
  interfaces := #[]
  cf := some (fileOf pool5 2 #[] #[] 1537 4 #[] #[])
  fields := #[]
  methods := #[]
  instanceTypes := #[]
  staticTypes := #[]
  resolved := Array.replicate 8 none
  statics := none }

/-- the primitive byte -/
def k6 : Class := { plain "byte" none with kind := .primitive 'B', accessFlags := 0x411 }
/-- [B -/
def k7 : Class := { plain "[B" (some 0) with kind := .array 6 .byte, interfaces := #[4, 5], accessFlags := 1041 }

/-- the primitive int -/
def k8 : Class := { plain "int" none with kind := .primitive 'I', accessFlags := 0x411 }
/-- [I -/
def k9 : Class := { plain "[I" (some 0) with kind := .array 8 .int, interfaces := #[4, 5], accessFlags := 1041 }

def heap : Heap := #[]
def classes : Array Class := #[k0, k1, k2, k3, k4, k5, k6, k7, k8, k9]
def interned : List (Array UInt16 × Addr) := []
def slotsUsed : Nat := 0
def theMethod : MethodId := ⟨1, 1⟩
def args0 : Array Value := #[.int 5, .int 6, .int 7, .int 8, .int 9, .int 10]
def aboutOver (below : List Frame) : State where
  vm := { classes := classes, interned := interned.toArray }
  heap := heap
  slotsUsed := slotsUsed
  threads := #[{ frames := .invoking theMethod args0 :: below }]
def below0 : List Frame := [.native { method := ⟨0, 0⟩, args := #[] }]
def about1 : State := aboutOver below0
def p0 : Program := .bare "" "" ""
def e0 : Env := launch0.env 0 0 0
theorem w_frames : about1.frames = Frame.invoking theMethod args0 :: below0 := rfl
set_option maxRecDepth 65536 in
theorem w_args : argsFit about1.vm theMethod args0 = true := by decide +kernel
set_option maxRecDepth 65536 in
theorem w_heap : heapFits about1 = true := by decide +kernel
set_option maxRecDepth 65536 in
theorem w_runnable : about1.curStatus? = some .runnable := by decide +kernel
set_option maxRecDepth 65536 in
theorem w_alone : about1.alone = true := by decide +kernel
set_option maxRecDepth 65536 in
theorem w_named : about1.methodNamed? x = some theMethod := by decide +kernel
set_option maxRecDepth 65536 in
theorem w_hears : about1.hears theMethod below0 = true := by decide +kernel
set_option maxRecDepth 65536 in
theorem w_ripe : about1.ripe theMethod args0 below0 = true := by decide +kernel
theorem w_running : about1.status = .running := rfl
set_option maxRecDepth 65536 in
theorem w_room : about1.hasRoom e0.platform room_1 = true :=
  launch0.hasRoom_least _ room_1 (by decide +kernel) (by decide +kernel) (by decide +kernel) (by decide +kernel) (by decide +kernel) (by decide +kernel)
theorem allAtoms_all (ts : List Jvm.Cond) (a : Array Jvm.Value) (st : Jvm.State) : (allAtoms ts).before a st = ts.all (fun c => c.before a st) := by
  induction ts with
  | nil => rfl
  | cons c t ih =>
    show (Jvm.Cond.and c (allAtoms t)).before a st = _
    rw [Jvm.Cond.before_and, ih, List.all_cons]
def words1 : List Jvm.Cond := Jvm.Cond.code x code maxLocals ret :: tables_1
/-- a 'code' word, met by the world's own term for the bytes: nothing is compared byte by byte -/
theorem code_word {y : MethodName} {bytes : ByteArray} {mx : Nat} {rt : Option FieldType} {a : Array Value} {s : State} {m : MethodId} {meth : Method} {c : Code} (h1 : s.methodNamed? y = some m) (h2 : s.vm.method? m = some meth) (h3 : meth.code = some c) (h4 : c.code = bytes)
    (h5 : (c.maxLocals == mx && c.exceptionTable.isEmpty && decide (c.maxStack ≤ mostOperands) && decide (meth.sig.returnType = rt) && !meth.locks && decide (parseMethodDescriptor y.desc = some meth.sig)) = true) : (Jvm.Cond.code y bytes mx rt).before a s = true := by
  simp only [Bool.and_eq_true, beq_iff_eq, Bool.not_eq_true', decide_eq_true_eq] at h5
  obtain ⟨⟨⟨⟨⟨g1, g2⟩, g3⟩, g4⟩, g5⟩, g6⟩ := h5
  simp [Cond.before, Cond.holds, Cond.value, h1, h2, h3, h4, g1, g2, g3, g4, g5, g6]
def isCode : Jvm.Cond → Bool
  | .code _ _ _ _ => true
  | _ => false
theorem all_split {L : List Jvm.Cond} {P : Jvm.Cond → Bool} (h1 : L.all (fun c => isCode c || P c) = true) (h2 : ∀ c ∈ L.filter isCode, P c = true) : L.all P = true := by
  refine List.all_eq_true.mpr fun c hc => ?_
  have h := List.all_eq_true.mp h1 c hc
  rcases Bool.eq_false_or_eq_true (isCode c) with hi | hi
  · exact h2 c (List.mem_filter.mpr ⟨hc, hi⟩)
  · simpa [hi] using h
set_option maxRecDepth 65536 in
theorem w_c0 : (Jvm.Cond.code x code maxLocals ret).before args0 about1 = true := code_word (m := ⟨1, 1⟩) (meth := k1m1) (c := k1c1) (by decide +kernel) rfl rfl rfl (by decide +kernel)
set_option maxRecDepth 65536 in
theorem w_c1 : (Jvm.Cond.code ({ cls := "com/example/neardb/neardb/query/IntIntMap", name := "<init>", desc := "()V" } : Jvm.MethodName) prog_74_method_1_code (1 : Nat) (Option.none : Option Jvm.ClassFile.FieldType)).before args0 about1 = true := code_word (m := ⟨2, 0⟩) (meth := k2m0) (c := k2c0) (by decide +kernel) rfl rfl rfl (by decide +kernel)
set_option maxRecDepth 65536 in
theorem w_c2 : (Jvm.Cond.code ({ cls := "java/lang/Object", name := "<init>", desc := "()V" } : Jvm.MethodName) object_method_1_code (1 : Nat) (Option.none : Option Jvm.ClassFile.FieldType)).before args0 about1 = true := code_word (m := ⟨0, 0⟩) (meth := k0m0) (c := k0c0) (by decide +kernel) rfl rfl rfl (by decide +kernel)
set_option maxRecDepth 65536 in
theorem w_c3 : (Jvm.Cond.code ({ cls := "java/util/Arrays", name := "fill", desc := "([II)V" } : Jvm.MethodName) jdk_65_method_103_code (4 : Nat) (Option.none : Option Jvm.ClassFile.FieldType)).before args0 about1 = true := code_word (m := ⟨3, 1⟩) (meth := k3m1) (c := k3c1) (by decide +kernel) rfl rfl rfl (by decide +kernel)
set_option maxRecDepth 65536 in
theorem w_c4 : (Jvm.Cond.code ({ cls := "com/example/neardb/neardb/query/IntIntMap", name := "put", desc := "(II)V" } : Jvm.MethodName) prog_74_method_3_code (5 : Nat) (Option.none : Option Jvm.ClassFile.FieldType)).before args0 about1 = true := code_word (m := ⟨2, 2⟩) (meth := k2m2) (c := k2c2) (by decide +kernel) rfl rfl rfl (by decide +kernel)
set_option maxRecDepth 65536 in
theorem w_c5 : (Jvm.Cond.code ({ cls := "com/example/neardb/neardb/query/IntIntMap", name := "get", desc := "(II)I" } : Jvm.MethodName) prog_74_method_2_code (6 : Nat) (Option.some Jvm.ClassFile.FieldType.int)).before args0 about1 = true := code_word (m := ⟨2, 1⟩) (meth := k2m1) (c := k2c1) (by decide +kernel) rfl rfl rfl (by decide +kernel)
def codes1 : List Jvm.Cond := [Jvm.Cond.code x code maxLocals ret, Jvm.Cond.code ({ cls := "com/example/neardb/neardb/query/IntIntMap", name := "<init>", desc := "()V" } : Jvm.MethodName) prog_74_method_1_code (1 : Nat) (Option.none : Option Jvm.ClassFile.FieldType), Jvm.Cond.code ({ cls := "java/lang/Object", name := "<init>", desc := "()V" } : Jvm.MethodName) object_method_1_code (1 : Nat) (Option.none : Option Jvm.ClassFile.FieldType), Jvm.Cond.code ({ cls := "java/util/Arrays", name := "fill", desc := "([II)V" } : Jvm.MethodName) jdk_65_method_103_code (4 : Nat) (Option.none : Option Jvm.ClassFile.FieldType), Jvm.Cond.code ({ cls := "com/example/neardb/neardb/query/IntIntMap", name := "put", desc := "(II)V" } : Jvm.MethodName) prog_74_method_3_code (5 : Nat) (Option.none : Option Jvm.ClassFile.FieldType), Jvm.Cond.code ({ cls := "com/example/neardb/neardb/query/IntIntMap", name := "get", desc := "(II)I" } : Jvm.MethodName) prog_74_method_2_code (6 : Nat) (Option.some Jvm.ClassFile.FieldType.int)]
set_option maxRecDepth 65536 in
theorem codes_eq : words1.filter isCode = codes1 := rfl
theorem w_codes : ∀ c ∈ words1.filter isCode, c.before args0 about1 = true := by
  rw [codes_eq]
  intro c hc
  simp only [codes1, List.mem_cons, List.not_mem_nil, or_false] at hc
  rcases hc with rfl | rfl | rfl | rfl | rfl | rfl
  · exact w_c0
  · exact w_c1
  · exact w_c2
  · exact w_c3
  · exact w_c4
  · exact w_c5
set_option maxRecDepth 65536 in
theorem w_t1 : (words1.take 24).all (fun c => isCode c || c.before args0 about1) = true := by decide +kernel
set_option maxRecDepth 65536 in
theorem w_t2 : (words1.drop 24).all (fun c => isCode c || c.before args0 about1) = true := by decide +kernel
theorem w_tables : (allAtoms (Jvm.Cond.code x code maxLocals ret :: tables_1)).before args0 about1 = true := by
  rw [allAtoms_all]
  show words1.all (fun c => c.before args0 about1) = true
  refine all_split ?_ w_codes
  rw [← List.take_append_drop 24 words1, List.all_append, w_t1, w_t2]
  rfl
set_option maxRecDepth 65536 in
theorem w_case : (Jvm.Cond.and given_1 narrow_1).before args0 about1 = true := by decide +kernel
theorem w_applies : (headSpec (Jvm.Cond.code x code maxLocals ret :: tables_1) room_1).applies x e0.platform about1 = true :=
  (Spec.applies_iff w_frames).mpr ⟨w_running, w_runnable, w_alone, w_named, w_hears, w_ripe, w_room, w_tables⟩
theorem atStart : AtStart classFile x code maxLocals ret World_1 tables_1 room_1 Calls_1 rest_1 Pre_1 launch0 p0 e0 about1 theMethod args0 below0 :=
  ⟨lists_1, trivial, launch0.admits_env _ _ _, launch0.least_env, fairChoices_fair.cas, fairChoices_fair.clock, w_frames, w_args, w_heap, w_applies, trivial, trivial, w_case⟩
end start1
theorem witness_1 : WitnessClaimed_1 := ⟨start1.p0, start1.e0, start1.about1, start1.theMethod, start1.args0, start1.below0, start1.atStart⟩
end Jvm.Pilot.@@N@@
