import JvmDerived
import JvmDerived.Pilot.@@N@@Statement
import JvmDerived.Pilot.@@N@@Code
set_option linter.unusedVariables false
set_option linter.unusedSimpArgs false
namespace Jvm.Pilot.@@N@@
open Jvm Jvm.ClassFile Sem Op Lib Jvm.Free Jvm.Stand Jvm.LawKit Jvm.RoadKit Bundle Jvm.Pilot.@@N@@.Jvm.D
/-! THE WALK IN CONTINUATION FORM. Here: the run stands in T, its heap is h, nothing old was written. Go: from the state F the run ends as Q says. CM: a callee's contract. -/
def Here (p : Program) (l : Launch) (e : Env) (R : Room) (s : State) (m : MethodId) (args : Array Value) (below : List Frame) (meth : Method) (c : Code) (n0 : Nat) (T : State) (h : Heap) (k n : Nat) : Prop :=
  ∃ locs, Stand p l e R s m args below meth c T locs k n ∧ T.heap = h ∧ Fr n0 locs
def Fini (below : List Frame) (s : State) (n0 : Nat) (Q : Option Value → Heap → Prop) (K N : Nat) (t : State) (o : Outcome) : Prop :=
  t.status = .running ∧ Ended t below o ∧ ∃ v L, o = .returned v ∧ (Q v t.heap ∧ Fr n0 L) ∧ FrameEnd s o t L K N
def Go (p : Program) (e : Env) (below : List Frame) (Φ : State → Outcome → Prop) (F : State) : Prop :=
  ∃ t o, Steps p.tables e below F t ∧ Φ t o
def CM (l : Launch) (Z : State) (y : MethodName) (code : ByteArray) (maxL : Nat) (ret : Option FieldType) (R : Room) (as : Array Value) (h0 : Heap) (n0 : Nat) (Q : Option Value → Heap → Prop) : Prop :=
  ∀ ws, MetFree l y (head1 (Jvm.Cond.code y code maxL ret :: ws) R) (fun a U => a = as ∧ Z.Warmed39 U.vm ∧ U.heap = h0) (fun _ _ _ _ _ => True) (fun _ U o U' => ∃ v L, o = .returned v ∧ (Q v U'.heap ∧ Fr n0 L) ∧ FrameEnd U o U' L R.cells R.slots)
section Own
variable {p : Program} {l : Launch} {e : Env} {R : Room} {s : State} {m : MethodId} {args : Array Value} {below : List Frame} {meth : Method} {c : Code} {T : State} {h : Heap} {k n n0 K N : Nat} {Q : Option Value → Heap → Prop} {Z : State} {a0 : Array Value} {Φ : State → Outcome → Prop}
theorem Here.here (H : Here p l e R s m args below meth c n0 T h k n) : At T m c below := by obtain ⟨_, X, _, _⟩ := H; exact X.here
theorem Here.stand (H : Here p l e R s m args below meth c n0 T h k n) : ∃ locs, Stand p l e R s m args below meth c T locs k n ∧ T.heap = h ∧ Fr n0 locs := H
theorem Go.via {F F' : State} (st : ∀ t, Steps p.tables e below F' t → Steps p.tables e below F t) (g : Go p e below Φ F') : Go p e below Φ F := by
  obtain ⟨t, o, h1, r⟩ := g; exact ⟨t, o, st t h1, r⟩
theorem own_enter {y : MethodName} {code : ByteArray} {maxL : Nat} {ret : Option FieldType} {as : Array Value} {h0 : Heap} (hpl : plainFor y = true)
    (body : ∀ (p : Program) (e : Env) (s : State) (m : MethodId) (below : List Frame) (meth : Method) (c : Code) (T : State), p.tables.exec = Jvm.exec → c.code = code → c.maxLocals = maxL → s.vm.findClass y.cls = some m.cls → meth.name = y.name → Z.Warmed39 s.vm → meth.sig.returnType = ret → meth.locks = false → Here p l e R s m as below meth c n0 T h0 0 0 → Go p e below (Fini below s n0 Q R.cells R.slots) (T.setTop (entryFrame m as maxL))) :
    CM l Z y code maxL ret R as h0 n0 Q := by
  intro ws
  refine MetFree.of_bodySF hpl hisR ?_
  intro p e s m args below meth c s₁ Bd hml0 hP hK
  obtain ⟨rfl, hZ, hh⟩ := hP
  exact body p e s m below meth c s₁ Bd.exec Bd.bytes hml0 (findClass_of_methodNamed Bd.named) (name_of_methodNamed Bd.named Bd.method).1 hZ Bd.returns Bd.notSynchronized ⟨[], Stand.of_body Bd, by rw [← hh, Bd.state]; rfl, Fr.nil n0⟩
theorem Here.leave (H : Here p l e R s m args below meth c n0 T h k n) (hlk : meth.locks = false) {v : Option Value} (hv : meth.sig.returnType = none → v = none) (hQ : Q v h) (hk : k ≤ K) (hn : n ≤ N) {F : State}
    (st : ∀ fs, (∀ (f : JFrame) (acts : List Action), f.method = m → f.locked = none → f.entered = [] → (doReturn e (T.setTop f) acts v).1 = T.setFrames fs) → Steps p.tables e below F (T.setFrames fs)) : Go p e below (Fini below s n0 Q K N) F := by
  obtain ⟨locs, X, rfl, F0⟩ := H
  obtain ⟨fs, hr, hrun, hended, hW, hsame⟩ := X.leave (v := v) hv hlk
  exact ⟨_, _, st fs hr, hrun, hended, v, locs, rfl, ⟨hQ, F0⟩, ⟨_, rfl⟩, hW, hsame.mono hk hn⟩
theorem own_retV (H : Here p l e R s m args below meth c n0 T h k n) (hx : p.tables.exec = Jvm.exec) (hlk : meth.locks = false) (hret : meth.sig.returnType = none) {pc : Nat} {Ls : Array Slot} (hd : decode c.code pc = .ok (.return_, 1)) (hQ : Q none h) (hk : k ≤ K) (hn : n ≤ N) :
    Go p e below (Fini below s n0 Q K N) (T.setTop (mkF m pc Ls [])) := by
  obtain ⟨locs, X, r1, r2⟩ := H.stand
  exact H.leave hlk (fun _ => rfl) hQ hk hn fun fs hr => X.returnOut hx hret hd hr
theorem own_retI (H : Here p l e R s m args below meth c n0 T h k n) (hx : p.tables.exec = Jvm.exec) (hlk : meth.locks = false) (hret : meth.sig.returnType = some .int) {pc : Nat} {Ls : Array Slot} {z : Int32} {rest : List Value} (hd : decode c.code pc = .ok (.ireturn, 1)) (hQ : Q (some (.int z)) h) (hk : k ≤ K) (hn : n ≤ N) :
    Go p e below (Fini below s n0 Q K N) (T.setTop (mkF m pc Ls (.int z :: rest))) := by
  obtain ⟨locs, X, r1, r2⟩ := H.stand
  exact H.leave hlk (fun q => by rw [hret] at q; cases q) hQ hk hn fun fs hr => retOut X hx hret rfl (Or.inl ⟨rfl, Or.inl rfl, z, rfl⟩) hd hr
theorem own_retN (H : Here p l e R s m args below meth c n0 T h k n) (hx : p.tables.exec = Jvm.exec) (hlk : meth.locks = false) {t : FieldType} (ht : t = .boolean ∨ t = .byte ∨ t = .char ∨ t = .short) (hret : meth.sig.returnType = some t) {pc : Nat} {Ls : Array Slot} {z : Int32} {rest : List Value} (hd : decode c.code pc = .ok (.ireturn, 1)) (hQ : Q (some (.int (nar t z))) h) (hk : k ≤ K) (hn : n ≤ N) :
    Go p e below (Fini below s n0 Q K N) (T.setTop (mkF m pc Ls (.int z :: rest))) := by
  obtain ⟨locs, X, r1, r2⟩ := H.stand
  exact H.leave hlk (fun q => by rw [hret] at q; cases q) hQ hk hn fun fs hr => retN X hx hret ht hd hr
theorem own_retL (H : Here p l e R s m args below meth c n0 T h k n) (hx : p.tables.exec = Jvm.exec) (hlk : meth.locks = false) (hret : meth.sig.returnType = some .long) {pc : Nat} {Ls : Array Slot} {z : Int64} {rest : List Value} (hd : decode c.code pc = .ok (.lreturn, 1)) (hQ : Q (some (.long z)) h) (hk : k ≤ K) (hn : n ≤ N) :
    Go p e below (Fini below s n0 Q K N) (T.setTop (mkF m pc Ls (.long z :: rest))) := by
  obtain ⟨locs, X, r1, r2⟩ := H.stand
  exact H.leave hlk (fun q => by rw [hret] at q; cases q) hQ hk hn fun fs hr => retOut X hx hret rfl (Or.inr (Or.inl ⟨rfl, rfl, z, rfl⟩)) hd hr
theorem own_retA (H : Here p l e R s m args below meth c n0 T h k n) (hx : p.tables.exec = Jvm.exec) (hlk : meth.locks = false) {t : FieldType} (ht : t.isReference = true) (hret : meth.sig.returnType = some t) {pc : Nat} {Ls : Array Slot} {w : Value} {rest : List Value} (hn' : narrow t w = w) (hw : w.isRef = true) (hd : decode c.code pc = .ok (.areturn, 1)) (hQ : Q (some w) h) (hk : k ≤ K) (hn : n ≤ N) :
    Go p e below (Fini below s n0 Q K N) (T.setTop (mkF m pc Ls (w :: rest))) := by
  obtain ⟨locs, X, r1, r2⟩ := H.stand
  exact H.leave hlk (fun q => by rw [hret] at q; cases q) hQ hk hn fun fs hr => retOut X hx hret hn' (Or.inr (Or.inr (Or.inr (Or.inr ⟨rfl, ht, hw⟩)))) hd hr
/-! calls -/
theorem own_callS (H : Here p l e R s m args below meth c n0 T h k n) (hx : p.tables.exec = Jvm.exec) (hZ : Z.Warmed39 s.vm) {own : String} {index : Nat} {y : MethodName} {bytes : ByteArray} {maxL : Nat} {ret : Option FieldType} {rm : Room} {argsL rest : List Value} {Q' : Option Value → Heap → Prop}
    (hown : s.vm.findClass own = some m.cls) (w1 : (Jvm.Cond.methodLink own index y).before a0 Z = true) (w2 : (Jvm.Cond.static y).before a0 Z = true) (w3 : (Jvm.Cond.initialized y.cls).before a0 Z = true) (w4 : (Jvm.Cond.code y bytes maxL ret).before a0 Z = true)
    (hy : y.cls ≠ "java/lang/invoke/MethodHandle" ∧ y.cls ≠ "java/lang/invoke/VarHandle") (hM : CM l Z y bytes maxL ret rm argsL.toArray h n0 Q')
    {g : JFrame} (hg : g.method = m) (hsize : g.locals.size = c.maxLocals) (hlen : ∀ sig, parseMethodDescriptor y.desc = some sig → argsL.length = sig.parameters.length)
    (hstack : g.stack = argsL.reverse ++ rest) (W : Nat) (hW : 2 * g.monitorRoom + (rest.map fun v => v.category).sum ≤ W) (hd : decode c.code g.pc = .ok (.invokestatic index, 3))
    (hf : rm.frames + 1 ≤ R.frames) (hl : W + (maxL + 11) + rm.locals ≤ R.locals) (hc : k + rm.cells ≤ R.cells) (hs : n + rm.slots ≤ R.slots)
    (next : ∀ v T' h', Q' v h' → Here p l e R s m args below meth c n0 T' h' (k + rm.cells) (n + rm.slots) → Go p e below Φ (T'.setTop { g with pc := g.pc + 3, stack := v.toList ++ rest })) :
    Go p e below Φ (T.setTop g) := by
  obtain ⟨locs, X, rfl, F⟩ := H
  obtain ⟨v, _, ⟨T3, L3, k3, n3⟩, -, X3, ⟨Lc3, hQ3, l3, y3, z3⟩, st3⟩ := Jvm.LawKit.callS X hx (y := y) hown (mvT hZ w1) (mvT hZ w2) (mvT hZ w3) (mvT hZ w4) hy (backOf (W := W) (Q := fun v h L => Q' v h ∧ Fr n0 L) (hM []) hZ w4 w3 hf hl) (g := g) hg hsize (argsL := argsL) (rest := rest) hlen hstack hW hd (fun _ _ => ⟨rfl, rfl, hc, hs⟩)
  dsimp only [Pt.U, Pt.locs, Pt.cells, Pt.slots] at X3 l3 y3 z3 st3 hQ3
  subst l3 y3 z3
  exact Go.via st3 (next v T3 T3.heap hQ3.1 ⟨_, X3, rfl, F.app hQ3.2⟩)
theorem own_callI (H : Here p l e R s m args below meth c n0 T h k n) (hx : p.tables.exec = Jvm.exec) (hZ : Z.Warmed39 s.vm) {own : String} {index : Nat} {y : MethodName} {bytes : ByteArray} {maxL : Nat} {rm : Room} {a : Addr} {argsL rest : List Value} {Q' : Option Value → Heap → Prop}
    (hy1 : y.name = "<init>") (hown : s.vm.findClass own = some m.cls) (w1 : (Jvm.Cond.methodLink own index y).before a0 Z = true) (w2 : (Jvm.Cond.instanceMethod y).before a0 Z = true) (w3 : (Jvm.Cond.initialized y.cls).before a0 Z = true) (w4 : (Jvm.Cond.code y bytes maxL none).before a0 Z = true)
    (hy : y.cls ≠ "java/lang/invoke/MethodHandle" ∧ y.cls ≠ "java/lang/invoke/VarHandle") (hM : CM l Z y bytes maxL none rm (Value.ref a :: argsL).toArray h n0 Q')
    {g : JFrame} (hg : g.method = m) (hsize : g.locals.size = c.maxLocals) (hlen : ∀ sig, parseMethodDescriptor y.desc = some sig → argsL.length = sig.parameters.length)
    (hstack : g.stack = argsL.reverse ++ .ref a :: rest) (W : Nat) (hW : 2 * g.monitorRoom + (rest.map fun v => v.category).sum ≤ W) (hd : decode c.code g.pc = .ok (.invokespecial index, 3))
    (hf : rm.frames + 1 ≤ R.frames) (hl : W + (maxL + 11) + rm.locals ≤ R.locals) (hc : k + rm.cells ≤ R.cells) (hs : n + rm.slots ≤ R.slots)
    (next : ∀ v T' h', Q' v h' → Here p l e R s m args below meth c n0 T' h' (k + rm.cells) (n + rm.slots) → Go p e below Φ (T'.setTop { g with pc := g.pc + 3, stack := v.toList ++ rest })) :
    Go p e below Φ (T.setTop g) := by
  obtain ⟨locs, X, rfl, F⟩ := H
  obtain ⟨v, _, ⟨T3, L3, k3, n3⟩, -, X3, ⟨Lc3, hQ3, l3, y3, z3⟩, st3⟩ := X.specialBack hx (y := y) hy1 hown (mvT hZ w1) (mvT hZ w2) (mvT hZ w4) hy (backOf (W := W) (Q := fun v h L => Q' v h ∧ Fr n0 L) (hM []) hZ w4 w3 hf hl) (g := g) hg hsize (Steps.refl _) (a := a) (argsL := argsL) (rest := rest) hlen hstack hW hd (fun _ _ => ⟨rfl, rfl, hc, hs⟩)
  dsimp only [Pt.U, Pt.locs, Pt.cells, Pt.slots] at X3 l3 y3 z3 st3 hQ3
  subst l3 y3 z3
  exact Go.via (fun t q => st3.trans q) (next v T3 T3.heap hQ3.1 ⟨_, X3, rfl, F.app hQ3.2⟩)
theorem own_callV (H : Here p l e R s m args below meth c n0 T h k n) (hx : p.tables.exec = Jvm.exec) (hZ : Z.Warmed39 s.vm) {own C : String} {index : Nat} {y : MethodName} {bytes : ByteArray} {maxL : Nat} {ret : Option FieldType} {rm : Room} {a : Addr} {argsL rest : List Value} {Q' : Option Value → Heap → Prop}
    (hown : s.vm.findClass own = some m.cls) (w1 : (Jvm.Cond.methodLink own index y).before a0 Z = true) (w2 : (Jvm.Cond.declares y).before a0 Z = true) (w3 : (Jvm.Cond.selects C y y).before a0 Z = true) (w4 : (Jvm.Cond.instanceMethod y).before a0 Z = true) (w5 : (Jvm.Cond.initialized y.cls).before a0 Z = true) (w6 : (Jvm.Cond.code y bytes maxL ret).before a0 Z = true)
    (hy : y.cls ≠ "java/lang/invoke/MethodHandle" ∧ y.cls ≠ "java/lang/invoke/VarHandle") (hE : Exa Z h a C) (hM : CM l Z y bytes maxL ret rm (Value.ref a :: argsL).toArray h n0 Q')
    {g : JFrame} (hg : g.method = m) (hsize : g.locals.size = c.maxLocals) (hlen : ∀ sig, parseMethodDescriptor y.desc = some sig → argsL.length = sig.parameters.length)
    (hstack : g.stack = argsL.reverse ++ .ref a :: rest) (W : Nat) (hW : 2 * g.monitorRoom + (rest.map fun v => v.category).sum ≤ W) (hd : decode c.code g.pc = .ok (.invokevirtual index, 3))
    (hf : rm.frames + 1 ≤ R.frames) (hl : W + (maxL + 11) + rm.locals ≤ R.locals) (hc : k + rm.cells ≤ R.cells) (hs : n + rm.slots ≤ R.slots)
    (next : ∀ v T' h', Q' v h' → Here p l e R s m args below meth c n0 T' h' (k + rm.cells) (n + rm.slots) → Go p e below Φ (T'.setTop { g with pc := g.pc + 3, stack := v.toList ++ rest })) :
    Go p e below Φ (T.setTop g) := by
  obtain ⟨locs, X, rfl, F⟩ := H
  obtain ⟨cq, kq, qa, qb, qc⟩ := isOf hZ rfl hE
  obtain ⟨v, _, ⟨T3, L3, k3, n3⟩, -, X3, ⟨Lc3, hQ3, l3, y3, z3⟩, st3⟩ := X.virtualBack hx (y := y) (z := y) hown (mvT hZ w1) (mvT hZ w2) (notFace_of_selects (args := #[]) (mvT hZ w3)) (mvT hZ w3) (mvT hZ w4) hy (backOf (W := W) (Q := fun v h L => Q' v h ∧ Fr n0 L) (hM []) hZ w6 w5 hf hl) qa qc (g := g) hg hsize (Steps.refl _) (argsL := argsL) (rest := rest) hlen hstack hW hd (fun _ _ => ⟨rfl, rfl, hc, hs⟩)
  dsimp only [Pt.U, Pt.locs, Pt.cells, Pt.slots] at X3 l3 y3 z3 st3 hQ3
  subst l3 y3 z3
  exact Go.via (fun t q => st3.trans q) (next v T3 T3.heap hQ3.1 ⟨_, X3, rfl, F.app hQ3.2⟩)
theorem own_initO (H : Here p l e R s m args below meth c n0 T h k n) (hx : p.tables.exec = Jvm.exec) (hZ : Z.Warmed39 s.vm) {own : String} {idx : Nat} (hown : s.vm.findClass own = some m.cls) (w1 : (Jvm.Cond.methodLink own idx Lib.objectInit).before a0 Z = true) (w2 : (Jvm.Cond.instanceMethod Lib.objectInit).before a0 Z = true)
    (w3 : (Jvm.Cond.code Lib.objectInit object_method_1_code 1 none).before a0 Z = true) {g : JFrame} (hg : g.method = m) (hsize : g.locals.size = c.maxLocals) {a : Addr} {rest : List Value} (hs : g.stack = .ref a :: rest) (hd : decode c.code g.pc = .ok (.invokespecial idx, 3))
    (hf : 1 ≤ R.frames) (W : Nat) (hW : 2 * g.monitorRoom + (rest.map fun v => v.category).sum ≤ W) (hl : W + 12 ≤ R.locals)
    (next : ∀ T', Here p l e R s m args below meth c n0 T' h k n → Go p e below Φ (T'.setTop { g with pc := g.pc + 3, stack := rest })) : Go p e below Φ (T.setTop g) := by
  obtain ⟨locs, X, r1, r2⟩ := H.stand
  obtain ⟨T', X', e', st⟩ := initO X hx hZ hown w1 w2 w3 r1 hg hsize hs hd hf hW hl
  exact Go.via st (next T' ⟨_, X', e', r2⟩)
/-! fields, objects -/
theorem own_getF (H : Here p l e R s m args below meth c n0 T h k n) (hx : p.tables.exec = Jvm.exec) (hZ : Z.Warmed39 s.vm) {own O nm d : String} {index : Nat} (hown : s.vm.findClass own = some m.cls) (w : (Jvm.Cond.fieldLink own index O nm d).before a0 Z = true)
    {a : Addr} {v : Value} (F : Fld Z h a O nm d v) {g : JFrame} (hg : g.method = m) {rest : List Value} (hs : g.stack = .ref a :: rest) (hd : decode c.code g.pc = .ok (.getfield index, 3))
    (next : ∀ T', Here p l e R s m args below meth c n0 T' h k n → Go p e below Φ (T'.setTop { g with pc := g.pc + 3, stack := v :: rest })) : Go p e below Φ (T.setTop g) := by
  obtain ⟨locs, X, r1, r2⟩ := H.stand
  obtain ⟨T', X', e', st⟩ := getF X hx hZ hown (host := "") (Or.inl w) Via.refl r1 F hg hs hd
  exact Go.via st (next T' ⟨_, X', e', r2⟩)
theorem own_putF (H : Here p l e R s m args below meth c n0 T h k n) (hx : p.tables.exec = Jvm.exec) (hZ : Z.Warmed39 s.vm) {own O nm d C : String} {index kk : Nat} {ty : FieldType} (hown : s.vm.findClass own = some m.cls) (w : (Jvm.Cond.fieldLink own index O nm d).before a0 Z = true)
    {a : Addr} {v old : Value} (F : Fld Z h a O nm d old) (E : Exa Z h a C) (L : (Jvm.Cond.lays C O nm d).before a0 Z = true ∨ ((Jvm.Cond.laysFinal C O nm d).before a0 Z = true ∧ own = O ∧ meth.name = "<init>")) (wi : (Jvm.Cond.instantiable C kk).before a0 Z = true) (ha : n0 ≤ a)
    (hty : parseFieldDescriptor d = some ty) (hn : narrow ty v = v) (hf : fits ty v = true) {g : JFrame} (hg : g.method = m) {rest : List Value} (hs : g.stack = v :: .ref a :: rest) (hd : decode c.code g.pc = .ok (.putfield index, 3))
    (next : ∀ T' h', Wr h h' a (Jvm.RoadKit.slotOf Z O nm d) v → Here p l e R s m args below meth c n0 T' h' k n → Go p e below Φ (T'.setTop { g with pc := g.pc + 3, stack := rest })) : Go p e below Φ (T.setTop g) := by
  obtain ⟨locs, X, r1, r2⟩ := H.stand
  obtain ⟨T', h', X', e', W, st⟩ := putF X hx hZ hown (host := "") (Or.inl w) Via.refl r1 F E L wi hty hn hf hg hs hd
  exact Go.via st (next T' h' W ⟨_, X', e', Fr.snoc X' r2 ha⟩)
theorem own_putFN (H : Here p l e R s m args below meth c n0 T h k n) (hx : p.tables.exec = Jvm.exec) (hZ : Z.Warmed39 s.vm) {own O nm d C : String} {index kk : Nat} {ty : FieldType} (hown : s.vm.findClass own = some m.cls) (w : (Jvm.Cond.fieldLink own index O nm d).before a0 Z = true)
    {a : Addr} {v v' old : Value} (F : Fld Z h a O nm d old) (E : Exa Z h a C) (L : (Jvm.Cond.lays C O nm d).before a0 Z = true ∨ ((Jvm.Cond.laysFinal C O nm d).before a0 Z = true ∧ own = O ∧ meth.name = "<init>")) (wi : (Jvm.Cond.instantiable C kk).before a0 Z = true) (ha : n0 ≤ a)
    (hty : parseFieldDescriptor d = some ty) (hn : narrow ty v = v') (hf : fits ty v' = true) {g : JFrame} (hg : g.method = m) {rest : List Value} (hs : g.stack = v :: .ref a :: rest) (hd : decode c.code g.pc = .ok (.putfield index, 3))
    (next : ∀ T' h', Wr h h' a (Jvm.RoadKit.slotOf Z O nm d) v' → Here p l e R s m args below meth c n0 T' h' k n → Go p e below Φ (T'.setTop { g with pc := g.pc + 3, stack := rest })) : Go p e below Φ (T.setTop g) := by
  obtain ⟨locs, X, r1, r2⟩ := H.stand
  obtain ⟨T', h', X', e', W, st⟩ := putFN X hx hZ hown w Via.refl r1 F E L wi hty hn hf hg hs hd
  exact Go.via st (next T' h' W ⟨_, X', e', Fr.snoc X' r2 ha⟩)
theorem own_newO (H : Here p l e R s m args below meth c n0 T h k n) (hx : p.tables.exec = Jvm.exec) (hZ : Z.Warmed39 s.vm) {own C : String} {index sl : Nat} (hown : s.vm.findClass own = some m.cls) (w : (Jvm.Cond.classLink own index C).before a0 Z = true) (wi : (Jvm.Cond.instantiable C sl).before a0 Z = true) (wz : (Jvm.Cond.initialized C).before a0 Z = true)
    {g : JFrame} (hg : g.method = m) (hd : decode c.code g.pc = .ok (.new index, 3)) (hc : k + 1 ≤ R.cells) (hl : n + sl ≤ R.slots)
    (next : ∀ T' h' a, a = h.size → Ext h h' → Exa Z h' a C → (∀ {O nm d : String} {ty : FieldType}, Laid Z a0 C O nm d → parseFieldDescriptor d = some ty → Fld Z h' a O nm d (defaultValue ty)) → Here p l e R s m args below meth c n0 T' h' (k + 1) (n + sl) → Go p e below Φ (T'.setTop { g with pc := g.pc + 3, stack := .ref a :: g.stack })) : Go p e below Φ (T.setTop g) := by
  obtain ⟨locs, X, r1, r2⟩ := H.stand
  obtain ⟨T', h', X', e', E, A, D, -, st⟩ := newO X hx hZ hown w wi wz r1 hg hd hc hl
  exact Go.via st (next T' h' _ rfl E A D ⟨_, X', e', r2⟩)
/-! arrays -/
theorem own_newP (H : Here p l e R s m args below meth c n0 T h k n) (hx : p.tables.exec = Jvm.exec) (hZ : Z.Warmed39 s.vm) {aty : ArrayType} (w : (Jvm.Cond.arrayClass (newarray.typeOf aty)).before a0 Z = true) {g : JFrame} (hg : g.method = m) (hd : decode c.code g.pc = .ok (.newarray aty, 2)) {z : Int32} {rest : List Value} (hs : g.stack = .int z :: rest)
    (hn : ¬ z < 0) (cap : Nat) (hcap : z.toNatClampNeg ≤ cap) (hb : cap * 8 ≤ 536870912) (hc : k + 1 ≤ R.cells) (hl : n + cap ≤ R.slots)
    (next : ∀ T' h' a cA, a = h.size → Ext h h' → Arr Z h' a (newA cA (newarray.typeOf aty) z) (newarray.typeOf aty) → Here p l e R s m args below meth c n0 T' h' (k + 1) (n + cap) → Go p e below Φ (T'.setTop { g with pc := g.pc + 2, stack := .ref a :: rest })) : Go p e below Φ (T.setTop g) := by
  obtain ⟨locs, X, r1, r2⟩ := H.stand
  obtain ⟨T', h', cA, X', e', E, A, st⟩ := newP X hx hZ w r1 hg hd hs hn hcap hb hc hl
  exact Go.via st (next T' h' _ cA rfl E A ⟨_, X', e', r2⟩)
theorem own_stI (H : Here p l e R s m args below meth c n0 T h k n) (hx : p.tables.exec = Jvm.exec) (hZ : Z.Warmed39 s.vm) {a : Addr} {cl : Cell} (A : Arr Z h a cl .int) {j x : Int32} (hj : ¬ (j < 0 ∨ cl.slots.size ≤ j.toNatClampNeg)) (ha : n0 ≤ a) {g : JFrame} (hg : g.method = m) {rest : List Value} (hs : g.stack = .int x :: .int j :: .ref a :: rest) (hd : decode c.code g.pc = .ok (.iastore, 1))
    (next : ∀ T' h', Wr h h' a j.toNatClampNeg (.int x) → Here p l e R s m args below meth c n0 T' h' k n → Go p e below Φ (T'.setTop { g with pc := g.pc + 1, stack := rest })) : Go p e below Φ (T.setTop g) := by
  obtain ⟨locs, X, r1, r2⟩ := H.stand
  obtain ⟨T', h', X', e', W, st⟩ := stI X hx hZ r1 A hj hg hs hd
  exact Go.via st (next T' h' W ⟨_, X', e', Fr.snoc X' r2 ha⟩)
theorem own_stB (H : Here p l e R s m args below meth c n0 T h k n) (hx : p.tables.exec = Jvm.exec) (hZ : Z.Warmed39 s.vm) {a : Addr} {cl : Cell} (A : Arr Z h a cl .byte) {j x : Int32} (hj : ¬ (j < 0 ∨ cl.slots.size ≤ j.toNatClampNeg)) (ha : n0 ≤ a) {g : JFrame} (hg : g.method = m) {rest : List Value} (hs : g.stack = .int x :: .int j :: .ref a :: rest) (hd : decode c.code g.pc = .ok (.bastore, 1))
    (next : ∀ T' h', Wr h h' a j.toNatClampNeg (.int (nar .byte x)) → Here p l e R s m args below meth c n0 T' h' k n → Go p e below Φ (T'.setTop { g with pc := g.pc + 1, stack := rest })) : Go p e below Φ (T.setTop g) := by
  obtain ⟨locs, X, r1, r2⟩ := H.stand
  obtain ⟨T', h', X', e', W, st⟩ := stB X hx hZ r1 A hj hg hs hd
  exact Go.via st (next T' h' W ⟨_, X', e', Fr.snoc X' r2 ha⟩)
theorem own_len (H : Here p l e R s m args below meth c n0 T h k n) (hx : p.tables.exec = Jvm.exec) (hZ : Z.Warmed39 s.vm) {a : Addr} {cl : Cell} {ty : FieldType} (A : Arr Z h a cl ty) {g : JFrame} (hg : g.method = m) {rest : List Value} (hs : g.stack = .ref a :: rest) (hd : decode c.code g.pc = .ok (.arraylength, 1))
    (next : Go p e below Φ (T.setTop { g with pc := g.pc + 1, stack := .int cl.slots.size.toInt32 :: rest })) : Go p e below Φ (T.setTop g) := by
  obtain ⟨locs, X, r1, r2⟩ := H.stand
  exact Go.via (fun t q => X.arraylength hx (by rw [r1]; exact A.1) (State.isArrayOf_alike hZ.alike A.2.1) hg hs hd t q) next
theorem own_ldI (H : Here p l e R s m args below meth c n0 T h k n) (hx : p.tables.exec = Jvm.exec) (hZ : Z.Warmed39 s.vm) {a : Addr} {cl : Cell} (A : Arr Z h a cl .int) {j : Int32} {v : Value} (hj : ¬ (j < 0 ∨ cl.slots.size ≤ j.toNatClampNeg)) (hv : cl.slots[j.toNatClampNeg]? = some v) {g : JFrame} (hg : g.method = m) {rest : List Value} (hs : g.stack = .int j :: .ref a :: rest) (hd : decode c.code g.pc = .ok (.iaload, 1))
    (next : Go p e below Φ (T.setTop { g with pc := g.pc + 1, stack := v :: rest })) : Go p e below Φ (T.setTop g) := by
  obtain ⟨locs, X, r1, r2⟩ := H.stand
  exact Go.via (fun t q => X.iaload hx (by rw [r1]; exact A.1) (State.isArrayOf_alike hZ.alike A.2.1) A.2.2 hj hv hg hs hd t q) next
theorem own_ldB (H : Here p l e R s m args below meth c n0 T h k n) (hx : p.tables.exec = Jvm.exec) (hZ : Z.Warmed39 s.vm) {a : Addr} {cl : Cell} (A : Arr Z h a cl .byte) {j : Int32} {v : Value} (hj : ¬ (j < 0 ∨ cl.slots.size ≤ j.toNatClampNeg)) (hv : cl.slots[j.toNatClampNeg]? = some v) {g : JFrame} (hg : g.method = m) {rest : List Value} (hs : g.stack = .int j :: .ref a :: rest) (hd : decode c.code g.pc = .ok (.baload, 1))
    (next : Go p e below Φ (T.setTop { g with pc := g.pc + 1, stack := v :: rest })) : Go p e below Φ (T.setTop g) := by
  obtain ⟨locs, X, r1, r2⟩ := H.stand
  exact Go.via (fun t q => X.baloadBytes hx (by rw [r1]; exact A.1) (State.isArrayOf_alike hZ.alike A.2.1) A.2.2 hj hv hg hs hd t q) next
/-! arrays of ints by a function of the place -/
def upd (B : Nat → Int32) (j : Nat) (v : Int32) : Nat → Int32 := fun i => if i = j then v else B i
theorem upd_hit {B : Nat → Int32} {j : Nat} {v : Int32} : upd B j v j = v := if_pos rfl
theorem upd_miss {B : Nat → Int32} {i j : Nat} {v : Int32} (q : i ≠ j) : upd B j v i = B i := if_neg q
def Ab (Z : State) (h : Heap) (a : Addr) (ty : FieldType) (n : Nat) (B : Nat → Int32) : Prop := ∃ c : Cell, Arr Z h a c ty ∧ c.slots.size = n ∧ ∀ i, i < n → c.slots[i]? = some (.int (B i))
theorem Ab.lt {a : Addr} {ty : FieldType} {B : Nat → Int32} (F : Ab Z h a ty n B) : a < h.size := by obtain ⟨c, A, -⟩ := F; exact A.lt
theorem Ab.ext {h' : Heap} {a : Addr} {ty : FieldType} {B : Nat → Int32} (F : Ab Z h a ty n B) (E : Ext h h') : Ab Z h' a ty n B := by obtain ⟨c, A, r⟩ := F; exact ⟨c, A.ext E, r⟩
theorem Ab.other {h' : Heap} {a b : Addr} {sl : Nat} {v : Value} {ty : FieldType} {B : Nat → Int32} (F : Ab Z h b ty n B) (W : Wr h h' a sl v) (q : b ≠ a) : Ab Z h' b ty n B := by obtain ⟨c, A, r⟩ := F; exact ⟨c, A.other W q, r⟩
theorem Ab.keep {h' : Heap} {a : Addr} {ws : List Addr} {ty : FieldType} {B : Nat → Int32} (F : Ab Z h a ty n B) (Kp : Keep h h' ws) (q : a ∉ ws) : Ab Z h' a ty n B := by obtain ⟨c, A, r⟩ := F; exact ⟨c, ⟨Kp.2.1 a c A.1 q, A.2⟩, r⟩
theorem Ab.set {h' : Heap} {a : Addr} {j : Nat} {v : Int32} {ty : FieldType} {B : Nat → Int32} (F : Ab Z h a ty n B) (W : Wr h h' a j (.int v)) : Ab Z h' a ty n (upd B j v) := by
  obtain ⟨c, A, S, G⟩ := F
  obtain ⟨c', q1, -, -, q4, -, q6, q7⟩ := wr_at W A.1
  obtain ⟨rfl, q8, -⟩ := q7 rfl
  refine ⟨_, A.same W, q4.trans S, fun i hi => ?_⟩
  by_cases q : i = j
  · subst q; rw [q8, upd_hit]
  · rw [q6 i q, G i hi, upd_miss q]
theorem Ab.new {a : Addr} {ty : FieldType} {kk : ClassId} {z : Int32} (A : Arr Z h a (newA kk ty z) ty) (hz : z.toNatClampNeg = n) (hd : defaultValue ty = .int 0) : Ab Z h a ty n (fun _ => 0) := by
  refine ⟨_, A, (sz_new _ _ _).trans hz, fun i hi => ?_⟩
  have hz' : z.toNatClampNeg < 2 ^ 31 := by
    by_cases q : z < 0
    · have : z.toNatClampNeg ≤ 0 := by rw [Int32.lt_iff_toInt_lt] at q; have e0 : (0 : Int32).toInt = 0 := rfl; have : z.toNatClampNeg = z.toInt.toNat := rfl; omega
      omega
    · exact (back32 q).2
  have e1 : i.toInt32.toNatClampNeg = i := by
    have q := idx_in (i := i) (n := i + 1) (Nat.lt_succ_self i) (by omega)
    have q2 : i.toInt32.toInt = i := len_toInt (by omega)
    have := nat_of (j := i.toInt32) (fun z => q (Or.inl z))
    omega
  have q0 : ¬ (i.toInt32 < 0 ∨ z.toNatClampNeg ≤ i.toInt32.toNatClampNeg) := by
    rw [hz, e1]
    intro q
    rcases q with q | q
    · have q3 : i.toInt32.toInt = i := len_toInt (by omega)
      rw [Int32.lt_iff_toInt_lt, q3] at q
      have e0 : (0 : Int32).toInt = 0 := rfl
      omega
    · omega
  have g := get_new (cA := kk) (ty := ty) (n := z) (k := i.toInt32) q0
  rw [e1] at g
  rw [g, hd]
theorem own_idx {J : Int32} {j : Nat} (e : J.toInt = (j : Int)) : ¬ J < 0 ∧ J.toNatClampNeg = j := by
  have h0 : ¬ J < 0 := by rw [Int32.lt_iff_toInt_lt]; have e0 : (0 : Int32).toInt = 0 := rfl; omega
  have := nat_of h0
  exact ⟨h0, by omega⟩
theorem own_in {c : Cell} {J : Int32} {j N' : Nat} (e : J.toInt = (j : Int)) (S : c.slots.size = N') (hj : j < N') : ¬ (J < 0 ∨ c.slots.size ≤ J.toNatClampNeg) := by
  obtain ⟨q1, q2⟩ := own_idx e
  rw [q2, S]; intro q; rcases q with q | q
  · exact q1 q
  · omega
theorem own_newA (H : Here p l e R s m args below meth c n0 T h k n) (hx : p.tables.exec = Jvm.exec) (hZ : Z.Warmed39 s.vm) {aty : ArrayType} (w : (Jvm.Cond.arrayClass (newarray.typeOf aty)).before a0 Z = true) {g : JFrame} (hg : g.method = m) (hd : decode c.code g.pc = .ok (.newarray aty, 2)) {z : Int32} {rest : List Value} (hs : g.stack = .int z :: rest)
    (hn : ¬ z < 0) (N' : Nat) (hz : z.toNatClampNeg = N') (hdv : defaultValue (newarray.typeOf aty) = .int 0) (cap : Nat) (hcap : N' ≤ cap) (hb : cap * 8 ≤ 536870912) (hc : k + 1 ≤ R.cells) (hl : n + cap ≤ R.slots)
    (next : ∀ T' h' a, a = h.size → Ext h h' → Ab Z h' a (newarray.typeOf aty) N' (fun _ => 0) → Here p l e R s m args below meth c n0 T' h' (k + 1) (n + cap) → Go p e below Φ (T'.setTop { g with pc := g.pc + 2, stack := .ref a :: rest })) : Go p e below Φ (T.setTop g) :=
  own_newP H hx hZ w hg hd hs hn cap (by rw [hz]; exact hcap) hb hc hl fun T' h' a cA q1 q2 q3 q4 => next T' h' a q1 q2 (Ab.new q3 hz hdv) q4
theorem own_stIA (H : Here p l e R s m args below meth c n0 T h k n) (hx : p.tables.exec = Jvm.exec) (hZ : Z.Warmed39 s.vm) {a : Addr} {N' : Nat} {B : Nat → Int32} (A : Ab Z h a .int N' B) {J x : Int32} {j : Nat} (ej : J.toInt = (j : Int)) (hj : j < N') (ha : n0 ≤ a) {g : JFrame} (hg : g.method = m) {rest : List Value} (hs : g.stack = .int x :: .int J :: .ref a :: rest) (hd : decode c.code g.pc = .ok (.iastore, 1))
    (next : ∀ T' h', Wr h h' a j (.int x) → Ab Z h' a .int N' (upd B j x) → Here p l e R s m args below meth c n0 T' h' k n → Go p e below Φ (T'.setTop { g with pc := g.pc + 1, stack := rest })) : Go p e below Φ (T.setTop g) := by
  have A' := A
  obtain ⟨cl, A0, S, G⟩ := A
  refine own_stI H hx hZ A0 (own_in ej S hj) ha hg hs hd fun T' h' W H' => ?_
  rw [(own_idx ej).2] at W
  exact next T' h' W (A'.set W) H'
theorem own_stBA (H : Here p l e R s m args below meth c n0 T h k n) (hx : p.tables.exec = Jvm.exec) (hZ : Z.Warmed39 s.vm) {a : Addr} {N' : Nat} {B : Nat → Int32} (A : Ab Z h a .byte N' B) {J x : Int32} {j : Nat} (ej : J.toInt = (j : Int)) (hj : j < N') (ha : n0 ≤ a) {g : JFrame} (hg : g.method = m) {rest : List Value} (hs : g.stack = .int x :: .int J :: .ref a :: rest) (hd : decode c.code g.pc = .ok (.bastore, 1))
    (next : ∀ T' h', Wr h h' a j (.int (nar .byte x)) → Ab Z h' a .byte N' (upd B j (nar .byte x)) → Here p l e R s m args below meth c n0 T' h' k n → Go p e below Φ (T'.setTop { g with pc := g.pc + 1, stack := rest })) : Go p e below Φ (T.setTop g) := by
  have A' := A
  obtain ⟨cl, A0, S, G⟩ := A
  refine own_stB H hx hZ A0 (own_in ej S hj) ha hg hs hd fun T' h' W H' => ?_
  rw [(own_idx ej).2] at W
  exact next T' h' W (A'.set W) H'
theorem own_ldIA (H : Here p l e R s m args below meth c n0 T h k n) (hx : p.tables.exec = Jvm.exec) (hZ : Z.Warmed39 s.vm) {a : Addr} {N' : Nat} {B : Nat → Int32} (A : Ab Z h a .int N' B) {J : Int32} {j : Nat} (ej : J.toInt = (j : Int)) (hj : j < N') {g : JFrame} (hg : g.method = m) {rest : List Value} (hs : g.stack = .int J :: .ref a :: rest) (hd : decode c.code g.pc = .ok (.iaload, 1))
    (next : Go p e below Φ (T.setTop { g with pc := g.pc + 1, stack := .int (B j) :: rest })) : Go p e below Φ (T.setTop g) := by
  obtain ⟨cl, A0, S, G⟩ := A
  exact own_ldI H hx hZ A0 (own_in ej S hj) (by rw [(own_idx ej).2]; exact G j hj) hg hs hd next
theorem own_ldBA (H : Here p l e R s m args below meth c n0 T h k n) (hx : p.tables.exec = Jvm.exec) (hZ : Z.Warmed39 s.vm) {a : Addr} {N' : Nat} {B : Nat → Int32} (A : Ab Z h a .byte N' B) {J : Int32} {j : Nat} (ej : J.toInt = (j : Int)) (hj : j < N') {g : JFrame} (hg : g.method = m) {rest : List Value} (hs : g.stack = .int J :: .ref a :: rest) (hd : decode c.code g.pc = .ok (.baload, 1))
    (next : Go p e below Φ (T.setTop { g with pc := g.pc + 1, stack := .int (B j) :: rest })) : Go p e below Φ (T.setTop g) := by
  obtain ⟨cl, A0, S, G⟩ := A
  exact own_ldB H hx hZ A0 (own_in ej S hj) (by rw [(own_idx ej).2]; exact G j hj) hg hs hd next
theorem own_lenA (H : Here p l e R s m args below meth c n0 T h k n) (hx : p.tables.exec = Jvm.exec) (hZ : Z.Warmed39 s.vm) {a : Addr} {N' : Nat} {B : Nat → Int32} {ty : FieldType} (A : Ab Z h a ty N' B) {z : Int32} (hz : N'.toInt32 = z) {g : JFrame} (hg : g.method = m) {rest : List Value} (hs : g.stack = .ref a :: rest) (hd : decode c.code g.pc = .ok (.arraylength, 1))
    (next : Go p e below Φ (T.setTop { g with pc := g.pc + 1, stack := .int z :: rest })) : Go p e below Φ (T.setTop g) := by
  obtain ⟨cl, A0, S, G⟩ := A
  subst S; subst hz
  exact own_len H hx hZ A0 hg hs hd next
/-! instanceof, checkcast, statics, references in arrays -/
theorem own_instY (H : Here p l e R s m args below meth c n0 T h k n) (hx : p.tables.exec = Jvm.exec) (hZ : Z.Warmed39 s.vm) {own C : String} {index : Nat} (hown : s.vm.findClass own = some m.cls) (w : (Jvm.Cond.classLink own index C).before a0 Z = true) {a : Addr} (F : Ins Z h a C true)
    {g : JFrame} (hg : g.method = m) {rest : List Value} (hs : g.stack = .ref a :: rest) (hd : decode c.code g.pc = .ok (.instanceof index, 3))
    (next : ∀ T', Here p l e R s m args below meth c n0 T' h k n → Go p e below Φ (T'.setTop { g with pc := g.pc + 3, stack := .int 1 :: rest })) : Go p e below Φ (T.setTop g) := by
  obtain ⟨locs, X, r1, r2⟩ := H.stand
  obtain ⟨T', X', e', st⟩ := instY X hx hZ hown w r1 F hg hs hd
  exact Go.via st (next T' ⟨_, X', e', r2⟩)
theorem own_instNo (H : Here p l e R s m args below meth c n0 T h k n) (hx : p.tables.exec = Jvm.exec) (hZ : Z.Warmed39 s.vm) {own C D : String} {index : Nat} (hown : s.vm.findClass own = some m.cls) (w : (Jvm.Cond.classLink own index C).before a0 Z = true) {a : Addr} (E : Exa Z h a D) (F : ∃ c t, Z.vm.findClass D = some c ∧ Z.vm.findClass C = some t ∧ Z.vm.assignable c t = false)
    {g : JFrame} (hg : g.method = m) {rest : List Value} (hs : g.stack = .ref a :: rest) (hd : decode c.code g.pc = .ok (.instanceof index, 3))
    (next : ∀ T', Here p l e R s m args below meth c n0 T' h k n → Go p e below Φ (T'.setTop { g with pc := g.pc + 3, stack := .int 0 :: rest })) : Go p e below Φ (T.setTop g) := by
  obtain ⟨locs, X, r1, r2⟩ := H.stand
  obtain ⟨T', X', e', st⟩ := instNo X hx hZ hown w r1 E F hg hs hd
  exact Go.via st (next T' ⟨_, X', e', r2⟩)
theorem own_instNull (H : Here p l e R s m args below meth c n0 T h k n) (hx : p.tables.exec = Jvm.exec) {index : Nat} {g : JFrame} (hg : g.method = m) {rest : List Value} (hs : g.stack = .null :: rest) (hd : decode c.code g.pc = .ok (.instanceof index, 3))
    (next : Go p e below Φ (T.setTop { g with pc := g.pc + 3, stack := .int 0 :: rest })) : Go p e below Φ (T.setTop g) := by
  obtain ⟨locs, X, r1, r2⟩ := H.stand
  exact Go.via (X.instanceofNull hx hg hs hd) next
theorem own_castY (H : Here p l e R s m args below meth c n0 T h k n) (hx : p.tables.exec = Jvm.exec) (hZ : Z.Warmed39 s.vm) {own C : String} {index : Nat} (hown : s.vm.findClass own = some m.cls) (w : (Jvm.Cond.classLink own index C).before a0 Z = true) {a : Addr} (F : Ins Z h a C true)
    {g : JFrame} (hg : g.method = m) {rest : List Value} (hs : g.stack = .ref a :: rest) (hd : decode c.code g.pc = .ok (.checkcast index, 3))
    (next : ∀ T', Here p l e R s m args below meth c n0 T' h k n → Go p e below Φ (T'.setTop { g with pc := g.pc + 3 })) : Go p e below Φ (T.setTop g) := by
  obtain ⟨locs, X, r1, r2⟩ := H.stand
  obtain ⟨T', X', e', st⟩ := castY X hx hZ hown w r1 F hg hs hd
  exact Go.via st (next T' ⟨_, X', e', r2⟩)
theorem own_getS (H : Here p l e R s m args below meth c n0 T h k n) (hx : p.tables.exec = Jvm.exec) (hZ : Z.Warmed39 s.vm) {own O nm d : String} {index : Nat} (hown : s.vm.findClass own = some m.cls) (w : (Jvm.Cond.fieldLink own index O nm d).before a0 Z = true) {v : Value} (F : Sta Z h O nm d v)
    {g : JFrame} (hg : g.method = m) (hd : decode c.code g.pc = .ok (.getstatic index, 3))
    (next : ∀ T', Here p l e R s m args below meth c n0 T' h k n → Go p e below Φ (T'.setTop { g with pc := g.pc + 3, stack := v :: g.stack })) : Go p e below Φ (T.setTop g) := by
  obtain ⟨locs, X, r1, r2⟩ := H.stand
  obtain ⟨T', X', e', st⟩ := getS (host := "") X hx hZ hown w Via.refl r1 F hg hd
  exact Go.via st (next T' ⟨_, X', e', r2⟩)
theorem own_ldR (H : Here p l e R s m args below meth c n0 T h k n) (hx : p.tables.exec = Jvm.exec) (hZ : Z.Warmed39 s.vm) {a : Addr} {cl : Cell} {ty : FieldType} (A : Arr Z h a cl ty) (hty : ty.isReference = true) {J : Int32} {j : Nat} {v : Value} (ej : J.toInt = (j : Int)) (hj : j < cl.slots.size) (hv : cl.slots[j]? = some v) {g : JFrame} (hg : g.method = m) {rest : List Value} (hs : g.stack = .int J :: .ref a :: rest) (hd : decode c.code g.pc = .ok (.aaload, 1))
    (next : Go p e below Φ (T.setTop { g with pc := g.pc + 1, stack := v :: rest })) : Go p e below Φ (T.setTop g) := by
  obtain ⟨locs, X, r1, r2⟩ := H.stand
  exact Go.via (fun t q => X.aaload hx (by rw [r1]; exact A.1) (State.isArrayOf_alike hZ.alike A.2.1) hty A.2.2 (own_in ej rfl hj) (by rw [(own_idx ej).2]; exact hv) hg hs hd t q) next
/-! constants -/
theorem own_ldcI (H : Here p l e R s m args below meth c n0 T h k n) (hx : p.tables.exec = Jvm.exec) (hZ : Z.Warmed39 s.vm) {own : String} {index : Nat} {v : Int32} (hown : s.vm.findClass own = some m.cls) (w : (Jvm.Cond.constant own index v).before a0 Z = true) {g : JFrame} (hg : g.method = m) (hd : decode c.code g.pc = .ok (.ldc index, 2))
    (next : Go p e below Φ (T.setTop { g with pc := g.pc + 2, stack := .int v :: g.stack })) : Go p e below Φ (T.setTop g) := by
  obtain ⟨locs, X, r1, r2⟩ := H.stand
  exact Go.via (X.ldcInt hx hown (mvT hZ w) hg hd) next
theorem own_ldcL (H : Here p l e R s m args below meth c n0 T h k n) (hx : p.tables.exec = Jvm.exec) (hZ : Z.Warmed39 s.vm) {own : String} {index : Nat} {v : Int64} (hown : s.vm.findClass own = some m.cls) (w : (Jvm.Cond.constantLong own index v).before a0 Z = true) {g : JFrame} (hg : g.method = m) (hd : decode c.code g.pc = .ok (.ldc2_w index, 3))
    (next : Go p e below Φ (T.setTop { g with pc := g.pc + 3, stack := .long v :: g.stack })) : Go p e below Φ (T.setTop g) := by
  obtain ⟨locs, X, r1, r2⟩ := H.stand
  exact Go.via (X.ldc2Long hx hown (mvT hZ w) hg hd) next
/-! comparisons of longs -/
theorem own_llt {x y : Int64} (q : x < y) : ifCond.holds .lt (lcmpW x y) = true ∧ ifCond.holds .ge (lcmpW x y) = false := by
  have := (lw_lt x y).mpr q; rw [if0, if0]; exact ⟨(tlt this).1, (tlt this).2.1⟩
theorem own_nlt {x y : Int64} (q : ¬ x < y) : ifCond.holds .lt (lcmpW x y) = false ∧ ifCond.holds .ge (lcmpW x y) = true := by
  have : ¬ lcmpW x y < 0 := fun z => q ((lw_lt x y).mp z); rw [if0, if0]; exact ⟨(flt this).1, (flt this).2.1⟩
theorem own_lgt {x y : Int64} (q : y < x) : ifCond.holds .gt (lcmpW x y) = true ∧ ifCond.holds .le (lcmpW x y) = false := by
  have := (lw_gt x y).mpr q; rw [if0, if0]; exact ⟨(tlt this).2.2.1, (tlt this).2.2.2⟩
theorem own_ngt {x y : Int64} (q : ¬ y < x) : ifCond.holds .gt (lcmpW x y) = false ∧ ifCond.holds .le (lcmpW x y) = true := by
  have : ¬ 0 < lcmpW x y := fun z => q ((lw_gt x y).mp z); rw [if0, if0]; exact ⟨(flt this).2.2.1, (flt this).2.2.2⟩
theorem own_leq {x y : Int64} (q : x = y) : ifCond.holds .eq (lcmpW x y) = true ∧ ifCond.holds .ne (lcmpW x y) = false := by
  have := (lw_eq x y).mpr q; rw [if0, if0]; exact ⟨(teq this).1, (teq this).2⟩
theorem own_neq {x y : Int64} (q : ¬ x = y) : ifCond.holds .eq (lcmpW x y) = false ∧ ifCond.holds .ne (lcmpW x y) = true := by
  have : ¬ lcmpW x y = 0 := fun z => q ((lw_eq x y).mp z); rw [if0, if0]; exact ⟨(feq this).1, (feq this).2⟩
end Own
/-! DOUBLES: steps, and the one rounding fact: times 2^-16, times 2^16 gives an int back exactly -/
section OwnF
open Jvm.FP Jvm.FP.Core Jvm.Free.Fl
def cI : UInt64 := 4535124824762089472
def cH : UInt64 := 4679240012837945344
theorem own_vI : val64 cI = .fin false (2 ^ 52) (-68) := by decide +kernel
theorem own_vH : val64 cH = .fin false (2 ^ 52) (-36) := by decide +kernel
theorem own_hi : Core.dsub cH 0 = cH := by decide +kernel
theorem own_z0 : Core.i2d 0 = 0 := by decide +kernel
theorem own_zH : Core.i2d 65536 = cH := by decide +kernel
theorem own_big {z : Int} (hz : z ≠ 0) {s : Bool} {c : Nat} {q : Int} (hw : Whole z (.fin s c q)) (hf : Core.fits b64 (.fin s c q)) : Core.fits b64 (.fin s c (q - 16)) := by
  have e1 : b64.qmin = -1074 := by decide
  have e2 : b64.qmax = 971 := by decide
  have e3 : b64.tails = 2 ^ 52 := by decide
  have e4 : (2 : Nat) ^ b64.p = 2 ^ 53 := by decide
  obtain ⟨f1, f2, f3, f4⟩ := hf
  rw [e1] at f2 f4
  rw [e2] at f3
  rw [e3] at f4
  rw [e4] at f1
  have hq : -60 ≤ q := by
    apply Int.not_lt.mp
    intro hlt
    have h := congrArg Int.natAbs (show signed s (c * 2 ^ q.toNat) = z * ((2 ^ (-q).toNat : Nat) : Int) from hw)
    rw [natAbs_signed, Int.natAbs_mul, Int.natAbs_natCast] at h
    have q0 : q.toNat = 0 := by omega
    rw [q0, Nat.pow_zero, Nat.mul_one] at h
    have h1 : 1 ≤ z.natAbs := by omega
    have h2 : (2 : Nat) ^ 53 ≤ 2 ^ (-q).toNat := Nat.pow_le_pow_right (by decide) (by omega)
    have h3 : 2 ^ (-q).toNat ≤ z.natAbs * 2 ^ (-q).toNat := Nat.le_mul_of_pos_left _ h1
    omega
  refine ⟨by rw [e4]; exact f1, by rw [e1]; omega, by rw [e2]; omega, Or.inr ?_⟩
  rw [e3]
  omega
theorem own_i2d (z : Int32) (hz : z ≠ 0) : ∃ s c q, val64 (Core.i2d z) = .fin s c q ∧ Core.fits b64 (.fin s c (q - 16)) ∧ Core.fits b64 (.fin s c q) := by
  have hw := i2d_int z
  have hf := val64_fits (Core.i2d z)
  have hz' : z.toInt ≠ 0 := fun q => hz (Int32.toInt_inj.mp (by rw [q]; rfl))
  unfold DInt at hw
  cases hv : val64 (Core.i2d z) with
  | nan => rw [hv] at hw; exact hw.elim
  | inf s => rw [hv] at hw; exact hw.elim
  | fin s c q => rw [hv] at hw hf; exact ⟨s, c, q, rfl, own_big hz' hw hf, hf⟩
theorem own_down (z : Int32) (hz : z ≠ 0) : ∃ s c q, val64 (Core.i2d z) = .fin s c q ∧ val64 (Core.dmul (Core.i2d z) cI) = .fin s c (q - 16) ∧ Core.fits b64 (.fin s c q) := by
  obtain ⟨s, c, q, h1, h2, h3⟩ := own_i2d z hz
  refine ⟨s, c, q, h1, ?_, h3⟩
  rw [val64_dmul, h1, own_vI]
  show roundRatio b64 (s != false) (c * 2 ^ 52) 1 (q + -68) = _
  rw [show (s != false) = s from by cases s <;> rfl]
  refine roundRatio_exact good_b64 (by decide) h2 ?_
  rw [show (q + -68 - (q - 16)).toNat = 0 from by omega, show (q - 16 - (q + -68)).toNat = 52 from by omega]
  omega
theorem own_up (z : Int32) (hz : z ≠ 0) : Core.dmul cH (Core.dmul (Core.i2d z) cI) = Core.i2d z := by
  obtain ⟨s, c, q, h1, h2, h3⟩ := own_down z hz
  have e : val64 (Core.dmul cH (Core.dmul (Core.i2d z) cI)) = val64 (Core.i2d z) := by
    rw [val64_dmul, h2, own_vH, h1]
    show roundRatio b64 (false != s) (2 ^ 52 * c) 1 (-36 + (q - 16)) = _
    rw [show (false != s) = s from by cases s <;> rfl]
    refine roundRatio_exact good_b64 (by decide) h3 ?_
    rw [show (-36 + (q - 16) - q).toNat = 0 from by omega, show (q - (-36 + (q - 16))).toNat = 52 from by omega]
    omega
  exact val64_inj (by rw [e, h1]; simp) e
theorem own_plus (z : Int32) (hz : z ≠ 0) : Core.dadd 0 (Core.i2d z) = Core.i2d z := by
  obtain ⟨s, c, q, h1, -, -⟩ := own_i2d z hz
  rw [dadd_comm]
  refine dadd_zero (by rw [h1]; simp) (fun e => hz ?_)
  have hw := i2d_int z
  unfold DInt at hw
  rw [e, val64_dzeroNeg] at hw
  have := (whole_zero hw).mp rfl
  exact Int32.toInt_inj.mp (by rw [this]; rfl)
theorem own_nn {x : UInt64} (h : val64 x ≠ .nan) : NoNaN64 x := val64_no.mpr h
theorem own_nz (z : Int32) : val64 (Core.i2d z) ≠ .nan := by
  have hw := i2d_int z
  unfold DInt at hw
  intro q
  rw [q] at hw
  exact hw
theorem own_edge (z : Int32) (hz : z ≠ 0) : NoNaN64 (FP.dsub cH 0) ∧ NoNaN64 (FP.dmul (FP.i2d z) cI) ∧ NoNaN64 (FP.dmul (FP.dsub cH 0) (FP.dmul (FP.i2d z) cI)) ∧ NoNaN64 (FP.dadd 0 (FP.dmul (FP.dsub cH 0) (FP.dmul (FP.i2d z) cI))) ∧ FP.dadd 0 (FP.dmul (FP.dsub cH 0) (FP.dmul (FP.i2d z) cI)) = FP.i2d z := by
  obtain ⟨s, c, q, h1, h2, h3⟩ := own_down z hz
  have e1 : FP.dsub cH 0 = cH := own_hi
  have e2 : FP.dmul cH (FP.dmul (FP.i2d z) cI) = FP.i2d z := own_up z hz
  have e3 : FP.dadd 0 (FP.i2d z) = FP.i2d z := own_plus z hz
  rw [e1, e2, e3]
  exact ⟨own_nn (by rw [own_vH]; simp), own_nn (by rw [show val64 (FP.dmul (FP.i2d z) cI) = _ from h2]; simp), own_nn (own_nz z), own_nn (own_nz z), rfl⟩
theorem own_self (z : Int32) : FP.dcmp (FP.i2d z) (FP.i2d z) = some .eq := dcmp_self (own_nz z)
theorem own_dload {tb : Tables} [Ours tb] {e : Env} {below : List Frame} {T target : State} {m : MethodId} {c : Code} {g : JFrame} (h : At T m c below) (hx : tb.exec = Jvm.exec) (hg : g.method = m) {k : Nat} {v : UInt64} (hd : Jvm.ClassFile.decode c.code g.pc = .ok (.dload k, 2)) (hl : g.locals[k]? = some (.val (.double v)))
    (hr : Steps tb e below (T.setTop { g with pc := g.pc + 2, stack := .double v :: g.stack }) target) : Steps tb e below (T.setTop g) target := by
  subst hg
  jvm_step h [h.top, hx, hd, hl]
  exact hr
theorem own_dloadN {tb : Tables} [Ours tb] {e : Env} {below : List Frame} {T target : State} {m : MethodId} {c : Code} {g : JFrame} (h : At T m c below) (hx : tb.exec = Jvm.exec) (hg : g.method = m) {k : Fin 4} {v : UInt64} (hd : Jvm.ClassFile.decode c.code g.pc = .ok (.dload_n k, 1)) (hl : g.locals[k.val]? = some (.val (.double v)))
    (hr : Steps tb e below (T.setTop { g with pc := g.pc + 1, stack := .double v :: g.stack }) target) : Steps tb e below (T.setTop g) target := by
  subst hg
  jvm_step h [h.top, hx, hd, hl]
  exact hr
theorem own_dstore {tb : Tables} [Ours tb] {e : Env} {below : List Frame} {T target : State} {m : MethodId} {c : Code} {g : JFrame} (h : At T m c below) (hx : tb.exec = Jvm.exec) (hg : g.method = m) {k : Nat} {x : UInt64} {rest : List Value} {l' : Array Slot} (hd : Jvm.ClassFile.decode c.code g.pc = .ok (.dstore k, 2)) (hs : g.stack = .double x :: rest) (hl : storeLocals g.locals k (.double x) = some l')
    (hr : Steps tb e below (T.setTop { g with pc := g.pc + 2, stack := rest, locals := l' }) target) : Steps tb e below (T.setTop g) target := by
  subst hg
  jvm_step h [h.top, hx, hd, hs, hl]
  exact hr
theorem own_dconst0 {tb : Tables} [Ours tb] {e : Env} {below : List Frame} {T target : State} {m : MethodId} {c : Code} {g : JFrame} (h : At T m c below) (hx : tb.exec = Jvm.exec) (hg : g.method = m)  (hd : Jvm.ClassFile.decode c.code g.pc = .ok (.dconst 0, 1))
    (hr : Steps tb e below (T.setTop { g with pc := g.pc + 1, stack := .double 0 :: g.stack }) target) : Steps tb e below (T.setTop g) target := by
  subst hg
  jvm_step h [h.top, hx, hd]
  exact hr
theorem own_i2dS {tb : Tables} [Ours tb] {e : Env} {below : List Frame} {T target : State} {m : MethodId} {c : Code} {g : JFrame} (h : At T m c below) (hx : tb.exec = Jvm.exec) (hg : g.method = m) {v : Int32} {rest : List Value} (hd : Jvm.ClassFile.decode c.code g.pc = .ok (.i2d, 1)) (hs : g.stack = .int v :: rest)
    (hr : Steps tb e below (T.setTop { g with pc := g.pc + 1, stack := .double (Jvm.FP.i2d v) :: rest }) target) : Steps tb e below (T.setTop g) target := by
  subst hg
  jvm_step h [h.top, hx, hd, hs]
  exact hr
theorem own_dcmpl {tb : Tables} [Ours tb] {e : Env} {below : List Frame} {T target : State} {m : MethodId} {c : Code} {g : JFrame} (h : At T m c below) (hx : tb.exec = Jvm.exec) (hg : g.method = m) {x y : UInt64} {rest : List Value} (hd : Jvm.ClassFile.decode c.code g.pc = .ok (.dcmp .l, 1)) (hs : g.stack = .double y :: .double x :: rest) (hq : Jvm.FP.dcmp x y = some .eq)
    (hr : Steps tb e below (T.setTop { g with pc := g.pc + 1, stack := .int 0 :: rest }) target) : Steps tb e below (T.setTop g) target := by
  subst hg
  jvm_step h [h.top, hx, hd, hs, hq, cmpValue]
  exact hr
theorem own_dmul {tb : Tables} [Ours tb] {e : Env} {below : List Frame} {T target : State} {m : MethodId} {c : Code} {g : JFrame} (h : At T m c below) (hx : tb.exec = Jvm.exec) (hg : g.method = m) {x y : UInt64} {rest : List Value} (hd : Jvm.ClassFile.decode c.code g.pc = .ok (.dmul, 1)) (hs : g.stack = .double y :: .double x :: rest) (hn : NoNaN64 (Jvm.FP.dmul x y))
    (hr : Steps tb e below (T.setTop { g with pc := g.pc + 1, stack := .double (Jvm.FP.dmul x y) :: rest }) target) : Steps tb e below (T.setTop g) target := by
  subst hg
  obtain ⟨fm, fpc, fls, fst, flk, fen, fmr⟩ := g
  dsimp only at hs
  subst hs
  jvm_step h [h.top, hx, hd, Op.dmul.at_number h.top hn]
  exact hr
theorem own_dadd {tb : Tables} [Ours tb] {e : Env} {below : List Frame} {T target : State} {m : MethodId} {c : Code} {g : JFrame} (h : At T m c below) (hx : tb.exec = Jvm.exec) (hg : g.method = m) {x y : UInt64} {rest : List Value} (hd : Jvm.ClassFile.decode c.code g.pc = .ok (.dadd, 1)) (hs : g.stack = .double y :: .double x :: rest) (hn : NoNaN64 (Jvm.FP.dadd x y))
    (hr : Steps tb e below (T.setTop { g with pc := g.pc + 1, stack := .double (Jvm.FP.dadd x y) :: rest }) target) : Steps tb e below (T.setTop g) target := by
  subst hg
  obtain ⟨fm, fpc, fls, fst, flk, fen, fmr⟩ := g
  dsimp only at hs
  subst hs
  jvm_step h [h.top, hx, hd, Op.dadd.at_number h.top hn]
  exact hr
theorem own_dsub {tb : Tables} [Ours tb] {e : Env} {below : List Frame} {T target : State} {m : MethodId} {c : Code} {g : JFrame} (h : At T m c below) (hx : tb.exec = Jvm.exec) (hg : g.method = m) {x y : UInt64} {rest : List Value} (hd : Jvm.ClassFile.decode c.code g.pc = .ok (.dsub, 1)) (hs : g.stack = .double y :: .double x :: rest) (hn : NoNaN64 (Jvm.FP.dsub x y))
    (hr : Steps tb e below (T.setTop { g with pc := g.pc + 1, stack := .double (Jvm.FP.dsub x y) :: rest }) target) : Steps tb e below (T.setTop g) target := by
  subst hg
  obtain ⟨fm, fpc, fls, fst, flk, fen, fmr⟩ := g
  dsimp only at hs
  subst hs
  jvm_step h [h.top, hx, hd, Op.dsub.at_number h.top hn]
  exact hr
section
variable {p : Program} {l : Launch} {e : Env} {R : Room} {s : State} {m : MethodId} {args : Array Value} {below : List Frame} {meth : Method} {c : Code} {T : State} {h : Heap} {k n n0 K N : Nat} {Q : Option Value → Heap → Prop} {Z : State} {a0 : Array Value} {Φ : State → Outcome → Prop}
theorem own_retD (H : Here p l e R s m args below meth c n0 T h k n) (hx : p.tables.exec = Jvm.exec) (hlk : meth.locks = false) (hret : meth.sig.returnType = some .double) {pc : Nat} {Ls : Array Slot} {z : UInt64} {rest : List Value} (hd : Jvm.ClassFile.decode c.code pc = .ok (.dreturn, 1)) (hQ : Q (some (.double z)) h) (hk : k ≤ K) (hn : n ≤ N) :
    Go p e below (Fini below s n0 Q K N) (T.setTop (mkF m pc Ls (.double z :: rest))) := by
  obtain ⟨locs, X, r1, r2⟩ := H.stand
  exact H.leave hlk (fun q => by rw [hret] at q; cases q) hQ hk hn fun fs hr => retOut X hx hret rfl (Or.inr (Or.inr (Or.inl ⟨rfl, rfl, z, rfl⟩))) hd hr
theorem own_ldcD (H : Here p l e R s m args below meth c n0 T h k n) (hx : p.tables.exec = Jvm.exec) (hZ : Z.Warmed39 s.vm) {own : String} {index : Nat} {v : UInt64} (hown : s.vm.findClass own = some m.cls) (w : (Jvm.Cond.constantDouble own index v).before a0 Z = true) {g : JFrame} (hg : g.method = m) (hd : Jvm.ClassFile.decode c.code g.pc = .ok (.ldc2_w index, 3))
    (next : Go p e below Φ (T.setTop { g with pc := g.pc + 3, stack := .double v :: g.stack })) : Go p e below Φ (T.setTop g) := by
  obtain ⟨locs, X, r1, r2⟩ := H.stand
  exact Go.via (X.ldc2DoubleC hx hown (mvT hZ w) hg hd) next
theorem own_newE (H : Here p l e R s m args below meth c n0 T h k n) (hx : p.tables.exec = Jvm.exec) (hZ : Z.Warmed39 s.vm) (w : (Jvm.Cond.arrayClass .int).before a0 Z = true) {g : JFrame} (hg : g.method = m) (hd : Jvm.ClassFile.decode c.code g.pc = .ok (.newarray .int, 2)) {z : Int32} {rest : List Value} (hs : g.stack = .int z :: rest)
    (hn : ¬ z < 0) (N' : Nat) (hz : z.toNatClampNeg = N') (cap : Nat) (hcap : N' ≤ cap) (hb : cap * 8 ≤ 536870912) (hc : k + 1 ≤ R.cells) (hl : n + cap ≤ R.slots)
    (next : ∀ T' h' a, a = h.size → Ext h h' → Ab Z h' a .int N' (fun _ => 0) → Exa Z h' a "[I" → Here p l e R s m args below meth c n0 T' h' (k + 1) (n + cap) → Go p e below Φ (T'.setTop { g with pc := g.pc + 2, stack := .ref a :: rest })) : Go p e below Φ (T.setTop g) := by
  obtain ⟨locs, X, r1, r2⟩ := H.stand
  obtain ⟨T', h', cA, X', e', E, A, Ex, st⟩ := newPE X hx hZ (aty := .int) w r1 hg hd hs hn (by rw [hz]; exact hcap) hb hc hl (ad := "[I") (by decide)
  exact Go.via st (next T' h' _ rfl E (Ab.new A hz rfl) Ex ⟨_, X', e', r2⟩)
theorem own_clone (H : Here p l e R s m args below meth c n0 T h k n) (hx : p.tables.exec = Jvm.exec) (hZ : Z.Warmed39 s.vm) {own ad : String} {index : Nat} (hown : s.vm.findClass own = some m.cls)
    (w1 : (Jvm.Cond.methodLink own index ⟨ad, "clone", "()Ljava/lang/Object;"⟩).before a0 Z = true) (w2 : (Jvm.Cond.sameMethod ad "java/lang/Object" "clone" "()Ljava/lang/Object;").before a0 Z = true) (w3 : (Jvm.Cond.native ⟨"java/lang/Object", "clone", "()Ljava/lang/Object;"⟩).before a0 Z = true)
    (w4 : (Jvm.Cond.instanceMethod ⟨"java/lang/Object", "clone", "()Ljava/lang/Object;"⟩).before a0 Z = true) (w5 : (Jvm.Cond.selects ad ⟨ad, "clone", "()Ljava/lang/Object;"⟩ ⟨"java/lang/Object", "clone", "()Ljava/lang/Object;"⟩).before a0 Z = true) (w6 : (Jvm.Cond.castable ad "java/lang/Cloneable").before a0 Z = true)
    {a : Addr} {N' : Nat} {B : Nat → Int32} (A : Ab Z h a .int N' B) (E : Exa Z h a ad) {g : JFrame} (hg : g.method = m) (hsize : g.locals.size = c.maxLocals) {rest : List Value} (hs : g.stack = .ref a :: rest) (hd : Jvm.ClassFile.decode c.code g.pc = .ok (.invokevirtual index, 3))
    (hf : 1 ≤ R.frames) (W cap : Nat) (hW : 2 * g.monitorRoom + (rest.map fun v => v.category).sum ≤ W) (hl : W + 14 ≤ R.locals) (hcap : N' ≤ cap) (hc : k + 1 ≤ R.cells) (hsl : n + cap ≤ R.slots)
    (next : ∀ T' h' a', a' = h.size → Ext h h' → Exa Z h' a' ad → Here p l e R s m args below meth c n0 T' h' (k + 1) (n + cap) → Go p e below Φ (T'.setTop { g with pc := g.pc + 3, stack := .ref a' :: rest })) : Go p e below Φ (T.setTop g) := by
  obtain ⟨locs, X, r1, r2⟩ := H.stand
  obtain ⟨cl, A0, S, G⟩ := A
  have FC : FitC Z cl := fitC_of A0 fun i hi v hv => by rw [G i (S ▸ hi)] at hv; cases hv; rfl
  obtain ⟨T', h', X', e', ex, A', E', st⟩ := cloneA X hx hZ hown w1 w2 w3 w4 w5 w6 r1 A0 E FC hg hsize hs hd hf hW hl (by rw [S]; exact hcap) hc hsl
  exact Go.via st (next T' h' _ rfl ex E' ⟨_, X', e', r2⟩)
end
end OwnF

theorem d8_0 : decode jdk_41_method_11_code 0 = .ok (.iload_n 0, 1) := by decide +kernel
theorem d8_1 : decode jdk_41_method_11_code 1 = .ok (.ifCond .lt 8, 3) := by decide +kernel
theorem d8_4 : decode jdk_41_method_11_code 4 = .ok (.iload_n 0, 1) := by decide +kernel
theorem d8_5 : decode jdk_41_method_11_code 5 = .ok (.iload_n 1, 1) := by decide +kernel
theorem d8_6 : decode jdk_41_method_11_code 6 = .ok (.if_icmp .lt 10, 3) := by decide +kernel
theorem d8_9 : decode jdk_41_method_11_code 9 = .ok (.aload_n 2, 1) := by decide +kernel
theorem d8_10 : decode jdk_41_method_11_code 10 = .ok (.iload_n 0, 1) := by decide +kernel
theorem d8_11 : decode jdk_41_method_11_code 11 = .ok (.iload_n 1, 1) := by decide +kernel
theorem d8_12 : decode jdk_41_method_11_code 12 = .ok (.invokestatic 95, 3) := by decide +kernel
theorem d8_15 : decode jdk_41_method_11_code 15 = .ok (.athrow, 1) := by decide +kernel
theorem d8_16 : decode jdk_41_method_11_code 16 = .ok (.iload_n 0, 1) := by decide +kernel
theorem d8_17 : decode jdk_41_method_11_code 17 = .ok (.ireturn, 1) := by decide +kernel
theorem ef_rmPC (m : MethodId) (x0 : Int32) (x1 : Int32) : entryFrame m #[(.int x0), (.int x1), .null] 3 = mkF m 0 #[.val (.int x0), .val (.int x1), .val .null] [] := by first | (simp [entryFrame, mkF, argsToLocals, Value.category]; done) | rfl
set_option maxRecDepth 65536 in
set_option maxHeartbeats 40000000 in
theorem rmPC (l : Launch) (Z : State) (a0 : Array Value) (hw : ∀ d ∈ tables_1, d.before a0 Z = true) (i z : Int32) (h0 : Heap) (n0 : Nat) (h1 : ¬ i < 0) (h2 : i < z) :
    CM l Z (⟨"jdk/internal/util/Preconditions", "checkIndex", "(IILjava/util/function/BiFunction;)I"⟩ : MethodName) jdk_41_method_11_code 3 (some .int) ({ frames := 0, cells := 0, slots := 0, locals := 0 } : Room) #[(.int i), (.int z), .null] h0 n0 (fun v h => v = some (.int i) ∧ h0 = h) := by
  refine own_enter (by decide +kernel) ?_
  intro p e s m below meth c T0 hx hby hml hown hnm hZ hret hlk H0
  replace hown : s.vm.findClass "jdk/internal/util/Preconditions" = some m.cls := hown
  replace hret : meth.sig.returnType = some .int := hret
  refine Go.via (fun t_ k_ => castTop (ef_rmPC m i z) k_) ?_
  show Go _ _ _ _ (T0.setTop (mkF m 0 #[.val (.int i), .val (.int z), .val .null] []))
  refine Go.via (fun t_ k_ => XS.iloadN H0.here hx rfl (hb hby d8_0) rfl k_) ?_
  show Go _ _ _ _ (T0.setTop (mkF m 1 #[.val (.int i), .val (.int z), .val .null] [(.int i)]))
  refine Go.via (fun t_ k_ => XS.ifNo H0.here hx rfl (hb hby d8_1) rfl ((if0 _ _).trans (flt (show ¬ (i < (0 : Int32)) from h1)).1) k_) ?_
  show Go _ _ _ _ (T0.setTop (mkF m 4 #[.val (.int i), .val (.int z), .val .null] []))
  refine Go.via (fun t_ k_ => XS.iloadN H0.here hx rfl (hb hby d8_4) rfl k_) ?_
  show Go _ _ _ _ (T0.setTop (mkF m 5 #[.val (.int i), .val (.int z), .val .null] [(.int i)]))
  refine Go.via (fun t_ k_ => XS.iloadN H0.here hx rfl (hb hby d8_5) rfl k_) ?_
  show Go _ _ _ _ (T0.setTop (mkF m 6 #[.val (.int i), .val (.int z), .val .null] [(.int z), (.int i)]))
  refine Go.via (fun t_ k_ => XS.icmpYes H0.here hx rfl (pc0 := 6) (pc' := 16) rfl (hb hby d8_6) rfl ((tlt (show i < z from h2)).1) (by decide) (by decide) k_) ?_
  show Go _ _ _ _ (T0.setTop (mkF m 16 #[.val (.int i), .val (.int z), .val .null] []))
  refine Go.via (fun t_ k_ => XS.iloadN H0.here hx rfl (hb hby d8_16) rfl k_) ?_
  show Go _ _ _ _ (T0.setTop (mkF m 17 #[.val (.int i), .val (.int z), .val .null] [(.int i)]))
  exact own_retI H0 hx hlk hret (hb hby d8_17) ⟨rfl, rfl⟩ (by decide) (by decide)
theorem d7_0 : decode jdk_31_method_17_code 0 = .ok (.iload_n 0, 1) := by decide +kernel
theorem d7_1 : decode jdk_31_method_17_code 1 = .ok (.iload_n 1, 1) := by decide +kernel
theorem d7_2 : decode jdk_31_method_17_code 2 = .ok (.aconst_null, 1) := by decide +kernel
theorem d7_3 : decode jdk_31_method_17_code 3 = .ok (.invokestatic 105, 3) := by decide +kernel
theorem d7_6 : decode jdk_31_method_17_code 6 = .ok (.ireturn, 1) := by decide +kernel
theorem ef_rmCI (m : MethodId) (x0 : Int32) (x1 : Int32) : entryFrame m #[(.int x0), (.int x1)] 2 = mkF m 0 #[.val (.int x0), .val (.int x1)] [] := by first | (simp [entryFrame, mkF, argsToLocals, Value.category]; done) | rfl
theorem pd_0 : parseMethodDescriptor "(IILjava/util/function/BiFunction;)I" = some ⟨[.int, .int, (.object "java/util/function/BiFunction")], some .int⟩ := by decide +kernel
set_option maxRecDepth 65536 in
set_option maxHeartbeats 40000000 in
theorem rmCI (l : Launch) (Z : State) (a0 : Array Value) (hw : ∀ d ∈ tables_1, d.before a0 Z = true) (i z : Int32) (h0 : Heap) (n0 : Nat) (h1 : ¬ i < 0) (h2 : i < z) :
    CM l Z (⟨"java/util/Objects", "checkIndex", "(II)I"⟩ : MethodName) jdk_31_method_17_code 2 (some .int) ({ frames := 1, cells := 0, slots := 0, locals := 14 } : Room) #[(.int i), (.int z)] h0 n0 (fun v h => v = some (.int i) ∧ h0 = h) := by
  refine own_enter (by decide +kernel) ?_
  intro p e s m below meth c T0 hx hby hml hown hnm hZ hret hlk H0
  replace hown : s.vm.findClass "java/util/Objects" = some m.cls := hown
  replace hret : meth.sig.returnType = some .int := hret
  refine Go.via (fun t_ k_ => castTop (ef_rmCI m i z) k_) ?_
  show Go _ _ _ _ (T0.setTop (mkF m 0 #[.val (.int i), .val (.int z)] []))
  refine Go.via (fun t_ k_ => XS.iloadN H0.here hx rfl (hb hby d7_0) rfl k_) ?_
  show Go _ _ _ _ (T0.setTop (mkF m 1 #[.val (.int i), .val (.int z)] [(.int i)]))
  refine Go.via (fun t_ k_ => XS.iloadN H0.here hx rfl (hb hby d7_1) rfl k_) ?_
  show Go _ _ _ _ (T0.setTop (mkF m 2 #[.val (.int i), .val (.int z)] [(.int z), (.int i)]))
  refine Go.via (fun t_ k_ => XS.aconstNull H0.here hx rfl (hb hby d7_2) k_) ?_
  show Go _ _ _ _ (T0.setTop (mkF m 3 #[.val (.int i), .val (.int z)] [.null, (.int z), (.int i)]))
  refine own_callS H0 hx hZ (y := (⟨"jdk/internal/util/Preconditions", "checkIndex", "(IILjava/util/function/BiFunction;)I"⟩ : MethodName)) hown (hw _ (List.mem_of_getElem? (i := 88) rfl)) (hw _ (List.mem_of_getElem? (i := 89) rfl)) (hw _ (List.mem_of_getElem? (i := 90) rfl)) (hw _ (List.mem_of_getElem? (i := 91) rfl)) (by decide) (rmPC l Z a0 hw i z h0 n0 h1 h2) (g := (mkF m 3 #[.val (.int i), .val (.int z)] [.null, (.int z), (.int i)])) rfl (by rw [hml]; rfl) (argsL := [(.int i), (.int z), .null]) (rest := []) (lenOf pd_0 rfl) rfl 0 (Nat.le_of_eq rfl) (hb hby d7_3) (by decide) (by decide) (by decide) (by decide) ?_
  rintro _ T1 _ ⟨rfl, rfl⟩ H1
  show Go _ _ _ _ (T1.setTop (mkF m 6 #[.val (.int i), .val (.int z)] [(.int i)]))
  exact own_retI H1 hx hlk hret (hb hby d7_6) ⟨rfl, rfl⟩ (by decide) (by decide)
theorem d12_0 : decode jdk_41_method_12_code 0 = .ok (.iload_n 0, 1) := by decide +kernel
theorem d12_1 : decode jdk_41_method_12_code 1 = .ok (.ifCond .lt 13, 3) := by decide +kernel
theorem d12_4 : decode jdk_41_method_12_code 4 = .ok (.iload_n 0, 1) := by decide +kernel
theorem d12_5 : decode jdk_41_method_12_code 5 = .ok (.iload_n 1, 1) := by decide +kernel
theorem d12_6 : decode jdk_41_method_12_code 6 = .ok (.if_icmp .gt 8, 3) := by decide +kernel
theorem d12_9 : decode jdk_41_method_12_code 9 = .ok (.iload_n 1, 1) := by decide +kernel
theorem d12_10 : decode jdk_41_method_12_code 10 = .ok (.iload_n 2, 1) := by decide +kernel
theorem d12_11 : decode jdk_41_method_12_code 11 = .ok (.if_icmp .le 11, 3) := by decide +kernel
theorem d12_14 : decode jdk_41_method_12_code 14 = .ok (.aload_n 3, 1) := by decide +kernel
theorem d12_15 : decode jdk_41_method_12_code 15 = .ok (.iload_n 0, 1) := by decide +kernel
theorem d12_16 : decode jdk_41_method_12_code 16 = .ok (.iload_n 1, 1) := by decide +kernel
theorem d12_17 : decode jdk_41_method_12_code 17 = .ok (.iload_n 2, 1) := by decide +kernel
theorem d12_18 : decode jdk_41_method_12_code 18 = .ok (.invokestatic 99, 3) := by decide +kernel
theorem d12_21 : decode jdk_41_method_12_code 21 = .ok (.athrow, 1) := by decide +kernel
theorem d12_22 : decode jdk_41_method_12_code 22 = .ok (.iload_n 0, 1) := by decide +kernel
theorem d12_23 : decode jdk_41_method_12_code 23 = .ok (.ireturn, 1) := by decide +kernel
theorem ef_rmPF (m : MethodId) (x0 : Int32) (x1 : Int32) (x2 : Int32) : entryFrame m #[(.int x0), (.int x1), (.int x2), .null] 4 = mkF m 0 #[.val (.int x0), .val (.int x1), .val (.int x2), .val .null] [] := by first | (simp [entryFrame, mkF, argsToLocals, Value.category]; done) | rfl
set_option maxRecDepth 65536 in
set_option maxHeartbeats 40000000 in
theorem rmPF (l : Launch) (Z : State) (a0 : Array Value) (hw : ∀ d ∈ tables_1, d.before a0 Z = true) (i t z : Int32) (h0 : Heap) (n0 : Nat) (h1 : ¬ i < 0) (h2 : ¬ t < i) (h3 : ¬ z < t) :
    CM l Z (⟨"jdk/internal/util/Preconditions", "checkFromToIndex", "(IIILjava/util/function/BiFunction;)I"⟩ : MethodName) jdk_41_method_12_code 4 (some .int) ({ frames := 0, cells := 0, slots := 0, locals := 0 } : Room) #[(.int i), (.int t), (.int z), .null] h0 n0 (fun v h => v = some (.int i) ∧ h0 = h) := by
  refine own_enter (by decide +kernel) ?_
  intro p e s m below meth c T0 hx hby hml hown hnm hZ hret hlk H0
  replace hown : s.vm.findClass "jdk/internal/util/Preconditions" = some m.cls := hown
  replace hret : meth.sig.returnType = some .int := hret
  refine Go.via (fun t_ k_ => castTop (ef_rmPF m i t z) k_) ?_
  show Go _ _ _ _ (T0.setTop (mkF m 0 #[.val (.int i), .val (.int t), .val (.int z), .val .null] []))
  refine Go.via (fun t_ k_ => XS.iloadN H0.here hx rfl (hb hby d12_0) rfl k_) ?_
  show Go _ _ _ _ (T0.setTop (mkF m 1 #[.val (.int i), .val (.int t), .val (.int z), .val .null] [(.int i)]))
  refine Go.via (fun t_ k_ => XS.ifNo H0.here hx rfl (hb hby d12_1) rfl ((if0 _ _).trans (flt (show ¬ (i < (0 : Int32)) from h1)).1) k_) ?_
  show Go _ _ _ _ (T0.setTop (mkF m 4 #[.val (.int i), .val (.int t), .val (.int z), .val .null] []))
  refine Go.via (fun t_ k_ => XS.iloadN H0.here hx rfl (hb hby d12_4) rfl k_) ?_
  show Go _ _ _ _ (T0.setTop (mkF m 5 #[.val (.int i), .val (.int t), .val (.int z), .val .null] [(.int i)]))
  refine Go.via (fun t_ k_ => XS.iloadN H0.here hx rfl (hb hby d12_5) rfl k_) ?_
  show Go _ _ _ _ (T0.setTop (mkF m 6 #[.val (.int i), .val (.int t), .val (.int z), .val .null] [(.int t), (.int i)]))
  refine Go.via (fun t_ k_ => XS.icmpNo H0.here hx rfl (hb hby d12_6) rfl ((flt (show ¬ (t < i) from h2)).2.2.1) k_) ?_
  show Go _ _ _ _ (T0.setTop (mkF m 9 #[.val (.int i), .val (.int t), .val (.int z), .val .null] []))
  refine Go.via (fun t_ k_ => XS.iloadN H0.here hx rfl (hb hby d12_9) rfl k_) ?_
  show Go _ _ _ _ (T0.setTop (mkF m 10 #[.val (.int i), .val (.int t), .val (.int z), .val .null] [(.int t)]))
  refine Go.via (fun t_ k_ => XS.iloadN H0.here hx rfl (hb hby d12_10) rfl k_) ?_
  show Go _ _ _ _ (T0.setTop (mkF m 11 #[.val (.int i), .val (.int t), .val (.int z), .val .null] [(.int z), (.int t)]))
  refine Go.via (fun t_ k_ => XS.icmpYes H0.here hx rfl (pc0 := 11) (pc' := 22) rfl (hb hby d12_11) rfl ((flt (show ¬ (z < t) from h3)).2.2.2) (by decide) (by decide) k_) ?_
  show Go _ _ _ _ (T0.setTop (mkF m 22 #[.val (.int i), .val (.int t), .val (.int z), .val .null] []))
  refine Go.via (fun t_ k_ => XS.iloadN H0.here hx rfl (hb hby d12_22) rfl k_) ?_
  show Go _ _ _ _ (T0.setTop (mkF m 23 #[.val (.int i), .val (.int t), .val (.int z), .val .null] [(.int i)]))
  exact own_retI H0 hx hlk hret (hb hby d12_23) ⟨rfl, rfl⟩ (by decide) (by decide)
theorem d11_0 : decode jdk_31_method_18_code 0 = .ok (.iload_n 0, 1) := by decide +kernel
theorem d11_1 : decode jdk_31_method_18_code 1 = .ok (.iload_n 1, 1) := by decide +kernel
theorem d11_2 : decode jdk_31_method_18_code 2 = .ok (.iload_n 2, 1) := by decide +kernel
theorem d11_3 : decode jdk_31_method_18_code 3 = .ok (.aconst_null, 1) := by decide +kernel
theorem d11_4 : decode jdk_31_method_18_code 4 = .ok (.invokestatic 111, 3) := by decide +kernel
theorem d11_7 : decode jdk_31_method_18_code 7 = .ok (.ireturn, 1) := by decide +kernel
theorem ef_rmFI (m : MethodId) (x0 : Int32) (x1 : Int32) (x2 : Int32) : entryFrame m #[(.int x0), (.int x1), (.int x2)] 3 = mkF m 0 #[.val (.int x0), .val (.int x1), .val (.int x2)] [] := by first | (simp [entryFrame, mkF, argsToLocals, Value.category]; done) | rfl
theorem pd_1 : parseMethodDescriptor "(IIILjava/util/function/BiFunction;)I" = some ⟨[.int, .int, .int, (.object "java/util/function/BiFunction")], some .int⟩ := by decide +kernel
set_option maxRecDepth 65536 in
set_option maxHeartbeats 40000000 in
theorem rmFI (l : Launch) (Z : State) (a0 : Array Value) (hw : ∀ d ∈ tables_1, d.before a0 Z = true) (i t z : Int32) (h0 : Heap) (n0 : Nat) (h1 : ¬ i < 0) (h2 : ¬ t < i) (h3 : ¬ z < t) :
    CM l Z (⟨"java/util/Objects", "checkFromToIndex", "(III)I"⟩ : MethodName) jdk_31_method_18_code 3 (some .int) ({ frames := 1, cells := 0, slots := 0, locals := 15 } : Room) #[(.int i), (.int t), (.int z)] h0 n0 (fun v h => v = some (.int i) ∧ h0 = h) := by
  refine own_enter (by decide +kernel) ?_
  intro p e s m below meth c T0 hx hby hml hown hnm hZ hret hlk H0
  replace hown : s.vm.findClass "java/util/Objects" = some m.cls := hown
  replace hret : meth.sig.returnType = some .int := hret
  refine Go.via (fun t_ k_ => castTop (ef_rmFI m i t z) k_) ?_
  show Go _ _ _ _ (T0.setTop (mkF m 0 #[.val (.int i), .val (.int t), .val (.int z)] []))
  refine Go.via (fun t_ k_ => XS.iloadN H0.here hx rfl (hb hby d11_0) rfl k_) ?_
  show Go _ _ _ _ (T0.setTop (mkF m 1 #[.val (.int i), .val (.int t), .val (.int z)] [(.int i)]))
  refine Go.via (fun t_ k_ => XS.iloadN H0.here hx rfl (hb hby d11_1) rfl k_) ?_
  show Go _ _ _ _ (T0.setTop (mkF m 2 #[.val (.int i), .val (.int t), .val (.int z)] [(.int t), (.int i)]))
  refine Go.via (fun t_ k_ => XS.iloadN H0.here hx rfl (hb hby d11_2) rfl k_) ?_
  show Go _ _ _ _ (T0.setTop (mkF m 3 #[.val (.int i), .val (.int t), .val (.int z)] [(.int z), (.int t), (.int i)]))
  refine Go.via (fun t_ k_ => XS.aconstNull H0.here hx rfl (hb hby d11_3) k_) ?_
  show Go _ _ _ _ (T0.setTop (mkF m 4 #[.val (.int i), .val (.int t), .val (.int z)] [.null, (.int z), (.int t), (.int i)]))
  refine own_callS H0 hx hZ (y := (⟨"jdk/internal/util/Preconditions", "checkFromToIndex", "(IIILjava/util/function/BiFunction;)I"⟩ : MethodName)) hown (hw _ (List.mem_of_getElem? (i := 105) rfl)) (hw _ (List.mem_of_getElem? (i := 106) rfl)) (hw _ (List.mem_of_getElem? (i := 90) rfl)) (hw _ (List.mem_of_getElem? (i := 107) rfl)) (by decide) (rmPF l Z a0 hw i t z h0 n0 h1 h2 h3) (g := (mkF m 4 #[.val (.int i), .val (.int t), .val (.int z)] [.null, (.int z), (.int t), (.int i)])) rfl (by rw [hml]; rfl) (argsL := [(.int i), (.int t), (.int z), .null]) (rest := []) (lenOf pd_1 rfl) rfl 0 (Nat.le_of_eq rfl) (hb hby d11_4) (by decide) (by decide) (by decide) (by decide) ?_
  rintro _ T1 _ ⟨rfl, rfl⟩ H1
  show Go _ _ _ _ (T1.setTop (mkF m 7 #[.val (.int i), .val (.int t), .val (.int z)] [(.int i)]))
  exact own_retI H1 hx hlk hret (hb hby d11_7) ⟨rfl, rfl⟩ (by decide) (by decide)
theorem d13_0 : decode prog_48_method_14_code 0 = .ok (.aload_n 0, 1) := by decide +kernel
theorem d13_1 : decode prog_48_method_14_code 1 = .ok (.iload_n 1, 1) := by decide +kernel
theorem d13_2 : decode prog_48_method_14_code 2 = .ok (.iaload, 1) := by decide +kernel
theorem d13_3 : decode prog_48_method_14_code 3 = .ok (.istore_n 3, 1) := by decide +kernel
theorem d13_4 : decode prog_48_method_14_code 4 = .ok (.iload_n 1, 1) := by decide +kernel
theorem d13_5 : decode prog_48_method_14_code 5 = .ok (.iconst 1, 1) := by decide +kernel
theorem d13_6 : decode prog_48_method_14_code 6 = .ok (.iadd, 1) := by decide +kernel
theorem d13_7 : decode prog_48_method_14_code 7 = .ok (.istore 4, 2) := by decide +kernel
theorem d13_9 : decode prog_48_method_14_code 9 = .ok (.iload 4, 2) := by decide +kernel
theorem d13_11 : decode prog_48_method_14_code 11 = .ok (.iload_n 2, 1) := by decide +kernel
theorem d13_12 : decode prog_48_method_14_code 12 = .ok (.if_icmp .ge 18, 3) := by decide +kernel
theorem d13_15 : decode prog_48_method_14_code 15 = .ok (.iload_n 3, 1) := by decide +kernel
theorem d13_16 : decode prog_48_method_14_code 16 = .ok (.aload_n 0, 1) := by decide +kernel
theorem d13_17 : decode prog_48_method_14_code 17 = .ok (.iload 4, 2) := by decide +kernel
theorem d13_19 : decode prog_48_method_14_code 19 = .ok (.iaload, 1) := by decide +kernel
theorem d13_20 : decode prog_48_method_14_code 20 = .ok (.invokestatic 93, 3) := by decide +kernel
theorem d13_23 : decode prog_48_method_14_code 23 = .ok (.istore_n 3, 1) := by decide +kernel
theorem d13_24 : decode prog_48_method_14_code 24 = .ok (.iinc 4 1, 3) := by decide +kernel
theorem d13_27 : decode prog_48_method_14_code 27 = .ok (.goto (-18), 3) := by decide +kernel
theorem d13_30 : decode prog_48_method_14_code 30 = .ok (.iload_n 3, 1) := by decide +kernel
theorem d13_31 : decode prog_48_method_14_code 31 = .ok (.ireturn, 1) := by decide +kernel
theorem ef_rmLe (m : MethodId) (x0 : Addr) (x1 : Int32) (x2 : Int32) : entryFrame m #[(.ref x0), (.int x1), (.int x2)] 5 = mkF m 0 #[.val (.ref x0), .val (.int x1), .val (.int x2), .unset, .unset] [] := by first | (simp [entryFrame, mkF, argsToLocals, Value.category]; done) | rfl
set_option maxRecDepth 65536 in
set_option maxHeartbeats 40000000 in
theorem rmLe (l : Launch) (Z : State) (a0 : Array Value) (hw : ∀ d ∈ tables_1, d.before a0 Z = true) (a : Addr) (D : Nat → Int32) (i t : Int32) (j : Nat) (h0 : Heap) (n0 : Nat) (A : Ab Z h0 a .int 2 D) (ht : i + 1 = t) (hj : i.toInt = (j : Int)) (hj2 : j < 2) :
    CM l Z (⟨"com/example/neardb/neardb/index/PostingPage", "least", "([III)I"⟩ : MethodName) prog_48_method_14_code 5 (some .int) ({ frames := 0, cells := 0, slots := 0, locals := 0 } : Room) #[(.ref a), (.int i), (.int t)] h0 n0 (fun v h => v = some (.int (D j)) ∧ h0 = h) := by
  refine own_enter (by decide +kernel) ?_
  intro p e s m below meth c T0 hx hby hml hown hnm hZ hret hlk H0
  replace hown : s.vm.findClass "com/example/neardb/neardb/index/PostingPage" = some m.cls := hown
  replace hret : meth.sig.returnType = some .int := hret
  refine Go.via (fun t_ k_ => castTop (ef_rmLe m a i t) k_) ?_
  show Go _ _ _ _ (T0.setTop (mkF m 0 #[.val (.ref a), .val (.int i), .val (.int t), .unset, .unset] []))
  refine Go.via (fun t_ k_ => XS.aloadN H0.here hx rfl (hb hby d13_0) rfl rfl k_) ?_
  show Go _ _ _ _ (T0.setTop (mkF m 1 #[.val (.ref a), .val (.int i), .val (.int t), .unset, .unset] [(.ref a)]))
  refine Go.via (fun t_ k_ => XS.iloadN H0.here hx rfl (hb hby d13_1) rfl k_) ?_
  show Go _ _ _ _ (T0.setTop (mkF m 2 #[.val (.ref a), .val (.int i), .val (.int t), .unset, .unset] [(.int i), (.ref a)]))
  refine own_ldIA H0 hx hZ A (j := j) hj hj2 (g := (mkF m 2 #[.val (.ref a), .val (.int i), .val (.int t), .unset, .unset] [(.int i), (.ref a)])) rfl rfl (hb hby d13_2) ?_
  show Go _ _ _ _ (T0.setTop (mkF m 3 #[.val (.ref a), .val (.int i), .val (.int t), .unset, .unset] [(.int (D j))]))
  refine Go.via (fun t_ k_ => XS.istoreN H0.here hx rfl (hb hby d13_3) rfl (l' := #[.val (.ref a), .val (.int i), .val (.int t), .val (.int (D j)), .unset]) rfl k_) ?_
  show Go _ _ _ _ (T0.setTop (mkF m 4 #[.val (.ref a), .val (.int i), .val (.int t), .val (.int (D j)), .unset] []))
  refine Go.via (fun t_ k_ => XS.iloadN H0.here hx rfl (hb hby d13_4) rfl k_) ?_
  show Go _ _ _ _ (T0.setTop (mkF m 5 #[.val (.ref a), .val (.int i), .val (.int t), .val (.int (D j)), .unset] [(.int i)]))
  refine Go.via (fun t_ k_ => XS.iconst H0.here hx rfl (hb hby d13_5) k_) ?_
  show Go _ _ _ _ (T0.setTop (mkF m 6 #[.val (.ref a), .val (.int i), .val (.int t), .val (.int (D j)), .unset] [(.int (1 : Int32)), (.int i)]))
  refine Go.via (fun t_ k_ => XS.iadd H0.here hx rfl (hb hby d13_6) rfl k_) ?_
  show Go _ _ _ _ (T0.setTop (mkF m 7 #[.val (.ref a), .val (.int i), .val (.int t), .val (.int (D j)), .unset] [(.int (i + (1 : Int32)))]))
  refine Go.via (fun t_ k_ => XS.istore H0.here hx rfl (hb hby d13_7) rfl (l' := #[.val (.ref a), .val (.int i), .val (.int t), .val (.int (D j)), .val (.int (i + (1 : Int32)))]) rfl k_) ?_
  show Go _ _ _ _ (T0.setTop (mkF m 9 #[.val (.ref a), .val (.int i), .val (.int t), .val (.int (D j)), .val (.int (i + (1 : Int32)))] []))
  refine Go.via (fun t_ k_ => XS.iload H0.here hx rfl (hb hby d13_9) rfl k_) ?_
  show Go _ _ _ _ (T0.setTop (mkF m 11 #[.val (.ref a), .val (.int i), .val (.int t), .val (.int (D j)), .val (.int (i + (1 : Int32)))] [(.int (i + (1 : Int32)))]))
  refine Go.via (fun t_ k_ => XS.iloadN H0.here hx rfl (hb hby d13_11) rfl k_) ?_
  show Go _ _ _ _ (T0.setTop (mkF m 12 #[.val (.ref a), .val (.int i), .val (.int t), .val (.int (D j)), .val (.int (i + (1 : Int32)))] [(.int t), (.int (i + (1 : Int32)))]))
  refine Go.via (fun t_ k_ => XS.icmpYes H0.here hx rfl (pc0 := 12) (pc' := 30) rfl (hb hby d13_12) rfl ((flt (show ¬ ((i + (1 : Int32)) < t) from (by rw [ht]; exact Int32.lt_irrefl))).2.1) (by decide) (by decide) k_) ?_
  show Go _ _ _ _ (T0.setTop (mkF m 30 #[.val (.ref a), .val (.int i), .val (.int t), .val (.int (D j)), .val (.int (i + (1 : Int32)))] []))
  refine Go.via (fun t_ k_ => XS.iloadN H0.here hx rfl (hb hby d13_30) rfl k_) ?_
  show Go _ _ _ _ (T0.setTop (mkF m 31 #[.val (.ref a), .val (.int i), .val (.int t), .val (.int (D j)), .val (.int (i + (1 : Int32)))] [(.int (D j))]))
  exact own_retI H0 hx hlk hret (hb hby d13_31) ⟨rfl, rfl⟩ (by decide) (by decide)
theorem d16_0 : decode prog_28_method_3_code 0 = .ok (.iload_n 0, 1) := by decide +kernel
theorem d16_1 : decode prog_28_method_3_code 1 = .ok (.ifCond .ne 9, 3) := by decide +kernel
theorem d16_4 : decode prog_28_method_3_code 4 = .ok (.dload_n 1, 1) := by decide +kernel
theorem d16_5 : decode prog_28_method_3_code 5 = .ok (.dstore 5, 2) := by decide +kernel
theorem d16_7 : decode prog_28_method_3_code 7 = .ok (.goto 29, 3) := by decide +kernel
theorem d16_10 : decode prog_28_method_3_code 10 = .ok (.iload_n 0, 1) := by decide +kernel
theorem d16_11 : decode prog_28_method_3_code 11 = .ok (.ldc 35, 2) := by decide +kernel
theorem d16_13 : decode prog_28_method_3_code 13 = .ok (.if_icmp .ne 9, 3) := by decide +kernel
theorem d16_16 : decode prog_28_method_3_code 16 = .ok (.dload_n 3, 1) := by decide +kernel
theorem d16_17 : decode prog_28_method_3_code 17 = .ok (.dstore 5, 2) := by decide +kernel
theorem d16_19 : decode prog_28_method_3_code 19 = .ok (.goto 17, 3) := by decide +kernel
theorem d16_22 : decode prog_28_method_3_code 22 = .ok (.dload_n 1, 1) := by decide +kernel
theorem d16_23 : decode prog_28_method_3_code 23 = .ok (.dload_n 3, 1) := by decide +kernel
theorem d16_24 : decode prog_28_method_3_code 24 = .ok (.dload_n 1, 1) := by decide +kernel
theorem d16_25 : decode prog_28_method_3_code 25 = .ok (.dsub, 1) := by decide +kernel
theorem d16_26 : decode prog_28_method_3_code 26 = .ok (.iload_n 0, 1) := by decide +kernel
theorem d16_27 : decode prog_28_method_3_code 27 = .ok (.i2d, 1) := by decide +kernel
theorem d16_28 : decode prog_28_method_3_code 28 = .ok (.ldc2_w 36, 3) := by decide +kernel
theorem d16_31 : decode prog_28_method_3_code 31 = .ok (.dmul, 1) := by decide +kernel
theorem d16_32 : decode prog_28_method_3_code 32 = .ok (.dmul, 1) := by decide +kernel
theorem d16_33 : decode prog_28_method_3_code 33 = .ok (.dadd, 1) := by decide +kernel
theorem d16_34 : decode prog_28_method_3_code 34 = .ok (.dstore 5, 2) := by decide +kernel
theorem d16_36 : decode prog_28_method_3_code 36 = .ok (.dload 5, 2) := by decide +kernel
theorem d16_38 : decode prog_28_method_3_code 38 = .ok (.dreturn, 1) := by decide +kernel
theorem ef_rmEd (m : MethodId) (x0 : Int32) (x1 : UInt64) (x2 : UInt64) : entryFrame m #[(.int x0), (.double x1), (.double x2)] 7 = mkF m 0 #[.val (.int x0), .val (.double x1), .second, .val (.double x2), .second, .unset, .unset] [] := by first | (simp [entryFrame, mkF, argsToLocals, Value.category]; done) | rfl
set_option maxRecDepth 65536 in
set_option maxHeartbeats 40000000 in
theorem rmEd (l : Launch) (Z : State) (a0 : Array Value) (hw : ∀ d ∈ tables_1, d.before a0 Z = true) (z : Int32) (h0 : Heap) (n0 : Nat)  :
    CM l Z (⟨"com/example/neardb/neardb/index/Grid", "edge", "(IDD)D"⟩ : MethodName) prog_28_method_3_code 7 (some .double) ({ frames := 0, cells := 0, slots := 0, locals := 0 } : Room) #[(.int z), (.double (0 : UInt64)), (.double cH)] h0 n0 (fun v h => v = some (.double (FP.i2d z)) ∧ h0 = h) := by
  refine own_enter (by decide +kernel) ?_
  intro p e s m below meth c T0 hx hby hml hown hnm hZ hret hlk H0
  replace hown : s.vm.findClass "com/example/neardb/neardb/index/Grid" = some m.cls := hown
  replace hret : meth.sig.returnType = some .double := hret
  refine Go.via (fun t_ k_ => castTop (ef_rmEd m z (0 : UInt64) cH) k_) ?_
  show Go _ _ _ _ (T0.setTop (mkF m 0 #[.val (.int z), .val (.double (0 : UInt64)), .second, .val (.double cH), .second, .unset, .unset] []))
  refine Go.via (fun t_ k_ => XS.iloadN H0.here hx rfl (hb hby d16_0) rfl k_) ?_
  show Go _ _ _ _ (T0.setTop (mkF m 1 #[.val (.int z), .val (.double (0 : UInt64)), .second, .val (.double cH), .second, .unset, .unset] [(.int z)]))
  by_cases hc1 : z = (0 : Int32)
  · refine Go.via (fun t_ k_ => XS.ifNo H0.here hx rfl (hb hby d16_1) rfl ((if0 _ _).trans (teq hc1).2) k_) ?_
    show Go _ _ _ _ (T0.setTop (mkF m 4 #[.val (.int z), .val (.double (0 : UInt64)), .second, .val (.double cH), .second, .unset, .unset] []))
    refine Go.via (fun t_ k_ => own_dloadN H0.here hx rfl (hb hby d16_4) rfl k_) ?_
    show Go _ _ _ _ (T0.setTop (mkF m 5 #[.val (.int z), .val (.double (0 : UInt64)), .second, .val (.double cH), .second, .unset, .unset] [(.double (0 : UInt64))]))
    refine Go.via (fun t_ k_ => own_dstore H0.here hx rfl (hb hby d16_5) rfl (l' := #[.val (.int z), .val (.double (0 : UInt64)), .second, .val (.double cH), .second, .val (.double (0 : UInt64)), .second]) rfl k_) ?_
    show Go _ _ _ _ (T0.setTop (mkF m 7 #[.val (.int z), .val (.double (0 : UInt64)), .second, .val (.double cH), .second, .val (.double (0 : UInt64)), .second] []))
    refine Go.via (fun t_ k_ => XS.goto H0.here hx rfl (pc0 := 7) (pc' := 36) rfl (hb hby d16_7) (by decide) (by decide) k_) ?_
    show Go _ _ _ _ (T0.setTop (mkF m 36 #[.val (.int z), .val (.double (0 : UInt64)), .second, .val (.double cH), .second, .val (.double (0 : UInt64)), .second] []))
    refine Go.via (fun t_ k_ => own_dload H0.here hx rfl (hb hby d16_36) rfl k_) ?_
    show Go _ _ _ _ (T0.setTop (mkF m 38 #[.val (.int z), .val (.double (0 : UInt64)), .second, .val (.double cH), .second, .val (.double (0 : UInt64)), .second] [(.double (0 : UInt64))]))
    exact own_retD H0 hx hlk hret (hb hby d16_38) ⟨by rw [hc1]; exact congrArg (fun z => some (Value.double z)) own_z0.symm, rfl⟩ (by decide) (by decide)
  · refine Go.via (fun t_ k_ => XS.ifYes H0.here hx rfl (pc0 := 1) (pc' := 10) rfl (hb hby d16_1) rfl ((if0 _ _).trans (feq hc1).2) (by decide) (by decide) k_) ?_
    show Go _ _ _ _ (T0.setTop (mkF m 10 #[.val (.int z), .val (.double (0 : UInt64)), .second, .val (.double cH), .second, .unset, .unset] []))
    refine Go.via (fun t_ k_ => XS.iloadN H0.here hx rfl (hb hby d16_10) rfl k_) ?_
    show Go _ _ _ _ (T0.setTop (mkF m 11 #[.val (.int z), .val (.double (0 : UInt64)), .second, .val (.double cH), .second, .unset, .unset] [(.int z)]))
    refine own_ldcI H0 hx hZ hown (hw _ (List.mem_of_getElem? (i := 125) rfl)) (g := (mkF m 11 #[.val (.int z), .val (.double (0 : UInt64)), .second, .val (.double cH), .second, .unset, .unset] [(.int z)])) rfl (hb hby d16_11) ?_
    show Go _ _ _ _ (T0.setTop (mkF m 13 #[.val (.int z), .val (.double (0 : UInt64)), .second, .val (.double cH), .second, .unset, .unset] [(.int (65536 : Int32)), (.int z)]))
    by_cases hc13 : z = (65536 : Int32)
    · refine Go.via (fun t_ k_ => XS.icmpNo H0.here hx rfl (hb hby d16_13) rfl ((teq hc13).2) k_) ?_
      show Go _ _ _ _ (T0.setTop (mkF m 16 #[.val (.int z), .val (.double (0 : UInt64)), .second, .val (.double cH), .second, .unset, .unset] []))
      refine Go.via (fun t_ k_ => own_dloadN H0.here hx rfl (hb hby d16_16) rfl k_) ?_
      show Go _ _ _ _ (T0.setTop (mkF m 17 #[.val (.int z), .val (.double (0 : UInt64)), .second, .val (.double cH), .second, .unset, .unset] [(.double cH)]))
      refine Go.via (fun t_ k_ => own_dstore H0.here hx rfl (hb hby d16_17) rfl (l' := #[.val (.int z), .val (.double (0 : UInt64)), .second, .val (.double cH), .second, .val (.double cH), .second]) rfl k_) ?_
      show Go _ _ _ _ (T0.setTop (mkF m 19 #[.val (.int z), .val (.double (0 : UInt64)), .second, .val (.double cH), .second, .val (.double cH), .second] []))
      refine Go.via (fun t_ k_ => XS.goto H0.here hx rfl (pc0 := 19) (pc' := 36) rfl (hb hby d16_19) (by decide) (by decide) k_) ?_
      show Go _ _ _ _ (T0.setTop (mkF m 36 #[.val (.int z), .val (.double (0 : UInt64)), .second, .val (.double cH), .second, .val (.double cH), .second] []))
      refine Go.via (fun t_ k_ => own_dload H0.here hx rfl (hb hby d16_36) rfl k_) ?_
      show Go _ _ _ _ (T0.setTop (mkF m 38 #[.val (.int z), .val (.double (0 : UInt64)), .second, .val (.double cH), .second, .val (.double cH), .second] [(.double cH)]))
      exact own_retD H0 hx hlk hret (hb hby d16_38) ⟨by rw [hc13]; exact congrArg (fun z => some (Value.double z)) own_zH.symm, rfl⟩ (by decide) (by decide)
    · refine Go.via (fun t_ k_ => XS.icmpYes H0.here hx rfl (pc0 := 13) (pc' := 22) rfl (hb hby d16_13) rfl ((feq hc13).2) (by decide) (by decide) k_) ?_
      show Go _ _ _ _ (T0.setTop (mkF m 22 #[.val (.int z), .val (.double (0 : UInt64)), .second, .val (.double cH), .second, .unset, .unset] []))
      refine Go.via (fun t_ k_ => own_dloadN H0.here hx rfl (hb hby d16_22) rfl k_) ?_
      show Go _ _ _ _ (T0.setTop (mkF m 23 #[.val (.int z), .val (.double (0 : UInt64)), .second, .val (.double cH), .second, .unset, .unset] [(.double (0 : UInt64))]))
      refine Go.via (fun t_ k_ => own_dloadN H0.here hx rfl (hb hby d16_23) rfl k_) ?_
      show Go _ _ _ _ (T0.setTop (mkF m 24 #[.val (.int z), .val (.double (0 : UInt64)), .second, .val (.double cH), .second, .unset, .unset] [(.double cH), (.double (0 : UInt64))]))
      refine Go.via (fun t_ k_ => own_dloadN H0.here hx rfl (hb hby d16_24) rfl k_) ?_
      show Go _ _ _ _ (T0.setTop (mkF m 25 #[.val (.int z), .val (.double (0 : UInt64)), .second, .val (.double cH), .second, .unset, .unset] [(.double (0 : UInt64)), (.double cH), (.double (0 : UInt64))]))
      refine Go.via (fun t_ k_ => own_dsub H0.here hx rfl (hb hby d16_25) rfl (own_edge z hc1).1 k_) ?_
      show Go _ _ _ _ (T0.setTop (mkF m 26 #[.val (.int z), .val (.double (0 : UInt64)), .second, .val (.double cH), .second, .unset, .unset] [(.double (FP.dsub cH (0 : UInt64))), (.double (0 : UInt64))]))
      refine Go.via (fun t_ k_ => XS.iloadN H0.here hx rfl (hb hby d16_26) rfl k_) ?_
      show Go _ _ _ _ (T0.setTop (mkF m 27 #[.val (.int z), .val (.double (0 : UInt64)), .second, .val (.double cH), .second, .unset, .unset] [(.int z), (.double (FP.dsub cH (0 : UInt64))), (.double (0 : UInt64))]))
      refine Go.via (fun t_ k_ => own_i2dS H0.here hx rfl (hb hby d16_27) rfl k_) ?_
      show Go _ _ _ _ (T0.setTop (mkF m 28 #[.val (.int z), .val (.double (0 : UInt64)), .second, .val (.double cH), .second, .unset, .unset] [(.double (FP.i2d z)), (.double (FP.dsub cH (0 : UInt64))), (.double (0 : UInt64))]))
      refine own_ldcD H0 hx hZ hown (v := cI) (hw _ (List.mem_of_getElem? (i := 126) rfl)) (g := (mkF m 28 #[.val (.int z), .val (.double (0 : UInt64)), .second, .val (.double cH), .second, .unset, .unset] [(.double (FP.i2d z)), (.double (FP.dsub cH (0 : UInt64))), (.double (0 : UInt64))])) rfl (hb hby d16_28) ?_
      show Go _ _ _ _ (T0.setTop (mkF m 31 #[.val (.int z), .val (.double (0 : UInt64)), .second, .val (.double cH), .second, .unset, .unset] [(.double cI), (.double (FP.i2d z)), (.double (FP.dsub cH (0 : UInt64))), (.double (0 : UInt64))]))
      refine Go.via (fun t_ k_ => own_dmul H0.here hx rfl (hb hby d16_31) rfl (own_edge z hc1).2.1 k_) ?_
      show Go _ _ _ _ (T0.setTop (mkF m 32 #[.val (.int z), .val (.double (0 : UInt64)), .second, .val (.double cH), .second, .unset, .unset] [(.double (FP.dmul (FP.i2d z) cI)), (.double (FP.dsub cH (0 : UInt64))), (.double (0 : UInt64))]))
      refine Go.via (fun t_ k_ => own_dmul H0.here hx rfl (hb hby d16_32) rfl (own_edge z hc1).2.2.1 k_) ?_
      show Go _ _ _ _ (T0.setTop (mkF m 33 #[.val (.int z), .val (.double (0 : UInt64)), .second, .val (.double cH), .second, .unset, .unset] [(.double (FP.dmul (FP.dsub cH (0 : UInt64)) (FP.dmul (FP.i2d z) cI))), (.double (0 : UInt64))]))
      refine Go.via (fun t_ k_ => own_dadd H0.here hx rfl (hb hby d16_33) rfl (own_edge z hc1).2.2.2.1 k_) ?_
      show Go _ _ _ _ (T0.setTop (mkF m 34 #[.val (.int z), .val (.double (0 : UInt64)), .second, .val (.double cH), .second, .unset, .unset] [(.double (FP.dadd (0 : UInt64) (FP.dmul (FP.dsub cH (0 : UInt64)) (FP.dmul (FP.i2d z) cI))))]))
      refine Go.via (fun t_ k_ => own_dstore H0.here hx rfl (hb hby d16_34) rfl (l' := #[.val (.int z), .val (.double (0 : UInt64)), .second, .val (.double cH), .second, .val (.double (FP.dadd (0 : UInt64) (FP.dmul (FP.dsub cH (0 : UInt64)) (FP.dmul (FP.i2d z) cI)))), .second]) rfl k_) ?_
      show Go _ _ _ _ (T0.setTop (mkF m 36 #[.val (.int z), .val (.double (0 : UInt64)), .second, .val (.double cH), .second, .val (.double (FP.dadd (0 : UInt64) (FP.dmul (FP.dsub cH (0 : UInt64)) (FP.dmul (FP.i2d z) cI)))), .second] []))
      refine Go.via (fun t_ k_ => own_dload H0.here hx rfl (hb hby d16_36) rfl k_) ?_
      show Go _ _ _ _ (T0.setTop (mkF m 38 #[.val (.int z), .val (.double (0 : UInt64)), .second, .val (.double cH), .second, .val (.double (FP.dadd (0 : UInt64) (FP.dmul (FP.dsub cH (0 : UInt64)) (FP.dmul (FP.i2d z) cI)))), .second] [(.double (FP.dadd (0 : UInt64) (FP.dmul (FP.dsub cH (0 : UInt64)) (FP.dmul (FP.i2d z) cI))))]))
      exact own_retD H0 hx hlk hret (hb hby d16_38) ⟨congrArg (fun z => some (Value.double z)) (own_edge z hc1).2.2.2.2, rfl⟩ (by decide) (by decide)
theorem d14_0 : decode prog_29_method_5_code 0 = .ok (.aload_n 0, 1) := by decide +kernel
theorem d14_1 : decode prog_29_method_5_code 1 = .ok (.getfield 22, 3) := by decide +kernel
theorem d14_4 : decode prog_29_method_5_code 4 = .ok (.dreturn, 1) := by decide +kernel
theorem ef_rmHminX (m : MethodId) (x0 : Addr) : entryFrame m #[(.ref x0)] 1 = mkF m 0 #[.val (.ref x0)] [] := by first | (simp [entryFrame, mkF, argsToLocals, Value.category]; done) | rfl
set_option maxRecDepth 65536 in
set_option maxHeartbeats 40000000 in
theorem rmHminX (l : Launch) (Z : State) (a0 : Array Value) (hw : ∀ d ∈ tables_1, d.before a0 Z = true) (a : Addr) (h0 : Heap) (n0 : Nat) (F : Fld Z h0 a "com/example/neardb/neardb/index/Header" "minX" "D" (.double (0 : UInt64))) :
    CM l Z (⟨"com/example/neardb/neardb/index/Header", "minX", "()D"⟩ : MethodName) prog_29_method_5_code 1 (some .double) ({ frames := 0, cells := 0, slots := 0, locals := 0 } : Room) #[(.ref a)] h0 n0 (fun v h => v = some (.double (0 : UInt64)) ∧ h0 = h) := by
  refine own_enter (by decide +kernel) ?_
  intro p e s m below meth c T0 hx hby hml hown hnm hZ hret hlk H0
  replace hown : s.vm.findClass "com/example/neardb/neardb/index/Header" = some m.cls := hown
  replace hret : meth.sig.returnType = some .double := hret
  refine Go.via (fun t_ k_ => castTop (ef_rmHminX m a) k_) ?_
  show Go _ _ _ _ (T0.setTop (mkF m 0 #[.val (.ref a)] []))
  refine Go.via (fun t_ k_ => XS.aloadN H0.here hx rfl (hb hby d14_0) rfl rfl k_) ?_
  show Go _ _ _ _ (T0.setTop (mkF m 1 #[.val (.ref a)] [(.ref a)]))
  refine own_getF H0 hx hZ hown (hw _ (List.mem_of_getElem? (i := 15) rfl)) F (g := (mkF m 1 #[.val (.ref a)] [(.ref a)])) rfl rfl (hb hby d14_1) ?_
  intro T1 H1
  show Go _ _ _ _ (T1.setTop (mkF m 4 #[.val (.ref a)] [(.double (0 : UInt64))]))
  exact own_retD H1 hx hlk hret (hb hby d14_4) ⟨rfl, rfl⟩ (by decide) (by decide)
theorem d15_0 : decode prog_29_method_7_code 0 = .ok (.aload_n 0, 1) := by decide +kernel
theorem d15_1 : decode prog_29_method_7_code 1 = .ok (.getfield 29, 3) := by decide +kernel
theorem d15_4 : decode prog_29_method_7_code 4 = .ok (.dreturn, 1) := by decide +kernel
theorem ef_rmHmaxX (m : MethodId) (x0 : Addr) : entryFrame m #[(.ref x0)] 1 = mkF m 0 #[.val (.ref x0)] [] := by first | (simp [entryFrame, mkF, argsToLocals, Value.category]; done) | rfl
set_option maxRecDepth 65536 in
set_option maxHeartbeats 40000000 in
theorem rmHmaxX (l : Launch) (Z : State) (a0 : Array Value) (hw : ∀ d ∈ tables_1, d.before a0 Z = true) (a : Addr) (h0 : Heap) (n0 : Nat) (F : Fld Z h0 a "com/example/neardb/neardb/index/Header" "maxX" "D" (.double cH)) :
    CM l Z (⟨"com/example/neardb/neardb/index/Header", "maxX", "()D"⟩ : MethodName) prog_29_method_7_code 1 (some .double) ({ frames := 0, cells := 0, slots := 0, locals := 0 } : Room) #[(.ref a)] h0 n0 (fun v h => v = some (.double cH) ∧ h0 = h) := by
  refine own_enter (by decide +kernel) ?_
  intro p e s m below meth c T0 hx hby hml hown hnm hZ hret hlk H0
  replace hown : s.vm.findClass "com/example/neardb/neardb/index/Header" = some m.cls := hown
  replace hret : meth.sig.returnType = some .double := hret
  refine Go.via (fun t_ k_ => castTop (ef_rmHmaxX m a) k_) ?_
  show Go _ _ _ _ (T0.setTop (mkF m 0 #[.val (.ref a)] []))
  refine Go.via (fun t_ k_ => XS.aloadN H0.here hx rfl (hb hby d15_0) rfl rfl k_) ?_
  show Go _ _ _ _ (T0.setTop (mkF m 1 #[.val (.ref a)] [(.ref a)]))
  refine own_getF H0 hx hZ hown (hw _ (List.mem_of_getElem? (i := 19) rfl)) F (g := (mkF m 1 #[.val (.ref a)] [(.ref a)])) rfl rfl (hb hby d15_1) ?_
  intro T1 H1
  show Go _ _ _ _ (T1.setTop (mkF m 4 #[.val (.ref a)] [(.double cH)]))
  exact own_retD H1 hx hlk hret (hb hby d15_4) ⟨rfl, rfl⟩ (by decide) (by decide)
theorem d18_0 : decode prog_29_method_6_code 0 = .ok (.aload_n 0, 1) := by decide +kernel
theorem d18_1 : decode prog_29_method_6_code 1 = .ok (.getfield 26, 3) := by decide +kernel
theorem d18_4 : decode prog_29_method_6_code 4 = .ok (.dreturn, 1) := by decide +kernel
theorem ef_rmHminY (m : MethodId) (x0 : Addr) : entryFrame m #[(.ref x0)] 1 = mkF m 0 #[.val (.ref x0)] [] := by first | (simp [entryFrame, mkF, argsToLocals, Value.category]; done) | rfl
set_option maxRecDepth 65536 in
set_option maxHeartbeats 40000000 in
theorem rmHminY (l : Launch) (Z : State) (a0 : Array Value) (hw : ∀ d ∈ tables_1, d.before a0 Z = true) (a : Addr) (h0 : Heap) (n0 : Nat) (F : Fld Z h0 a "com/example/neardb/neardb/index/Header" "minY" "D" (.double (0 : UInt64))) :
    CM l Z (⟨"com/example/neardb/neardb/index/Header", "minY", "()D"⟩ : MethodName) prog_29_method_6_code 1 (some .double) ({ frames := 0, cells := 0, slots := 0, locals := 0 } : Room) #[(.ref a)] h0 n0 (fun v h => v = some (.double (0 : UInt64)) ∧ h0 = h) := by
  refine own_enter (by decide +kernel) ?_
  intro p e s m below meth c T0 hx hby hml hown hnm hZ hret hlk H0
  replace hown : s.vm.findClass "com/example/neardb/neardb/index/Header" = some m.cls := hown
  replace hret : meth.sig.returnType = some .double := hret
  refine Go.via (fun t_ k_ => castTop (ef_rmHminY m a) k_) ?_
  show Go _ _ _ _ (T0.setTop (mkF m 0 #[.val (.ref a)] []))
  refine Go.via (fun t_ k_ => XS.aloadN H0.here hx rfl (hb hby d18_0) rfl rfl k_) ?_
  show Go _ _ _ _ (T0.setTop (mkF m 1 #[.val (.ref a)] [(.ref a)]))
  refine own_getF H0 hx hZ hown (hw _ (List.mem_of_getElem? (i := 17) rfl)) F (g := (mkF m 1 #[.val (.ref a)] [(.ref a)])) rfl rfl (hb hby d18_1) ?_
  intro T1 H1
  show Go _ _ _ _ (T1.setTop (mkF m 4 #[.val (.ref a)] [(.double (0 : UInt64))]))
  exact own_retD H1 hx hlk hret (hb hby d18_4) ⟨rfl, rfl⟩ (by decide) (by decide)
theorem d19_0 : decode prog_29_method_8_code 0 = .ok (.aload_n 0, 1) := by decide +kernel
theorem d19_1 : decode prog_29_method_8_code 1 = .ok (.getfield 32, 3) := by decide +kernel
theorem d19_4 : decode prog_29_method_8_code 4 = .ok (.dreturn, 1) := by decide +kernel
theorem ef_rmHmaxY (m : MethodId) (x0 : Addr) : entryFrame m #[(.ref x0)] 1 = mkF m 0 #[.val (.ref x0)] [] := by first | (simp [entryFrame, mkF, argsToLocals, Value.category]; done) | rfl
set_option maxRecDepth 65536 in
set_option maxHeartbeats 40000000 in
theorem rmHmaxY (l : Launch) (Z : State) (a0 : Array Value) (hw : ∀ d ∈ tables_1, d.before a0 Z = true) (a : Addr) (h0 : Heap) (n0 : Nat) (F : Fld Z h0 a "com/example/neardb/neardb/index/Header" "maxY" "D" (.double cH)) :
    CM l Z (⟨"com/example/neardb/neardb/index/Header", "maxY", "()D"⟩ : MethodName) prog_29_method_8_code 1 (some .double) ({ frames := 0, cells := 0, slots := 0, locals := 0 } : Room) #[(.ref a)] h0 n0 (fun v h => v = some (.double cH) ∧ h0 = h) := by
  refine own_enter (by decide +kernel) ?_
  intro p e s m below meth c T0 hx hby hml hown hnm hZ hret hlk H0
  replace hown : s.vm.findClass "com/example/neardb/neardb/index/Header" = some m.cls := hown
  replace hret : meth.sig.returnType = some .double := hret
  refine Go.via (fun t_ k_ => castTop (ef_rmHmaxY m a) k_) ?_
  show Go _ _ _ _ (T0.setTop (mkF m 0 #[.val (.ref a)] []))
  refine Go.via (fun t_ k_ => XS.aloadN H0.here hx rfl (hb hby d19_0) rfl rfl k_) ?_
  show Go _ _ _ _ (T0.setTop (mkF m 1 #[.val (.ref a)] [(.ref a)]))
  refine own_getF H0 hx hZ hown (hw _ (List.mem_of_getElem? (i := 21) rfl)) F (g := (mkF m 1 #[.val (.ref a)] [(.ref a)])) rfl rfl (hb hby d19_1) ?_
  intro T1 H1
  show Go _ _ _ _ (T1.setTop (mkF m 4 #[.val (.ref a)] [(.double cH)]))
  exact own_retD H1 hx hlk hret (hb hby d19_4) ⟨rfl, rfl⟩ (by decide) (by decide)
theorem d1_0 : decode prog_29_method_1_code 0 = .ok (.aload_n 0, 1) := by decide +kernel
theorem d1_1 : decode prog_29_method_1_code 1 = .ok (.invokespecial 9, 3) := by decide +kernel
theorem d1_4 : decode prog_29_method_1_code 4 = .ok (.aload_n 0, 1) := by decide +kernel
theorem d1_5 : decode prog_29_method_1_code 5 = .ok (.lload_n 1, 1) := by decide +kernel
theorem d1_6 : decode prog_29_method_1_code 6 = .ok (.putfield 15, 3) := by decide +kernel
theorem d1_9 : decode prog_29_method_1_code 9 = .ok (.aload_n 0, 1) := by decide +kernel
theorem d1_10 : decode prog_29_method_1_code 10 = .ok (.lload_n 3, 1) := by decide +kernel
theorem d1_11 : decode prog_29_method_1_code 11 = .ok (.putfield 19, 3) := by decide +kernel
theorem d1_14 : decode prog_29_method_1_code 14 = .ok (.aload_n 0, 1) := by decide +kernel
theorem d1_15 : decode prog_29_method_1_code 15 = .ok (.dload 5, 2) := by decide +kernel
theorem d1_17 : decode prog_29_method_1_code 17 = .ok (.putfield 22, 3) := by decide +kernel
theorem d1_20 : decode prog_29_method_1_code 20 = .ok (.aload_n 0, 1) := by decide +kernel
theorem d1_21 : decode prog_29_method_1_code 21 = .ok (.dload 7, 2) := by decide +kernel
theorem d1_23 : decode prog_29_method_1_code 23 = .ok (.putfield 26, 3) := by decide +kernel
theorem d1_26 : decode prog_29_method_1_code 26 = .ok (.aload_n 0, 1) := by decide +kernel
theorem d1_27 : decode prog_29_method_1_code 27 = .ok (.dload 9, 2) := by decide +kernel
theorem d1_29 : decode prog_29_method_1_code 29 = .ok (.putfield 29, 3) := by decide +kernel
theorem d1_32 : decode prog_29_method_1_code 32 = .ok (.aload_n 0, 1) := by decide +kernel
theorem d1_33 : decode prog_29_method_1_code 33 = .ok (.dload 11, 2) := by decide +kernel
theorem d1_35 : decode prog_29_method_1_code 35 = .ok (.putfield 32, 3) := by decide +kernel
theorem d1_38 : decode prog_29_method_1_code 38 = .ok (.aload_n 0, 1) := by decide +kernel
theorem d1_39 : decode prog_29_method_1_code 39 = .ok (.lload 13, 2) := by decide +kernel
theorem d1_41 : decode prog_29_method_1_code 41 = .ok (.putfield 35, 3) := by decide +kernel
theorem d1_44 : decode prog_29_method_1_code 44 = .ok (.aload_n 0, 1) := by decide +kernel
theorem d1_45 : decode prog_29_method_1_code 45 = .ok (.iload 15, 2) := by decide +kernel
theorem d1_47 : decode prog_29_method_1_code 47 = .ok (.putfield 38, 3) := by decide +kernel
theorem d1_50 : decode prog_29_method_1_code 50 = .ok (.aload_n 0, 1) := by decide +kernel
theorem d1_51 : decode prog_29_method_1_code 51 = .ok (.dload 16, 2) := by decide +kernel
theorem d1_53 : decode prog_29_method_1_code 53 = .ok (.putfield 42, 3) := by decide +kernel
theorem d1_56 : decode prog_29_method_1_code 56 = .ok (.aload_n 0, 1) := by decide +kernel
theorem d1_57 : decode prog_29_method_1_code 57 = .ok (.dload 18, 2) := by decide +kernel
theorem d1_59 : decode prog_29_method_1_code 59 = .ok (.putfield 45, 3) := by decide +kernel
theorem d1_62 : decode prog_29_method_1_code 62 = .ok (.aload_n 0, 1) := by decide +kernel
theorem d1_63 : decode prog_29_method_1_code 63 = .ok (.iload 20, 2) := by decide +kernel
theorem d1_65 : decode prog_29_method_1_code 65 = .ok (.putfield 48, 3) := by decide +kernel
theorem d1_68 : decode prog_29_method_1_code 68 = .ok (.aload_n 0, 1) := by decide +kernel
theorem d1_69 : decode prog_29_method_1_code 69 = .ok (.iload 21, 2) := by decide +kernel
theorem d1_71 : decode prog_29_method_1_code 71 = .ok (.putfield 52, 3) := by decide +kernel
theorem d1_74 : decode prog_29_method_1_code 74 = .ok (.aload_n 0, 1) := by decide +kernel
theorem d1_75 : decode prog_29_method_1_code 75 = .ok (.aload 22, 2) := by decide +kernel
theorem d1_77 : decode prog_29_method_1_code 77 = .ok (.invokevirtual 55, 3) := by decide +kernel
theorem d1_80 : decode prog_29_method_1_code 80 = .ok (.checkcast 56, 3) := by decide +kernel
theorem d1_83 : decode prog_29_method_1_code 83 = .ok (.putfield 61, 3) := by decide +kernel
theorem d1_86 : decode prog_29_method_1_code 86 = .ok (.return_, 1) := by decide +kernel
theorem ef_rmHI (m : MethodId) (x0 : Addr) (x1 : Int64) (x2 : Int64) (x3 : UInt64) (x4 : UInt64) (x5 : UInt64) (x6 : UInt64) (x7 : Int64) (x8 : Int32) (x9 : UInt64) (x10 : UInt64) (x11 : Int32) (x12 : Int32) (x13 : Addr) : entryFrame m #[(.ref x0), (.long x1), (.long x2), (.double x3), (.double x4), (.double x5), (.double x6), (.long x7), (.int x8), (.double x9), (.double x10), (.int x11), (.int x12), (.ref x13)] 23 = mkF m 0 #[.val (.ref x0), .val (.long x1), .second, .val (.long x2), .second, .val (.double x3), .second, .val (.double x4), .second, .val (.double x5), .second, .val (.double x6), .second, .val (.long x7), .second, .val (.int x8), .val (.double x9), .second, .val (.double x10), .second, .val (.int x11), .val (.int x12), .val (.ref x13)] [] := by first | (simp [entryFrame, mkF, argsToLocals, Value.category]; done) | rfl
set_option maxRecDepth 65536 in
set_option maxHeartbeats 40000000 in
theorem rmHI (l : Launch) (Z : State) (a0 : Array Value) (hw : ∀ d ∈ tables_1, d.before a0 Z = true) (a ar : Addr) (h0 : Heap) (n0 : Nat) (E : Exa Z h0 a "com/example/neardb/neardb/index/Header") (F_objectCount : Fld Z h0 a "com/example/neardb/neardb/index/Header" "objectCount" "J" (.long (0 : Int64))) (F_termCount : Fld Z h0 a "com/example/neardb/neardb/index/Header" "termCount" "J" (.long (0 : Int64))) (F_minX : Fld Z h0 a "com/example/neardb/neardb/index/Header" "minX" "D" (.double (0 : UInt64))) (F_minY : Fld Z h0 a "com/example/neardb/neardb/index/Header" "minY" "D" (.double (0 : UInt64))) (F_maxX : Fld Z h0 a "com/example/neardb/neardb/index/Header" "maxX" "D" (.double (0 : UInt64))) (F_maxY : Fld Z h0 a "com/example/neardb/neardb/index/Header" "maxY" "D" (.double (0 : UInt64))) (F_postingBytes : Fld Z h0 a "com/example/neardb/neardb/index/Header" "postingBytes" "J" (.long (0 : Int64))) (F_hasValues : Fld Z h0 a "com/example/neardb/neardb/index/Header" "hasValues" "Z" (.int (0 : Int32))) (F_minValue : Fld Z h0 a "com/example/neardb/neardb/index/Header" "minValue" "D" (.double (0 : UInt64))) (F_maxValue : Fld Z h0 a "com/example/neardb/neardb/index/Header" "maxValue" "D" (.double (0 : UInt64))) (F_numberCount : Fld Z h0 a "com/example/neardb/neardb/index/Header" "numberCount" "I" (.int (0 : Int32))) (F_keepsNumbers : Fld Z h0 a "com/example/neardb/neardb/index/Header" "keepsNumbers" "Z" (.int (0 : Int32))) (F_segments : Fld Z h0 a "com/example/neardb/neardb/index/Header" "segments" "[I" .null) (g : n0 ≤ a) (hsz : n0 ≤ h0.size) (A : Ab Z h0 ar .int 0 (fun _ => (0 : Int32))) (EA : Exa Z h0 ar "[I") (ne : a ≠ ar) :
    CM l Z (⟨"com/example/neardb/neardb/index/Header", "<init>", "(JJDDDDJZDDIZ[I)V"⟩ : MethodName) prog_29_method_1_code 23 none ({ frames := 1, cells := 1, slots := 0, locals := 15 } : Room) #[(.ref a), (.long (0 : Int64)), (.long (0 : Int64)), (.double (0 : UInt64)), (.double (0 : UInt64)), (.double cH), (.double cH), (.long (0 : Int64)), (.int (0 : Int32)), (.double (0 : UInt64)), (.double (0 : UInt64)), (.int (-1 : Int32)), (.int (0 : Int32)), (.ref ar)] h0 n0 (fun v h => v = none ∧ Keep h0 h [a] ∧ Exa Z h a "com/example/neardb/neardb/index/Header" ∧ Fld Z h a "com/example/neardb/neardb/index/Header" "minX" "D" (.double (0 : UInt64)) ∧ Fld Z h a "com/example/neardb/neardb/index/Header" "minY" "D" (.double (0 : UInt64)) ∧ Fld Z h a "com/example/neardb/neardb/index/Header" "maxX" "D" (.double cH) ∧ Fld Z h a "com/example/neardb/neardb/index/Header" "maxY" "D" (.double cH)) := by
  refine own_enter (by decide +kernel) ?_
  intro p e s m below meth c T0 hx hby hml hown hnm hZ hret hlk H0
  replace hown : s.vm.findClass "com/example/neardb/neardb/index/Header" = some m.cls := hown
  replace hret : meth.sig.returnType = none := hret
  refine Go.via (fun t_ k_ => castTop (ef_rmHI m a (0 : Int64) (0 : Int64) (0 : UInt64) (0 : UInt64) cH cH (0 : Int64) (0 : Int32) (0 : UInt64) (0 : UInt64) (-1 : Int32) (0 : Int32) ar) k_) ?_
  show Go _ _ _ _ (T0.setTop (mkF m 0 #[.val (.ref a), .val (.long (0 : Int64)), .second, .val (.long (0 : Int64)), .second, .val (.double (0 : UInt64)), .second, .val (.double (0 : UInt64)), .second, .val (.double cH), .second, .val (.double cH), .second, .val (.long (0 : Int64)), .second, .val (.int (0 : Int32)), .val (.double (0 : UInt64)), .second, .val (.double (0 : UInt64)), .second, .val (.int (-1 : Int32)), .val (.int (0 : Int32)), .val (.ref ar)] []))
  refine Go.via (fun t_ k_ => XS.aloadN H0.here hx rfl (hb hby d1_0) rfl rfl k_) ?_
  show Go _ _ _ _ (T0.setTop (mkF m 1 #[.val (.ref a), .val (.long (0 : Int64)), .second, .val (.long (0 : Int64)), .second, .val (.double (0 : UInt64)), .second, .val (.double (0 : UInt64)), .second, .val (.double cH), .second, .val (.double cH), .second, .val (.long (0 : Int64)), .second, .val (.int (0 : Int32)), .val (.double (0 : UInt64)), .second, .val (.double (0 : UInt64)), .second, .val (.int (-1 : Int32)), .val (.int (0 : Int32)), .val (.ref ar)] [(.ref a)]))
  refine own_initO H0 hx hZ hown (hw _ (List.mem_of_getElem? (i := 8) rfl)) (hw _ (List.mem_of_getElem? (i := 9) rfl)) (hw _ (List.mem_of_getElem? (i := 10) rfl)) (g := (mkF m 1 #[.val (.ref a), .val (.long (0 : Int64)), .second, .val (.long (0 : Int64)), .second, .val (.double (0 : UInt64)), .second, .val (.double (0 : UInt64)), .second, .val (.double cH), .second, .val (.double cH), .second, .val (.long (0 : Int64)), .second, .val (.int (0 : Int32)), .val (.double (0 : UInt64)), .second, .val (.double (0 : UInt64)), .second, .val (.int (-1 : Int32)), .val (.int (0 : Int32)), .val (.ref ar)] [(.ref a)])) rfl (by rw [hml]; rfl) rfl (hb hby d1_1) (by decide) 0 (Nat.le_of_eq rfl) (by decide) ?_
  intro T1 H1
  show Go _ _ _ _ (T1.setTop (mkF m 4 #[.val (.ref a), .val (.long (0 : Int64)), .second, .val (.long (0 : Int64)), .second, .val (.double (0 : UInt64)), .second, .val (.double (0 : UInt64)), .second, .val (.double cH), .second, .val (.double cH), .second, .val (.long (0 : Int64)), .second, .val (.int (0 : Int32)), .val (.double (0 : UInt64)), .second, .val (.double (0 : UInt64)), .second, .val (.int (-1 : Int32)), .val (.int (0 : Int32)), .val (.ref ar)] []))
  refine Go.via (fun t_ k_ => XS.aloadN H1.here hx rfl (hb hby d1_4) rfl rfl k_) ?_
  show Go _ _ _ _ (T1.setTop (mkF m 5 #[.val (.ref a), .val (.long (0 : Int64)), .second, .val (.long (0 : Int64)), .second, .val (.double (0 : UInt64)), .second, .val (.double (0 : UInt64)), .second, .val (.double cH), .second, .val (.double cH), .second, .val (.long (0 : Int64)), .second, .val (.int (0 : Int32)), .val (.double (0 : UInt64)), .second, .val (.double (0 : UInt64)), .second, .val (.int (-1 : Int32)), .val (.int (0 : Int32)), .val (.ref ar)] [(.ref a)]))
  refine Go.via (fun t_ k_ => XS.lloadN H1.here hx rfl (hb hby d1_5) rfl k_) ?_
  show Go _ _ _ _ (T1.setTop (mkF m 6 #[.val (.ref a), .val (.long (0 : Int64)), .second, .val (.long (0 : Int64)), .second, .val (.double (0 : UInt64)), .second, .val (.double (0 : UInt64)), .second, .val (.double cH), .second, .val (.double cH), .second, .val (.long (0 : Int64)), .second, .val (.int (0 : Int32)), .val (.double (0 : UInt64)), .second, .val (.double (0 : UInt64)), .second, .val (.int (-1 : Int32)), .val (.int (0 : Int32)), .val (.ref ar)] [(.long (0 : Int64)), (.ref a)]))
  refine own_putF H1 hx hZ hown (hw _ (List.mem_of_getElem? (i := 11) rfl)) F_objectCount E (Or.inr ⟨(hw _ (List.mem_of_getElem? (i := 12) rfl)), rfl, hnm⟩) (hw _ (List.mem_of_getElem? (i := 1) rfl)) g (ty := .long) (by decide) rfl rfl (g := (mkF m 6 #[.val (.ref a), .val (.long (0 : Int64)), .second, .val (.long (0 : Int64)), .second, .val (.double (0 : UInt64)), .second, .val (.double (0 : UInt64)), .second, .val (.double cH), .second, .val (.double cH), .second, .val (.long (0 : Int64)), .second, .val (.int (0 : Int32)), .val (.double (0 : UInt64)), .second, .val (.double (0 : UInt64)), .second, .val (.int (-1 : Int32)), .val (.int (0 : Int32)), .val (.ref ar)] [(.long (0 : Int64)), (.ref a)])) rfl rfl (hb hby d1_6) ?_
  intro T2 h2 W2 H2
  have F2_objectCount := F_objectCount.same W2
  have sz2 : n0 ≤ h2.size := Nat.le_trans hsz (Keep.of_wr W2).1
  have K2 := ((Keep.refl h0 [a])).wr W2 (Or.inl (List.mem_of_getElem? (i := 0) rfl))
  show Go _ _ _ _ (T2.setTop (mkF m 9 #[.val (.ref a), .val (.long (0 : Int64)), .second, .val (.long (0 : Int64)), .second, .val (.double (0 : UInt64)), .second, .val (.double (0 : UInt64)), .second, .val (.double cH), .second, .val (.double cH), .second, .val (.long (0 : Int64)), .second, .val (.int (0 : Int32)), .val (.double (0 : UInt64)), .second, .val (.double (0 : UInt64)), .second, .val (.int (-1 : Int32)), .val (.int (0 : Int32)), .val (.ref ar)] []))
  refine Go.via (fun t_ k_ => XS.aloadN H2.here hx rfl (hb hby d1_9) rfl rfl k_) ?_
  show Go _ _ _ _ (T2.setTop (mkF m 10 #[.val (.ref a), .val (.long (0 : Int64)), .second, .val (.long (0 : Int64)), .second, .val (.double (0 : UInt64)), .second, .val (.double (0 : UInt64)), .second, .val (.double cH), .second, .val (.double cH), .second, .val (.long (0 : Int64)), .second, .val (.int (0 : Int32)), .val (.double (0 : UInt64)), .second, .val (.double (0 : UInt64)), .second, .val (.int (-1 : Int32)), .val (.int (0 : Int32)), .val (.ref ar)] [(.ref a)]))
  refine Go.via (fun t_ k_ => XS.lloadN H2.here hx rfl (hb hby d1_10) rfl k_) ?_
  show Go _ _ _ _ (T2.setTop (mkF m 11 #[.val (.ref a), .val (.long (0 : Int64)), .second, .val (.long (0 : Int64)), .second, .val (.double (0 : UInt64)), .second, .val (.double (0 : UInt64)), .second, .val (.double cH), .second, .val (.double cH), .second, .val (.long (0 : Int64)), .second, .val (.int (0 : Int32)), .val (.double (0 : UInt64)), .second, .val (.double (0 : UInt64)), .second, .val (.int (-1 : Int32)), .val (.int (0 : Int32)), .val (.ref ar)] [(.long (0 : Int64)), (.ref a)]))
  refine own_putF H2 hx hZ hown (hw _ (List.mem_of_getElem? (i := 13) rfl)) (F_termCount.other W2 (Or.inr (slot_ne (Or.inr (hw _ (List.mem_of_getElem? (i := 14) rfl))) (Or.inr (hw _ (List.mem_of_getElem? (i := 12) rfl))) (by decide) (t := .long) (t' := .long) (by decide) (by decide)))) (E.wr W2) (Or.inr ⟨(hw _ (List.mem_of_getElem? (i := 14) rfl)), rfl, hnm⟩) (hw _ (List.mem_of_getElem? (i := 1) rfl)) g (ty := .long) (by decide) rfl rfl (g := (mkF m 11 #[.val (.ref a), .val (.long (0 : Int64)), .second, .val (.long (0 : Int64)), .second, .val (.double (0 : UInt64)), .second, .val (.double (0 : UInt64)), .second, .val (.double cH), .second, .val (.double cH), .second, .val (.long (0 : Int64)), .second, .val (.int (0 : Int32)), .val (.double (0 : UInt64)), .second, .val (.double (0 : UInt64)), .second, .val (.int (-1 : Int32)), .val (.int (0 : Int32)), .val (.ref ar)] [(.long (0 : Int64)), (.ref a)])) rfl rfl (hb hby d1_11) ?_
  intro T3 h3 W3 H3
  have F3_termCount := (F_termCount.other W2 (Or.inr (slot_ne (Or.inr (hw _ (List.mem_of_getElem? (i := 14) rfl))) (Or.inr (hw _ (List.mem_of_getElem? (i := 12) rfl))) (by decide) (t := .long) (t' := .long) (by decide) (by decide)))).same W3
  have sz3 : n0 ≤ h3.size := Nat.le_trans sz2 (Keep.of_wr W3).1
  have K3 := (K2).wr W3 (Or.inl (List.mem_of_getElem? (i := 0) rfl))
  show Go _ _ _ _ (T3.setTop (mkF m 14 #[.val (.ref a), .val (.long (0 : Int64)), .second, .val (.long (0 : Int64)), .second, .val (.double (0 : UInt64)), .second, .val (.double (0 : UInt64)), .second, .val (.double cH), .second, .val (.double cH), .second, .val (.long (0 : Int64)), .second, .val (.int (0 : Int32)), .val (.double (0 : UInt64)), .second, .val (.double (0 : UInt64)), .second, .val (.int (-1 : Int32)), .val (.int (0 : Int32)), .val (.ref ar)] []))
  refine Go.via (fun t_ k_ => XS.aloadN H3.here hx rfl (hb hby d1_14) rfl rfl k_) ?_
  show Go _ _ _ _ (T3.setTop (mkF m 15 #[.val (.ref a), .val (.long (0 : Int64)), .second, .val (.long (0 : Int64)), .second, .val (.double (0 : UInt64)), .second, .val (.double (0 : UInt64)), .second, .val (.double cH), .second, .val (.double cH), .second, .val (.long (0 : Int64)), .second, .val (.int (0 : Int32)), .val (.double (0 : UInt64)), .second, .val (.double (0 : UInt64)), .second, .val (.int (-1 : Int32)), .val (.int (0 : Int32)), .val (.ref ar)] [(.ref a)]))
  refine Go.via (fun t_ k_ => own_dload H3.here hx rfl (hb hby d1_15) rfl k_) ?_
  show Go _ _ _ _ (T3.setTop (mkF m 17 #[.val (.ref a), .val (.long (0 : Int64)), .second, .val (.long (0 : Int64)), .second, .val (.double (0 : UInt64)), .second, .val (.double (0 : UInt64)), .second, .val (.double cH), .second, .val (.double cH), .second, .val (.long (0 : Int64)), .second, .val (.int (0 : Int32)), .val (.double (0 : UInt64)), .second, .val (.double (0 : UInt64)), .second, .val (.int (-1 : Int32)), .val (.int (0 : Int32)), .val (.ref ar)] [(.double (0 : UInt64)), (.ref a)]))
  refine own_putF H3 hx hZ hown (hw _ (List.mem_of_getElem? (i := 15) rfl)) ((F_minX.other W2 (Or.inr (slot_ne (Or.inr (hw _ (List.mem_of_getElem? (i := 16) rfl))) (Or.inr (hw _ (List.mem_of_getElem? (i := 12) rfl))) (by decide) (t := .double) (t' := .long) (by decide) (by decide)))).other W3 (Or.inr (slot_ne (Or.inr (hw _ (List.mem_of_getElem? (i := 16) rfl))) (Or.inr (hw _ (List.mem_of_getElem? (i := 14) rfl))) (by decide) (t := .double) (t' := .long) (by decide) (by decide)))) ((E.wr W2).wr W3) (Or.inr ⟨(hw _ (List.mem_of_getElem? (i := 16) rfl)), rfl, hnm⟩) (hw _ (List.mem_of_getElem? (i := 1) rfl)) g (ty := .double) (by decide) rfl rfl (g := (mkF m 17 #[.val (.ref a), .val (.long (0 : Int64)), .second, .val (.long (0 : Int64)), .second, .val (.double (0 : UInt64)), .second, .val (.double (0 : UInt64)), .second, .val (.double cH), .second, .val (.double cH), .second, .val (.long (0 : Int64)), .second, .val (.int (0 : Int32)), .val (.double (0 : UInt64)), .second, .val (.double (0 : UInt64)), .second, .val (.int (-1 : Int32)), .val (.int (0 : Int32)), .val (.ref ar)] [(.double (0 : UInt64)), (.ref a)])) rfl rfl (hb hby d1_17) ?_
  intro T4 h4 W4 H4
  have F4_minX := ((F_minX.other W2 (Or.inr (slot_ne (Or.inr (hw _ (List.mem_of_getElem? (i := 16) rfl))) (Or.inr (hw _ (List.mem_of_getElem? (i := 12) rfl))) (by decide) (t := .double) (t' := .long) (by decide) (by decide)))).other W3 (Or.inr (slot_ne (Or.inr (hw _ (List.mem_of_getElem? (i := 16) rfl))) (Or.inr (hw _ (List.mem_of_getElem? (i := 14) rfl))) (by decide) (t := .double) (t' := .long) (by decide) (by decide)))).same W4
  have sz4 : n0 ≤ h4.size := Nat.le_trans sz3 (Keep.of_wr W4).1
  have K4 := (K3).wr W4 (Or.inl (List.mem_of_getElem? (i := 0) rfl))
  show Go _ _ _ _ (T4.setTop (mkF m 20 #[.val (.ref a), .val (.long (0 : Int64)), .second, .val (.long (0 : Int64)), .second, .val (.double (0 : UInt64)), .second, .val (.double (0 : UInt64)), .second, .val (.double cH), .second, .val (.double cH), .second, .val (.long (0 : Int64)), .second, .val (.int (0 : Int32)), .val (.double (0 : UInt64)), .second, .val (.double (0 : UInt64)), .second, .val (.int (-1 : Int32)), .val (.int (0 : Int32)), .val (.ref ar)] []))
  refine Go.via (fun t_ k_ => XS.aloadN H4.here hx rfl (hb hby d1_20) rfl rfl k_) ?_
  show Go _ _ _ _ (T4.setTop (mkF m 21 #[.val (.ref a), .val (.long (0 : Int64)), .second, .val (.long (0 : Int64)), .second, .val (.double (0 : UInt64)), .second, .val (.double (0 : UInt64)), .second, .val (.double cH), .second, .val (.double cH), .second, .val (.long (0 : Int64)), .second, .val (.int (0 : Int32)), .val (.double (0 : UInt64)), .second, .val (.double (0 : UInt64)), .second, .val (.int (-1 : Int32)), .val (.int (0 : Int32)), .val (.ref ar)] [(.ref a)]))
  refine Go.via (fun t_ k_ => own_dload H4.here hx rfl (hb hby d1_21) rfl k_) ?_
  show Go _ _ _ _ (T4.setTop (mkF m 23 #[.val (.ref a), .val (.long (0 : Int64)), .second, .val (.long (0 : Int64)), .second, .val (.double (0 : UInt64)), .second, .val (.double (0 : UInt64)), .second, .val (.double cH), .second, .val (.double cH), .second, .val (.long (0 : Int64)), .second, .val (.int (0 : Int32)), .val (.double (0 : UInt64)), .second, .val (.double (0 : UInt64)), .second, .val (.int (-1 : Int32)), .val (.int (0 : Int32)), .val (.ref ar)] [(.double (0 : UInt64)), (.ref a)]))
  refine own_putF H4 hx hZ hown (hw _ (List.mem_of_getElem? (i := 17) rfl)) (((F_minY.other W2 (Or.inr (slot_ne (Or.inr (hw _ (List.mem_of_getElem? (i := 18) rfl))) (Or.inr (hw _ (List.mem_of_getElem? (i := 12) rfl))) (by decide) (t := .double) (t' := .long) (by decide) (by decide)))).other W3 (Or.inr (slot_ne (Or.inr (hw _ (List.mem_of_getElem? (i := 18) rfl))) (Or.inr (hw _ (List.mem_of_getElem? (i := 14) rfl))) (by decide) (t := .double) (t' := .long) (by decide) (by decide)))).other W4 (Or.inr (slot_ne (Or.inr (hw _ (List.mem_of_getElem? (i := 18) rfl))) (Or.inr (hw _ (List.mem_of_getElem? (i := 16) rfl))) (by decide) (t := .double) (t' := .double) (by decide) (by decide)))) (((E.wr W2).wr W3).wr W4) (Or.inr ⟨(hw _ (List.mem_of_getElem? (i := 18) rfl)), rfl, hnm⟩) (hw _ (List.mem_of_getElem? (i := 1) rfl)) g (ty := .double) (by decide) rfl rfl (g := (mkF m 23 #[.val (.ref a), .val (.long (0 : Int64)), .second, .val (.long (0 : Int64)), .second, .val (.double (0 : UInt64)), .second, .val (.double (0 : UInt64)), .second, .val (.double cH), .second, .val (.double cH), .second, .val (.long (0 : Int64)), .second, .val (.int (0 : Int32)), .val (.double (0 : UInt64)), .second, .val (.double (0 : UInt64)), .second, .val (.int (-1 : Int32)), .val (.int (0 : Int32)), .val (.ref ar)] [(.double (0 : UInt64)), (.ref a)])) rfl rfl (hb hby d1_23) ?_
  intro T5 h5 W5 H5
  have F5_minY := (((F_minY.other W2 (Or.inr (slot_ne (Or.inr (hw _ (List.mem_of_getElem? (i := 18) rfl))) (Or.inr (hw _ (List.mem_of_getElem? (i := 12) rfl))) (by decide) (t := .double) (t' := .long) (by decide) (by decide)))).other W3 (Or.inr (slot_ne (Or.inr (hw _ (List.mem_of_getElem? (i := 18) rfl))) (Or.inr (hw _ (List.mem_of_getElem? (i := 14) rfl))) (by decide) (t := .double) (t' := .long) (by decide) (by decide)))).other W4 (Or.inr (slot_ne (Or.inr (hw _ (List.mem_of_getElem? (i := 18) rfl))) (Or.inr (hw _ (List.mem_of_getElem? (i := 16) rfl))) (by decide) (t := .double) (t' := .double) (by decide) (by decide)))).same W5
  have sz5 : n0 ≤ h5.size := Nat.le_trans sz4 (Keep.of_wr W5).1
  have K5 := (K4).wr W5 (Or.inl (List.mem_of_getElem? (i := 0) rfl))
  show Go _ _ _ _ (T5.setTop (mkF m 26 #[.val (.ref a), .val (.long (0 : Int64)), .second, .val (.long (0 : Int64)), .second, .val (.double (0 : UInt64)), .second, .val (.double (0 : UInt64)), .second, .val (.double cH), .second, .val (.double cH), .second, .val (.long (0 : Int64)), .second, .val (.int (0 : Int32)), .val (.double (0 : UInt64)), .second, .val (.double (0 : UInt64)), .second, .val (.int (-1 : Int32)), .val (.int (0 : Int32)), .val (.ref ar)] []))
  refine Go.via (fun t_ k_ => XS.aloadN H5.here hx rfl (hb hby d1_26) rfl rfl k_) ?_
  show Go _ _ _ _ (T5.setTop (mkF m 27 #[.val (.ref a), .val (.long (0 : Int64)), .second, .val (.long (0 : Int64)), .second, .val (.double (0 : UInt64)), .second, .val (.double (0 : UInt64)), .second, .val (.double cH), .second, .val (.double cH), .second, .val (.long (0 : Int64)), .second, .val (.int (0 : Int32)), .val (.double (0 : UInt64)), .second, .val (.double (0 : UInt64)), .second, .val (.int (-1 : Int32)), .val (.int (0 : Int32)), .val (.ref ar)] [(.ref a)]))
  refine Go.via (fun t_ k_ => own_dload H5.here hx rfl (hb hby d1_27) rfl k_) ?_
  show Go _ _ _ _ (T5.setTop (mkF m 29 #[.val (.ref a), .val (.long (0 : Int64)), .second, .val (.long (0 : Int64)), .second, .val (.double (0 : UInt64)), .second, .val (.double (0 : UInt64)), .second, .val (.double cH), .second, .val (.double cH), .second, .val (.long (0 : Int64)), .second, .val (.int (0 : Int32)), .val (.double (0 : UInt64)), .second, .val (.double (0 : UInt64)), .second, .val (.int (-1 : Int32)), .val (.int (0 : Int32)), .val (.ref ar)] [(.double cH), (.ref a)]))
  refine own_putF H5 hx hZ hown (hw _ (List.mem_of_getElem? (i := 19) rfl)) ((((F_maxX.other W2 (Or.inr (slot_ne (Or.inr (hw _ (List.mem_of_getElem? (i := 20) rfl))) (Or.inr (hw _ (List.mem_of_getElem? (i := 12) rfl))) (by decide) (t := .double) (t' := .long) (by decide) (by decide)))).other W3 (Or.inr (slot_ne (Or.inr (hw _ (List.mem_of_getElem? (i := 20) rfl))) (Or.inr (hw _ (List.mem_of_getElem? (i := 14) rfl))) (by decide) (t := .double) (t' := .long) (by decide) (by decide)))).other W4 (Or.inr (slot_ne (Or.inr (hw _ (List.mem_of_getElem? (i := 20) rfl))) (Or.inr (hw _ (List.mem_of_getElem? (i := 16) rfl))) (by decide) (t := .double) (t' := .double) (by decide) (by decide)))).other W5 (Or.inr (slot_ne (Or.inr (hw _ (List.mem_of_getElem? (i := 20) rfl))) (Or.inr (hw _ (List.mem_of_getElem? (i := 18) rfl))) (by decide) (t := .double) (t' := .double) (by decide) (by decide)))) ((((E.wr W2).wr W3).wr W4).wr W5) (Or.inr ⟨(hw _ (List.mem_of_getElem? (i := 20) rfl)), rfl, hnm⟩) (hw _ (List.mem_of_getElem? (i := 1) rfl)) g (ty := .double) (by decide) rfl rfl (g := (mkF m 29 #[.val (.ref a), .val (.long (0 : Int64)), .second, .val (.long (0 : Int64)), .second, .val (.double (0 : UInt64)), .second, .val (.double (0 : UInt64)), .second, .val (.double cH), .second, .val (.double cH), .second, .val (.long (0 : Int64)), .second, .val (.int (0 : Int32)), .val (.double (0 : UInt64)), .second, .val (.double (0 : UInt64)), .second, .val (.int (-1 : Int32)), .val (.int (0 : Int32)), .val (.ref ar)] [(.double cH), (.ref a)])) rfl rfl (hb hby d1_29) ?_
  intro T6 h6 W6 H6
  have F6_maxX := ((((F_maxX.other W2 (Or.inr (slot_ne (Or.inr (hw _ (List.mem_of_getElem? (i := 20) rfl))) (Or.inr (hw _ (List.mem_of_getElem? (i := 12) rfl))) (by decide) (t := .double) (t' := .long) (by decide) (by decide)))).other W3 (Or.inr (slot_ne (Or.inr (hw _ (List.mem_of_getElem? (i := 20) rfl))) (Or.inr (hw _ (List.mem_of_getElem? (i := 14) rfl))) (by decide) (t := .double) (t' := .long) (by decide) (by decide)))).other W4 (Or.inr (slot_ne (Or.inr (hw _ (List.mem_of_getElem? (i := 20) rfl))) (Or.inr (hw _ (List.mem_of_getElem? (i := 16) rfl))) (by decide) (t := .double) (t' := .double) (by decide) (by decide)))).other W5 (Or.inr (slot_ne (Or.inr (hw _ (List.mem_of_getElem? (i := 20) rfl))) (Or.inr (hw _ (List.mem_of_getElem? (i := 18) rfl))) (by decide) (t := .double) (t' := .double) (by decide) (by decide)))).same W6
  have sz6 : n0 ≤ h6.size := Nat.le_trans sz5 (Keep.of_wr W6).1
  have K6 := (K5).wr W6 (Or.inl (List.mem_of_getElem? (i := 0) rfl))
  show Go _ _ _ _ (T6.setTop (mkF m 32 #[.val (.ref a), .val (.long (0 : Int64)), .second, .val (.long (0 : Int64)), .second, .val (.double (0 : UInt64)), .second, .val (.double (0 : UInt64)), .second, .val (.double cH), .second, .val (.double cH), .second, .val (.long (0 : Int64)), .second, .val (.int (0 : Int32)), .val (.double (0 : UInt64)), .second, .val (.double (0 : UInt64)), .second, .val (.int (-1 : Int32)), .val (.int (0 : Int32)), .val (.ref ar)] []))
  refine Go.via (fun t_ k_ => XS.aloadN H6.here hx rfl (hb hby d1_32) rfl rfl k_) ?_
  show Go _ _ _ _ (T6.setTop (mkF m 33 #[.val (.ref a), .val (.long (0 : Int64)), .second, .val (.long (0 : Int64)), .second, .val (.double (0 : UInt64)), .second, .val (.double (0 : UInt64)), .second, .val (.double cH), .second, .val (.double cH), .second, .val (.long (0 : Int64)), .second, .val (.int (0 : Int32)), .val (.double (0 : UInt64)), .second, .val (.double (0 : UInt64)), .second, .val (.int (-1 : Int32)), .val (.int (0 : Int32)), .val (.ref ar)] [(.ref a)]))
  refine Go.via (fun t_ k_ => own_dload H6.here hx rfl (hb hby d1_33) rfl k_) ?_
  show Go _ _ _ _ (T6.setTop (mkF m 35 #[.val (.ref a), .val (.long (0 : Int64)), .second, .val (.long (0 : Int64)), .second, .val (.double (0 : UInt64)), .second, .val (.double (0 : UInt64)), .second, .val (.double cH), .second, .val (.double cH), .second, .val (.long (0 : Int64)), .second, .val (.int (0 : Int32)), .val (.double (0 : UInt64)), .second, .val (.double (0 : UInt64)), .second, .val (.int (-1 : Int32)), .val (.int (0 : Int32)), .val (.ref ar)] [(.double cH), (.ref a)]))
  refine own_putF H6 hx hZ hown (hw _ (List.mem_of_getElem? (i := 21) rfl)) (((((F_maxY.other W2 (Or.inr (slot_ne (Or.inr (hw _ (List.mem_of_getElem? (i := 22) rfl))) (Or.inr (hw _ (List.mem_of_getElem? (i := 12) rfl))) (by decide) (t := .double) (t' := .long) (by decide) (by decide)))).other W3 (Or.inr (slot_ne (Or.inr (hw _ (List.mem_of_getElem? (i := 22) rfl))) (Or.inr (hw _ (List.mem_of_getElem? (i := 14) rfl))) (by decide) (t := .double) (t' := .long) (by decide) (by decide)))).other W4 (Or.inr (slot_ne (Or.inr (hw _ (List.mem_of_getElem? (i := 22) rfl))) (Or.inr (hw _ (List.mem_of_getElem? (i := 16) rfl))) (by decide) (t := .double) (t' := .double) (by decide) (by decide)))).other W5 (Or.inr (slot_ne (Or.inr (hw _ (List.mem_of_getElem? (i := 22) rfl))) (Or.inr (hw _ (List.mem_of_getElem? (i := 18) rfl))) (by decide) (t := .double) (t' := .double) (by decide) (by decide)))).other W6 (Or.inr (slot_ne (Or.inr (hw _ (List.mem_of_getElem? (i := 22) rfl))) (Or.inr (hw _ (List.mem_of_getElem? (i := 20) rfl))) (by decide) (t := .double) (t' := .double) (by decide) (by decide)))) (((((E.wr W2).wr W3).wr W4).wr W5).wr W6) (Or.inr ⟨(hw _ (List.mem_of_getElem? (i := 22) rfl)), rfl, hnm⟩) (hw _ (List.mem_of_getElem? (i := 1) rfl)) g (ty := .double) (by decide) rfl rfl (g := (mkF m 35 #[.val (.ref a), .val (.long (0 : Int64)), .second, .val (.long (0 : Int64)), .second, .val (.double (0 : UInt64)), .second, .val (.double (0 : UInt64)), .second, .val (.double cH), .second, .val (.double cH), .second, .val (.long (0 : Int64)), .second, .val (.int (0 : Int32)), .val (.double (0 : UInt64)), .second, .val (.double (0 : UInt64)), .second, .val (.int (-1 : Int32)), .val (.int (0 : Int32)), .val (.ref ar)] [(.double cH), (.ref a)])) rfl rfl (hb hby d1_35) ?_
  intro T7 h7 W7 H7
  have F7_maxY := (((((F_maxY.other W2 (Or.inr (slot_ne (Or.inr (hw _ (List.mem_of_getElem? (i := 22) rfl))) (Or.inr (hw _ (List.mem_of_getElem? (i := 12) rfl))) (by decide) (t := .double) (t' := .long) (by decide) (by decide)))).other W3 (Or.inr (slot_ne (Or.inr (hw _ (List.mem_of_getElem? (i := 22) rfl))) (Or.inr (hw _ (List.mem_of_getElem? (i := 14) rfl))) (by decide) (t := .double) (t' := .long) (by decide) (by decide)))).other W4 (Or.inr (slot_ne (Or.inr (hw _ (List.mem_of_getElem? (i := 22) rfl))) (Or.inr (hw _ (List.mem_of_getElem? (i := 16) rfl))) (by decide) (t := .double) (t' := .double) (by decide) (by decide)))).other W5 (Or.inr (slot_ne (Or.inr (hw _ (List.mem_of_getElem? (i := 22) rfl))) (Or.inr (hw _ (List.mem_of_getElem? (i := 18) rfl))) (by decide) (t := .double) (t' := .double) (by decide) (by decide)))).other W6 (Or.inr (slot_ne (Or.inr (hw _ (List.mem_of_getElem? (i := 22) rfl))) (Or.inr (hw _ (List.mem_of_getElem? (i := 20) rfl))) (by decide) (t := .double) (t' := .double) (by decide) (by decide)))).same W7
  have sz7 : n0 ≤ h7.size := Nat.le_trans sz6 (Keep.of_wr W7).1
  have K7 := (K6).wr W7 (Or.inl (List.mem_of_getElem? (i := 0) rfl))
  show Go _ _ _ _ (T7.setTop (mkF m 38 #[.val (.ref a), .val (.long (0 : Int64)), .second, .val (.long (0 : Int64)), .second, .val (.double (0 : UInt64)), .second, .val (.double (0 : UInt64)), .second, .val (.double cH), .second, .val (.double cH), .second, .val (.long (0 : Int64)), .second, .val (.int (0 : Int32)), .val (.double (0 : UInt64)), .second, .val (.double (0 : UInt64)), .second, .val (.int (-1 : Int32)), .val (.int (0 : Int32)), .val (.ref ar)] []))
  refine Go.via (fun t_ k_ => XS.aloadN H7.here hx rfl (hb hby d1_38) rfl rfl k_) ?_
  show Go _ _ _ _ (T7.setTop (mkF m 39 #[.val (.ref a), .val (.long (0 : Int64)), .second, .val (.long (0 : Int64)), .second, .val (.double (0 : UInt64)), .second, .val (.double (0 : UInt64)), .second, .val (.double cH), .second, .val (.double cH), .second, .val (.long (0 : Int64)), .second, .val (.int (0 : Int32)), .val (.double (0 : UInt64)), .second, .val (.double (0 : UInt64)), .second, .val (.int (-1 : Int32)), .val (.int (0 : Int32)), .val (.ref ar)] [(.ref a)]))
  refine Go.via (fun t_ k_ => XS.lload H7.here hx rfl (hb hby d1_39) rfl k_) ?_
  show Go _ _ _ _ (T7.setTop (mkF m 41 #[.val (.ref a), .val (.long (0 : Int64)), .second, .val (.long (0 : Int64)), .second, .val (.double (0 : UInt64)), .second, .val (.double (0 : UInt64)), .second, .val (.double cH), .second, .val (.double cH), .second, .val (.long (0 : Int64)), .second, .val (.int (0 : Int32)), .val (.double (0 : UInt64)), .second, .val (.double (0 : UInt64)), .second, .val (.int (-1 : Int32)), .val (.int (0 : Int32)), .val (.ref ar)] [(.long (0 : Int64)), (.ref a)]))
  refine own_putF H7 hx hZ hown (hw _ (List.mem_of_getElem? (i := 23) rfl)) ((((((F_postingBytes.other W2 (Or.inr (slot_ne (Or.inr (hw _ (List.mem_of_getElem? (i := 24) rfl))) (Or.inr (hw _ (List.mem_of_getElem? (i := 12) rfl))) (by decide) (t := .long) (t' := .long) (by decide) (by decide)))).other W3 (Or.inr (slot_ne (Or.inr (hw _ (List.mem_of_getElem? (i := 24) rfl))) (Or.inr (hw _ (List.mem_of_getElem? (i := 14) rfl))) (by decide) (t := .long) (t' := .long) (by decide) (by decide)))).other W4 (Or.inr (slot_ne (Or.inr (hw _ (List.mem_of_getElem? (i := 24) rfl))) (Or.inr (hw _ (List.mem_of_getElem? (i := 16) rfl))) (by decide) (t := .long) (t' := .double) (by decide) (by decide)))).other W5 (Or.inr (slot_ne (Or.inr (hw _ (List.mem_of_getElem? (i := 24) rfl))) (Or.inr (hw _ (List.mem_of_getElem? (i := 18) rfl))) (by decide) (t := .long) (t' := .double) (by decide) (by decide)))).other W6 (Or.inr (slot_ne (Or.inr (hw _ (List.mem_of_getElem? (i := 24) rfl))) (Or.inr (hw _ (List.mem_of_getElem? (i := 20) rfl))) (by decide) (t := .long) (t' := .double) (by decide) (by decide)))).other W7 (Or.inr (slot_ne (Or.inr (hw _ (List.mem_of_getElem? (i := 24) rfl))) (Or.inr (hw _ (List.mem_of_getElem? (i := 22) rfl))) (by decide) (t := .long) (t' := .double) (by decide) (by decide)))) ((((((E.wr W2).wr W3).wr W4).wr W5).wr W6).wr W7) (Or.inr ⟨(hw _ (List.mem_of_getElem? (i := 24) rfl)), rfl, hnm⟩) (hw _ (List.mem_of_getElem? (i := 1) rfl)) g (ty := .long) (by decide) rfl rfl (g := (mkF m 41 #[.val (.ref a), .val (.long (0 : Int64)), .second, .val (.long (0 : Int64)), .second, .val (.double (0 : UInt64)), .second, .val (.double (0 : UInt64)), .second, .val (.double cH), .second, .val (.double cH), .second, .val (.long (0 : Int64)), .second, .val (.int (0 : Int32)), .val (.double (0 : UInt64)), .second, .val (.double (0 : UInt64)), .second, .val (.int (-1 : Int32)), .val (.int (0 : Int32)), .val (.ref ar)] [(.long (0 : Int64)), (.ref a)])) rfl rfl (hb hby d1_41) ?_
  intro T8 h8 W8 H8
  have F8_postingBytes := ((((((F_postingBytes.other W2 (Or.inr (slot_ne (Or.inr (hw _ (List.mem_of_getElem? (i := 24) rfl))) (Or.inr (hw _ (List.mem_of_getElem? (i := 12) rfl))) (by decide) (t := .long) (t' := .long) (by decide) (by decide)))).other W3 (Or.inr (slot_ne (Or.inr (hw _ (List.mem_of_getElem? (i := 24) rfl))) (Or.inr (hw _ (List.mem_of_getElem? (i := 14) rfl))) (by decide) (t := .long) (t' := .long) (by decide) (by decide)))).other W4 (Or.inr (slot_ne (Or.inr (hw _ (List.mem_of_getElem? (i := 24) rfl))) (Or.inr (hw _ (List.mem_of_getElem? (i := 16) rfl))) (by decide) (t := .long) (t' := .double) (by decide) (by decide)))).other W5 (Or.inr (slot_ne (Or.inr (hw _ (List.mem_of_getElem? (i := 24) rfl))) (Or.inr (hw _ (List.mem_of_getElem? (i := 18) rfl))) (by decide) (t := .long) (t' := .double) (by decide) (by decide)))).other W6 (Or.inr (slot_ne (Or.inr (hw _ (List.mem_of_getElem? (i := 24) rfl))) (Or.inr (hw _ (List.mem_of_getElem? (i := 20) rfl))) (by decide) (t := .long) (t' := .double) (by decide) (by decide)))).other W7 (Or.inr (slot_ne (Or.inr (hw _ (List.mem_of_getElem? (i := 24) rfl))) (Or.inr (hw _ (List.mem_of_getElem? (i := 22) rfl))) (by decide) (t := .long) (t' := .double) (by decide) (by decide)))).same W8
  have sz8 : n0 ≤ h8.size := Nat.le_trans sz7 (Keep.of_wr W8).1
  have K8 := (K7).wr W8 (Or.inl (List.mem_of_getElem? (i := 0) rfl))
  show Go _ _ _ _ (T8.setTop (mkF m 44 #[.val (.ref a), .val (.long (0 : Int64)), .second, .val (.long (0 : Int64)), .second, .val (.double (0 : UInt64)), .second, .val (.double (0 : UInt64)), .second, .val (.double cH), .second, .val (.double cH), .second, .val (.long (0 : Int64)), .second, .val (.int (0 : Int32)), .val (.double (0 : UInt64)), .second, .val (.double (0 : UInt64)), .second, .val (.int (-1 : Int32)), .val (.int (0 : Int32)), .val (.ref ar)] []))
  refine Go.via (fun t_ k_ => XS.aloadN H8.here hx rfl (hb hby d1_44) rfl rfl k_) ?_
  show Go _ _ _ _ (T8.setTop (mkF m 45 #[.val (.ref a), .val (.long (0 : Int64)), .second, .val (.long (0 : Int64)), .second, .val (.double (0 : UInt64)), .second, .val (.double (0 : UInt64)), .second, .val (.double cH), .second, .val (.double cH), .second, .val (.long (0 : Int64)), .second, .val (.int (0 : Int32)), .val (.double (0 : UInt64)), .second, .val (.double (0 : UInt64)), .second, .val (.int (-1 : Int32)), .val (.int (0 : Int32)), .val (.ref ar)] [(.ref a)]))
  refine Go.via (fun t_ k_ => XS.iload H8.here hx rfl (hb hby d1_45) rfl k_) ?_
  show Go _ _ _ _ (T8.setTop (mkF m 47 #[.val (.ref a), .val (.long (0 : Int64)), .second, .val (.long (0 : Int64)), .second, .val (.double (0 : UInt64)), .second, .val (.double (0 : UInt64)), .second, .val (.double cH), .second, .val (.double cH), .second, .val (.long (0 : Int64)), .second, .val (.int (0 : Int32)), .val (.double (0 : UInt64)), .second, .val (.double (0 : UInt64)), .second, .val (.int (-1 : Int32)), .val (.int (0 : Int32)), .val (.ref ar)] [(.int (0 : Int32)), (.ref a)]))
  refine own_putFN H8 hx hZ hown (hw _ (List.mem_of_getElem? (i := 25) rfl)) (((((((F_hasValues.other W2 (Or.inr (slot_ne (Or.inr (hw _ (List.mem_of_getElem? (i := 26) rfl))) (Or.inr (hw _ (List.mem_of_getElem? (i := 12) rfl))) (by decide) (t := .boolean) (t' := .long) (by decide) (by decide)))).other W3 (Or.inr (slot_ne (Or.inr (hw _ (List.mem_of_getElem? (i := 26) rfl))) (Or.inr (hw _ (List.mem_of_getElem? (i := 14) rfl))) (by decide) (t := .boolean) (t' := .long) (by decide) (by decide)))).other W4 (Or.inr (slot_ne (Or.inr (hw _ (List.mem_of_getElem? (i := 26) rfl))) (Or.inr (hw _ (List.mem_of_getElem? (i := 16) rfl))) (by decide) (t := .boolean) (t' := .double) (by decide) (by decide)))).other W5 (Or.inr (slot_ne (Or.inr (hw _ (List.mem_of_getElem? (i := 26) rfl))) (Or.inr (hw _ (List.mem_of_getElem? (i := 18) rfl))) (by decide) (t := .boolean) (t' := .double) (by decide) (by decide)))).other W6 (Or.inr (slot_ne (Or.inr (hw _ (List.mem_of_getElem? (i := 26) rfl))) (Or.inr (hw _ (List.mem_of_getElem? (i := 20) rfl))) (by decide) (t := .boolean) (t' := .double) (by decide) (by decide)))).other W7 (Or.inr (slot_ne (Or.inr (hw _ (List.mem_of_getElem? (i := 26) rfl))) (Or.inr (hw _ (List.mem_of_getElem? (i := 22) rfl))) (by decide) (t := .boolean) (t' := .double) (by decide) (by decide)))).other W8 (Or.inr (slot_ne (Or.inr (hw _ (List.mem_of_getElem? (i := 26) rfl))) (Or.inr (hw _ (List.mem_of_getElem? (i := 24) rfl))) (by decide) (t := .boolean) (t' := .long) (by decide) (by decide)))) (((((((E.wr W2).wr W3).wr W4).wr W5).wr W6).wr W7).wr W8) (Or.inr ⟨(hw _ (List.mem_of_getElem? (i := 26) rfl)), rfl, hnm⟩) (hw _ (List.mem_of_getElem? (i := 1) rfl)) g (ty := .boolean) (v' := .int (nar .boolean (0 : Int32))) (by decide) rfl (fits_nar_bool _) (g := (mkF m 47 #[.val (.ref a), .val (.long (0 : Int64)), .second, .val (.long (0 : Int64)), .second, .val (.double (0 : UInt64)), .second, .val (.double (0 : UInt64)), .second, .val (.double cH), .second, .val (.double cH), .second, .val (.long (0 : Int64)), .second, .val (.int (0 : Int32)), .val (.double (0 : UInt64)), .second, .val (.double (0 : UInt64)), .second, .val (.int (-1 : Int32)), .val (.int (0 : Int32)), .val (.ref ar)] [(.int (0 : Int32)), (.ref a)])) rfl rfl (hb hby d1_47) ?_
  intro T9 h9 W9 H9
  have F9_hasValues := (((((((F_hasValues.other W2 (Or.inr (slot_ne (Or.inr (hw _ (List.mem_of_getElem? (i := 26) rfl))) (Or.inr (hw _ (List.mem_of_getElem? (i := 12) rfl))) (by decide) (t := .boolean) (t' := .long) (by decide) (by decide)))).other W3 (Or.inr (slot_ne (Or.inr (hw _ (List.mem_of_getElem? (i := 26) rfl))) (Or.inr (hw _ (List.mem_of_getElem? (i := 14) rfl))) (by decide) (t := .boolean) (t' := .long) (by decide) (by decide)))).other W4 (Or.inr (slot_ne (Or.inr (hw _ (List.mem_of_getElem? (i := 26) rfl))) (Or.inr (hw _ (List.mem_of_getElem? (i := 16) rfl))) (by decide) (t := .boolean) (t' := .double) (by decide) (by decide)))).other W5 (Or.inr (slot_ne (Or.inr (hw _ (List.mem_of_getElem? (i := 26) rfl))) (Or.inr (hw _ (List.mem_of_getElem? (i := 18) rfl))) (by decide) (t := .boolean) (t' := .double) (by decide) (by decide)))).other W6 (Or.inr (slot_ne (Or.inr (hw _ (List.mem_of_getElem? (i := 26) rfl))) (Or.inr (hw _ (List.mem_of_getElem? (i := 20) rfl))) (by decide) (t := .boolean) (t' := .double) (by decide) (by decide)))).other W7 (Or.inr (slot_ne (Or.inr (hw _ (List.mem_of_getElem? (i := 26) rfl))) (Or.inr (hw _ (List.mem_of_getElem? (i := 22) rfl))) (by decide) (t := .boolean) (t' := .double) (by decide) (by decide)))).other W8 (Or.inr (slot_ne (Or.inr (hw _ (List.mem_of_getElem? (i := 26) rfl))) (Or.inr (hw _ (List.mem_of_getElem? (i := 24) rfl))) (by decide) (t := .boolean) (t' := .long) (by decide) (by decide)))).same W9
  have sz9 : n0 ≤ h9.size := Nat.le_trans sz8 (Keep.of_wr W9).1
  have K9 := (K8).wr W9 (Or.inl (List.mem_of_getElem? (i := 0) rfl))
  show Go _ _ _ _ (T9.setTop (mkF m 50 #[.val (.ref a), .val (.long (0 : Int64)), .second, .val (.long (0 : Int64)), .second, .val (.double (0 : UInt64)), .second, .val (.double (0 : UInt64)), .second, .val (.double cH), .second, .val (.double cH), .second, .val (.long (0 : Int64)), .second, .val (.int (0 : Int32)), .val (.double (0 : UInt64)), .second, .val (.double (0 : UInt64)), .second, .val (.int (-1 : Int32)), .val (.int (0 : Int32)), .val (.ref ar)] []))
  refine Go.via (fun t_ k_ => XS.aloadN H9.here hx rfl (hb hby d1_50) rfl rfl k_) ?_
  show Go _ _ _ _ (T9.setTop (mkF m 51 #[.val (.ref a), .val (.long (0 : Int64)), .second, .val (.long (0 : Int64)), .second, .val (.double (0 : UInt64)), .second, .val (.double (0 : UInt64)), .second, .val (.double cH), .second, .val (.double cH), .second, .val (.long (0 : Int64)), .second, .val (.int (0 : Int32)), .val (.double (0 : UInt64)), .second, .val (.double (0 : UInt64)), .second, .val (.int (-1 : Int32)), .val (.int (0 : Int32)), .val (.ref ar)] [(.ref a)]))
  refine Go.via (fun t_ k_ => own_dload H9.here hx rfl (hb hby d1_51) rfl k_) ?_
  show Go _ _ _ _ (T9.setTop (mkF m 53 #[.val (.ref a), .val (.long (0 : Int64)), .second, .val (.long (0 : Int64)), .second, .val (.double (0 : UInt64)), .second, .val (.double (0 : UInt64)), .second, .val (.double cH), .second, .val (.double cH), .second, .val (.long (0 : Int64)), .second, .val (.int (0 : Int32)), .val (.double (0 : UInt64)), .second, .val (.double (0 : UInt64)), .second, .val (.int (-1 : Int32)), .val (.int (0 : Int32)), .val (.ref ar)] [(.double (0 : UInt64)), (.ref a)]))
  refine own_putF H9 hx hZ hown (hw _ (List.mem_of_getElem? (i := 27) rfl)) ((((((((F_minValue.other W2 (Or.inr (slot_ne (Or.inr (hw _ (List.mem_of_getElem? (i := 28) rfl))) (Or.inr (hw _ (List.mem_of_getElem? (i := 12) rfl))) (by decide) (t := .double) (t' := .long) (by decide) (by decide)))).other W3 (Or.inr (slot_ne (Or.inr (hw _ (List.mem_of_getElem? (i := 28) rfl))) (Or.inr (hw _ (List.mem_of_getElem? (i := 14) rfl))) (by decide) (t := .double) (t' := .long) (by decide) (by decide)))).other W4 (Or.inr (slot_ne (Or.inr (hw _ (List.mem_of_getElem? (i := 28) rfl))) (Or.inr (hw _ (List.mem_of_getElem? (i := 16) rfl))) (by decide) (t := .double) (t' := .double) (by decide) (by decide)))).other W5 (Or.inr (slot_ne (Or.inr (hw _ (List.mem_of_getElem? (i := 28) rfl))) (Or.inr (hw _ (List.mem_of_getElem? (i := 18) rfl))) (by decide) (t := .double) (t' := .double) (by decide) (by decide)))).other W6 (Or.inr (slot_ne (Or.inr (hw _ (List.mem_of_getElem? (i := 28) rfl))) (Or.inr (hw _ (List.mem_of_getElem? (i := 20) rfl))) (by decide) (t := .double) (t' := .double) (by decide) (by decide)))).other W7 (Or.inr (slot_ne (Or.inr (hw _ (List.mem_of_getElem? (i := 28) rfl))) (Or.inr (hw _ (List.mem_of_getElem? (i := 22) rfl))) (by decide) (t := .double) (t' := .double) (by decide) (by decide)))).other W8 (Or.inr (slot_ne (Or.inr (hw _ (List.mem_of_getElem? (i := 28) rfl))) (Or.inr (hw _ (List.mem_of_getElem? (i := 24) rfl))) (by decide) (t := .double) (t' := .long) (by decide) (by decide)))).other W9 (Or.inr (slot_ne (Or.inr (hw _ (List.mem_of_getElem? (i := 28) rfl))) (Or.inr (hw _ (List.mem_of_getElem? (i := 26) rfl))) (by decide) (t := .double) (t' := .boolean) (by decide) (by decide)))) ((((((((E.wr W2).wr W3).wr W4).wr W5).wr W6).wr W7).wr W8).wr W9) (Or.inr ⟨(hw _ (List.mem_of_getElem? (i := 28) rfl)), rfl, hnm⟩) (hw _ (List.mem_of_getElem? (i := 1) rfl)) g (ty := .double) (by decide) rfl rfl (g := (mkF m 53 #[.val (.ref a), .val (.long (0 : Int64)), .second, .val (.long (0 : Int64)), .second, .val (.double (0 : UInt64)), .second, .val (.double (0 : UInt64)), .second, .val (.double cH), .second, .val (.double cH), .second, .val (.long (0 : Int64)), .second, .val (.int (0 : Int32)), .val (.double (0 : UInt64)), .second, .val (.double (0 : UInt64)), .second, .val (.int (-1 : Int32)), .val (.int (0 : Int32)), .val (.ref ar)] [(.double (0 : UInt64)), (.ref a)])) rfl rfl (hb hby d1_53) ?_
  intro T10 h10 W10 H10
  have F10_minValue := ((((((((F_minValue.other W2 (Or.inr (slot_ne (Or.inr (hw _ (List.mem_of_getElem? (i := 28) rfl))) (Or.inr (hw _ (List.mem_of_getElem? (i := 12) rfl))) (by decide) (t := .double) (t' := .long) (by decide) (by decide)))).other W3 (Or.inr (slot_ne (Or.inr (hw _ (List.mem_of_getElem? (i := 28) rfl))) (Or.inr (hw _ (List.mem_of_getElem? (i := 14) rfl))) (by decide) (t := .double) (t' := .long) (by decide) (by decide)))).other W4 (Or.inr (slot_ne (Or.inr (hw _ (List.mem_of_getElem? (i := 28) rfl))) (Or.inr (hw _ (List.mem_of_getElem? (i := 16) rfl))) (by decide) (t := .double) (t' := .double) (by decide) (by decide)))).other W5 (Or.inr (slot_ne (Or.inr (hw _ (List.mem_of_getElem? (i := 28) rfl))) (Or.inr (hw _ (List.mem_of_getElem? (i := 18) rfl))) (by decide) (t := .double) (t' := .double) (by decide) (by decide)))).other W6 (Or.inr (slot_ne (Or.inr (hw _ (List.mem_of_getElem? (i := 28) rfl))) (Or.inr (hw _ (List.mem_of_getElem? (i := 20) rfl))) (by decide) (t := .double) (t' := .double) (by decide) (by decide)))).other W7 (Or.inr (slot_ne (Or.inr (hw _ (List.mem_of_getElem? (i := 28) rfl))) (Or.inr (hw _ (List.mem_of_getElem? (i := 22) rfl))) (by decide) (t := .double) (t' := .double) (by decide) (by decide)))).other W8 (Or.inr (slot_ne (Or.inr (hw _ (List.mem_of_getElem? (i := 28) rfl))) (Or.inr (hw _ (List.mem_of_getElem? (i := 24) rfl))) (by decide) (t := .double) (t' := .long) (by decide) (by decide)))).other W9 (Or.inr (slot_ne (Or.inr (hw _ (List.mem_of_getElem? (i := 28) rfl))) (Or.inr (hw _ (List.mem_of_getElem? (i := 26) rfl))) (by decide) (t := .double) (t' := .boolean) (by decide) (by decide)))).same W10
  have sz10 : n0 ≤ h10.size := Nat.le_trans sz9 (Keep.of_wr W10).1
  have K10 := (K9).wr W10 (Or.inl (List.mem_of_getElem? (i := 0) rfl))
  show Go _ _ _ _ (T10.setTop (mkF m 56 #[.val (.ref a), .val (.long (0 : Int64)), .second, .val (.long (0 : Int64)), .second, .val (.double (0 : UInt64)), .second, .val (.double (0 : UInt64)), .second, .val (.double cH), .second, .val (.double cH), .second, .val (.long (0 : Int64)), .second, .val (.int (0 : Int32)), .val (.double (0 : UInt64)), .second, .val (.double (0 : UInt64)), .second, .val (.int (-1 : Int32)), .val (.int (0 : Int32)), .val (.ref ar)] []))
  refine Go.via (fun t_ k_ => XS.aloadN H10.here hx rfl (hb hby d1_56) rfl rfl k_) ?_
  show Go _ _ _ _ (T10.setTop (mkF m 57 #[.val (.ref a), .val (.long (0 : Int64)), .second, .val (.long (0 : Int64)), .second, .val (.double (0 : UInt64)), .second, .val (.double (0 : UInt64)), .second, .val (.double cH), .second, .val (.double cH), .second, .val (.long (0 : Int64)), .second, .val (.int (0 : Int32)), .val (.double (0 : UInt64)), .second, .val (.double (0 : UInt64)), .second, .val (.int (-1 : Int32)), .val (.int (0 : Int32)), .val (.ref ar)] [(.ref a)]))
  refine Go.via (fun t_ k_ => own_dload H10.here hx rfl (hb hby d1_57) rfl k_) ?_
  show Go _ _ _ _ (T10.setTop (mkF m 59 #[.val (.ref a), .val (.long (0 : Int64)), .second, .val (.long (0 : Int64)), .second, .val (.double (0 : UInt64)), .second, .val (.double (0 : UInt64)), .second, .val (.double cH), .second, .val (.double cH), .second, .val (.long (0 : Int64)), .second, .val (.int (0 : Int32)), .val (.double (0 : UInt64)), .second, .val (.double (0 : UInt64)), .second, .val (.int (-1 : Int32)), .val (.int (0 : Int32)), .val (.ref ar)] [(.double (0 : UInt64)), (.ref a)]))
  refine own_putF H10 hx hZ hown (hw _ (List.mem_of_getElem? (i := 29) rfl)) (((((((((F_maxValue.other W2 (Or.inr (slot_ne (Or.inr (hw _ (List.mem_of_getElem? (i := 30) rfl))) (Or.inr (hw _ (List.mem_of_getElem? (i := 12) rfl))) (by decide) (t := .double) (t' := .long) (by decide) (by decide)))).other W3 (Or.inr (slot_ne (Or.inr (hw _ (List.mem_of_getElem? (i := 30) rfl))) (Or.inr (hw _ (List.mem_of_getElem? (i := 14) rfl))) (by decide) (t := .double) (t' := .long) (by decide) (by decide)))).other W4 (Or.inr (slot_ne (Or.inr (hw _ (List.mem_of_getElem? (i := 30) rfl))) (Or.inr (hw _ (List.mem_of_getElem? (i := 16) rfl))) (by decide) (t := .double) (t' := .double) (by decide) (by decide)))).other W5 (Or.inr (slot_ne (Or.inr (hw _ (List.mem_of_getElem? (i := 30) rfl))) (Or.inr (hw _ (List.mem_of_getElem? (i := 18) rfl))) (by decide) (t := .double) (t' := .double) (by decide) (by decide)))).other W6 (Or.inr (slot_ne (Or.inr (hw _ (List.mem_of_getElem? (i := 30) rfl))) (Or.inr (hw _ (List.mem_of_getElem? (i := 20) rfl))) (by decide) (t := .double) (t' := .double) (by decide) (by decide)))).other W7 (Or.inr (slot_ne (Or.inr (hw _ (List.mem_of_getElem? (i := 30) rfl))) (Or.inr (hw _ (List.mem_of_getElem? (i := 22) rfl))) (by decide) (t := .double) (t' := .double) (by decide) (by decide)))).other W8 (Or.inr (slot_ne (Or.inr (hw _ (List.mem_of_getElem? (i := 30) rfl))) (Or.inr (hw _ (List.mem_of_getElem? (i := 24) rfl))) (by decide) (t := .double) (t' := .long) (by decide) (by decide)))).other W9 (Or.inr (slot_ne (Or.inr (hw _ (List.mem_of_getElem? (i := 30) rfl))) (Or.inr (hw _ (List.mem_of_getElem? (i := 26) rfl))) (by decide) (t := .double) (t' := .boolean) (by decide) (by decide)))).other W10 (Or.inr (slot_ne (Or.inr (hw _ (List.mem_of_getElem? (i := 30) rfl))) (Or.inr (hw _ (List.mem_of_getElem? (i := 28) rfl))) (by decide) (t := .double) (t' := .double) (by decide) (by decide)))) (((((((((E.wr W2).wr W3).wr W4).wr W5).wr W6).wr W7).wr W8).wr W9).wr W10) (Or.inr ⟨(hw _ (List.mem_of_getElem? (i := 30) rfl)), rfl, hnm⟩) (hw _ (List.mem_of_getElem? (i := 1) rfl)) g (ty := .double) (by decide) rfl rfl (g := (mkF m 59 #[.val (.ref a), .val (.long (0 : Int64)), .second, .val (.long (0 : Int64)), .second, .val (.double (0 : UInt64)), .second, .val (.double (0 : UInt64)), .second, .val (.double cH), .second, .val (.double cH), .second, .val (.long (0 : Int64)), .second, .val (.int (0 : Int32)), .val (.double (0 : UInt64)), .second, .val (.double (0 : UInt64)), .second, .val (.int (-1 : Int32)), .val (.int (0 : Int32)), .val (.ref ar)] [(.double (0 : UInt64)), (.ref a)])) rfl rfl (hb hby d1_59) ?_
  intro T11 h11 W11 H11
  have F11_maxValue := (((((((((F_maxValue.other W2 (Or.inr (slot_ne (Or.inr (hw _ (List.mem_of_getElem? (i := 30) rfl))) (Or.inr (hw _ (List.mem_of_getElem? (i := 12) rfl))) (by decide) (t := .double) (t' := .long) (by decide) (by decide)))).other W3 (Or.inr (slot_ne (Or.inr (hw _ (List.mem_of_getElem? (i := 30) rfl))) (Or.inr (hw _ (List.mem_of_getElem? (i := 14) rfl))) (by decide) (t := .double) (t' := .long) (by decide) (by decide)))).other W4 (Or.inr (slot_ne (Or.inr (hw _ (List.mem_of_getElem? (i := 30) rfl))) (Or.inr (hw _ (List.mem_of_getElem? (i := 16) rfl))) (by decide) (t := .double) (t' := .double) (by decide) (by decide)))).other W5 (Or.inr (slot_ne (Or.inr (hw _ (List.mem_of_getElem? (i := 30) rfl))) (Or.inr (hw _ (List.mem_of_getElem? (i := 18) rfl))) (by decide) (t := .double) (t' := .double) (by decide) (by decide)))).other W6 (Or.inr (slot_ne (Or.inr (hw _ (List.mem_of_getElem? (i := 30) rfl))) (Or.inr (hw _ (List.mem_of_getElem? (i := 20) rfl))) (by decide) (t := .double) (t' := .double) (by decide) (by decide)))).other W7 (Or.inr (slot_ne (Or.inr (hw _ (List.mem_of_getElem? (i := 30) rfl))) (Or.inr (hw _ (List.mem_of_getElem? (i := 22) rfl))) (by decide) (t := .double) (t' := .double) (by decide) (by decide)))).other W8 (Or.inr (slot_ne (Or.inr (hw _ (List.mem_of_getElem? (i := 30) rfl))) (Or.inr (hw _ (List.mem_of_getElem? (i := 24) rfl))) (by decide) (t := .double) (t' := .long) (by decide) (by decide)))).other W9 (Or.inr (slot_ne (Or.inr (hw _ (List.mem_of_getElem? (i := 30) rfl))) (Or.inr (hw _ (List.mem_of_getElem? (i := 26) rfl))) (by decide) (t := .double) (t' := .boolean) (by decide) (by decide)))).other W10 (Or.inr (slot_ne (Or.inr (hw _ (List.mem_of_getElem? (i := 30) rfl))) (Or.inr (hw _ (List.mem_of_getElem? (i := 28) rfl))) (by decide) (t := .double) (t' := .double) (by decide) (by decide)))).same W11
  have sz11 : n0 ≤ h11.size := Nat.le_trans sz10 (Keep.of_wr W11).1
  have K11 := (K10).wr W11 (Or.inl (List.mem_of_getElem? (i := 0) rfl))
  show Go _ _ _ _ (T11.setTop (mkF m 62 #[.val (.ref a), .val (.long (0 : Int64)), .second, .val (.long (0 : Int64)), .second, .val (.double (0 : UInt64)), .second, .val (.double (0 : UInt64)), .second, .val (.double cH), .second, .val (.double cH), .second, .val (.long (0 : Int64)), .second, .val (.int (0 : Int32)), .val (.double (0 : UInt64)), .second, .val (.double (0 : UInt64)), .second, .val (.int (-1 : Int32)), .val (.int (0 : Int32)), .val (.ref ar)] []))
  refine Go.via (fun t_ k_ => XS.aloadN H11.here hx rfl (hb hby d1_62) rfl rfl k_) ?_
  show Go _ _ _ _ (T11.setTop (mkF m 63 #[.val (.ref a), .val (.long (0 : Int64)), .second, .val (.long (0 : Int64)), .second, .val (.double (0 : UInt64)), .second, .val (.double (0 : UInt64)), .second, .val (.double cH), .second, .val (.double cH), .second, .val (.long (0 : Int64)), .second, .val (.int (0 : Int32)), .val (.double (0 : UInt64)), .second, .val (.double (0 : UInt64)), .second, .val (.int (-1 : Int32)), .val (.int (0 : Int32)), .val (.ref ar)] [(.ref a)]))
  refine Go.via (fun t_ k_ => XS.iload H11.here hx rfl (hb hby d1_63) rfl k_) ?_
  show Go _ _ _ _ (T11.setTop (mkF m 65 #[.val (.ref a), .val (.long (0 : Int64)), .second, .val (.long (0 : Int64)), .second, .val (.double (0 : UInt64)), .second, .val (.double (0 : UInt64)), .second, .val (.double cH), .second, .val (.double cH), .second, .val (.long (0 : Int64)), .second, .val (.int (0 : Int32)), .val (.double (0 : UInt64)), .second, .val (.double (0 : UInt64)), .second, .val (.int (-1 : Int32)), .val (.int (0 : Int32)), .val (.ref ar)] [(.int (-1 : Int32)), (.ref a)]))
  refine own_putF H11 hx hZ hown (hw _ (List.mem_of_getElem? (i := 31) rfl)) ((((((((((F_numberCount.other W2 (Or.inr (slot_ne (Or.inr (hw _ (List.mem_of_getElem? (i := 32) rfl))) (Or.inr (hw _ (List.mem_of_getElem? (i := 12) rfl))) (by decide) (t := .int) (t' := .long) (by decide) (by decide)))).other W3 (Or.inr (slot_ne (Or.inr (hw _ (List.mem_of_getElem? (i := 32) rfl))) (Or.inr (hw _ (List.mem_of_getElem? (i := 14) rfl))) (by decide) (t := .int) (t' := .long) (by decide) (by decide)))).other W4 (Or.inr (slot_ne (Or.inr (hw _ (List.mem_of_getElem? (i := 32) rfl))) (Or.inr (hw _ (List.mem_of_getElem? (i := 16) rfl))) (by decide) (t := .int) (t' := .double) (by decide) (by decide)))).other W5 (Or.inr (slot_ne (Or.inr (hw _ (List.mem_of_getElem? (i := 32) rfl))) (Or.inr (hw _ (List.mem_of_getElem? (i := 18) rfl))) (by decide) (t := .int) (t' := .double) (by decide) (by decide)))).other W6 (Or.inr (slot_ne (Or.inr (hw _ (List.mem_of_getElem? (i := 32) rfl))) (Or.inr (hw _ (List.mem_of_getElem? (i := 20) rfl))) (by decide) (t := .int) (t' := .double) (by decide) (by decide)))).other W7 (Or.inr (slot_ne (Or.inr (hw _ (List.mem_of_getElem? (i := 32) rfl))) (Or.inr (hw _ (List.mem_of_getElem? (i := 22) rfl))) (by decide) (t := .int) (t' := .double) (by decide) (by decide)))).other W8 (Or.inr (slot_ne (Or.inr (hw _ (List.mem_of_getElem? (i := 32) rfl))) (Or.inr (hw _ (List.mem_of_getElem? (i := 24) rfl))) (by decide) (t := .int) (t' := .long) (by decide) (by decide)))).other W9 (Or.inr (slot_ne (Or.inr (hw _ (List.mem_of_getElem? (i := 32) rfl))) (Or.inr (hw _ (List.mem_of_getElem? (i := 26) rfl))) (by decide) (t := .int) (t' := .boolean) (by decide) (by decide)))).other W10 (Or.inr (slot_ne (Or.inr (hw _ (List.mem_of_getElem? (i := 32) rfl))) (Or.inr (hw _ (List.mem_of_getElem? (i := 28) rfl))) (by decide) (t := .int) (t' := .double) (by decide) (by decide)))).other W11 (Or.inr (slot_ne (Or.inr (hw _ (List.mem_of_getElem? (i := 32) rfl))) (Or.inr (hw _ (List.mem_of_getElem? (i := 30) rfl))) (by decide) (t := .int) (t' := .double) (by decide) (by decide)))) ((((((((((E.wr W2).wr W3).wr W4).wr W5).wr W6).wr W7).wr W8).wr W9).wr W10).wr W11) (Or.inr ⟨(hw _ (List.mem_of_getElem? (i := 32) rfl)), rfl, hnm⟩) (hw _ (List.mem_of_getElem? (i := 1) rfl)) g (ty := .int) (by decide) rfl rfl (g := (mkF m 65 #[.val (.ref a), .val (.long (0 : Int64)), .second, .val (.long (0 : Int64)), .second, .val (.double (0 : UInt64)), .second, .val (.double (0 : UInt64)), .second, .val (.double cH), .second, .val (.double cH), .second, .val (.long (0 : Int64)), .second, .val (.int (0 : Int32)), .val (.double (0 : UInt64)), .second, .val (.double (0 : UInt64)), .second, .val (.int (-1 : Int32)), .val (.int (0 : Int32)), .val (.ref ar)] [(.int (-1 : Int32)), (.ref a)])) rfl rfl (hb hby d1_65) ?_
  intro T12 h12 W12 H12
  have F12_numberCount := ((((((((((F_numberCount.other W2 (Or.inr (slot_ne (Or.inr (hw _ (List.mem_of_getElem? (i := 32) rfl))) (Or.inr (hw _ (List.mem_of_getElem? (i := 12) rfl))) (by decide) (t := .int) (t' := .long) (by decide) (by decide)))).other W3 (Or.inr (slot_ne (Or.inr (hw _ (List.mem_of_getElem? (i := 32) rfl))) (Or.inr (hw _ (List.mem_of_getElem? (i := 14) rfl))) (by decide) (t := .int) (t' := .long) (by decide) (by decide)))).other W4 (Or.inr (slot_ne (Or.inr (hw _ (List.mem_of_getElem? (i := 32) rfl))) (Or.inr (hw _ (List.mem_of_getElem? (i := 16) rfl))) (by decide) (t := .int) (t' := .double) (by decide) (by decide)))).other W5 (Or.inr (slot_ne (Or.inr (hw _ (List.mem_of_getElem? (i := 32) rfl))) (Or.inr (hw _ (List.mem_of_getElem? (i := 18) rfl))) (by decide) (t := .int) (t' := .double) (by decide) (by decide)))).other W6 (Or.inr (slot_ne (Or.inr (hw _ (List.mem_of_getElem? (i := 32) rfl))) (Or.inr (hw _ (List.mem_of_getElem? (i := 20) rfl))) (by decide) (t := .int) (t' := .double) (by decide) (by decide)))).other W7 (Or.inr (slot_ne (Or.inr (hw _ (List.mem_of_getElem? (i := 32) rfl))) (Or.inr (hw _ (List.mem_of_getElem? (i := 22) rfl))) (by decide) (t := .int) (t' := .double) (by decide) (by decide)))).other W8 (Or.inr (slot_ne (Or.inr (hw _ (List.mem_of_getElem? (i := 32) rfl))) (Or.inr (hw _ (List.mem_of_getElem? (i := 24) rfl))) (by decide) (t := .int) (t' := .long) (by decide) (by decide)))).other W9 (Or.inr (slot_ne (Or.inr (hw _ (List.mem_of_getElem? (i := 32) rfl))) (Or.inr (hw _ (List.mem_of_getElem? (i := 26) rfl))) (by decide) (t := .int) (t' := .boolean) (by decide) (by decide)))).other W10 (Or.inr (slot_ne (Or.inr (hw _ (List.mem_of_getElem? (i := 32) rfl))) (Or.inr (hw _ (List.mem_of_getElem? (i := 28) rfl))) (by decide) (t := .int) (t' := .double) (by decide) (by decide)))).other W11 (Or.inr (slot_ne (Or.inr (hw _ (List.mem_of_getElem? (i := 32) rfl))) (Or.inr (hw _ (List.mem_of_getElem? (i := 30) rfl))) (by decide) (t := .int) (t' := .double) (by decide) (by decide)))).same W12
  have sz12 : n0 ≤ h12.size := Nat.le_trans sz11 (Keep.of_wr W12).1
  have K12 := (K11).wr W12 (Or.inl (List.mem_of_getElem? (i := 0) rfl))
  show Go _ _ _ _ (T12.setTop (mkF m 68 #[.val (.ref a), .val (.long (0 : Int64)), .second, .val (.long (0 : Int64)), .second, .val (.double (0 : UInt64)), .second, .val (.double (0 : UInt64)), .second, .val (.double cH), .second, .val (.double cH), .second, .val (.long (0 : Int64)), .second, .val (.int (0 : Int32)), .val (.double (0 : UInt64)), .second, .val (.double (0 : UInt64)), .second, .val (.int (-1 : Int32)), .val (.int (0 : Int32)), .val (.ref ar)] []))
  refine Go.via (fun t_ k_ => XS.aloadN H12.here hx rfl (hb hby d1_68) rfl rfl k_) ?_
  show Go _ _ _ _ (T12.setTop (mkF m 69 #[.val (.ref a), .val (.long (0 : Int64)), .second, .val (.long (0 : Int64)), .second, .val (.double (0 : UInt64)), .second, .val (.double (0 : UInt64)), .second, .val (.double cH), .second, .val (.double cH), .second, .val (.long (0 : Int64)), .second, .val (.int (0 : Int32)), .val (.double (0 : UInt64)), .second, .val (.double (0 : UInt64)), .second, .val (.int (-1 : Int32)), .val (.int (0 : Int32)), .val (.ref ar)] [(.ref a)]))
  refine Go.via (fun t_ k_ => XS.iload H12.here hx rfl (hb hby d1_69) rfl k_) ?_
  show Go _ _ _ _ (T12.setTop (mkF m 71 #[.val (.ref a), .val (.long (0 : Int64)), .second, .val (.long (0 : Int64)), .second, .val (.double (0 : UInt64)), .second, .val (.double (0 : UInt64)), .second, .val (.double cH), .second, .val (.double cH), .second, .val (.long (0 : Int64)), .second, .val (.int (0 : Int32)), .val (.double (0 : UInt64)), .second, .val (.double (0 : UInt64)), .second, .val (.int (-1 : Int32)), .val (.int (0 : Int32)), .val (.ref ar)] [(.int (0 : Int32)), (.ref a)]))
  refine own_putFN H12 hx hZ hown (hw _ (List.mem_of_getElem? (i := 33) rfl)) (((((((((((F_keepsNumbers.other W2 (Or.inr (slot_ne (Or.inr (hw _ (List.mem_of_getElem? (i := 34) rfl))) (Or.inr (hw _ (List.mem_of_getElem? (i := 12) rfl))) (by decide) (t := .boolean) (t' := .long) (by decide) (by decide)))).other W3 (Or.inr (slot_ne (Or.inr (hw _ (List.mem_of_getElem? (i := 34) rfl))) (Or.inr (hw _ (List.mem_of_getElem? (i := 14) rfl))) (by decide) (t := .boolean) (t' := .long) (by decide) (by decide)))).other W4 (Or.inr (slot_ne (Or.inr (hw _ (List.mem_of_getElem? (i := 34) rfl))) (Or.inr (hw _ (List.mem_of_getElem? (i := 16) rfl))) (by decide) (t := .boolean) (t' := .double) (by decide) (by decide)))).other W5 (Or.inr (slot_ne (Or.inr (hw _ (List.mem_of_getElem? (i := 34) rfl))) (Or.inr (hw _ (List.mem_of_getElem? (i := 18) rfl))) (by decide) (t := .boolean) (t' := .double) (by decide) (by decide)))).other W6 (Or.inr (slot_ne (Or.inr (hw _ (List.mem_of_getElem? (i := 34) rfl))) (Or.inr (hw _ (List.mem_of_getElem? (i := 20) rfl))) (by decide) (t := .boolean) (t' := .double) (by decide) (by decide)))).other W7 (Or.inr (slot_ne (Or.inr (hw _ (List.mem_of_getElem? (i := 34) rfl))) (Or.inr (hw _ (List.mem_of_getElem? (i := 22) rfl))) (by decide) (t := .boolean) (t' := .double) (by decide) (by decide)))).other W8 (Or.inr (slot_ne (Or.inr (hw _ (List.mem_of_getElem? (i := 34) rfl))) (Or.inr (hw _ (List.mem_of_getElem? (i := 24) rfl))) (by decide) (t := .boolean) (t' := .long) (by decide) (by decide)))).other W9 (Or.inr (slot_ne (Or.inr (hw _ (List.mem_of_getElem? (i := 34) rfl))) (Or.inr (hw _ (List.mem_of_getElem? (i := 26) rfl))) (by decide) (t := .boolean) (t' := .boolean) (by decide) (by decide)))).other W10 (Or.inr (slot_ne (Or.inr (hw _ (List.mem_of_getElem? (i := 34) rfl))) (Or.inr (hw _ (List.mem_of_getElem? (i := 28) rfl))) (by decide) (t := .boolean) (t' := .double) (by decide) (by decide)))).other W11 (Or.inr (slot_ne (Or.inr (hw _ (List.mem_of_getElem? (i := 34) rfl))) (Or.inr (hw _ (List.mem_of_getElem? (i := 30) rfl))) (by decide) (t := .boolean) (t' := .double) (by decide) (by decide)))).other W12 (Or.inr (slot_ne (Or.inr (hw _ (List.mem_of_getElem? (i := 34) rfl))) (Or.inr (hw _ (List.mem_of_getElem? (i := 32) rfl))) (by decide) (t := .boolean) (t' := .int) (by decide) (by decide)))) (((((((((((E.wr W2).wr W3).wr W4).wr W5).wr W6).wr W7).wr W8).wr W9).wr W10).wr W11).wr W12) (Or.inr ⟨(hw _ (List.mem_of_getElem? (i := 34) rfl)), rfl, hnm⟩) (hw _ (List.mem_of_getElem? (i := 1) rfl)) g (ty := .boolean) (v' := .int (nar .boolean (0 : Int32))) (by decide) rfl (fits_nar_bool _) (g := (mkF m 71 #[.val (.ref a), .val (.long (0 : Int64)), .second, .val (.long (0 : Int64)), .second, .val (.double (0 : UInt64)), .second, .val (.double (0 : UInt64)), .second, .val (.double cH), .second, .val (.double cH), .second, .val (.long (0 : Int64)), .second, .val (.int (0 : Int32)), .val (.double (0 : UInt64)), .second, .val (.double (0 : UInt64)), .second, .val (.int (-1 : Int32)), .val (.int (0 : Int32)), .val (.ref ar)] [(.int (0 : Int32)), (.ref a)])) rfl rfl (hb hby d1_71) ?_
  intro T13 h13 W13 H13
  have F13_keepsNumbers := (((((((((((F_keepsNumbers.other W2 (Or.inr (slot_ne (Or.inr (hw _ (List.mem_of_getElem? (i := 34) rfl))) (Or.inr (hw _ (List.mem_of_getElem? (i := 12) rfl))) (by decide) (t := .boolean) (t' := .long) (by decide) (by decide)))).other W3 (Or.inr (slot_ne (Or.inr (hw _ (List.mem_of_getElem? (i := 34) rfl))) (Or.inr (hw _ (List.mem_of_getElem? (i := 14) rfl))) (by decide) (t := .boolean) (t' := .long) (by decide) (by decide)))).other W4 (Or.inr (slot_ne (Or.inr (hw _ (List.mem_of_getElem? (i := 34) rfl))) (Or.inr (hw _ (List.mem_of_getElem? (i := 16) rfl))) (by decide) (t := .boolean) (t' := .double) (by decide) (by decide)))).other W5 (Or.inr (slot_ne (Or.inr (hw _ (List.mem_of_getElem? (i := 34) rfl))) (Or.inr (hw _ (List.mem_of_getElem? (i := 18) rfl))) (by decide) (t := .boolean) (t' := .double) (by decide) (by decide)))).other W6 (Or.inr (slot_ne (Or.inr (hw _ (List.mem_of_getElem? (i := 34) rfl))) (Or.inr (hw _ (List.mem_of_getElem? (i := 20) rfl))) (by decide) (t := .boolean) (t' := .double) (by decide) (by decide)))).other W7 (Or.inr (slot_ne (Or.inr (hw _ (List.mem_of_getElem? (i := 34) rfl))) (Or.inr (hw _ (List.mem_of_getElem? (i := 22) rfl))) (by decide) (t := .boolean) (t' := .double) (by decide) (by decide)))).other W8 (Or.inr (slot_ne (Or.inr (hw _ (List.mem_of_getElem? (i := 34) rfl))) (Or.inr (hw _ (List.mem_of_getElem? (i := 24) rfl))) (by decide) (t := .boolean) (t' := .long) (by decide) (by decide)))).other W9 (Or.inr (slot_ne (Or.inr (hw _ (List.mem_of_getElem? (i := 34) rfl))) (Or.inr (hw _ (List.mem_of_getElem? (i := 26) rfl))) (by decide) (t := .boolean) (t' := .boolean) (by decide) (by decide)))).other W10 (Or.inr (slot_ne (Or.inr (hw _ (List.mem_of_getElem? (i := 34) rfl))) (Or.inr (hw _ (List.mem_of_getElem? (i := 28) rfl))) (by decide) (t := .boolean) (t' := .double) (by decide) (by decide)))).other W11 (Or.inr (slot_ne (Or.inr (hw _ (List.mem_of_getElem? (i := 34) rfl))) (Or.inr (hw _ (List.mem_of_getElem? (i := 30) rfl))) (by decide) (t := .boolean) (t' := .double) (by decide) (by decide)))).other W12 (Or.inr (slot_ne (Or.inr (hw _ (List.mem_of_getElem? (i := 34) rfl))) (Or.inr (hw _ (List.mem_of_getElem? (i := 32) rfl))) (by decide) (t := .boolean) (t' := .int) (by decide) (by decide)))).same W13
  have sz13 : n0 ≤ h13.size := Nat.le_trans sz12 (Keep.of_wr W13).1
  have K13 := (K12).wr W13 (Or.inl (List.mem_of_getElem? (i := 0) rfl))
  show Go _ _ _ _ (T13.setTop (mkF m 74 #[.val (.ref a), .val (.long (0 : Int64)), .second, .val (.long (0 : Int64)), .second, .val (.double (0 : UInt64)), .second, .val (.double (0 : UInt64)), .second, .val (.double cH), .second, .val (.double cH), .second, .val (.long (0 : Int64)), .second, .val (.int (0 : Int32)), .val (.double (0 : UInt64)), .second, .val (.double (0 : UInt64)), .second, .val (.int (-1 : Int32)), .val (.int (0 : Int32)), .val (.ref ar)] []))
  refine Go.via (fun t_ k_ => XS.aloadN H13.here hx rfl (hb hby d1_74) rfl rfl k_) ?_
  show Go _ _ _ _ (T13.setTop (mkF m 75 #[.val (.ref a), .val (.long (0 : Int64)), .second, .val (.long (0 : Int64)), .second, .val (.double (0 : UInt64)), .second, .val (.double (0 : UInt64)), .second, .val (.double cH), .second, .val (.double cH), .second, .val (.long (0 : Int64)), .second, .val (.int (0 : Int32)), .val (.double (0 : UInt64)), .second, .val (.double (0 : UInt64)), .second, .val (.int (-1 : Int32)), .val (.int (0 : Int32)), .val (.ref ar)] [(.ref a)]))
  refine Go.via (fun t_ k_ => XS.aload H13.here hx rfl (hb hby d1_75) rfl rfl k_) ?_
  show Go _ _ _ _ (T13.setTop (mkF m 77 #[.val (.ref a), .val (.long (0 : Int64)), .second, .val (.long (0 : Int64)), .second, .val (.double (0 : UInt64)), .second, .val (.double (0 : UInt64)), .second, .val (.double cH), .second, .val (.double cH), .second, .val (.long (0 : Int64)), .second, .val (.int (0 : Int32)), .val (.double (0 : UInt64)), .second, .val (.double (0 : UInt64)), .second, .val (.int (-1 : Int32)), .val (.int (0 : Int32)), .val (.ref ar)] [(.ref ar), (.ref a)]))
  refine own_clone H13 hx hZ hown (ad := "[I") (hw _ (List.mem_of_getElem? (i := 35) rfl)) (hw _ (List.mem_of_getElem? (i := 36) rfl)) (hw _ (List.mem_of_getElem? (i := 40) rfl)) (hw _ (List.mem_of_getElem? (i := 38) rfl)) (hw _ (List.mem_of_getElem? (i := 39) rfl)) (hw _ (List.mem_of_getElem? (i := 41) rfl)) ((((((((((((A.other W2 (Ne.symm ne)).other W3 (Ne.symm ne)).other W4 (Ne.symm ne)).other W5 (Ne.symm ne)).other W6 (Ne.symm ne)).other W7 (Ne.symm ne)).other W8 (Ne.symm ne)).other W9 (Ne.symm ne)).other W10 (Ne.symm ne)).other W11 (Ne.symm ne)).other W12 (Ne.symm ne)).other W13 (Ne.symm ne)) ((((((((((((EA.wr W2).wr W3).wr W4).wr W5).wr W6).wr W7).wr W8).wr W9).wr W10).wr W11).wr W12).wr W13) (g := (mkF m 77 #[.val (.ref a), .val (.long (0 : Int64)), .second, .val (.long (0 : Int64)), .second, .val (.double (0 : UInt64)), .second, .val (.double (0 : UInt64)), .second, .val (.double cH), .second, .val (.double cH), .second, .val (.long (0 : Int64)), .second, .val (.int (0 : Int32)), .val (.double (0 : UInt64)), .second, .val (.double (0 : UInt64)), .second, .val (.int (-1 : Int32)), .val (.int (0 : Int32)), .val (.ref ar)] [(.ref ar), (.ref a)])) rfl (by rw [hml]; rfl) rfl (hb hby d1_77) (by decide) 1 0 (Nat.le_of_eq rfl) (by decide) (by decide) (by decide) (by decide) ?_
  intro T14 h14 a14 ga14 E14 Ex14 H14
  have ne_a_a14 : a ≠ a14 := by rw [ga14]; exact Nat.ne_of_lt ((((((((((((E.wr W2).wr W3).wr W4).wr W5).wr W6).wr W7).wr W8).wr W9).wr W10).wr W11).wr W12).wr W13).lt
  have g_a14 : n0 ≤ a14 := by rw [ga14]; exact sz13
  have sz14 : n0 ≤ h14.size := Nat.le_trans sz13 E14.1
  have kin_a14 : h0.size ≤ a14 := by rw [ga14]; exact (K13).1
  have K14 := (K13).ext E14
  show Go _ _ _ _ (T14.setTop (mkF m 80 #[.val (.ref a), .val (.long (0 : Int64)), .second, .val (.long (0 : Int64)), .second, .val (.double (0 : UInt64)), .second, .val (.double (0 : UInt64)), .second, .val (.double cH), .second, .val (.double cH), .second, .val (.long (0 : Int64)), .second, .val (.int (0 : Int32)), .val (.double (0 : UInt64)), .second, .val (.double (0 : UInt64)), .second, .val (.int (-1 : Int32)), .val (.int (0 : Int32)), .val (.ref ar)] [(.ref a14), (.ref a)]))
  refine own_castY H14 hx hZ hown (hw _ (List.mem_of_getElem? (i := 42) rfl)) (Ins.self Ex14) (g := (mkF m 80 #[.val (.ref a), .val (.long (0 : Int64)), .second, .val (.long (0 : Int64)), .second, .val (.double (0 : UInt64)), .second, .val (.double (0 : UInt64)), .second, .val (.double cH), .second, .val (.double cH), .second, .val (.long (0 : Int64)), .second, .val (.int (0 : Int32)), .val (.double (0 : UInt64)), .second, .val (.double (0 : UInt64)), .second, .val (.int (-1 : Int32)), .val (.int (0 : Int32)), .val (.ref ar)] [(.ref a14), (.ref a)])) rfl rfl (hb hby d1_80) ?_
  intro T15 H15
  show Go _ _ _ _ (T15.setTop (mkF m 83 #[.val (.ref a), .val (.long (0 : Int64)), .second, .val (.long (0 : Int64)), .second, .val (.double (0 : UInt64)), .second, .val (.double (0 : UInt64)), .second, .val (.double cH), .second, .val (.double cH), .second, .val (.long (0 : Int64)), .second, .val (.int (0 : Int32)), .val (.double (0 : UInt64)), .second, .val (.double (0 : UInt64)), .second, .val (.int (-1 : Int32)), .val (.int (0 : Int32)), .val (.ref ar)] [(.ref a14), (.ref a)]))
  refine own_putF H15 hx hZ hown (hw _ (List.mem_of_getElem? (i := 44) rfl)) (((((((((((((F_segments.other W2 (Or.inr (slot_ne (Or.inr (hw _ (List.mem_of_getElem? (i := 45) rfl))) (Or.inr (hw _ (List.mem_of_getElem? (i := 12) rfl))) (by decide) (t := (.array .int)) (t' := .long) (by decide) (by decide)))).other W3 (Or.inr (slot_ne (Or.inr (hw _ (List.mem_of_getElem? (i := 45) rfl))) (Or.inr (hw _ (List.mem_of_getElem? (i := 14) rfl))) (by decide) (t := (.array .int)) (t' := .long) (by decide) (by decide)))).other W4 (Or.inr (slot_ne (Or.inr (hw _ (List.mem_of_getElem? (i := 45) rfl))) (Or.inr (hw _ (List.mem_of_getElem? (i := 16) rfl))) (by decide) (t := (.array .int)) (t' := .double) (by decide) (by decide)))).other W5 (Or.inr (slot_ne (Or.inr (hw _ (List.mem_of_getElem? (i := 45) rfl))) (Or.inr (hw _ (List.mem_of_getElem? (i := 18) rfl))) (by decide) (t := (.array .int)) (t' := .double) (by decide) (by decide)))).other W6 (Or.inr (slot_ne (Or.inr (hw _ (List.mem_of_getElem? (i := 45) rfl))) (Or.inr (hw _ (List.mem_of_getElem? (i := 20) rfl))) (by decide) (t := (.array .int)) (t' := .double) (by decide) (by decide)))).other W7 (Or.inr (slot_ne (Or.inr (hw _ (List.mem_of_getElem? (i := 45) rfl))) (Or.inr (hw _ (List.mem_of_getElem? (i := 22) rfl))) (by decide) (t := (.array .int)) (t' := .double) (by decide) (by decide)))).other W8 (Or.inr (slot_ne (Or.inr (hw _ (List.mem_of_getElem? (i := 45) rfl))) (Or.inr (hw _ (List.mem_of_getElem? (i := 24) rfl))) (by decide) (t := (.array .int)) (t' := .long) (by decide) (by decide)))).other W9 (Or.inr (slot_ne (Or.inr (hw _ (List.mem_of_getElem? (i := 45) rfl))) (Or.inr (hw _ (List.mem_of_getElem? (i := 26) rfl))) (by decide) (t := (.array .int)) (t' := .boolean) (by decide) (by decide)))).other W10 (Or.inr (slot_ne (Or.inr (hw _ (List.mem_of_getElem? (i := 45) rfl))) (Or.inr (hw _ (List.mem_of_getElem? (i := 28) rfl))) (by decide) (t := (.array .int)) (t' := .double) (by decide) (by decide)))).other W11 (Or.inr (slot_ne (Or.inr (hw _ (List.mem_of_getElem? (i := 45) rfl))) (Or.inr (hw _ (List.mem_of_getElem? (i := 30) rfl))) (by decide) (t := (.array .int)) (t' := .double) (by decide) (by decide)))).other W12 (Or.inr (slot_ne (Or.inr (hw _ (List.mem_of_getElem? (i := 45) rfl))) (Or.inr (hw _ (List.mem_of_getElem? (i := 32) rfl))) (by decide) (t := (.array .int)) (t' := .int) (by decide) (by decide)))).other W13 (Or.inr (slot_ne (Or.inr (hw _ (List.mem_of_getElem? (i := 45) rfl))) (Or.inr (hw _ (List.mem_of_getElem? (i := 34) rfl))) (by decide) (t := (.array .int)) (t' := .boolean) (by decide) (by decide)))).ext E14) (((((((((((((E.wr W2).wr W3).wr W4).wr W5).wr W6).wr W7).wr W8).wr W9).wr W10).wr W11).wr W12).wr W13).ext E14) (Or.inr ⟨(hw _ (List.mem_of_getElem? (i := 45) rfl)), rfl, hnm⟩) (hw _ (List.mem_of_getElem? (i := 1) rfl)) g (ty := (.array .int)) (by decide) rfl rfl (g := (mkF m 83 #[.val (.ref a), .val (.long (0 : Int64)), .second, .val (.long (0 : Int64)), .second, .val (.double (0 : UInt64)), .second, .val (.double (0 : UInt64)), .second, .val (.double cH), .second, .val (.double cH), .second, .val (.long (0 : Int64)), .second, .val (.int (0 : Int32)), .val (.double (0 : UInt64)), .second, .val (.double (0 : UInt64)), .second, .val (.int (-1 : Int32)), .val (.int (0 : Int32)), .val (.ref ar)] [(.ref a14), (.ref a)])) rfl rfl (hb hby d1_83) ?_
  intro T16 h16 W16 H16
  have F16_segments := (((((((((((((F_segments.other W2 (Or.inr (slot_ne (Or.inr (hw _ (List.mem_of_getElem? (i := 45) rfl))) (Or.inr (hw _ (List.mem_of_getElem? (i := 12) rfl))) (by decide) (t := (.array .int)) (t' := .long) (by decide) (by decide)))).other W3 (Or.inr (slot_ne (Or.inr (hw _ (List.mem_of_getElem? (i := 45) rfl))) (Or.inr (hw _ (List.mem_of_getElem? (i := 14) rfl))) (by decide) (t := (.array .int)) (t' := .long) (by decide) (by decide)))).other W4 (Or.inr (slot_ne (Or.inr (hw _ (List.mem_of_getElem? (i := 45) rfl))) (Or.inr (hw _ (List.mem_of_getElem? (i := 16) rfl))) (by decide) (t := (.array .int)) (t' := .double) (by decide) (by decide)))).other W5 (Or.inr (slot_ne (Or.inr (hw _ (List.mem_of_getElem? (i := 45) rfl))) (Or.inr (hw _ (List.mem_of_getElem? (i := 18) rfl))) (by decide) (t := (.array .int)) (t' := .double) (by decide) (by decide)))).other W6 (Or.inr (slot_ne (Or.inr (hw _ (List.mem_of_getElem? (i := 45) rfl))) (Or.inr (hw _ (List.mem_of_getElem? (i := 20) rfl))) (by decide) (t := (.array .int)) (t' := .double) (by decide) (by decide)))).other W7 (Or.inr (slot_ne (Or.inr (hw _ (List.mem_of_getElem? (i := 45) rfl))) (Or.inr (hw _ (List.mem_of_getElem? (i := 22) rfl))) (by decide) (t := (.array .int)) (t' := .double) (by decide) (by decide)))).other W8 (Or.inr (slot_ne (Or.inr (hw _ (List.mem_of_getElem? (i := 45) rfl))) (Or.inr (hw _ (List.mem_of_getElem? (i := 24) rfl))) (by decide) (t := (.array .int)) (t' := .long) (by decide) (by decide)))).other W9 (Or.inr (slot_ne (Or.inr (hw _ (List.mem_of_getElem? (i := 45) rfl))) (Or.inr (hw _ (List.mem_of_getElem? (i := 26) rfl))) (by decide) (t := (.array .int)) (t' := .boolean) (by decide) (by decide)))).other W10 (Or.inr (slot_ne (Or.inr (hw _ (List.mem_of_getElem? (i := 45) rfl))) (Or.inr (hw _ (List.mem_of_getElem? (i := 28) rfl))) (by decide) (t := (.array .int)) (t' := .double) (by decide) (by decide)))).other W11 (Or.inr (slot_ne (Or.inr (hw _ (List.mem_of_getElem? (i := 45) rfl))) (Or.inr (hw _ (List.mem_of_getElem? (i := 30) rfl))) (by decide) (t := (.array .int)) (t' := .double) (by decide) (by decide)))).other W12 (Or.inr (slot_ne (Or.inr (hw _ (List.mem_of_getElem? (i := 45) rfl))) (Or.inr (hw _ (List.mem_of_getElem? (i := 32) rfl))) (by decide) (t := (.array .int)) (t' := .int) (by decide) (by decide)))).other W13 (Or.inr (slot_ne (Or.inr (hw _ (List.mem_of_getElem? (i := 45) rfl))) (Or.inr (hw _ (List.mem_of_getElem? (i := 34) rfl))) (by decide) (t := (.array .int)) (t' := .boolean) (by decide) (by decide)))).ext E14).same W16
  have sz16 : n0 ≤ h16.size := Nat.le_trans sz14 (Keep.of_wr W16).1
  have K16 := (K14).wr W16 (Or.inl (List.mem_of_getElem? (i := 0) rfl))
  show Go _ _ _ _ (T16.setTop (mkF m 86 #[.val (.ref a), .val (.long (0 : Int64)), .second, .val (.long (0 : Int64)), .second, .val (.double (0 : UInt64)), .second, .val (.double (0 : UInt64)), .second, .val (.double cH), .second, .val (.double cH), .second, .val (.long (0 : Int64)), .second, .val (.int (0 : Int32)), .val (.double (0 : UInt64)), .second, .val (.double (0 : UInt64)), .second, .val (.int (-1 : Int32)), .val (.int (0 : Int32)), .val (.ref ar)] []))
  exact own_retV H16 hx hlk hret (hb hby d1_86) ⟨rfl, K16, ((((((((((((((E.wr W2).wr W3).wr W4).wr W5).wr W6).wr W7).wr W8).wr W9).wr W10).wr W11).wr W12).wr W13).ext E14).wr W16), (((((((((((F4_minX.other W5 (Or.inr (slot_ne (Or.inr (hw _ (List.mem_of_getElem? (i := 16) rfl))) (Or.inr (hw _ (List.mem_of_getElem? (i := 18) rfl))) (by decide) (t := .double) (t' := .double) (by decide) (by decide)))).other W6 (Or.inr (slot_ne (Or.inr (hw _ (List.mem_of_getElem? (i := 16) rfl))) (Or.inr (hw _ (List.mem_of_getElem? (i := 20) rfl))) (by decide) (t := .double) (t' := .double) (by decide) (by decide)))).other W7 (Or.inr (slot_ne (Or.inr (hw _ (List.mem_of_getElem? (i := 16) rfl))) (Or.inr (hw _ (List.mem_of_getElem? (i := 22) rfl))) (by decide) (t := .double) (t' := .double) (by decide) (by decide)))).other W8 (Or.inr (slot_ne (Or.inr (hw _ (List.mem_of_getElem? (i := 16) rfl))) (Or.inr (hw _ (List.mem_of_getElem? (i := 24) rfl))) (by decide) (t := .double) (t' := .long) (by decide) (by decide)))).other W9 (Or.inr (slot_ne (Or.inr (hw _ (List.mem_of_getElem? (i := 16) rfl))) (Or.inr (hw _ (List.mem_of_getElem? (i := 26) rfl))) (by decide) (t := .double) (t' := .boolean) (by decide) (by decide)))).other W10 (Or.inr (slot_ne (Or.inr (hw _ (List.mem_of_getElem? (i := 16) rfl))) (Or.inr (hw _ (List.mem_of_getElem? (i := 28) rfl))) (by decide) (t := .double) (t' := .double) (by decide) (by decide)))).other W11 (Or.inr (slot_ne (Or.inr (hw _ (List.mem_of_getElem? (i := 16) rfl))) (Or.inr (hw _ (List.mem_of_getElem? (i := 30) rfl))) (by decide) (t := .double) (t' := .double) (by decide) (by decide)))).other W12 (Or.inr (slot_ne (Or.inr (hw _ (List.mem_of_getElem? (i := 16) rfl))) (Or.inr (hw _ (List.mem_of_getElem? (i := 32) rfl))) (by decide) (t := .double) (t' := .int) (by decide) (by decide)))).other W13 (Or.inr (slot_ne (Or.inr (hw _ (List.mem_of_getElem? (i := 16) rfl))) (Or.inr (hw _ (List.mem_of_getElem? (i := 34) rfl))) (by decide) (t := .double) (t' := .boolean) (by decide) (by decide)))).ext E14).other W16 (Or.inr (slot_ne (Or.inr (hw _ (List.mem_of_getElem? (i := 16) rfl))) (Or.inr (hw _ (List.mem_of_getElem? (i := 45) rfl))) (by decide) (t := .double) (t' := (.array .int)) (by decide) (by decide)))), ((((((((((F5_minY.other W6 (Or.inr (slot_ne (Or.inr (hw _ (List.mem_of_getElem? (i := 18) rfl))) (Or.inr (hw _ (List.mem_of_getElem? (i := 20) rfl))) (by decide) (t := .double) (t' := .double) (by decide) (by decide)))).other W7 (Or.inr (slot_ne (Or.inr (hw _ (List.mem_of_getElem? (i := 18) rfl))) (Or.inr (hw _ (List.mem_of_getElem? (i := 22) rfl))) (by decide) (t := .double) (t' := .double) (by decide) (by decide)))).other W8 (Or.inr (slot_ne (Or.inr (hw _ (List.mem_of_getElem? (i := 18) rfl))) (Or.inr (hw _ (List.mem_of_getElem? (i := 24) rfl))) (by decide) (t := .double) (t' := .long) (by decide) (by decide)))).other W9 (Or.inr (slot_ne (Or.inr (hw _ (List.mem_of_getElem? (i := 18) rfl))) (Or.inr (hw _ (List.mem_of_getElem? (i := 26) rfl))) (by decide) (t := .double) (t' := .boolean) (by decide) (by decide)))).other W10 (Or.inr (slot_ne (Or.inr (hw _ (List.mem_of_getElem? (i := 18) rfl))) (Or.inr (hw _ (List.mem_of_getElem? (i := 28) rfl))) (by decide) (t := .double) (t' := .double) (by decide) (by decide)))).other W11 (Or.inr (slot_ne (Or.inr (hw _ (List.mem_of_getElem? (i := 18) rfl))) (Or.inr (hw _ (List.mem_of_getElem? (i := 30) rfl))) (by decide) (t := .double) (t' := .double) (by decide) (by decide)))).other W12 (Or.inr (slot_ne (Or.inr (hw _ (List.mem_of_getElem? (i := 18) rfl))) (Or.inr (hw _ (List.mem_of_getElem? (i := 32) rfl))) (by decide) (t := .double) (t' := .int) (by decide) (by decide)))).other W13 (Or.inr (slot_ne (Or.inr (hw _ (List.mem_of_getElem? (i := 18) rfl))) (Or.inr (hw _ (List.mem_of_getElem? (i := 34) rfl))) (by decide) (t := .double) (t' := .boolean) (by decide) (by decide)))).ext E14).other W16 (Or.inr (slot_ne (Or.inr (hw _ (List.mem_of_getElem? (i := 18) rfl))) (Or.inr (hw _ (List.mem_of_getElem? (i := 45) rfl))) (by decide) (t := .double) (t' := (.array .int)) (by decide) (by decide)))), (((((((((F6_maxX.other W7 (Or.inr (slot_ne (Or.inr (hw _ (List.mem_of_getElem? (i := 20) rfl))) (Or.inr (hw _ (List.mem_of_getElem? (i := 22) rfl))) (by decide) (t := .double) (t' := .double) (by decide) (by decide)))).other W8 (Or.inr (slot_ne (Or.inr (hw _ (List.mem_of_getElem? (i := 20) rfl))) (Or.inr (hw _ (List.mem_of_getElem? (i := 24) rfl))) (by decide) (t := .double) (t' := .long) (by decide) (by decide)))).other W9 (Or.inr (slot_ne (Or.inr (hw _ (List.mem_of_getElem? (i := 20) rfl))) (Or.inr (hw _ (List.mem_of_getElem? (i := 26) rfl))) (by decide) (t := .double) (t' := .boolean) (by decide) (by decide)))).other W10 (Or.inr (slot_ne (Or.inr (hw _ (List.mem_of_getElem? (i := 20) rfl))) (Or.inr (hw _ (List.mem_of_getElem? (i := 28) rfl))) (by decide) (t := .double) (t' := .double) (by decide) (by decide)))).other W11 (Or.inr (slot_ne (Or.inr (hw _ (List.mem_of_getElem? (i := 20) rfl))) (Or.inr (hw _ (List.mem_of_getElem? (i := 30) rfl))) (by decide) (t := .double) (t' := .double) (by decide) (by decide)))).other W12 (Or.inr (slot_ne (Or.inr (hw _ (List.mem_of_getElem? (i := 20) rfl))) (Or.inr (hw _ (List.mem_of_getElem? (i := 32) rfl))) (by decide) (t := .double) (t' := .int) (by decide) (by decide)))).other W13 (Or.inr (slot_ne (Or.inr (hw _ (List.mem_of_getElem? (i := 20) rfl))) (Or.inr (hw _ (List.mem_of_getElem? (i := 34) rfl))) (by decide) (t := .double) (t' := .boolean) (by decide) (by decide)))).ext E14).other W16 (Or.inr (slot_ne (Or.inr (hw _ (List.mem_of_getElem? (i := 20) rfl))) (Or.inr (hw _ (List.mem_of_getElem? (i := 45) rfl))) (by decide) (t := .double) (t' := (.array .int)) (by decide) (by decide)))), ((((((((F7_maxY.other W8 (Or.inr (slot_ne (Or.inr (hw _ (List.mem_of_getElem? (i := 22) rfl))) (Or.inr (hw _ (List.mem_of_getElem? (i := 24) rfl))) (by decide) (t := .double) (t' := .long) (by decide) (by decide)))).other W9 (Or.inr (slot_ne (Or.inr (hw _ (List.mem_of_getElem? (i := 22) rfl))) (Or.inr (hw _ (List.mem_of_getElem? (i := 26) rfl))) (by decide) (t := .double) (t' := .boolean) (by decide) (by decide)))).other W10 (Or.inr (slot_ne (Or.inr (hw _ (List.mem_of_getElem? (i := 22) rfl))) (Or.inr (hw _ (List.mem_of_getElem? (i := 28) rfl))) (by decide) (t := .double) (t' := .double) (by decide) (by decide)))).other W11 (Or.inr (slot_ne (Or.inr (hw _ (List.mem_of_getElem? (i := 22) rfl))) (Or.inr (hw _ (List.mem_of_getElem? (i := 30) rfl))) (by decide) (t := .double) (t' := .double) (by decide) (by decide)))).other W12 (Or.inr (slot_ne (Or.inr (hw _ (List.mem_of_getElem? (i := 22) rfl))) (Or.inr (hw _ (List.mem_of_getElem? (i := 32) rfl))) (by decide) (t := .double) (t' := .int) (by decide) (by decide)))).other W13 (Or.inr (slot_ne (Or.inr (hw _ (List.mem_of_getElem? (i := 22) rfl))) (Or.inr (hw _ (List.mem_of_getElem? (i := 34) rfl))) (by decide) (t := .double) (t' := .boolean) (by decide) (by decide)))).ext E14).other W16 (Or.inr (slot_ne (Or.inr (hw _ (List.mem_of_getElem? (i := 22) rfl))) (Or.inr (hw _ (List.mem_of_getElem? (i := 45) rfl))) (by decide) (t := .double) (t' := (.array .int)) (by decide) (by decide))))⟩ (by decide) (by decide)
theorem d3_0 : decode prog_48_method_1_code 0 = .ok (.aload_n 0, 1) := by decide +kernel
theorem d3_1 : decode prog_48_method_1_code 1 = .ok (.invokespecial 1, 3) := by decide +kernel
theorem d3_4 : decode prog_48_method_1_code 4 = .ok (.aload_n 0, 1) := by decide +kernel
theorem d3_5 : decode prog_48_method_1_code 5 = .ok (.iconst 1, 1) := by decide +kernel
theorem d3_6 : decode prog_48_method_1_code 6 = .ok (.newarray .int, 2) := by decide +kernel
theorem d3_8 : decode prog_48_method_1_code 8 = .ok (.putfield 7, 3) := by decide +kernel
theorem d3_11 : decode prog_48_method_1_code 11 = .ok (.aload_n 0, 1) := by decide +kernel
theorem d3_12 : decode prog_48_method_1_code 12 = .ok (.iconst 1, 1) := by decide +kernel
theorem d3_13 : decode prog_48_method_1_code 13 = .ok (.newarray .int, 2) := by decide +kernel
theorem d3_15 : decode prog_48_method_1_code 15 = .ok (.putfield 13, 3) := by decide +kernel
theorem d3_18 : decode prog_48_method_1_code 18 = .ok (.aload_n 0, 1) := by decide +kernel
theorem d3_19 : decode prog_48_method_1_code 19 = .ok (.aload_n 1, 1) := by decide +kernel
theorem d3_20 : decode prog_48_method_1_code 20 = .ok (.putfield 16, 3) := by decide +kernel
theorem d3_23 : decode prog_48_method_1_code 23 = .ok (.aload_n 0, 1) := by decide +kernel
theorem d3_24 : decode prog_48_method_1_code 24 = .ok (.iload_n 2, 1) := by decide +kernel
theorem d3_25 : decode prog_48_method_1_code 25 = .ok (.newarray .int, 2) := by decide +kernel
theorem d3_27 : decode prog_48_method_1_code 27 = .ok (.putfield 20, 3) := by decide +kernel
theorem d3_30 : decode prog_48_method_1_code 30 = .ok (.aload_n 0, 1) := by decide +kernel
theorem d3_31 : decode prog_48_method_1_code 31 = .ok (.iload_n 2, 1) := by decide +kernel
theorem d3_32 : decode prog_48_method_1_code 32 = .ok (.newarray .int, 2) := by decide +kernel
theorem d3_34 : decode prog_48_method_1_code 34 = .ok (.putfield 23, 3) := by decide +kernel
theorem d3_37 : decode prog_48_method_1_code 37 = .ok (.aload_n 0, 1) := by decide +kernel
theorem d3_38 : decode prog_48_method_1_code 38 = .ok (.iload_n 2, 1) := by decide +kernel
theorem d3_39 : decode prog_48_method_1_code 39 = .ok (.newarray .int, 2) := by decide +kernel
theorem d3_41 : decode prog_48_method_1_code 41 = .ok (.putfield 26, 3) := by decide +kernel
theorem d3_44 : decode prog_48_method_1_code 44 = .ok (.aload_n 0, 1) := by decide +kernel
theorem d3_45 : decode prog_48_method_1_code 45 = .ok (.iload_n 2, 1) := by decide +kernel
theorem d3_46 : decode prog_48_method_1_code 46 = .ok (.newarray .int, 2) := by decide +kernel
theorem d3_48 : decode prog_48_method_1_code 48 = .ok (.putfield 29, 3) := by decide +kernel
theorem d3_51 : decode prog_48_method_1_code 51 = .ok (.return_, 1) := by decide +kernel
theorem ef_rmPI (m : MethodId) (x0 : Addr) (x1 : Addr) (x2 : Int32) : entryFrame m #[(.ref x0), (.ref x1), (.int x2)] 3 = mkF m 0 #[.val (.ref x0), .val (.ref x1), .val (.int x2)] [] := by first | (simp [entryFrame, mkF, argsToLocals, Value.category]; done) | rfl
set_option maxRecDepth 65536 in
set_option maxHeartbeats 40000000 in
theorem rmPI (l : Launch) (Z : State) (a0 : Array Value) (hw : ∀ d ∈ tables_1, d.before a0 Z = true) (a hd : Addr) (h0 : Heap) (n0 : Nat) (E : Exa Z h0 a "com/example/neardb/neardb/index/PostingPage") (EH : Exa Z h0 hd "com/example/neardb/neardb/index/Header") (F_runFrequencies : Fld Z h0 a "com/example/neardb/neardb/index/PostingPage" "runFrequencies" "[I" .null) (F_runStarts : Fld Z h0 a "com/example/neardb/neardb/index/PostingPage" "runStarts" "[I" .null) (F_header : Fld Z h0 a "com/example/neardb/neardb/index/PostingPage" "header" "Lcom/example/neardb/neardb/index/Header;" .null) (F_frequencies : Fld Z h0 a "com/example/neardb/neardb/index/PostingPage" "frequencies" "[I" .null) (F_ordinals : Fld Z h0 a "com/example/neardb/neardb/index/PostingPage" "ordinals" "[I" .null) (F_columns : Fld Z h0 a "com/example/neardb/neardb/index/PostingPage" "columns" "[I" .null) (F_rows : Fld Z h0 a "com/example/neardb/neardb/index/PostingPage" "rows" "[I" .null) (F_size : Fld Z h0 a "com/example/neardb/neardb/index/PostingPage" "size" "I" (.int (0 : Int32))) (g : n0 ≤ a) (hsz : n0 ≤ h0.size) (ne : a ≠ hd) :
    CM l Z (⟨"com/example/neardb/neardb/index/PostingPage", "<init>", "(Lcom/example/neardb/neardb/index/Header;I)V"⟩ : MethodName) prog_48_method_1_code 3 none ({ frames := 1, cells := 6, slots := 10, locals := 12 } : Room) #[(.ref a), (.ref hd), (.int (2 : Int32))] h0 n0 (fun v h => ∃ fa oa ca ra, v = none ∧ Keep h0 h [a] ∧ Exa Z h a "com/example/neardb/neardb/index/PostingPage" ∧ Fld Z h a "com/example/neardb/neardb/index/PostingPage" "header" "Lcom/example/neardb/neardb/index/Header;" (.ref hd) ∧ Fld Z h a "com/example/neardb/neardb/index/PostingPage" "size" "I" (.int (0 : Int32)) ∧ Fld Z h a "com/example/neardb/neardb/index/PostingPage" "frequencies" "[I" (.ref fa) ∧ Fld Z h a "com/example/neardb/neardb/index/PostingPage" "ordinals" "[I" (.ref oa) ∧ Fld Z h a "com/example/neardb/neardb/index/PostingPage" "columns" "[I" (.ref ca) ∧ Fld Z h a "com/example/neardb/neardb/index/PostingPage" "rows" "[I" (.ref ra) ∧ Ab Z h fa .int 2 (fun _ => (0 : Int32)) ∧ Ab Z h oa .int 2 (fun _ => (0 : Int32)) ∧ Ab Z h ca .int 2 (fun _ => (0 : Int32)) ∧ Ab Z h ra .int 2 (fun _ => (0 : Int32)) ∧ a ≠ fa ∧ a ≠ oa ∧ a ≠ ca ∧ a ≠ ra ∧ fa ≠ oa ∧ fa ≠ ca ∧ fa ≠ ra ∧ oa ≠ ca ∧ oa ≠ ra ∧ ca ≠ ra ∧ hd ≠ fa ∧ hd ≠ oa ∧ hd ≠ ca ∧ hd ≠ ra ∧ n0 ≤ fa ∧ n0 ≤ oa ∧ n0 ≤ ca ∧ n0 ≤ ra) := by
  refine own_enter (by decide +kernel) ?_
  intro p e s m below meth c T0 hx hby hml hown hnm hZ hret hlk H0
  replace hown : s.vm.findClass "com/example/neardb/neardb/index/PostingPage" = some m.cls := hown
  replace hret : meth.sig.returnType = none := hret
  refine Go.via (fun t_ k_ => castTop (ef_rmPI m a hd (2 : Int32)) k_) ?_
  show Go _ _ _ _ (T0.setTop (mkF m 0 #[.val (.ref a), .val (.ref hd), .val (.int (2 : Int32))] []))
  refine Go.via (fun t_ k_ => XS.aloadN H0.here hx rfl (hb hby d3_0) rfl rfl k_) ?_
  show Go _ _ _ _ (T0.setTop (mkF m 1 #[.val (.ref a), .val (.ref hd), .val (.int (2 : Int32))] [(.ref a)]))
  refine own_initO H0 hx hZ hown (hw _ (List.mem_of_getElem? (i := 52) rfl)) (hw _ (List.mem_of_getElem? (i := 9) rfl)) (hw _ (List.mem_of_getElem? (i := 10) rfl)) (g := (mkF m 1 #[.val (.ref a), .val (.ref hd), .val (.int (2 : Int32))] [(.ref a)])) rfl (by rw [hml]; rfl) rfl (hb hby d3_1) (by decide) 0 (Nat.le_of_eq rfl) (by decide) ?_
  intro T1 H1
  show Go _ _ _ _ (T1.setTop (mkF m 4 #[.val (.ref a), .val (.ref hd), .val (.int (2 : Int32))] []))
  refine Go.via (fun t_ k_ => XS.aloadN H1.here hx rfl (hb hby d3_4) rfl rfl k_) ?_
  show Go _ _ _ _ (T1.setTop (mkF m 5 #[.val (.ref a), .val (.ref hd), .val (.int (2 : Int32))] [(.ref a)]))
  refine Go.via (fun t_ k_ => XS.iconst H1.here hx rfl (hb hby d3_5) k_) ?_
  show Go _ _ _ _ (T1.setTop (mkF m 6 #[.val (.ref a), .val (.ref hd), .val (.int (2 : Int32))] [(.int (1 : Int32)), (.ref a)]))
  refine own_newA H1 hx hZ (aty := .int) (hw _ (List.mem_of_getElem? (i := 4) rfl)) (g := (mkF m 6 #[.val (.ref a), .val (.ref hd), .val (.int (2 : Int32))] [(.int (1 : Int32)), (.ref a)])) rfl (hb hby d3_6) rfl (by decide) 1 (by decide) rfl 1 (by decide) (by decide) (by decide) (by decide) ?_
  intro T2 h2 a2 ga2 E2 B2 H2
  replace B2 : Ab Z h2 a2 .int 1 (fun _ => 0) := B2
  have ne_a_a2 : a ≠ a2 := by rw [ga2]; exact Nat.ne_of_lt E.lt
  have ne_hd_a2 : hd ≠ a2 := by rw [ga2]; exact Nat.ne_of_lt EH.lt
  have g_a2 : n0 ≤ a2 := by rw [ga2]; exact hsz
  have sz2 : n0 ≤ h2.size := Nat.le_trans hsz E2.1
  have kin_a2 : h0.size ≤ a2 := by rw [ga2]; exact ((Keep.refl h0 [a])).1
  have K2 := ((Keep.refl h0 [a])).ext E2
  show Go _ _ _ _ (T2.setTop (mkF m 8 #[.val (.ref a), .val (.ref hd), .val (.int (2 : Int32))] [(.ref a2), (.ref a)]))
  refine own_putF H2 hx hZ hown (hw _ (List.mem_of_getElem? (i := 53) rfl)) (F_runFrequencies.ext E2) (E.ext E2) (Or.inl (hw _ (List.mem_of_getElem? (i := 54) rfl))) (hw _ (List.mem_of_getElem? (i := 47) rfl)) g (ty := (.array .int)) (by decide) rfl rfl (g := (mkF m 8 #[.val (.ref a), .val (.ref hd), .val (.int (2 : Int32))] [(.ref a2), (.ref a)])) rfl rfl (hb hby d3_8) ?_
  intro T3 h3 W3 H3
  have F3_runFrequencies := (F_runFrequencies.ext E2).same W3
  have sz3 : n0 ≤ h3.size := Nat.le_trans sz2 (Keep.of_wr W3).1
  have K3 := (K2).wr W3 (Or.inl (List.mem_of_getElem? (i := 0) rfl))
  show Go _ _ _ _ (T3.setTop (mkF m 11 #[.val (.ref a), .val (.ref hd), .val (.int (2 : Int32))] []))
  refine Go.via (fun t_ k_ => XS.aloadN H3.here hx rfl (hb hby d3_11) rfl rfl k_) ?_
  show Go _ _ _ _ (T3.setTop (mkF m 12 #[.val (.ref a), .val (.ref hd), .val (.int (2 : Int32))] [(.ref a)]))
  refine Go.via (fun t_ k_ => XS.iconst H3.here hx rfl (hb hby d3_12) k_) ?_
  show Go _ _ _ _ (T3.setTop (mkF m 13 #[.val (.ref a), .val (.ref hd), .val (.int (2 : Int32))] [(.int (1 : Int32)), (.ref a)]))
  refine own_newA H3 hx hZ (aty := .int) (hw _ (List.mem_of_getElem? (i := 4) rfl)) (g := (mkF m 13 #[.val (.ref a), .val (.ref hd), .val (.int (2 : Int32))] [(.int (1 : Int32)), (.ref a)])) rfl (hb hby d3_13) rfl (by decide) 1 (by decide) rfl 1 (by decide) (by decide) (by decide) (by decide) ?_
  intro T4 h4 a4 ga4 E4 B4 H4
  replace B4 : Ab Z h4 a4 .int 1 (fun _ => 0) := B4
  have ne_a_a4 : a ≠ a4 := by rw [ga4]; exact Nat.ne_of_lt ((E.ext E2).wr W3).lt
  have ne_hd_a4 : hd ≠ a4 := by rw [ga4]; exact Nat.ne_of_lt ((EH.ext E2).wr W3).lt
  have ne_a2_a4 : a2 ≠ a4 := by rw [ga4]; exact Nat.ne_of_lt (B2.other W3 (Ne.symm ne_a_a2)).lt
  have g_a4 : n0 ≤ a4 := by rw [ga4]; exact sz3
  have sz4 : n0 ≤ h4.size := Nat.le_trans sz3 E4.1
  have kin_a4 : h0.size ≤ a4 := by rw [ga4]; exact (K3).1
  have K4 := (K3).ext E4
  show Go _ _ _ _ (T4.setTop (mkF m 15 #[.val (.ref a), .val (.ref hd), .val (.int (2 : Int32))] [(.ref a4), (.ref a)]))
  refine own_putF H4 hx hZ hown (hw _ (List.mem_of_getElem? (i := 55) rfl)) (((F_runStarts.ext E2).other W3 (Or.inr (slot_ne (Or.inl (hw _ (List.mem_of_getElem? (i := 56) rfl))) (Or.inl (hw _ (List.mem_of_getElem? (i := 54) rfl))) (by decide) (t := (.array .int)) (t' := (.array .int)) (by decide) (by decide)))).ext E4) (((E.ext E2).wr W3).ext E4) (Or.inl (hw _ (List.mem_of_getElem? (i := 56) rfl))) (hw _ (List.mem_of_getElem? (i := 47) rfl)) g (ty := (.array .int)) (by decide) rfl rfl (g := (mkF m 15 #[.val (.ref a), .val (.ref hd), .val (.int (2 : Int32))] [(.ref a4), (.ref a)])) rfl rfl (hb hby d3_15) ?_
  intro T5 h5 W5 H5
  have F5_runStarts := (((F_runStarts.ext E2).other W3 (Or.inr (slot_ne (Or.inl (hw _ (List.mem_of_getElem? (i := 56) rfl))) (Or.inl (hw _ (List.mem_of_getElem? (i := 54) rfl))) (by decide) (t := (.array .int)) (t' := (.array .int)) (by decide) (by decide)))).ext E4).same W5
  have sz5 : n0 ≤ h5.size := Nat.le_trans sz4 (Keep.of_wr W5).1
  have K5 := (K4).wr W5 (Or.inl (List.mem_of_getElem? (i := 0) rfl))
  show Go _ _ _ _ (T5.setTop (mkF m 18 #[.val (.ref a), .val (.ref hd), .val (.int (2 : Int32))] []))
  refine Go.via (fun t_ k_ => XS.aloadN H5.here hx rfl (hb hby d3_18) rfl rfl k_) ?_
  show Go _ _ _ _ (T5.setTop (mkF m 19 #[.val (.ref a), .val (.ref hd), .val (.int (2 : Int32))] [(.ref a)]))
  refine Go.via (fun t_ k_ => XS.aloadN H5.here hx rfl (hb hby d3_19) rfl rfl k_) ?_
  show Go _ _ _ _ (T5.setTop (mkF m 20 #[.val (.ref a), .val (.ref hd), .val (.int (2 : Int32))] [(.ref hd), (.ref a)]))
  refine own_putF H5 hx hZ hown (hw _ (List.mem_of_getElem? (i := 57) rfl)) ((((F_header.ext E2).other W3 (Or.inr (slot_ne (Or.inr (hw _ (List.mem_of_getElem? (i := 58) rfl))) (Or.inl (hw _ (List.mem_of_getElem? (i := 54) rfl))) (by decide) (t := (.object "com/example/neardb/neardb/index/Header")) (t' := (.array .int)) (by decide) (by decide)))).ext E4).other W5 (Or.inr (slot_ne (Or.inr (hw _ (List.mem_of_getElem? (i := 58) rfl))) (Or.inl (hw _ (List.mem_of_getElem? (i := 56) rfl))) (by decide) (t := (.object "com/example/neardb/neardb/index/Header")) (t' := (.array .int)) (by decide) (by decide)))) ((((E.ext E2).wr W3).ext E4).wr W5) (Or.inr ⟨(hw _ (List.mem_of_getElem? (i := 58) rfl)), rfl, hnm⟩) (hw _ (List.mem_of_getElem? (i := 47) rfl)) g (ty := (.object "com/example/neardb/neardb/index/Header")) (by decide) rfl rfl (g := (mkF m 20 #[.val (.ref a), .val (.ref hd), .val (.int (2 : Int32))] [(.ref hd), (.ref a)])) rfl rfl (hb hby d3_20) ?_
  intro T6 h6 W6 H6
  have F6_header := ((((F_header.ext E2).other W3 (Or.inr (slot_ne (Or.inr (hw _ (List.mem_of_getElem? (i := 58) rfl))) (Or.inl (hw _ (List.mem_of_getElem? (i := 54) rfl))) (by decide) (t := (.object "com/example/neardb/neardb/index/Header")) (t' := (.array .int)) (by decide) (by decide)))).ext E4).other W5 (Or.inr (slot_ne (Or.inr (hw _ (List.mem_of_getElem? (i := 58) rfl))) (Or.inl (hw _ (List.mem_of_getElem? (i := 56) rfl))) (by decide) (t := (.object "com/example/neardb/neardb/index/Header")) (t' := (.array .int)) (by decide) (by decide)))).same W6
  have sz6 : n0 ≤ h6.size := Nat.le_trans sz5 (Keep.of_wr W6).1
  have K6 := (K5).wr W6 (Or.inl (List.mem_of_getElem? (i := 0) rfl))
  show Go _ _ _ _ (T6.setTop (mkF m 23 #[.val (.ref a), .val (.ref hd), .val (.int (2 : Int32))] []))
  refine Go.via (fun t_ k_ => XS.aloadN H6.here hx rfl (hb hby d3_23) rfl rfl k_) ?_
  show Go _ _ _ _ (T6.setTop (mkF m 24 #[.val (.ref a), .val (.ref hd), .val (.int (2 : Int32))] [(.ref a)]))
  refine Go.via (fun t_ k_ => XS.iloadN H6.here hx rfl (hb hby d3_24) rfl k_) ?_
  show Go _ _ _ _ (T6.setTop (mkF m 25 #[.val (.ref a), .val (.ref hd), .val (.int (2 : Int32))] [(.int (2 : Int32)), (.ref a)]))
  refine own_newA H6 hx hZ (aty := .int) (hw _ (List.mem_of_getElem? (i := 4) rfl)) (g := (mkF m 25 #[.val (.ref a), .val (.ref hd), .val (.int (2 : Int32))] [(.int (2 : Int32)), (.ref a)])) rfl (hb hby d3_25) rfl (by decide) 2 (by decide) rfl 2 (by decide) (by decide) (by decide) (by decide) ?_
  intro T7 h7 a7 ga7 E7 B7 H7
  replace B7 : Ab Z h7 a7 .int 2 (fun _ => 0) := B7
  have ne_a_a7 : a ≠ a7 := by rw [ga7]; exact Nat.ne_of_lt (((((E.ext E2).wr W3).ext E4).wr W5).wr W6).lt
  have ne_hd_a7 : hd ≠ a7 := by rw [ga7]; exact Nat.ne_of_lt (((((EH.ext E2).wr W3).ext E4).wr W5).wr W6).lt
  have ne_a2_a7 : a2 ≠ a7 := by rw [ga7]; exact Nat.ne_of_lt ((((B2.other W3 (Ne.symm ne_a_a2)).ext E4).other W5 (Ne.symm ne_a_a2)).other W6 (Ne.symm ne_a_a2)).lt
  have ne_a4_a7 : a4 ≠ a7 := by rw [ga7]; exact Nat.ne_of_lt ((B4.other W5 (Ne.symm ne_a_a4)).other W6 (Ne.symm ne_a_a4)).lt
  have g_a7 : n0 ≤ a7 := by rw [ga7]; exact sz6
  have sz7 : n0 ≤ h7.size := Nat.le_trans sz6 E7.1
  have kin_a7 : h0.size ≤ a7 := by rw [ga7]; exact (K6).1
  have K7 := (K6).ext E7
  show Go _ _ _ _ (T7.setTop (mkF m 27 #[.val (.ref a), .val (.ref hd), .val (.int (2 : Int32))] [(.ref a7), (.ref a)]))
  refine own_putF H7 hx hZ hown (hw _ (List.mem_of_getElem? (i := 59) rfl)) ((((((F_frequencies.ext E2).other W3 (Or.inr (slot_ne (Or.inr (hw _ (List.mem_of_getElem? (i := 60) rfl))) (Or.inl (hw _ (List.mem_of_getElem? (i := 54) rfl))) (by decide) (t := (.array .int)) (t' := (.array .int)) (by decide) (by decide)))).ext E4).other W5 (Or.inr (slot_ne (Or.inr (hw _ (List.mem_of_getElem? (i := 60) rfl))) (Or.inl (hw _ (List.mem_of_getElem? (i := 56) rfl))) (by decide) (t := (.array .int)) (t' := (.array .int)) (by decide) (by decide)))).other W6 (Or.inr (slot_ne (Or.inr (hw _ (List.mem_of_getElem? (i := 60) rfl))) (Or.inr (hw _ (List.mem_of_getElem? (i := 58) rfl))) (by decide) (t := (.array .int)) (t' := (.object "com/example/neardb/neardb/index/Header")) (by decide) (by decide)))).ext E7) ((((((E.ext E2).wr W3).ext E4).wr W5).wr W6).ext E7) (Or.inr ⟨(hw _ (List.mem_of_getElem? (i := 60) rfl)), rfl, hnm⟩) (hw _ (List.mem_of_getElem? (i := 47) rfl)) g (ty := (.array .int)) (by decide) rfl rfl (g := (mkF m 27 #[.val (.ref a), .val (.ref hd), .val (.int (2 : Int32))] [(.ref a7), (.ref a)])) rfl rfl (hb hby d3_27) ?_
  intro T8 h8 W8 H8
  have F8_frequencies := ((((((F_frequencies.ext E2).other W3 (Or.inr (slot_ne (Or.inr (hw _ (List.mem_of_getElem? (i := 60) rfl))) (Or.inl (hw _ (List.mem_of_getElem? (i := 54) rfl))) (by decide) (t := (.array .int)) (t' := (.array .int)) (by decide) (by decide)))).ext E4).other W5 (Or.inr (slot_ne (Or.inr (hw _ (List.mem_of_getElem? (i := 60) rfl))) (Or.inl (hw _ (List.mem_of_getElem? (i := 56) rfl))) (by decide) (t := (.array .int)) (t' := (.array .int)) (by decide) (by decide)))).other W6 (Or.inr (slot_ne (Or.inr (hw _ (List.mem_of_getElem? (i := 60) rfl))) (Or.inr (hw _ (List.mem_of_getElem? (i := 58) rfl))) (by decide) (t := (.array .int)) (t' := (.object "com/example/neardb/neardb/index/Header")) (by decide) (by decide)))).ext E7).same W8
  have sz8 : n0 ≤ h8.size := Nat.le_trans sz7 (Keep.of_wr W8).1
  have K8 := (K7).wr W8 (Or.inl (List.mem_of_getElem? (i := 0) rfl))
  show Go _ _ _ _ (T8.setTop (mkF m 30 #[.val (.ref a), .val (.ref hd), .val (.int (2 : Int32))] []))
  refine Go.via (fun t_ k_ => XS.aloadN H8.here hx rfl (hb hby d3_30) rfl rfl k_) ?_
  show Go _ _ _ _ (T8.setTop (mkF m 31 #[.val (.ref a), .val (.ref hd), .val (.int (2 : Int32))] [(.ref a)]))
  refine Go.via (fun t_ k_ => XS.iloadN H8.here hx rfl (hb hby d3_31) rfl k_) ?_
  show Go _ _ _ _ (T8.setTop (mkF m 32 #[.val (.ref a), .val (.ref hd), .val (.int (2 : Int32))] [(.int (2 : Int32)), (.ref a)]))
  refine own_newA H8 hx hZ (aty := .int) (hw _ (List.mem_of_getElem? (i := 4) rfl)) (g := (mkF m 32 #[.val (.ref a), .val (.ref hd), .val (.int (2 : Int32))] [(.int (2 : Int32)), (.ref a)])) rfl (hb hby d3_32) rfl (by decide) 2 (by decide) rfl 2 (by decide) (by decide) (by decide) (by decide) ?_
  intro T9 h9 a9 ga9 E9 B9 H9
  replace B9 : Ab Z h9 a9 .int 2 (fun _ => 0) := B9
  have ne_a_a9 : a ≠ a9 := by rw [ga9]; exact Nat.ne_of_lt (((((((E.ext E2).wr W3).ext E4).wr W5).wr W6).ext E7).wr W8).lt
  have ne_hd_a9 : hd ≠ a9 := by rw [ga9]; exact Nat.ne_of_lt (((((((EH.ext E2).wr W3).ext E4).wr W5).wr W6).ext E7).wr W8).lt
  have ne_a2_a9 : a2 ≠ a9 := by rw [ga9]; exact Nat.ne_of_lt ((((((B2.other W3 (Ne.symm ne_a_a2)).ext E4).other W5 (Ne.symm ne_a_a2)).other W6 (Ne.symm ne_a_a2)).ext E7).other W8 (Ne.symm ne_a_a2)).lt
  have ne_a4_a9 : a4 ≠ a9 := by rw [ga9]; exact Nat.ne_of_lt ((((B4.other W5 (Ne.symm ne_a_a4)).other W6 (Ne.symm ne_a_a4)).ext E7).other W8 (Ne.symm ne_a_a4)).lt
  have ne_a7_a9 : a7 ≠ a9 := by rw [ga9]; exact Nat.ne_of_lt (B7.other W8 (Ne.symm ne_a_a7)).lt
  have g_a9 : n0 ≤ a9 := by rw [ga9]; exact sz8
  have sz9 : n0 ≤ h9.size := Nat.le_trans sz8 E9.1
  have kin_a9 : h0.size ≤ a9 := by rw [ga9]; exact (K8).1
  have K9 := (K8).ext E9
  show Go _ _ _ _ (T9.setTop (mkF m 34 #[.val (.ref a), .val (.ref hd), .val (.int (2 : Int32))] [(.ref a9), (.ref a)]))
  refine own_putF H9 hx hZ hown (hw _ (List.mem_of_getElem? (i := 61) rfl)) ((((((((F_ordinals.ext E2).other W3 (Or.inr (slot_ne (Or.inr (hw _ (List.mem_of_getElem? (i := 62) rfl))) (Or.inl (hw _ (List.mem_of_getElem? (i := 54) rfl))) (by decide) (t := (.array .int)) (t' := (.array .int)) (by decide) (by decide)))).ext E4).other W5 (Or.inr (slot_ne (Or.inr (hw _ (List.mem_of_getElem? (i := 62) rfl))) (Or.inl (hw _ (List.mem_of_getElem? (i := 56) rfl))) (by decide) (t := (.array .int)) (t' := (.array .int)) (by decide) (by decide)))).other W6 (Or.inr (slot_ne (Or.inr (hw _ (List.mem_of_getElem? (i := 62) rfl))) (Or.inr (hw _ (List.mem_of_getElem? (i := 58) rfl))) (by decide) (t := (.array .int)) (t' := (.object "com/example/neardb/neardb/index/Header")) (by decide) (by decide)))).ext E7).other W8 (Or.inr (slot_ne (Or.inr (hw _ (List.mem_of_getElem? (i := 62) rfl))) (Or.inr (hw _ (List.mem_of_getElem? (i := 60) rfl))) (by decide) (t := (.array .int)) (t' := (.array .int)) (by decide) (by decide)))).ext E9) ((((((((E.ext E2).wr W3).ext E4).wr W5).wr W6).ext E7).wr W8).ext E9) (Or.inr ⟨(hw _ (List.mem_of_getElem? (i := 62) rfl)), rfl, hnm⟩) (hw _ (List.mem_of_getElem? (i := 47) rfl)) g (ty := (.array .int)) (by decide) rfl rfl (g := (mkF m 34 #[.val (.ref a), .val (.ref hd), .val (.int (2 : Int32))] [(.ref a9), (.ref a)])) rfl rfl (hb hby d3_34) ?_
  intro T10 h10 W10 H10
  have F10_ordinals := ((((((((F_ordinals.ext E2).other W3 (Or.inr (slot_ne (Or.inr (hw _ (List.mem_of_getElem? (i := 62) rfl))) (Or.inl (hw _ (List.mem_of_getElem? (i := 54) rfl))) (by decide) (t := (.array .int)) (t' := (.array .int)) (by decide) (by decide)))).ext E4).other W5 (Or.inr (slot_ne (Or.inr (hw _ (List.mem_of_getElem? (i := 62) rfl))) (Or.inl (hw _ (List.mem_of_getElem? (i := 56) rfl))) (by decide) (t := (.array .int)) (t' := (.array .int)) (by decide) (by decide)))).other W6 (Or.inr (slot_ne (Or.inr (hw _ (List.mem_of_getElem? (i := 62) rfl))) (Or.inr (hw _ (List.mem_of_getElem? (i := 58) rfl))) (by decide) (t := (.array .int)) (t' := (.object "com/example/neardb/neardb/index/Header")) (by decide) (by decide)))).ext E7).other W8 (Or.inr (slot_ne (Or.inr (hw _ (List.mem_of_getElem? (i := 62) rfl))) (Or.inr (hw _ (List.mem_of_getElem? (i := 60) rfl))) (by decide) (t := (.array .int)) (t' := (.array .int)) (by decide) (by decide)))).ext E9).same W10
  have sz10 : n0 ≤ h10.size := Nat.le_trans sz9 (Keep.of_wr W10).1
  have K10 := (K9).wr W10 (Or.inl (List.mem_of_getElem? (i := 0) rfl))
  show Go _ _ _ _ (T10.setTop (mkF m 37 #[.val (.ref a), .val (.ref hd), .val (.int (2 : Int32))] []))
  refine Go.via (fun t_ k_ => XS.aloadN H10.here hx rfl (hb hby d3_37) rfl rfl k_) ?_
  show Go _ _ _ _ (T10.setTop (mkF m 38 #[.val (.ref a), .val (.ref hd), .val (.int (2 : Int32))] [(.ref a)]))
  refine Go.via (fun t_ k_ => XS.iloadN H10.here hx rfl (hb hby d3_38) rfl k_) ?_
  show Go _ _ _ _ (T10.setTop (mkF m 39 #[.val (.ref a), .val (.ref hd), .val (.int (2 : Int32))] [(.int (2 : Int32)), (.ref a)]))
  refine own_newA H10 hx hZ (aty := .int) (hw _ (List.mem_of_getElem? (i := 4) rfl)) (g := (mkF m 39 #[.val (.ref a), .val (.ref hd), .val (.int (2 : Int32))] [(.int (2 : Int32)), (.ref a)])) rfl (hb hby d3_39) rfl (by decide) 2 (by decide) rfl 2 (by decide) (by decide) (by decide) (by decide) ?_
  intro T11 h11 a11 ga11 E11 B11 H11
  replace B11 : Ab Z h11 a11 .int 2 (fun _ => 0) := B11
  have ne_a_a11 : a ≠ a11 := by rw [ga11]; exact Nat.ne_of_lt (((((((((E.ext E2).wr W3).ext E4).wr W5).wr W6).ext E7).wr W8).ext E9).wr W10).lt
  have ne_hd_a11 : hd ≠ a11 := by rw [ga11]; exact Nat.ne_of_lt (((((((((EH.ext E2).wr W3).ext E4).wr W5).wr W6).ext E7).wr W8).ext E9).wr W10).lt
  have ne_a2_a11 : a2 ≠ a11 := by rw [ga11]; exact Nat.ne_of_lt ((((((((B2.other W3 (Ne.symm ne_a_a2)).ext E4).other W5 (Ne.symm ne_a_a2)).other W6 (Ne.symm ne_a_a2)).ext E7).other W8 (Ne.symm ne_a_a2)).ext E9).other W10 (Ne.symm ne_a_a2)).lt
  have ne_a4_a11 : a4 ≠ a11 := by rw [ga11]; exact Nat.ne_of_lt ((((((B4.other W5 (Ne.symm ne_a_a4)).other W6 (Ne.symm ne_a_a4)).ext E7).other W8 (Ne.symm ne_a_a4)).ext E9).other W10 (Ne.symm ne_a_a4)).lt
  have ne_a7_a11 : a7 ≠ a11 := by rw [ga11]; exact Nat.ne_of_lt (((B7.other W8 (Ne.symm ne_a_a7)).ext E9).other W10 (Ne.symm ne_a_a7)).lt
  have ne_a9_a11 : a9 ≠ a11 := by rw [ga11]; exact Nat.ne_of_lt (B9.other W10 (Ne.symm ne_a_a9)).lt
  have g_a11 : n0 ≤ a11 := by rw [ga11]; exact sz10
  have sz11 : n0 ≤ h11.size := Nat.le_trans sz10 E11.1
  have kin_a11 : h0.size ≤ a11 := by rw [ga11]; exact (K10).1
  have K11 := (K10).ext E11
  show Go _ _ _ _ (T11.setTop (mkF m 41 #[.val (.ref a), .val (.ref hd), .val (.int (2 : Int32))] [(.ref a11), (.ref a)]))
  refine own_putF H11 hx hZ hown (hw _ (List.mem_of_getElem? (i := 63) rfl)) ((((((((((F_columns.ext E2).other W3 (Or.inr (slot_ne (Or.inr (hw _ (List.mem_of_getElem? (i := 64) rfl))) (Or.inl (hw _ (List.mem_of_getElem? (i := 54) rfl))) (by decide) (t := (.array .int)) (t' := (.array .int)) (by decide) (by decide)))).ext E4).other W5 (Or.inr (slot_ne (Or.inr (hw _ (List.mem_of_getElem? (i := 64) rfl))) (Or.inl (hw _ (List.mem_of_getElem? (i := 56) rfl))) (by decide) (t := (.array .int)) (t' := (.array .int)) (by decide) (by decide)))).other W6 (Or.inr (slot_ne (Or.inr (hw _ (List.mem_of_getElem? (i := 64) rfl))) (Or.inr (hw _ (List.mem_of_getElem? (i := 58) rfl))) (by decide) (t := (.array .int)) (t' := (.object "com/example/neardb/neardb/index/Header")) (by decide) (by decide)))).ext E7).other W8 (Or.inr (slot_ne (Or.inr (hw _ (List.mem_of_getElem? (i := 64) rfl))) (Or.inr (hw _ (List.mem_of_getElem? (i := 60) rfl))) (by decide) (t := (.array .int)) (t' := (.array .int)) (by decide) (by decide)))).ext E9).other W10 (Or.inr (slot_ne (Or.inr (hw _ (List.mem_of_getElem? (i := 64) rfl))) (Or.inr (hw _ (List.mem_of_getElem? (i := 62) rfl))) (by decide) (t := (.array .int)) (t' := (.array .int)) (by decide) (by decide)))).ext E11) ((((((((((E.ext E2).wr W3).ext E4).wr W5).wr W6).ext E7).wr W8).ext E9).wr W10).ext E11) (Or.inr ⟨(hw _ (List.mem_of_getElem? (i := 64) rfl)), rfl, hnm⟩) (hw _ (List.mem_of_getElem? (i := 47) rfl)) g (ty := (.array .int)) (by decide) rfl rfl (g := (mkF m 41 #[.val (.ref a), .val (.ref hd), .val (.int (2 : Int32))] [(.ref a11), (.ref a)])) rfl rfl (hb hby d3_41) ?_
  intro T12 h12 W12 H12
  have F12_columns := ((((((((((F_columns.ext E2).other W3 (Or.inr (slot_ne (Or.inr (hw _ (List.mem_of_getElem? (i := 64) rfl))) (Or.inl (hw _ (List.mem_of_getElem? (i := 54) rfl))) (by decide) (t := (.array .int)) (t' := (.array .int)) (by decide) (by decide)))).ext E4).other W5 (Or.inr (slot_ne (Or.inr (hw _ (List.mem_of_getElem? (i := 64) rfl))) (Or.inl (hw _ (List.mem_of_getElem? (i := 56) rfl))) (by decide) (t := (.array .int)) (t' := (.array .int)) (by decide) (by decide)))).other W6 (Or.inr (slot_ne (Or.inr (hw _ (List.mem_of_getElem? (i := 64) rfl))) (Or.inr (hw _ (List.mem_of_getElem? (i := 58) rfl))) (by decide) (t := (.array .int)) (t' := (.object "com/example/neardb/neardb/index/Header")) (by decide) (by decide)))).ext E7).other W8 (Or.inr (slot_ne (Or.inr (hw _ (List.mem_of_getElem? (i := 64) rfl))) (Or.inr (hw _ (List.mem_of_getElem? (i := 60) rfl))) (by decide) (t := (.array .int)) (t' := (.array .int)) (by decide) (by decide)))).ext E9).other W10 (Or.inr (slot_ne (Or.inr (hw _ (List.mem_of_getElem? (i := 64) rfl))) (Or.inr (hw _ (List.mem_of_getElem? (i := 62) rfl))) (by decide) (t := (.array .int)) (t' := (.array .int)) (by decide) (by decide)))).ext E11).same W12
  have sz12 : n0 ≤ h12.size := Nat.le_trans sz11 (Keep.of_wr W12).1
  have K12 := (K11).wr W12 (Or.inl (List.mem_of_getElem? (i := 0) rfl))
  show Go _ _ _ _ (T12.setTop (mkF m 44 #[.val (.ref a), .val (.ref hd), .val (.int (2 : Int32))] []))
  refine Go.via (fun t_ k_ => XS.aloadN H12.here hx rfl (hb hby d3_44) rfl rfl k_) ?_
  show Go _ _ _ _ (T12.setTop (mkF m 45 #[.val (.ref a), .val (.ref hd), .val (.int (2 : Int32))] [(.ref a)]))
  refine Go.via (fun t_ k_ => XS.iloadN H12.here hx rfl (hb hby d3_45) rfl k_) ?_
  show Go _ _ _ _ (T12.setTop (mkF m 46 #[.val (.ref a), .val (.ref hd), .val (.int (2 : Int32))] [(.int (2 : Int32)), (.ref a)]))
  refine own_newA H12 hx hZ (aty := .int) (hw _ (List.mem_of_getElem? (i := 4) rfl)) (g := (mkF m 46 #[.val (.ref a), .val (.ref hd), .val (.int (2 : Int32))] [(.int (2 : Int32)), (.ref a)])) rfl (hb hby d3_46) rfl (by decide) 2 (by decide) rfl 2 (by decide) (by decide) (by decide) (by decide) ?_
  intro T13 h13 a13 ga13 E13 B13 H13
  replace B13 : Ab Z h13 a13 .int 2 (fun _ => 0) := B13
  have ne_a_a13 : a ≠ a13 := by rw [ga13]; exact Nat.ne_of_lt (((((((((((E.ext E2).wr W3).ext E4).wr W5).wr W6).ext E7).wr W8).ext E9).wr W10).ext E11).wr W12).lt
  have ne_hd_a13 : hd ≠ a13 := by rw [ga13]; exact Nat.ne_of_lt (((((((((((EH.ext E2).wr W3).ext E4).wr W5).wr W6).ext E7).wr W8).ext E9).wr W10).ext E11).wr W12).lt
  have ne_a2_a13 : a2 ≠ a13 := by rw [ga13]; exact Nat.ne_of_lt ((((((((((B2.other W3 (Ne.symm ne_a_a2)).ext E4).other W5 (Ne.symm ne_a_a2)).other W6 (Ne.symm ne_a_a2)).ext E7).other W8 (Ne.symm ne_a_a2)).ext E9).other W10 (Ne.symm ne_a_a2)).ext E11).other W12 (Ne.symm ne_a_a2)).lt
  have ne_a4_a13 : a4 ≠ a13 := by rw [ga13]; exact Nat.ne_of_lt ((((((((B4.other W5 (Ne.symm ne_a_a4)).other W6 (Ne.symm ne_a_a4)).ext E7).other W8 (Ne.symm ne_a_a4)).ext E9).other W10 (Ne.symm ne_a_a4)).ext E11).other W12 (Ne.symm ne_a_a4)).lt
  have ne_a7_a13 : a7 ≠ a13 := by rw [ga13]; exact Nat.ne_of_lt (((((B7.other W8 (Ne.symm ne_a_a7)).ext E9).other W10 (Ne.symm ne_a_a7)).ext E11).other W12 (Ne.symm ne_a_a7)).lt
  have ne_a9_a13 : a9 ≠ a13 := by rw [ga13]; exact Nat.ne_of_lt (((B9.other W10 (Ne.symm ne_a_a9)).ext E11).other W12 (Ne.symm ne_a_a9)).lt
  have ne_a11_a13 : a11 ≠ a13 := by rw [ga13]; exact Nat.ne_of_lt (B11.other W12 (Ne.symm ne_a_a11)).lt
  have g_a13 : n0 ≤ a13 := by rw [ga13]; exact sz12
  have sz13 : n0 ≤ h13.size := Nat.le_trans sz12 E13.1
  have kin_a13 : h0.size ≤ a13 := by rw [ga13]; exact (K12).1
  have K13 := (K12).ext E13
  show Go _ _ _ _ (T13.setTop (mkF m 48 #[.val (.ref a), .val (.ref hd), .val (.int (2 : Int32))] [(.ref a13), (.ref a)]))
  refine own_putF H13 hx hZ hown (hw _ (List.mem_of_getElem? (i := 65) rfl)) ((((((((((((F_rows.ext E2).other W3 (Or.inr (slot_ne (Or.inr (hw _ (List.mem_of_getElem? (i := 66) rfl))) (Or.inl (hw _ (List.mem_of_getElem? (i := 54) rfl))) (by decide) (t := (.array .int)) (t' := (.array .int)) (by decide) (by decide)))).ext E4).other W5 (Or.inr (slot_ne (Or.inr (hw _ (List.mem_of_getElem? (i := 66) rfl))) (Or.inl (hw _ (List.mem_of_getElem? (i := 56) rfl))) (by decide) (t := (.array .int)) (t' := (.array .int)) (by decide) (by decide)))).other W6 (Or.inr (slot_ne (Or.inr (hw _ (List.mem_of_getElem? (i := 66) rfl))) (Or.inr (hw _ (List.mem_of_getElem? (i := 58) rfl))) (by decide) (t := (.array .int)) (t' := (.object "com/example/neardb/neardb/index/Header")) (by decide) (by decide)))).ext E7).other W8 (Or.inr (slot_ne (Or.inr (hw _ (List.mem_of_getElem? (i := 66) rfl))) (Or.inr (hw _ (List.mem_of_getElem? (i := 60) rfl))) (by decide) (t := (.array .int)) (t' := (.array .int)) (by decide) (by decide)))).ext E9).other W10 (Or.inr (slot_ne (Or.inr (hw _ (List.mem_of_getElem? (i := 66) rfl))) (Or.inr (hw _ (List.mem_of_getElem? (i := 62) rfl))) (by decide) (t := (.array .int)) (t' := (.array .int)) (by decide) (by decide)))).ext E11).other W12 (Or.inr (slot_ne (Or.inr (hw _ (List.mem_of_getElem? (i := 66) rfl))) (Or.inr (hw _ (List.mem_of_getElem? (i := 64) rfl))) (by decide) (t := (.array .int)) (t' := (.array .int)) (by decide) (by decide)))).ext E13) ((((((((((((E.ext E2).wr W3).ext E4).wr W5).wr W6).ext E7).wr W8).ext E9).wr W10).ext E11).wr W12).ext E13) (Or.inr ⟨(hw _ (List.mem_of_getElem? (i := 66) rfl)), rfl, hnm⟩) (hw _ (List.mem_of_getElem? (i := 47) rfl)) g (ty := (.array .int)) (by decide) rfl rfl (g := (mkF m 48 #[.val (.ref a), .val (.ref hd), .val (.int (2 : Int32))] [(.ref a13), (.ref a)])) rfl rfl (hb hby d3_48) ?_
  intro T14 h14 W14 H14
  have F14_rows := ((((((((((((F_rows.ext E2).other W3 (Or.inr (slot_ne (Or.inr (hw _ (List.mem_of_getElem? (i := 66) rfl))) (Or.inl (hw _ (List.mem_of_getElem? (i := 54) rfl))) (by decide) (t := (.array .int)) (t' := (.array .int)) (by decide) (by decide)))).ext E4).other W5 (Or.inr (slot_ne (Or.inr (hw _ (List.mem_of_getElem? (i := 66) rfl))) (Or.inl (hw _ (List.mem_of_getElem? (i := 56) rfl))) (by decide) (t := (.array .int)) (t' := (.array .int)) (by decide) (by decide)))).other W6 (Or.inr (slot_ne (Or.inr (hw _ (List.mem_of_getElem? (i := 66) rfl))) (Or.inr (hw _ (List.mem_of_getElem? (i := 58) rfl))) (by decide) (t := (.array .int)) (t' := (.object "com/example/neardb/neardb/index/Header")) (by decide) (by decide)))).ext E7).other W8 (Or.inr (slot_ne (Or.inr (hw _ (List.mem_of_getElem? (i := 66) rfl))) (Or.inr (hw _ (List.mem_of_getElem? (i := 60) rfl))) (by decide) (t := (.array .int)) (t' := (.array .int)) (by decide) (by decide)))).ext E9).other W10 (Or.inr (slot_ne (Or.inr (hw _ (List.mem_of_getElem? (i := 66) rfl))) (Or.inr (hw _ (List.mem_of_getElem? (i := 62) rfl))) (by decide) (t := (.array .int)) (t' := (.array .int)) (by decide) (by decide)))).ext E11).other W12 (Or.inr (slot_ne (Or.inr (hw _ (List.mem_of_getElem? (i := 66) rfl))) (Or.inr (hw _ (List.mem_of_getElem? (i := 64) rfl))) (by decide) (t := (.array .int)) (t' := (.array .int)) (by decide) (by decide)))).ext E13).same W14
  have sz14 : n0 ≤ h14.size := Nat.le_trans sz13 (Keep.of_wr W14).1
  have K14 := (K13).wr W14 (Or.inl (List.mem_of_getElem? (i := 0) rfl))
  show Go _ _ _ _ (T14.setTop (mkF m 51 #[.val (.ref a), .val (.ref hd), .val (.int (2 : Int32))] []))
  exact own_retV H14 hx hlk hret (hb hby d3_51) ⟨a7, a9, a11, a13, rfl, K14, (((((((((((((E.ext E2).wr W3).ext E4).wr W5).wr W6).ext E7).wr W8).ext E9).wr W10).ext E11).wr W12).ext E13).wr W14), ((((((((F6_header.ext E7).other W8 (Or.inr (slot_ne (Or.inr (hw _ (List.mem_of_getElem? (i := 58) rfl))) (Or.inr (hw _ (List.mem_of_getElem? (i := 60) rfl))) (by decide) (t := (.object "com/example/neardb/neardb/index/Header")) (t' := (.array .int)) (by decide) (by decide)))).ext E9).other W10 (Or.inr (slot_ne (Or.inr (hw _ (List.mem_of_getElem? (i := 58) rfl))) (Or.inr (hw _ (List.mem_of_getElem? (i := 62) rfl))) (by decide) (t := (.object "com/example/neardb/neardb/index/Header")) (t' := (.array .int)) (by decide) (by decide)))).ext E11).other W12 (Or.inr (slot_ne (Or.inr (hw _ (List.mem_of_getElem? (i := 58) rfl))) (Or.inr (hw _ (List.mem_of_getElem? (i := 64) rfl))) (by decide) (t := (.object "com/example/neardb/neardb/index/Header")) (t' := (.array .int)) (by decide) (by decide)))).ext E13).other W14 (Or.inr (slot_ne (Or.inr (hw _ (List.mem_of_getElem? (i := 58) rfl))) (Or.inr (hw _ (List.mem_of_getElem? (i := 66) rfl))) (by decide) (t := (.object "com/example/neardb/neardb/index/Header")) (t' := (.array .int)) (by decide) (by decide)))), (((((((((((((F_size.ext E2).other W3 (Or.inr (slot_ne (Or.inl (hw _ (List.mem_of_getElem? (i := 73) rfl))) (Or.inl (hw _ (List.mem_of_getElem? (i := 54) rfl))) (by decide) (t := .int) (t' := (.array .int)) (by decide) (by decide)))).ext E4).other W5 (Or.inr (slot_ne (Or.inl (hw _ (List.mem_of_getElem? (i := 73) rfl))) (Or.inl (hw _ (List.mem_of_getElem? (i := 56) rfl))) (by decide) (t := .int) (t' := (.array .int)) (by decide) (by decide)))).other W6 (Or.inr (slot_ne (Or.inl (hw _ (List.mem_of_getElem? (i := 73) rfl))) (Or.inr (hw _ (List.mem_of_getElem? (i := 58) rfl))) (by decide) (t := .int) (t' := (.object "com/example/neardb/neardb/index/Header")) (by decide) (by decide)))).ext E7).other W8 (Or.inr (slot_ne (Or.inl (hw _ (List.mem_of_getElem? (i := 73) rfl))) (Or.inr (hw _ (List.mem_of_getElem? (i := 60) rfl))) (by decide) (t := .int) (t' := (.array .int)) (by decide) (by decide)))).ext E9).other W10 (Or.inr (slot_ne (Or.inl (hw _ (List.mem_of_getElem? (i := 73) rfl))) (Or.inr (hw _ (List.mem_of_getElem? (i := 62) rfl))) (by decide) (t := .int) (t' := (.array .int)) (by decide) (by decide)))).ext E11).other W12 (Or.inr (slot_ne (Or.inl (hw _ (List.mem_of_getElem? (i := 73) rfl))) (Or.inr (hw _ (List.mem_of_getElem? (i := 64) rfl))) (by decide) (t := .int) (t' := (.array .int)) (by decide) (by decide)))).ext E13).other W14 (Or.inr (slot_ne (Or.inl (hw _ (List.mem_of_getElem? (i := 73) rfl))) (Or.inr (hw _ (List.mem_of_getElem? (i := 66) rfl))) (by decide) (t := .int) (t' := (.array .int)) (by decide) (by decide)))), ((((((F8_frequencies.ext E9).other W10 (Or.inr (slot_ne (Or.inr (hw _ (List.mem_of_getElem? (i := 60) rfl))) (Or.inr (hw _ (List.mem_of_getElem? (i := 62) rfl))) (by decide) (t := (.array .int)) (t' := (.array .int)) (by decide) (by decide)))).ext E11).other W12 (Or.inr (slot_ne (Or.inr (hw _ (List.mem_of_getElem? (i := 60) rfl))) (Or.inr (hw _ (List.mem_of_getElem? (i := 64) rfl))) (by decide) (t := (.array .int)) (t' := (.array .int)) (by decide) (by decide)))).ext E13).other W14 (Or.inr (slot_ne (Or.inr (hw _ (List.mem_of_getElem? (i := 60) rfl))) (Or.inr (hw _ (List.mem_of_getElem? (i := 66) rfl))) (by decide) (t := (.array .int)) (t' := (.array .int)) (by decide) (by decide)))), ((((F10_ordinals.ext E11).other W12 (Or.inr (slot_ne (Or.inr (hw _ (List.mem_of_getElem? (i := 62) rfl))) (Or.inr (hw _ (List.mem_of_getElem? (i := 64) rfl))) (by decide) (t := (.array .int)) (t' := (.array .int)) (by decide) (by decide)))).ext E13).other W14 (Or.inr (slot_ne (Or.inr (hw _ (List.mem_of_getElem? (i := 62) rfl))) (Or.inr (hw _ (List.mem_of_getElem? (i := 66) rfl))) (by decide) (t := (.array .int)) (t' := (.array .int)) (by decide) (by decide)))), ((F12_columns.ext E13).other W14 (Or.inr (slot_ne (Or.inr (hw _ (List.mem_of_getElem? (i := 64) rfl))) (Or.inr (hw _ (List.mem_of_getElem? (i := 66) rfl))) (by decide) (t := (.array .int)) (t' := (.array .int)) (by decide) (by decide)))), F14_rows, (((((((B7.other W8 (Ne.symm ne_a_a7)).ext E9).other W10 (Ne.symm ne_a_a7)).ext E11).other W12 (Ne.symm ne_a_a7)).ext E13).other W14 (Ne.symm ne_a_a7)), (((((B9.other W10 (Ne.symm ne_a_a9)).ext E11).other W12 (Ne.symm ne_a_a9)).ext E13).other W14 (Ne.symm ne_a_a9)), (((B11.other W12 (Ne.symm ne_a_a11)).ext E13).other W14 (Ne.symm ne_a_a11)), (B13.other W14 (Ne.symm ne_a_a13)), ne_a_a7, ne_a_a9, ne_a_a11, ne_a_a13, ne_a7_a9, ne_a7_a11, ne_a7_a13, ne_a9_a11, ne_a9_a13, ne_a11_a13, ne_hd_a7, ne_hd_a9, ne_hd_a11, ne_hd_a13, g_a7, g_a9, g_a11, g_a13⟩ (by decide) (by decide)
theorem d4_0 : decode prog_48_method_13_code 0 = .ok (.aload_n 0, 1) := by decide +kernel
theorem d4_1 : decode prog_48_method_13_code 1 = .ok (.getfield 20, 3) := by decide +kernel
theorem d4_4 : decode prog_48_method_13_code 4 = .ok (.aload_n 0, 1) := by decide +kernel
theorem d4_5 : decode prog_48_method_13_code 5 = .ok (.getfield 32, 3) := by decide +kernel
theorem d4_8 : decode prog_48_method_13_code 8 = .ok (.iload_n 1, 1) := by decide +kernel
theorem d4_9 : decode prog_48_method_13_code 9 = .ok (.iastore, 1) := by decide +kernel
theorem d4_10 : decode prog_48_method_13_code 10 = .ok (.aload_n 0, 1) := by decide +kernel
theorem d4_11 : decode prog_48_method_13_code 11 = .ok (.getfield 23, 3) := by decide +kernel
theorem d4_14 : decode prog_48_method_13_code 14 = .ok (.aload_n 0, 1) := by decide +kernel
theorem d4_15 : decode prog_48_method_13_code 15 = .ok (.getfield 32, 3) := by decide +kernel
theorem d4_18 : decode prog_48_method_13_code 18 = .ok (.iload_n 2, 1) := by decide +kernel
theorem d4_19 : decode prog_48_method_13_code 19 = .ok (.iastore, 1) := by decide +kernel
theorem d4_20 : decode prog_48_method_13_code 20 = .ok (.aload_n 0, 1) := by decide +kernel
theorem d4_21 : decode prog_48_method_13_code 21 = .ok (.getfield 26, 3) := by decide +kernel
theorem d4_24 : decode prog_48_method_13_code 24 = .ok (.aload_n 0, 1) := by decide +kernel
theorem d4_25 : decode prog_48_method_13_code 25 = .ok (.getfield 32, 3) := by decide +kernel
theorem d4_28 : decode prog_48_method_13_code 28 = .ok (.iload_n 3, 1) := by decide +kernel
theorem d4_29 : decode prog_48_method_13_code 29 = .ok (.iastore, 1) := by decide +kernel
theorem d4_30 : decode prog_48_method_13_code 30 = .ok (.aload_n 0, 1) := by decide +kernel
theorem d4_31 : decode prog_48_method_13_code 31 = .ok (.getfield 29, 3) := by decide +kernel
theorem d4_34 : decode prog_48_method_13_code 34 = .ok (.aload_n 0, 1) := by decide +kernel
theorem d4_35 : decode prog_48_method_13_code 35 = .ok (.getfield 32, 3) := by decide +kernel
theorem d4_38 : decode prog_48_method_13_code 38 = .ok (.iload 4, 2) := by decide +kernel
theorem d4_40 : decode prog_48_method_13_code 40 = .ok (.iastore, 1) := by decide +kernel
theorem d4_41 : decode prog_48_method_13_code 41 = .ok (.aload_n 0, 1) := by decide +kernel
theorem d4_42 : decode prog_48_method_13_code 42 = .ok (.dup, 1) := by decide +kernel
theorem d4_43 : decode prog_48_method_13_code 43 = .ok (.getfield 32, 3) := by decide +kernel
theorem d4_46 : decode prog_48_method_13_code 46 = .ok (.iconst 1, 1) := by decide +kernel
theorem d4_47 : decode prog_48_method_13_code 47 = .ok (.iadd, 1) := by decide +kernel
theorem d4_48 : decode prog_48_method_13_code 48 = .ok (.putfield 32, 3) := by decide +kernel
theorem d4_51 : decode prog_48_method_13_code 51 = .ok (.return_, 1) := by decide +kernel
theorem ef_rmAd (m : MethodId) (x0 : Addr) (x1 : Int32) (x2 : Int32) (x3 : Int32) (x4 : Int32) : entryFrame m #[(.ref x0), (.int x1), (.int x2), (.int x3), (.int x4)] 5 = mkF m 0 #[.val (.ref x0), .val (.int x1), .val (.int x2), .val (.int x3), .val (.int x4)] [] := by first | (simp [entryFrame, mkF, argsToLocals, Value.category]; done) | rfl
set_option maxRecDepth 65536 in
set_option maxHeartbeats 40000000 in
theorem rmAd (l : Launch) (Z : State) (a0 : Array Value) (hw : ∀ d ∈ tables_1, d.before a0 Z = true) (a hd fa oa ca ra : Addr) (Ff Fo Fc Fr : Nat → Int32) (z z' p1 p2 p3 p4 : Int32) (j : Nat) (h0 : Heap) (n0 : Nat) (E : Exa Z h0 a "com/example/neardb/neardb/index/PostingPage") (F_header : Fld Z h0 a "com/example/neardb/neardb/index/PostingPage" "header" "Lcom/example/neardb/neardb/index/Header;" (.ref hd)) (F_size : Fld Z h0 a "com/example/neardb/neardb/index/PostingPage" "size" "I" (.int z)) (F_frequencies : Fld Z h0 a "com/example/neardb/neardb/index/PostingPage" "frequencies" "[I" (.ref fa)) (F_ordinals : Fld Z h0 a "com/example/neardb/neardb/index/PostingPage" "ordinals" "[I" (.ref oa)) (F_columns : Fld Z h0 a "com/example/neardb/neardb/index/PostingPage" "columns" "[I" (.ref ca)) (F_rows : Fld Z h0 a "com/example/neardb/neardb/index/PostingPage" "rows" "[I" (.ref ra)) (A_fa : Ab Z h0 fa .int 2 Ff) (A_oa : Ab Z h0 oa .int 2 Fo) (A_ca : Ab Z h0 ca .int 2 Fc) (A_ra : Ab Z h0 ra .int 2 Fr) (g_a : n0 ≤ a) (g_fa : n0 ≤ fa) (g_oa : n0 ≤ oa) (g_ca : n0 ≤ ca) (g_ra : n0 ≤ ra) (ne_a_fa : a ≠ fa) (ne_a_oa : a ≠ oa) (ne_a_ca : a ≠ ca) (ne_a_ra : a ≠ ra) (ne_fa_oa : fa ≠ oa) (ne_fa_ca : fa ≠ ca) (ne_fa_ra : fa ≠ ra) (ne_oa_ca : oa ≠ ca) (ne_oa_ra : oa ≠ ra) (ne_ca_ra : ca ≠ ra) (hz : z + 1 = z') (hj : z.toInt = (j : Int)) (hj2 : j < 2) :
    CM l Z (⟨"com/example/neardb/neardb/index/PostingPage", "add", "(IIII)V"⟩ : MethodName) prog_48_method_13_code 5 none ({ frames := 0, cells := 0, slots := 0, locals := 0 } : Room) #[(.ref a), (.int p1), (.int p2), (.int p3), (.int p4)] h0 n0 (fun v h => v = none ∧ Keep h0 h [a, fa, oa, ca, ra] ∧ Exa Z h a "com/example/neardb/neardb/index/PostingPage" ∧ Fld Z h a "com/example/neardb/neardb/index/PostingPage" "header" "Lcom/example/neardb/neardb/index/Header;" (.ref hd) ∧ Fld Z h a "com/example/neardb/neardb/index/PostingPage" "size" "I" (.int z') ∧ Fld Z h a "com/example/neardb/neardb/index/PostingPage" "frequencies" "[I" (.ref fa) ∧ Fld Z h a "com/example/neardb/neardb/index/PostingPage" "ordinals" "[I" (.ref oa) ∧ Fld Z h a "com/example/neardb/neardb/index/PostingPage" "columns" "[I" (.ref ca) ∧ Fld Z h a "com/example/neardb/neardb/index/PostingPage" "rows" "[I" (.ref ra) ∧ Ab Z h fa .int 2 (upd Ff j p1) ∧ Ab Z h oa .int 2 (upd Fo j p2) ∧ Ab Z h ca .int 2 (upd Fc j p3) ∧ Ab Z h ra .int 2 (upd Fr j p4)) := by
  refine own_enter (by decide +kernel) ?_
  intro p e s m below meth c T0 hx hby hml hown hnm hZ hret hlk H0
  replace hown : s.vm.findClass "com/example/neardb/neardb/index/PostingPage" = some m.cls := hown
  replace hret : meth.sig.returnType = none := hret
  refine Go.via (fun t_ k_ => castTop (ef_rmAd m a p1 p2 p3 p4) k_) ?_
  show Go _ _ _ _ (T0.setTop (mkF m 0 #[.val (.ref a), .val (.int p1), .val (.int p2), .val (.int p3), .val (.int p4)] []))
  refine Go.via (fun t_ k_ => XS.aloadN H0.here hx rfl (hb hby d4_0) rfl rfl k_) ?_
  show Go _ _ _ _ (T0.setTop (mkF m 1 #[.val (.ref a), .val (.int p1), .val (.int p2), .val (.int p3), .val (.int p4)] [(.ref a)]))
  refine own_getF H0 hx hZ hown (hw _ (List.mem_of_getElem? (i := 59) rfl)) F_frequencies (g := (mkF m 1 #[.val (.ref a), .val (.int p1), .val (.int p2), .val (.int p3), .val (.int p4)] [(.ref a)])) rfl rfl (hb hby d4_1) ?_
  intro T1 H1
  show Go _ _ _ _ (T1.setTop (mkF m 4 #[.val (.ref a), .val (.int p1), .val (.int p2), .val (.int p3), .val (.int p4)] [(.ref fa)]))
  refine Go.via (fun t_ k_ => XS.aloadN H1.here hx rfl (hb hby d4_4) rfl rfl k_) ?_
  show Go _ _ _ _ (T1.setTop (mkF m 5 #[.val (.ref a), .val (.int p1), .val (.int p2), .val (.int p3), .val (.int p4)] [(.ref a), (.ref fa)]))
  refine own_getF H1 hx hZ hown (hw _ (List.mem_of_getElem? (i := 72) rfl)) F_size (g := (mkF m 5 #[.val (.ref a), .val (.int p1), .val (.int p2), .val (.int p3), .val (.int p4)] [(.ref a), (.ref fa)])) rfl rfl (hb hby d4_5) ?_
  intro T2 H2
  show Go _ _ _ _ (T2.setTop (mkF m 8 #[.val (.ref a), .val (.int p1), .val (.int p2), .val (.int p3), .val (.int p4)] [(.int z), (.ref fa)]))
  refine Go.via (fun t_ k_ => XS.iloadN H2.here hx rfl (hb hby d4_8) rfl k_) ?_
  show Go _ _ _ _ (T2.setTop (mkF m 9 #[.val (.ref a), .val (.int p1), .val (.int p2), .val (.int p3), .val (.int p4)] [(.int p1), (.int z), (.ref fa)]))
  refine own_stIA H2 hx hZ A_fa (j := j) hj hj2 g_fa (g := (mkF m 9 #[.val (.ref a), .val (.int p1), .val (.int p2), .val (.int p3), .val (.int p4)] [(.int p1), (.int z), (.ref fa)])) rfl rfl (hb hby d4_9) ?_
  intro T3 h3 W3 B3 H3
  have K3 := ((Keep.refl h0 [a, fa, oa, ca, ra])).wr W3 (Or.inl (List.mem_of_getElem? (i := 1) rfl))
  show Go _ _ _ _ (T3.setTop (mkF m 10 #[.val (.ref a), .val (.int p1), .val (.int p2), .val (.int p3), .val (.int p4)] []))
  refine Go.via (fun t_ k_ => XS.aloadN H3.here hx rfl (hb hby d4_10) rfl rfl k_) ?_
  show Go _ _ _ _ (T3.setTop (mkF m 11 #[.val (.ref a), .val (.int p1), .val (.int p2), .val (.int p3), .val (.int p4)] [(.ref a)]))
  refine own_getF H3 hx hZ hown (hw _ (List.mem_of_getElem? (i := 61) rfl)) (F_ordinals.other W3 (Or.inl ne_a_fa)) (g := (mkF m 11 #[.val (.ref a), .val (.int p1), .val (.int p2), .val (.int p3), .val (.int p4)] [(.ref a)])) rfl rfl (hb hby d4_11) ?_
  intro T4 H4
  show Go _ _ _ _ (T4.setTop (mkF m 14 #[.val (.ref a), .val (.int p1), .val (.int p2), .val (.int p3), .val (.int p4)] [(.ref oa)]))
  refine Go.via (fun t_ k_ => XS.aloadN H4.here hx rfl (hb hby d4_14) rfl rfl k_) ?_
  show Go _ _ _ _ (T4.setTop (mkF m 15 #[.val (.ref a), .val (.int p1), .val (.int p2), .val (.int p3), .val (.int p4)] [(.ref a), (.ref oa)]))
  refine own_getF H4 hx hZ hown (hw _ (List.mem_of_getElem? (i := 72) rfl)) (F_size.other W3 (Or.inl ne_a_fa)) (g := (mkF m 15 #[.val (.ref a), .val (.int p1), .val (.int p2), .val (.int p3), .val (.int p4)] [(.ref a), (.ref oa)])) rfl rfl (hb hby d4_15) ?_
  intro T5 H5
  show Go _ _ _ _ (T5.setTop (mkF m 18 #[.val (.ref a), .val (.int p1), .val (.int p2), .val (.int p3), .val (.int p4)] [(.int z), (.ref oa)]))
  refine Go.via (fun t_ k_ => XS.iloadN H5.here hx rfl (hb hby d4_18) rfl k_) ?_
  show Go _ _ _ _ (T5.setTop (mkF m 19 #[.val (.ref a), .val (.int p1), .val (.int p2), .val (.int p3), .val (.int p4)] [(.int p2), (.int z), (.ref oa)]))
  refine own_stIA H5 hx hZ (A_oa.other W3 (Ne.symm ne_fa_oa)) (j := j) hj hj2 g_oa (g := (mkF m 19 #[.val (.ref a), .val (.int p1), .val (.int p2), .val (.int p3), .val (.int p4)] [(.int p2), (.int z), (.ref oa)])) rfl rfl (hb hby d4_19) ?_
  intro T6 h6 W6 B6 H6
  have K6 := (K3).wr W6 (Or.inl (List.mem_of_getElem? (i := 2) rfl))
  show Go _ _ _ _ (T6.setTop (mkF m 20 #[.val (.ref a), .val (.int p1), .val (.int p2), .val (.int p3), .val (.int p4)] []))
  refine Go.via (fun t_ k_ => XS.aloadN H6.here hx rfl (hb hby d4_20) rfl rfl k_) ?_
  show Go _ _ _ _ (T6.setTop (mkF m 21 #[.val (.ref a), .val (.int p1), .val (.int p2), .val (.int p3), .val (.int p4)] [(.ref a)]))
  refine own_getF H6 hx hZ hown (hw _ (List.mem_of_getElem? (i := 63) rfl)) ((F_columns.other W3 (Or.inl ne_a_fa)).other W6 (Or.inl ne_a_oa)) (g := (mkF m 21 #[.val (.ref a), .val (.int p1), .val (.int p2), .val (.int p3), .val (.int p4)] [(.ref a)])) rfl rfl (hb hby d4_21) ?_
  intro T7 H7
  show Go _ _ _ _ (T7.setTop (mkF m 24 #[.val (.ref a), .val (.int p1), .val (.int p2), .val (.int p3), .val (.int p4)] [(.ref ca)]))
  refine Go.via (fun t_ k_ => XS.aloadN H7.here hx rfl (hb hby d4_24) rfl rfl k_) ?_
  show Go _ _ _ _ (T7.setTop (mkF m 25 #[.val (.ref a), .val (.int p1), .val (.int p2), .val (.int p3), .val (.int p4)] [(.ref a), (.ref ca)]))
  refine own_getF H7 hx hZ hown (hw _ (List.mem_of_getElem? (i := 72) rfl)) ((F_size.other W3 (Or.inl ne_a_fa)).other W6 (Or.inl ne_a_oa)) (g := (mkF m 25 #[.val (.ref a), .val (.int p1), .val (.int p2), .val (.int p3), .val (.int p4)] [(.ref a), (.ref ca)])) rfl rfl (hb hby d4_25) ?_
  intro T8 H8
  show Go _ _ _ _ (T8.setTop (mkF m 28 #[.val (.ref a), .val (.int p1), .val (.int p2), .val (.int p3), .val (.int p4)] [(.int z), (.ref ca)]))
  refine Go.via (fun t_ k_ => XS.iloadN H8.here hx rfl (hb hby d4_28) rfl k_) ?_
  show Go _ _ _ _ (T8.setTop (mkF m 29 #[.val (.ref a), .val (.int p1), .val (.int p2), .val (.int p3), .val (.int p4)] [(.int p3), (.int z), (.ref ca)]))
  refine own_stIA H8 hx hZ ((A_ca.other W3 (Ne.symm ne_fa_ca)).other W6 (Ne.symm ne_oa_ca)) (j := j) hj hj2 g_ca (g := (mkF m 29 #[.val (.ref a), .val (.int p1), .val (.int p2), .val (.int p3), .val (.int p4)] [(.int p3), (.int z), (.ref ca)])) rfl rfl (hb hby d4_29) ?_
  intro T9 h9 W9 B9 H9
  have K9 := (K6).wr W9 (Or.inl (List.mem_of_getElem? (i := 3) rfl))
  show Go _ _ _ _ (T9.setTop (mkF m 30 #[.val (.ref a), .val (.int p1), .val (.int p2), .val (.int p3), .val (.int p4)] []))
  refine Go.via (fun t_ k_ => XS.aloadN H9.here hx rfl (hb hby d4_30) rfl rfl k_) ?_
  show Go _ _ _ _ (T9.setTop (mkF m 31 #[.val (.ref a), .val (.int p1), .val (.int p2), .val (.int p3), .val (.int p4)] [(.ref a)]))
  refine own_getF H9 hx hZ hown (hw _ (List.mem_of_getElem? (i := 65) rfl)) (((F_rows.other W3 (Or.inl ne_a_fa)).other W6 (Or.inl ne_a_oa)).other W9 (Or.inl ne_a_ca)) (g := (mkF m 31 #[.val (.ref a), .val (.int p1), .val (.int p2), .val (.int p3), .val (.int p4)] [(.ref a)])) rfl rfl (hb hby d4_31) ?_
  intro T10 H10
  show Go _ _ _ _ (T10.setTop (mkF m 34 #[.val (.ref a), .val (.int p1), .val (.int p2), .val (.int p3), .val (.int p4)] [(.ref ra)]))
  refine Go.via (fun t_ k_ => XS.aloadN H10.here hx rfl (hb hby d4_34) rfl rfl k_) ?_
  show Go _ _ _ _ (T10.setTop (mkF m 35 #[.val (.ref a), .val (.int p1), .val (.int p2), .val (.int p3), .val (.int p4)] [(.ref a), (.ref ra)]))
  refine own_getF H10 hx hZ hown (hw _ (List.mem_of_getElem? (i := 72) rfl)) (((F_size.other W3 (Or.inl ne_a_fa)).other W6 (Or.inl ne_a_oa)).other W9 (Or.inl ne_a_ca)) (g := (mkF m 35 #[.val (.ref a), .val (.int p1), .val (.int p2), .val (.int p3), .val (.int p4)] [(.ref a), (.ref ra)])) rfl rfl (hb hby d4_35) ?_
  intro T11 H11
  show Go _ _ _ _ (T11.setTop (mkF m 38 #[.val (.ref a), .val (.int p1), .val (.int p2), .val (.int p3), .val (.int p4)] [(.int z), (.ref ra)]))
  refine Go.via (fun t_ k_ => XS.iload H11.here hx rfl (hb hby d4_38) rfl k_) ?_
  show Go _ _ _ _ (T11.setTop (mkF m 40 #[.val (.ref a), .val (.int p1), .val (.int p2), .val (.int p3), .val (.int p4)] [(.int p4), (.int z), (.ref ra)]))
  refine own_stIA H11 hx hZ (((A_ra.other W3 (Ne.symm ne_fa_ra)).other W6 (Ne.symm ne_oa_ra)).other W9 (Ne.symm ne_ca_ra)) (j := j) hj hj2 g_ra (g := (mkF m 40 #[.val (.ref a), .val (.int p1), .val (.int p2), .val (.int p3), .val (.int p4)] [(.int p4), (.int z), (.ref ra)])) rfl rfl (hb hby d4_40) ?_
  intro T12 h12 W12 B12 H12
  have K12 := (K9).wr W12 (Or.inl (List.mem_of_getElem? (i := 4) rfl))
  show Go _ _ _ _ (T12.setTop (mkF m 41 #[.val (.ref a), .val (.int p1), .val (.int p2), .val (.int p3), .val (.int p4)] []))
  refine Go.via (fun t_ k_ => XS.aloadN H12.here hx rfl (hb hby d4_41) rfl rfl k_) ?_
  show Go _ _ _ _ (T12.setTop (mkF m 42 #[.val (.ref a), .val (.int p1), .val (.int p2), .val (.int p3), .val (.int p4)] [(.ref a)]))
  refine Go.via (fun t_ k_ => XS.dup H12.here hx rfl (hb hby d4_42) rfl rfl k_) ?_
  show Go _ _ _ _ (T12.setTop (mkF m 43 #[.val (.ref a), .val (.int p1), .val (.int p2), .val (.int p3), .val (.int p4)] [(.ref a), (.ref a)]))
  refine own_getF H12 hx hZ hown (hw _ (List.mem_of_getElem? (i := 72) rfl)) ((((F_size.other W3 (Or.inl ne_a_fa)).other W6 (Or.inl ne_a_oa)).other W9 (Or.inl ne_a_ca)).other W12 (Or.inl ne_a_ra)) (g := (mkF m 43 #[.val (.ref a), .val (.int p1), .val (.int p2), .val (.int p3), .val (.int p4)] [(.ref a), (.ref a)])) rfl rfl (hb hby d4_43) ?_
  intro T13 H13
  show Go _ _ _ _ (T13.setTop (mkF m 46 #[.val (.ref a), .val (.int p1), .val (.int p2), .val (.int p3), .val (.int p4)] [(.int z), (.ref a)]))
  refine Go.via (fun t_ k_ => XS.iconst H13.here hx rfl (hb hby d4_46) k_) ?_
  show Go _ _ _ _ (T13.setTop (mkF m 47 #[.val (.ref a), .val (.int p1), .val (.int p2), .val (.int p3), .val (.int p4)] [(.int (1 : Int32)), (.int z), (.ref a)]))
  refine Go.via (fun t_ k_ => XS.iadd H13.here hx rfl (hb hby d4_47) rfl k_) ?_
  show Go _ _ _ _ (T13.setTop (mkF m 48 #[.val (.ref a), .val (.int p1), .val (.int p2), .val (.int p3), .val (.int p4)] [(.int (z + (1 : Int32))), (.ref a)]))
  refine own_putF H13 hx hZ hown (hw _ (List.mem_of_getElem? (i := 72) rfl)) ((((F_size.other W3 (Or.inl ne_a_fa)).other W6 (Or.inl ne_a_oa)).other W9 (Or.inl ne_a_ca)).other W12 (Or.inl ne_a_ra)) ((((E.wr W3).wr W6).wr W9).wr W12) (Or.inl (hw _ (List.mem_of_getElem? (i := 73) rfl))) (hw _ (List.mem_of_getElem? (i := 47) rfl)) g_a (ty := .int) (by decide) rfl rfl (g := (mkF m 48 #[.val (.ref a), .val (.int p1), .val (.int p2), .val (.int p3), .val (.int p4)] [(.int (z + (1 : Int32))), (.ref a)])) rfl rfl (hb hby d4_48) ?_
  intro T14 h14 W14 H14
  have F14_size := ((((F_size.other W3 (Or.inl ne_a_fa)).other W6 (Or.inl ne_a_oa)).other W9 (Or.inl ne_a_ca)).other W12 (Or.inl ne_a_ra)).same W14
  have K14 := (K12).wr W14 (Or.inl (List.mem_of_getElem? (i := 0) rfl))
  show Go _ _ _ _ (T14.setTop (mkF m 51 #[.val (.ref a), .val (.int p1), .val (.int p2), .val (.int p3), .val (.int p4)] []))
  exact own_retV H14 hx hlk hret (hb hby d4_51) ⟨rfl, K14, (((((E.wr W3).wr W6).wr W9).wr W12).wr W14), (((((F_header.other W3 (Or.inl ne_a_fa)).other W6 (Or.inl ne_a_oa)).other W9 (Or.inl ne_a_ca)).other W12 (Or.inl ne_a_ra)).other W14 (Or.inr (slot_ne (Or.inr (hw _ (List.mem_of_getElem? (i := 58) rfl))) (Or.inl (hw _ (List.mem_of_getElem? (i := 73) rfl))) (by decide) (t := (.object "com/example/neardb/neardb/index/Header")) (t' := .int) (by decide) (by decide)))), (by rw [← hz]; exact F14_size), (((((F_frequencies.other W3 (Or.inl ne_a_fa)).other W6 (Or.inl ne_a_oa)).other W9 (Or.inl ne_a_ca)).other W12 (Or.inl ne_a_ra)).other W14 (Or.inr (slot_ne (Or.inr (hw _ (List.mem_of_getElem? (i := 60) rfl))) (Or.inl (hw _ (List.mem_of_getElem? (i := 73) rfl))) (by decide) (t := (.array .int)) (t' := .int) (by decide) (by decide)))), (((((F_ordinals.other W3 (Or.inl ne_a_fa)).other W6 (Or.inl ne_a_oa)).other W9 (Or.inl ne_a_ca)).other W12 (Or.inl ne_a_ra)).other W14 (Or.inr (slot_ne (Or.inr (hw _ (List.mem_of_getElem? (i := 62) rfl))) (Or.inl (hw _ (List.mem_of_getElem? (i := 73) rfl))) (by decide) (t := (.array .int)) (t' := .int) (by decide) (by decide)))), (((((F_columns.other W3 (Or.inl ne_a_fa)).other W6 (Or.inl ne_a_oa)).other W9 (Or.inl ne_a_ca)).other W12 (Or.inl ne_a_ra)).other W14 (Or.inr (slot_ne (Or.inr (hw _ (List.mem_of_getElem? (i := 64) rfl))) (Or.inl (hw _ (List.mem_of_getElem? (i := 73) rfl))) (by decide) (t := (.array .int)) (t' := .int) (by decide) (by decide)))), (((((F_rows.other W3 (Or.inl ne_a_fa)).other W6 (Or.inl ne_a_oa)).other W9 (Or.inl ne_a_ca)).other W12 (Or.inl ne_a_ra)).other W14 (Or.inr (slot_ne (Or.inr (hw _ (List.mem_of_getElem? (i := 66) rfl))) (Or.inl (hw _ (List.mem_of_getElem? (i := 73) rfl))) (by decide) (t := (.array .int)) (t' := .int) (by decide) (by decide)))), ((((B3.other W6 ne_fa_oa).other W9 ne_fa_ca).other W12 ne_fa_ra).other W14 (Ne.symm ne_a_fa)), (((B6.other W9 ne_oa_ca).other W12 ne_oa_ra).other W14 (Ne.symm ne_a_oa)), ((B9.other W12 ne_ca_ra).other W14 (Ne.symm ne_a_ca)), (B12.other W14 (Ne.symm ne_a_ra))⟩ (by decide) (by decide)
theorem d5_0 : decode prog_48_method_2_code 0 = .ok (.aload_n 0, 1) := by decide +kernel
theorem d5_1 : decode prog_48_method_2_code 1 = .ok (.getfield 32, 3) := by decide +kernel
theorem d5_4 : decode prog_48_method_2_code 4 = .ok (.ireturn, 1) := by decide +kernel
theorem ef_rmSz (m : MethodId) (x0 : Addr) : entryFrame m #[(.ref x0)] 1 = mkF m 0 #[.val (.ref x0)] [] := by first | (simp [entryFrame, mkF, argsToLocals, Value.category]; done) | rfl
set_option maxRecDepth 65536 in
set_option maxHeartbeats 40000000 in
theorem rmSz (l : Launch) (Z : State) (a0 : Array Value) (hw : ∀ d ∈ tables_1, d.before a0 Z = true) (a : Addr) (z : Int32) (h0 : Heap) (n0 : Nat) (F : Fld Z h0 a "com/example/neardb/neardb/index/PostingPage" "size" "I" (.int z)) :
    CM l Z (⟨"com/example/neardb/neardb/index/PostingPage", "size", "()I"⟩ : MethodName) prog_48_method_2_code 1 (some .int) ({ frames := 0, cells := 0, slots := 0, locals := 0 } : Room) #[(.ref a)] h0 n0 (fun v h => v = some (.int z) ∧ h0 = h) := by
  refine own_enter (by decide +kernel) ?_
  intro p e s m below meth c T0 hx hby hml hown hnm hZ hret hlk H0
  replace hown : s.vm.findClass "com/example/neardb/neardb/index/PostingPage" = some m.cls := hown
  replace hret : meth.sig.returnType = some .int := hret
  refine Go.via (fun t_ k_ => castTop (ef_rmSz m a) k_) ?_
  show Go _ _ _ _ (T0.setTop (mkF m 0 #[.val (.ref a)] []))
  refine Go.via (fun t_ k_ => XS.aloadN H0.here hx rfl (hb hby d5_0) rfl rfl k_) ?_
  show Go _ _ _ _ (T0.setTop (mkF m 1 #[.val (.ref a)] [(.ref a)]))
  refine own_getF H0 hx hZ hown (hw _ (List.mem_of_getElem? (i := 72) rfl)) F (g := (mkF m 1 #[.val (.ref a)] [(.ref a)])) rfl rfl (hb hby d5_1) ?_
  intro T1 H1
  show Go _ _ _ _ (T1.setTop (mkF m 4 #[.val (.ref a)] [(.int z)]))
  exact own_retI H1 hx hlk hret (hb hby d5_4) ⟨rfl, rfl⟩ (by decide) (by decide)
theorem d6_0 : decode prog_48_method_4_code 0 = .ok (.aload_n 0, 1) := by decide +kernel
theorem d6_1 : decode prog_48_method_4_code 1 = .ok (.getfield 20, 3) := by decide +kernel
theorem d6_4 : decode prog_48_method_4_code 4 = .ok (.iload_n 1, 1) := by decide +kernel
theorem d6_5 : decode prog_48_method_4_code 5 = .ok (.aload_n 0, 1) := by decide +kernel
theorem d6_6 : decode prog_48_method_4_code 6 = .ok (.getfield 32, 3) := by decide +kernel
theorem d6_9 : decode prog_48_method_4_code 9 = .ok (.invokestatic 36, 3) := by decide +kernel
theorem d6_12 : decode prog_48_method_4_code 12 = .ok (.iaload, 1) := by decide +kernel
theorem d6_13 : decode prog_48_method_4_code 13 = .ok (.ireturn, 1) := by decide +kernel
theorem ef_rmFr (m : MethodId) (x0 : Addr) (x1 : Int32) : entryFrame m #[(.ref x0), (.int x1)] 2 = mkF m 0 #[.val (.ref x0), .val (.int x1)] [] := by first | (simp [entryFrame, mkF, argsToLocals, Value.category]; done) | rfl
theorem pd_2 : parseMethodDescriptor "(II)I" = some ⟨[.int, .int], some .int⟩ := by decide +kernel
set_option maxRecDepth 65536 in
set_option maxHeartbeats 40000000 in
theorem rmFr (l : Launch) (Z : State) (a0 : Array Value) (hw : ∀ d ∈ tables_1, d.before a0 Z = true) (a b : Addr) (D : Nat → Int32) (i z v' : Int32) (j : Nat) (h0 : Heap) (n0 : Nat) (F : Fld Z h0 a "com/example/neardb/neardb/index/PostingPage" "frequencies" "[I" (.ref b)) (F2 : Fld Z h0 a "com/example/neardb/neardb/index/PostingPage" "size" "I" (.int z)) (A : Ab Z h0 b .int 2 D) (h1 : ¬ i < 0) (h2 : i < z) (hj : i.toInt = (j : Int)) (hj2 : j < 2) (hv : D j = v') :
    CM l Z (⟨"com/example/neardb/neardb/index/PostingPage", "frequency", "(I)I"⟩ : MethodName) prog_48_method_4_code 2 (some .int) ({ frames := 2, cells := 0, slots := 0, locals := 29 } : Room) #[(.ref a), (.int i)] h0 n0 (fun v h => v = some (.int v') ∧ h0 = h) := by
  refine own_enter (by decide +kernel) ?_
  intro p e s m below meth c T0 hx hby hml hown hnm hZ hret hlk H0
  replace hown : s.vm.findClass "com/example/neardb/neardb/index/PostingPage" = some m.cls := hown
  replace hret : meth.sig.returnType = some .int := hret
  refine Go.via (fun t_ k_ => castTop (ef_rmFr m a i) k_) ?_
  show Go _ _ _ _ (T0.setTop (mkF m 0 #[.val (.ref a), .val (.int i)] []))
  refine Go.via (fun t_ k_ => XS.aloadN H0.here hx rfl (hb hby d6_0) rfl rfl k_) ?_
  show Go _ _ _ _ (T0.setTop (mkF m 1 #[.val (.ref a), .val (.int i)] [(.ref a)]))
  refine own_getF H0 hx hZ hown (hw _ (List.mem_of_getElem? (i := 59) rfl)) F (g := (mkF m 1 #[.val (.ref a), .val (.int i)] [(.ref a)])) rfl rfl (hb hby d6_1) ?_
  intro T1 H1
  show Go _ _ _ _ (T1.setTop (mkF m 4 #[.val (.ref a), .val (.int i)] [(.ref b)]))
  refine Go.via (fun t_ k_ => XS.iloadN H1.here hx rfl (hb hby d6_4) rfl k_) ?_
  show Go _ _ _ _ (T1.setTop (mkF m 5 #[.val (.ref a), .val (.int i)] [(.int i), (.ref b)]))
  refine Go.via (fun t_ k_ => XS.aloadN H1.here hx rfl (hb hby d6_5) rfl rfl k_) ?_
  show Go _ _ _ _ (T1.setTop (mkF m 6 #[.val (.ref a), .val (.int i)] [(.ref a), (.int i), (.ref b)]))
  refine own_getF H1 hx hZ hown (hw _ (List.mem_of_getElem? (i := 72) rfl)) F2 (g := (mkF m 6 #[.val (.ref a), .val (.int i)] [(.ref a), (.int i), (.ref b)])) rfl rfl (hb hby d6_6) ?_
  intro T2 H2
  show Go _ _ _ _ (T2.setTop (mkF m 9 #[.val (.ref a), .val (.int i)] [(.int z), (.int i), (.ref b)]))
  refine own_callS H2 hx hZ (y := (⟨"java/util/Objects", "checkIndex", "(II)I"⟩ : MethodName)) hown (hw _ (List.mem_of_getElem? (i := 84) rfl)) (hw _ (List.mem_of_getElem? (i := 85) rfl)) (hw _ (List.mem_of_getElem? (i := 86) rfl)) (hw _ (List.mem_of_getElem? (i := 87) rfl)) (by decide) (rmCI l Z a0 hw i z h0 n0 h1 h2) (g := (mkF m 9 #[.val (.ref a), .val (.int i)] [(.int z), (.int i), (.ref b)])) rfl (by rw [hml]; rfl) (argsL := [(.int i), (.int z)]) (rest := [(.ref b)]) (lenOf pd_2 rfl) rfl 1 (Nat.le_of_eq rfl) (hb hby d6_9) (by decide) (by decide) (by decide) (by decide) ?_
  rintro _ T3 _ ⟨rfl, rfl⟩ H3
  show Go _ _ _ _ (T3.setTop (mkF m 12 #[.val (.ref a), .val (.int i)] [(.int i), (.ref b)]))
  refine own_ldIA H3 hx hZ A (j := j) hj hj2 (g := (mkF m 12 #[.val (.ref a), .val (.int i)] [(.int i), (.ref b)])) rfl rfl (hb hby d6_12) ?_
  show Go _ _ _ _ (T3.setTop (mkF m 13 #[.val (.ref a), .val (.int i)] [(.int (D j))]))
  exact own_retI H3 hx hlk hret (hb hby d6_13) ⟨by rw [hv], rfl⟩ (by decide) (by decide)
theorem d9_0 : decode prog_48_method_3_code 0 = .ok (.aload_n 0, 1) := by decide +kernel
theorem d9_1 : decode prog_48_method_3_code 1 = .ok (.getfield 23, 3) := by decide +kernel
theorem d9_4 : decode prog_48_method_3_code 4 = .ok (.iload_n 1, 1) := by decide +kernel
theorem d9_5 : decode prog_48_method_3_code 5 = .ok (.aload_n 0, 1) := by decide +kernel
theorem d9_6 : decode prog_48_method_3_code 6 = .ok (.getfield 32, 3) := by decide +kernel
theorem d9_9 : decode prog_48_method_3_code 9 = .ok (.invokestatic 36, 3) := by decide +kernel
theorem d9_12 : decode prog_48_method_3_code 12 = .ok (.iaload, 1) := by decide +kernel
theorem d9_13 : decode prog_48_method_3_code 13 = .ok (.ireturn, 1) := by decide +kernel
theorem ef_rmOr (m : MethodId) (x0 : Addr) (x1 : Int32) : entryFrame m #[(.ref x0), (.int x1)] 2 = mkF m 0 #[.val (.ref x0), .val (.int x1)] [] := by first | (simp [entryFrame, mkF, argsToLocals, Value.category]; done) | rfl
set_option maxRecDepth 65536 in
set_option maxHeartbeats 40000000 in
theorem rmOr (l : Launch) (Z : State) (a0 : Array Value) (hw : ∀ d ∈ tables_1, d.before a0 Z = true) (a b : Addr) (D : Nat → Int32) (i z v' : Int32) (j : Nat) (h0 : Heap) (n0 : Nat) (F : Fld Z h0 a "com/example/neardb/neardb/index/PostingPage" "ordinals" "[I" (.ref b)) (F2 : Fld Z h0 a "com/example/neardb/neardb/index/PostingPage" "size" "I" (.int z)) (A : Ab Z h0 b .int 2 D) (h1 : ¬ i < 0) (h2 : i < z) (hj : i.toInt = (j : Int)) (hj2 : j < 2) (hv : D j = v') :
    CM l Z (⟨"com/example/neardb/neardb/index/PostingPage", "ordinal", "(I)I"⟩ : MethodName) prog_48_method_3_code 2 (some .int) ({ frames := 2, cells := 0, slots := 0, locals := 29 } : Room) #[(.ref a), (.int i)] h0 n0 (fun v h => v = some (.int v') ∧ h0 = h) := by
  refine own_enter (by decide +kernel) ?_
  intro p e s m below meth c T0 hx hby hml hown hnm hZ hret hlk H0
  replace hown : s.vm.findClass "com/example/neardb/neardb/index/PostingPage" = some m.cls := hown
  replace hret : meth.sig.returnType = some .int := hret
  refine Go.via (fun t_ k_ => castTop (ef_rmOr m a i) k_) ?_
  show Go _ _ _ _ (T0.setTop (mkF m 0 #[.val (.ref a), .val (.int i)] []))
  refine Go.via (fun t_ k_ => XS.aloadN H0.here hx rfl (hb hby d9_0) rfl rfl k_) ?_
  show Go _ _ _ _ (T0.setTop (mkF m 1 #[.val (.ref a), .val (.int i)] [(.ref a)]))
  refine own_getF H0 hx hZ hown (hw _ (List.mem_of_getElem? (i := 61) rfl)) F (g := (mkF m 1 #[.val (.ref a), .val (.int i)] [(.ref a)])) rfl rfl (hb hby d9_1) ?_
  intro T1 H1
  show Go _ _ _ _ (T1.setTop (mkF m 4 #[.val (.ref a), .val (.int i)] [(.ref b)]))
  refine Go.via (fun t_ k_ => XS.iloadN H1.here hx rfl (hb hby d9_4) rfl k_) ?_
  show Go _ _ _ _ (T1.setTop (mkF m 5 #[.val (.ref a), .val (.int i)] [(.int i), (.ref b)]))
  refine Go.via (fun t_ k_ => XS.aloadN H1.here hx rfl (hb hby d9_5) rfl rfl k_) ?_
  show Go _ _ _ _ (T1.setTop (mkF m 6 #[.val (.ref a), .val (.int i)] [(.ref a), (.int i), (.ref b)]))
  refine own_getF H1 hx hZ hown (hw _ (List.mem_of_getElem? (i := 72) rfl)) F2 (g := (mkF m 6 #[.val (.ref a), .val (.int i)] [(.ref a), (.int i), (.ref b)])) rfl rfl (hb hby d9_6) ?_
  intro T2 H2
  show Go _ _ _ _ (T2.setTop (mkF m 9 #[.val (.ref a), .val (.int i)] [(.int z), (.int i), (.ref b)]))
  refine own_callS H2 hx hZ (y := (⟨"java/util/Objects", "checkIndex", "(II)I"⟩ : MethodName)) hown (hw _ (List.mem_of_getElem? (i := 84) rfl)) (hw _ (List.mem_of_getElem? (i := 85) rfl)) (hw _ (List.mem_of_getElem? (i := 86) rfl)) (hw _ (List.mem_of_getElem? (i := 87) rfl)) (by decide) (rmCI l Z a0 hw i z h0 n0 h1 h2) (g := (mkF m 9 #[.val (.ref a), .val (.int i)] [(.int z), (.int i), (.ref b)])) rfl (by rw [hml]; rfl) (argsL := [(.int i), (.int z)]) (rest := [(.ref b)]) (lenOf pd_2 rfl) rfl 1 (Nat.le_of_eq rfl) (hb hby d9_9) (by decide) (by decide) (by decide) (by decide) ?_
  rintro _ T3 _ ⟨rfl, rfl⟩ H3
  show Go _ _ _ _ (T3.setTop (mkF m 12 #[.val (.ref a), .val (.int i)] [(.int i), (.ref b)]))
  refine own_ldIA H3 hx hZ A (j := j) hj hj2 (g := (mkF m 12 #[.val (.ref a), .val (.int i)] [(.int i), (.ref b)])) rfl rfl (hb hby d9_12) ?_
  show Go _ _ _ _ (T3.setTop (mkF m 13 #[.val (.ref a), .val (.int i)] [(.int (D j))]))
  exact own_retI H3 hx hlk hret (hb hby d9_13) ⟨by rw [hv], rfl⟩ (by decide) (by decide)
theorem d10_0 : decode prog_48_method_5_code 0 = .ok (.iload_n 1, 1) := by decide +kernel
theorem d10_1 : decode prog_48_method_5_code 1 = .ok (.iload_n 2, 1) := by decide +kernel
theorem d10_2 : decode prog_48_method_5_code 2 = .ok (.aload_n 0, 1) := by decide +kernel
theorem d10_3 : decode prog_48_method_5_code 3 = .ok (.getfield 32, 3) := by decide +kernel
theorem d10_6 : decode prog_48_method_5_code 6 = .ok (.invokestatic 42, 3) := by decide +kernel
theorem d10_9 : decode prog_48_method_5_code 9 = .ok (.pop, 1) := by decide +kernel
theorem d10_10 : decode prog_48_method_5_code 10 = .ok (.aload_n 0, 1) := by decide +kernel
theorem d10_11 : decode prog_48_method_5_code 11 = .ok (.getfield 26, 3) := by decide +kernel
theorem d10_14 : decode prog_48_method_5_code 14 = .ok (.iload_n 1, 1) := by decide +kernel
theorem d10_15 : decode prog_48_method_5_code 15 = .ok (.iload_n 2, 1) := by decide +kernel
theorem d10_16 : decode prog_48_method_5_code 16 = .ok (.invokestatic 46, 3) := by decide +kernel
theorem d10_19 : decode prog_48_method_5_code 19 = .ok (.aload_n 0, 1) := by decide +kernel
theorem d10_20 : decode prog_48_method_5_code 20 = .ok (.getfield 16, 3) := by decide +kernel
theorem d10_23 : decode prog_48_method_5_code 23 = .ok (.invokevirtual 50, 3) := by decide +kernel
theorem d10_26 : decode prog_48_method_5_code 26 = .ok (.aload_n 0, 1) := by decide +kernel
theorem d10_27 : decode prog_48_method_5_code 27 = .ok (.getfield 16, 3) := by decide +kernel
theorem d10_30 : decode prog_48_method_5_code 30 = .ok (.invokevirtual 56, 3) := by decide +kernel
theorem d10_33 : decode prog_48_method_5_code 33 = .ok (.invokestatic 59, 3) := by decide +kernel
theorem d10_36 : decode prog_48_method_5_code 36 = .ok (.dreturn, 1) := by decide +kernel
theorem ef_rmMX (m : MethodId) (x0 : Addr) (x1 : Int32) (x2 : Int32) : entryFrame m #[(.ref x0), (.int x1), (.int x2)] 3 = mkF m 0 #[.val (.ref x0), .val (.int x1), .val (.int x2)] [] := by first | (simp [entryFrame, mkF, argsToLocals, Value.category]; done) | rfl
theorem pd_3 : parseMethodDescriptor "(III)I" = some ⟨[.int, .int, .int], some .int⟩ := by decide +kernel
theorem pd_4 : parseMethodDescriptor "([III)I" = some ⟨[(.array .int), .int, .int], some .int⟩ := by decide +kernel
theorem pd_5 : parseMethodDescriptor "()D" = some ⟨[], some .double⟩ := by decide +kernel
theorem pd_6 : parseMethodDescriptor "(IDD)D" = some ⟨[.int, .double, .double], some .double⟩ := by decide +kernel
set_option maxRecDepth 65536 in
set_option maxHeartbeats 40000000 in
theorem rmMX (l : Launch) (Z : State) (a0 : Array Value) (hw : ∀ d ∈ tables_1, d.before a0 Z = true) (a b hd : Addr) (D : Nat → Int32) (i t z v' : Int32) (j : Nat) (h0 : Heap) (n0 : Nat) (F : Fld Z h0 a "com/example/neardb/neardb/index/PostingPage" "columns" "[I" (.ref b)) (F2 : Fld Z h0 a "com/example/neardb/neardb/index/PostingPage" "size" "I" (.int z)) (F3 : Fld Z h0 a "com/example/neardb/neardb/index/PostingPage" "header" "Lcom/example/neardb/neardb/index/Header;" (.ref hd)) (EH : Exa Z h0 hd "com/example/neardb/neardb/index/Header") (FL : Fld Z h0 hd "com/example/neardb/neardb/index/Header" "minX" "D" (.double (0 : UInt64))) (FH : Fld Z h0 hd "com/example/neardb/neardb/index/Header" "maxX" "D" (.double cH)) (A : Ab Z h0 b .int 2 D) (h1 : ¬ i < 0) (h2 : ¬ t < i) (h3 : ¬ z < t) (ht : i + 1 = t) (hj : i.toInt = (j : Int)) (hj2 : j < 2) (hv : D j = v') :
    CM l Z (⟨"com/example/neardb/neardb/index/PostingPage", "minX", "(II)D"⟩ : MethodName) prog_48_method_5_code 3 (some .double) ({ frames := 2, cells := 0, slots := 0, locals := 30 } : Room) #[(.ref a), (.int i), (.int t)] h0 n0 (fun v h => v = some (.double (FP.i2d v')) ∧ h0 = h) := by
  refine own_enter (by decide +kernel) ?_
  intro p e s m below meth c T0 hx hby hml hown hnm hZ hret hlk H0
  replace hown : s.vm.findClass "com/example/neardb/neardb/index/PostingPage" = some m.cls := hown
  replace hret : meth.sig.returnType = some .double := hret
  refine Go.via (fun t_ k_ => castTop (ef_rmMX m a i t) k_) ?_
  show Go _ _ _ _ (T0.setTop (mkF m 0 #[.val (.ref a), .val (.int i), .val (.int t)] []))
  refine Go.via (fun t_ k_ => XS.iloadN H0.here hx rfl (hb hby d10_0) rfl k_) ?_
  show Go _ _ _ _ (T0.setTop (mkF m 1 #[.val (.ref a), .val (.int i), .val (.int t)] [(.int i)]))
  refine Go.via (fun t_ k_ => XS.iloadN H0.here hx rfl (hb hby d10_1) rfl k_) ?_
  show Go _ _ _ _ (T0.setTop (mkF m 2 #[.val (.ref a), .val (.int i), .val (.int t)] [(.int t), (.int i)]))
  refine Go.via (fun t_ k_ => XS.aloadN H0.here hx rfl (hb hby d10_2) rfl rfl k_) ?_
  show Go _ _ _ _ (T0.setTop (mkF m 3 #[.val (.ref a), .val (.int i), .val (.int t)] [(.ref a), (.int t), (.int i)]))
  refine own_getF H0 hx hZ hown (hw _ (List.mem_of_getElem? (i := 72) rfl)) F2 (g := (mkF m 3 #[.val (.ref a), .val (.int i), .val (.int t)] [(.ref a), (.int t), (.int i)])) rfl rfl (hb hby d10_3) ?_
  intro T1 H1
  show Go _ _ _ _ (T1.setTop (mkF m 6 #[.val (.ref a), .val (.int i), .val (.int t)] [(.int z), (.int t), (.int i)]))
  refine own_callS H1 hx hZ (y := (⟨"java/util/Objects", "checkFromToIndex", "(III)I"⟩ : MethodName)) hown (hw _ (List.mem_of_getElem? (i := 102) rfl)) (hw _ (List.mem_of_getElem? (i := 103) rfl)) (hw _ (List.mem_of_getElem? (i := 86) rfl)) (hw _ (List.mem_of_getElem? (i := 104) rfl)) (by decide) (rmFI l Z a0 hw i t z h0 n0 h1 h2 h3) (g := (mkF m 6 #[.val (.ref a), .val (.int i), .val (.int t)] [(.int z), (.int t), (.int i)])) rfl (by rw [hml]; rfl) (argsL := [(.int i), (.int t), (.int z)]) (rest := []) (lenOf pd_3 rfl) rfl 0 (Nat.le_of_eq rfl) (hb hby d10_6) (by decide) (by decide) (by decide) (by decide) ?_
  rintro _ T2 _ ⟨rfl, rfl⟩ H2
  show Go _ _ _ _ (T2.setTop (mkF m 9 #[.val (.ref a), .val (.int i), .val (.int t)] [(.int i)]))
  refine Go.via (fun t_ k_ => XS.pop H2.here hx rfl (hb hby d10_9) rfl rfl k_) ?_
  show Go _ _ _ _ (T2.setTop (mkF m 10 #[.val (.ref a), .val (.int i), .val (.int t)] []))
  refine Go.via (fun t_ k_ => XS.aloadN H2.here hx rfl (hb hby d10_10) rfl rfl k_) ?_
  show Go _ _ _ _ (T2.setTop (mkF m 11 #[.val (.ref a), .val (.int i), .val (.int t)] [(.ref a)]))
  refine own_getF H2 hx hZ hown (hw _ (List.mem_of_getElem? (i := 63) rfl)) F (g := (mkF m 11 #[.val (.ref a), .val (.int i), .val (.int t)] [(.ref a)])) rfl rfl (hb hby d10_11) ?_
  intro T3 H3
  show Go _ _ _ _ (T3.setTop (mkF m 14 #[.val (.ref a), .val (.int i), .val (.int t)] [(.ref b)]))
  refine Go.via (fun t_ k_ => XS.iloadN H3.here hx rfl (hb hby d10_14) rfl k_) ?_
  show Go _ _ _ _ (T3.setTop (mkF m 15 #[.val (.ref a), .val (.int i), .val (.int t)] [(.int i), (.ref b)]))
  refine Go.via (fun t_ k_ => XS.iloadN H3.here hx rfl (hb hby d10_15) rfl k_) ?_
  show Go _ _ _ _ (T3.setTop (mkF m 16 #[.val (.ref a), .val (.int i), .val (.int t)] [(.int t), (.int i), (.ref b)]))
  refine own_callS H3 hx hZ (y := (⟨"com/example/neardb/neardb/index/PostingPage", "least", "([III)I"⟩ : MethodName)) hown (hw _ (List.mem_of_getElem? (i := 108) rfl)) (hw _ (List.mem_of_getElem? (i := 109) rfl)) (hw _ (List.mem_of_getElem? (i := 48) rfl)) (hw _ (List.mem_of_getElem? (i := 110) rfl)) (by decide) ((hv ▸ rmLe l Z a0 hw b D i t j h0 n0 A ht hj hj2 : CM l Z _ _ _ _ _ _ _ _ (fun v h => v = some (.int v') ∧ _))) (g := (mkF m 16 #[.val (.ref a), .val (.int i), .val (.int t)] [(.int t), (.int i), (.ref b)])) rfl (by rw [hml]; rfl) (argsL := [(.ref b), (.int i), (.int t)]) (rest := []) (lenOf pd_4 rfl) rfl 0 (Nat.le_of_eq rfl) (hb hby d10_16) (by decide) (by decide) (by decide) (by decide) ?_
  rintro _ T4 _ ⟨rfl, rfl⟩ H4
  show Go _ _ _ _ (T4.setTop (mkF m 19 #[.val (.ref a), .val (.int i), .val (.int t)] [(.int v')]))
  refine Go.via (fun t_ k_ => XS.aloadN H4.here hx rfl (hb hby d10_19) rfl rfl k_) ?_
  show Go _ _ _ _ (T4.setTop (mkF m 20 #[.val (.ref a), .val (.int i), .val (.int t)] [(.ref a), (.int v')]))
  refine own_getF H4 hx hZ hown (hw _ (List.mem_of_getElem? (i := 57) rfl)) F3 (g := (mkF m 20 #[.val (.ref a), .val (.int i), .val (.int t)] [(.ref a), (.int v')])) rfl rfl (hb hby d10_20) ?_
  intro T5 H5
  show Go _ _ _ _ (T5.setTop (mkF m 23 #[.val (.ref a), .val (.int i), .val (.int t)] [(.ref hd), (.int v')]))
  refine own_callV H5 hx hZ (C := "com/example/neardb/neardb/index/Header") (y := (⟨"com/example/neardb/neardb/index/Header", "minX", "()D"⟩ : MethodName)) (a := hd) hown (hw _ (List.mem_of_getElem? (i := 111) rfl)) (hw _ (List.mem_of_getElem? (i := 112) rfl)) (hw _ (List.mem_of_getElem? (i := 114) rfl)) (hw _ (List.mem_of_getElem? (i := 113) rfl)) (hw _ (List.mem_of_getElem? (i := 2) rfl)) (hw _ (List.mem_of_getElem? (i := 115) rfl)) (by decide) EH (rmHminX l Z a0 hw hd h0 n0 FL) (g := (mkF m 23 #[.val (.ref a), .val (.int i), .val (.int t)] [(.ref hd), (.int v')])) rfl (by rw [hml]; rfl) (argsL := []) (rest := [(.int v')]) (lenOf pd_5 rfl) rfl 1 (Nat.le_of_eq rfl) (hb hby d10_23) (by decide) (by decide) (by decide) (by decide) ?_
  rintro _ T6 _ ⟨rfl, rfl⟩ H6
  show Go _ _ _ _ (T6.setTop (mkF m 26 #[.val (.ref a), .val (.int i), .val (.int t)] [(.double (0 : UInt64)), (.int v')]))
  refine Go.via (fun t_ k_ => XS.aloadN H6.here hx rfl (hb hby d10_26) rfl rfl k_) ?_
  show Go _ _ _ _ (T6.setTop (mkF m 27 #[.val (.ref a), .val (.int i), .val (.int t)] [(.ref a), (.double (0 : UInt64)), (.int v')]))
  refine own_getF H6 hx hZ hown (hw _ (List.mem_of_getElem? (i := 57) rfl)) F3 (g := (mkF m 27 #[.val (.ref a), .val (.int i), .val (.int t)] [(.ref a), (.double (0 : UInt64)), (.int v')])) rfl rfl (hb hby d10_27) ?_
  intro T7 H7
  show Go _ _ _ _ (T7.setTop (mkF m 30 #[.val (.ref a), .val (.int i), .val (.int t)] [(.ref hd), (.double (0 : UInt64)), (.int v')]))
  refine own_callV H7 hx hZ (C := "com/example/neardb/neardb/index/Header") (y := (⟨"com/example/neardb/neardb/index/Header", "maxX", "()D"⟩ : MethodName)) (a := hd) hown (hw _ (List.mem_of_getElem? (i := 116) rfl)) (hw _ (List.mem_of_getElem? (i := 117) rfl)) (hw _ (List.mem_of_getElem? (i := 119) rfl)) (hw _ (List.mem_of_getElem? (i := 118) rfl)) (hw _ (List.mem_of_getElem? (i := 2) rfl)) (hw _ (List.mem_of_getElem? (i := 120) rfl)) (by decide) EH (rmHmaxX l Z a0 hw hd h0 n0 FH) (g := (mkF m 30 #[.val (.ref a), .val (.int i), .val (.int t)] [(.ref hd), (.double (0 : UInt64)), (.int v')])) rfl (by rw [hml]; rfl) (argsL := []) (rest := [(.double (0 : UInt64)), (.int v')]) (lenOf pd_5 rfl) rfl 3 (Nat.le_of_eq rfl) (hb hby d10_30) (by decide) (by decide) (by decide) (by decide) ?_
  rintro _ T8 _ ⟨rfl, rfl⟩ H8
  show Go _ _ _ _ (T8.setTop (mkF m 33 #[.val (.ref a), .val (.int i), .val (.int t)] [(.double cH), (.double (0 : UInt64)), (.int v')]))
  refine own_callS H8 hx hZ (y := (⟨"com/example/neardb/neardb/index/Grid", "edge", "(IDD)D"⟩ : MethodName)) hown (hw _ (List.mem_of_getElem? (i := 121) rfl)) (hw _ (List.mem_of_getElem? (i := 122) rfl)) (hw _ (List.mem_of_getElem? (i := 123) rfl)) (hw _ (List.mem_of_getElem? (i := 124) rfl)) (by decide) (rmEd l Z a0 hw v' h0 n0) (g := (mkF m 33 #[.val (.ref a), .val (.int i), .val (.int t)] [(.double cH), (.double (0 : UInt64)), (.int v')])) rfl (by rw [hml]; rfl) (argsL := [(.int v'), (.double (0 : UInt64)), (.double cH)]) (rest := []) (lenOf pd_6 rfl) rfl 0 (Nat.le_of_eq rfl) (hb hby d10_33) (by decide) (by decide) (by decide) (by decide) ?_
  rintro _ T9 _ ⟨rfl, rfl⟩ H9
  show Go _ _ _ _ (T9.setTop (mkF m 36 #[.val (.ref a), .val (.int i), .val (.int t)] [(.double (FP.i2d v'))]))
  exact own_retD H9 hx hlk hret (hb hby d10_36) ⟨rfl, rfl⟩ (by decide) (by decide)
theorem d17_0 : decode prog_48_method_6_code 0 = .ok (.iload_n 1, 1) := by decide +kernel
theorem d17_1 : decode prog_48_method_6_code 1 = .ok (.iload_n 2, 1) := by decide +kernel
theorem d17_2 : decode prog_48_method_6_code 2 = .ok (.aload_n 0, 1) := by decide +kernel
theorem d17_3 : decode prog_48_method_6_code 3 = .ok (.getfield 32, 3) := by decide +kernel
theorem d17_6 : decode prog_48_method_6_code 6 = .ok (.invokestatic 42, 3) := by decide +kernel
theorem d17_9 : decode prog_48_method_6_code 9 = .ok (.pop, 1) := by decide +kernel
theorem d17_10 : decode prog_48_method_6_code 10 = .ok (.aload_n 0, 1) := by decide +kernel
theorem d17_11 : decode prog_48_method_6_code 11 = .ok (.getfield 29, 3) := by decide +kernel
theorem d17_14 : decode prog_48_method_6_code 14 = .ok (.iload_n 1, 1) := by decide +kernel
theorem d17_15 : decode prog_48_method_6_code 15 = .ok (.iload_n 2, 1) := by decide +kernel
theorem d17_16 : decode prog_48_method_6_code 16 = .ok (.invokestatic 46, 3) := by decide +kernel
theorem d17_19 : decode prog_48_method_6_code 19 = .ok (.aload_n 0, 1) := by decide +kernel
theorem d17_20 : decode prog_48_method_6_code 20 = .ok (.getfield 16, 3) := by decide +kernel
theorem d17_23 : decode prog_48_method_6_code 23 = .ok (.invokevirtual 65, 3) := by decide +kernel
theorem d17_26 : decode prog_48_method_6_code 26 = .ok (.aload_n 0, 1) := by decide +kernel
theorem d17_27 : decode prog_48_method_6_code 27 = .ok (.getfield 16, 3) := by decide +kernel
theorem d17_30 : decode prog_48_method_6_code 30 = .ok (.invokevirtual 68, 3) := by decide +kernel
theorem d17_33 : decode prog_48_method_6_code 33 = .ok (.invokestatic 59, 3) := by decide +kernel
theorem d17_36 : decode prog_48_method_6_code 36 = .ok (.dreturn, 1) := by decide +kernel
theorem ef_rmMY (m : MethodId) (x0 : Addr) (x1 : Int32) (x2 : Int32) : entryFrame m #[(.ref x0), (.int x1), (.int x2)] 3 = mkF m 0 #[.val (.ref x0), .val (.int x1), .val (.int x2)] [] := by first | (simp [entryFrame, mkF, argsToLocals, Value.category]; done) | rfl
set_option maxRecDepth 65536 in
set_option maxHeartbeats 40000000 in
theorem rmMY (l : Launch) (Z : State) (a0 : Array Value) (hw : ∀ d ∈ tables_1, d.before a0 Z = true) (a b hd : Addr) (D : Nat → Int32) (i t z v' : Int32) (j : Nat) (h0 : Heap) (n0 : Nat) (F : Fld Z h0 a "com/example/neardb/neardb/index/PostingPage" "rows" "[I" (.ref b)) (F2 : Fld Z h0 a "com/example/neardb/neardb/index/PostingPage" "size" "I" (.int z)) (F3 : Fld Z h0 a "com/example/neardb/neardb/index/PostingPage" "header" "Lcom/example/neardb/neardb/index/Header;" (.ref hd)) (EH : Exa Z h0 hd "com/example/neardb/neardb/index/Header") (FL : Fld Z h0 hd "com/example/neardb/neardb/index/Header" "minY" "D" (.double (0 : UInt64))) (FH : Fld Z h0 hd "com/example/neardb/neardb/index/Header" "maxY" "D" (.double cH)) (A : Ab Z h0 b .int 2 D) (h1 : ¬ i < 0) (h2 : ¬ t < i) (h3 : ¬ z < t) (ht : i + 1 = t) (hj : i.toInt = (j : Int)) (hj2 : j < 2) (hv : D j = v') :
    CM l Z (⟨"com/example/neardb/neardb/index/PostingPage", "minY", "(II)D"⟩ : MethodName) prog_48_method_6_code 3 (some .double) ({ frames := 2, cells := 0, slots := 0, locals := 30 } : Room) #[(.ref a), (.int i), (.int t)] h0 n0 (fun v h => v = some (.double (FP.i2d v')) ∧ h0 = h) := by
  refine own_enter (by decide +kernel) ?_
  intro p e s m below meth c T0 hx hby hml hown hnm hZ hret hlk H0
  replace hown : s.vm.findClass "com/example/neardb/neardb/index/PostingPage" = some m.cls := hown
  replace hret : meth.sig.returnType = some .double := hret
  refine Go.via (fun t_ k_ => castTop (ef_rmMY m a i t) k_) ?_
  show Go _ _ _ _ (T0.setTop (mkF m 0 #[.val (.ref a), .val (.int i), .val (.int t)] []))
  refine Go.via (fun t_ k_ => XS.iloadN H0.here hx rfl (hb hby d17_0) rfl k_) ?_
  show Go _ _ _ _ (T0.setTop (mkF m 1 #[.val (.ref a), .val (.int i), .val (.int t)] [(.int i)]))
  refine Go.via (fun t_ k_ => XS.iloadN H0.here hx rfl (hb hby d17_1) rfl k_) ?_
  show Go _ _ _ _ (T0.setTop (mkF m 2 #[.val (.ref a), .val (.int i), .val (.int t)] [(.int t), (.int i)]))
  refine Go.via (fun t_ k_ => XS.aloadN H0.here hx rfl (hb hby d17_2) rfl rfl k_) ?_
  show Go _ _ _ _ (T0.setTop (mkF m 3 #[.val (.ref a), .val (.int i), .val (.int t)] [(.ref a), (.int t), (.int i)]))
  refine own_getF H0 hx hZ hown (hw _ (List.mem_of_getElem? (i := 72) rfl)) F2 (g := (mkF m 3 #[.val (.ref a), .val (.int i), .val (.int t)] [(.ref a), (.int t), (.int i)])) rfl rfl (hb hby d17_3) ?_
  intro T1 H1
  show Go _ _ _ _ (T1.setTop (mkF m 6 #[.val (.ref a), .val (.int i), .val (.int t)] [(.int z), (.int t), (.int i)]))
  refine own_callS H1 hx hZ (y := (⟨"java/util/Objects", "checkFromToIndex", "(III)I"⟩ : MethodName)) hown (hw _ (List.mem_of_getElem? (i := 102) rfl)) (hw _ (List.mem_of_getElem? (i := 103) rfl)) (hw _ (List.mem_of_getElem? (i := 86) rfl)) (hw _ (List.mem_of_getElem? (i := 104) rfl)) (by decide) (rmFI l Z a0 hw i t z h0 n0 h1 h2 h3) (g := (mkF m 6 #[.val (.ref a), .val (.int i), .val (.int t)] [(.int z), (.int t), (.int i)])) rfl (by rw [hml]; rfl) (argsL := [(.int i), (.int t), (.int z)]) (rest := []) (lenOf pd_3 rfl) rfl 0 (Nat.le_of_eq rfl) (hb hby d17_6) (by decide) (by decide) (by decide) (by decide) ?_
  rintro _ T2 _ ⟨rfl, rfl⟩ H2
  show Go _ _ _ _ (T2.setTop (mkF m 9 #[.val (.ref a), .val (.int i), .val (.int t)] [(.int i)]))
  refine Go.via (fun t_ k_ => XS.pop H2.here hx rfl (hb hby d17_9) rfl rfl k_) ?_
  show Go _ _ _ _ (T2.setTop (mkF m 10 #[.val (.ref a), .val (.int i), .val (.int t)] []))
  refine Go.via (fun t_ k_ => XS.aloadN H2.here hx rfl (hb hby d17_10) rfl rfl k_) ?_
  show Go _ _ _ _ (T2.setTop (mkF m 11 #[.val (.ref a), .val (.int i), .val (.int t)] [(.ref a)]))
  refine own_getF H2 hx hZ hown (hw _ (List.mem_of_getElem? (i := 65) rfl)) F (g := (mkF m 11 #[.val (.ref a), .val (.int i), .val (.int t)] [(.ref a)])) rfl rfl (hb hby d17_11) ?_
  intro T3 H3
  show Go _ _ _ _ (T3.setTop (mkF m 14 #[.val (.ref a), .val (.int i), .val (.int t)] [(.ref b)]))
  refine Go.via (fun t_ k_ => XS.iloadN H3.here hx rfl (hb hby d17_14) rfl k_) ?_
  show Go _ _ _ _ (T3.setTop (mkF m 15 #[.val (.ref a), .val (.int i), .val (.int t)] [(.int i), (.ref b)]))
  refine Go.via (fun t_ k_ => XS.iloadN H3.here hx rfl (hb hby d17_15) rfl k_) ?_
  show Go _ _ _ _ (T3.setTop (mkF m 16 #[.val (.ref a), .val (.int i), .val (.int t)] [(.int t), (.int i), (.ref b)]))
  refine own_callS H3 hx hZ (y := (⟨"com/example/neardb/neardb/index/PostingPage", "least", "([III)I"⟩ : MethodName)) hown (hw _ (List.mem_of_getElem? (i := 108) rfl)) (hw _ (List.mem_of_getElem? (i := 109) rfl)) (hw _ (List.mem_of_getElem? (i := 48) rfl)) (hw _ (List.mem_of_getElem? (i := 110) rfl)) (by decide) ((hv ▸ rmLe l Z a0 hw b D i t j h0 n0 A ht hj hj2 : CM l Z _ _ _ _ _ _ _ _ (fun v h => v = some (.int v') ∧ _))) (g := (mkF m 16 #[.val (.ref a), .val (.int i), .val (.int t)] [(.int t), (.int i), (.ref b)])) rfl (by rw [hml]; rfl) (argsL := [(.ref b), (.int i), (.int t)]) (rest := []) (lenOf pd_4 rfl) rfl 0 (Nat.le_of_eq rfl) (hb hby d17_16) (by decide) (by decide) (by decide) (by decide) ?_
  rintro _ T4 _ ⟨rfl, rfl⟩ H4
  show Go _ _ _ _ (T4.setTop (mkF m 19 #[.val (.ref a), .val (.int i), .val (.int t)] [(.int v')]))
  refine Go.via (fun t_ k_ => XS.aloadN H4.here hx rfl (hb hby d17_19) rfl rfl k_) ?_
  show Go _ _ _ _ (T4.setTop (mkF m 20 #[.val (.ref a), .val (.int i), .val (.int t)] [(.ref a), (.int v')]))
  refine own_getF H4 hx hZ hown (hw _ (List.mem_of_getElem? (i := 57) rfl)) F3 (g := (mkF m 20 #[.val (.ref a), .val (.int i), .val (.int t)] [(.ref a), (.int v')])) rfl rfl (hb hby d17_20) ?_
  intro T5 H5
  show Go _ _ _ _ (T5.setTop (mkF m 23 #[.val (.ref a), .val (.int i), .val (.int t)] [(.ref hd), (.int v')]))
  refine own_callV H5 hx hZ (C := "com/example/neardb/neardb/index/Header") (y := (⟨"com/example/neardb/neardb/index/Header", "minY", "()D"⟩ : MethodName)) (a := hd) hown (hw _ (List.mem_of_getElem? (i := 132) rfl)) (hw _ (List.mem_of_getElem? (i := 133) rfl)) (hw _ (List.mem_of_getElem? (i := 135) rfl)) (hw _ (List.mem_of_getElem? (i := 134) rfl)) (hw _ (List.mem_of_getElem? (i := 2) rfl)) (hw _ (List.mem_of_getElem? (i := 136) rfl)) (by decide) EH (rmHminY l Z a0 hw hd h0 n0 FL) (g := (mkF m 23 #[.val (.ref a), .val (.int i), .val (.int t)] [(.ref hd), (.int v')])) rfl (by rw [hml]; rfl) (argsL := []) (rest := [(.int v')]) (lenOf pd_5 rfl) rfl 1 (Nat.le_of_eq rfl) (hb hby d17_23) (by decide) (by decide) (by decide) (by decide) ?_
  rintro _ T6 _ ⟨rfl, rfl⟩ H6
  show Go _ _ _ _ (T6.setTop (mkF m 26 #[.val (.ref a), .val (.int i), .val (.int t)] [(.double (0 : UInt64)), (.int v')]))
  refine Go.via (fun t_ k_ => XS.aloadN H6.here hx rfl (hb hby d17_26) rfl rfl k_) ?_
  show Go _ _ _ _ (T6.setTop (mkF m 27 #[.val (.ref a), .val (.int i), .val (.int t)] [(.ref a), (.double (0 : UInt64)), (.int v')]))
  refine own_getF H6 hx hZ hown (hw _ (List.mem_of_getElem? (i := 57) rfl)) F3 (g := (mkF m 27 #[.val (.ref a), .val (.int i), .val (.int t)] [(.ref a), (.double (0 : UInt64)), (.int v')])) rfl rfl (hb hby d17_27) ?_
  intro T7 H7
  show Go _ _ _ _ (T7.setTop (mkF m 30 #[.val (.ref a), .val (.int i), .val (.int t)] [(.ref hd), (.double (0 : UInt64)), (.int v')]))
  refine own_callV H7 hx hZ (C := "com/example/neardb/neardb/index/Header") (y := (⟨"com/example/neardb/neardb/index/Header", "maxY", "()D"⟩ : MethodName)) (a := hd) hown (hw _ (List.mem_of_getElem? (i := 137) rfl)) (hw _ (List.mem_of_getElem? (i := 138) rfl)) (hw _ (List.mem_of_getElem? (i := 140) rfl)) (hw _ (List.mem_of_getElem? (i := 139) rfl)) (hw _ (List.mem_of_getElem? (i := 2) rfl)) (hw _ (List.mem_of_getElem? (i := 141) rfl)) (by decide) EH (rmHmaxY l Z a0 hw hd h0 n0 FH) (g := (mkF m 30 #[.val (.ref a), .val (.int i), .val (.int t)] [(.ref hd), (.double (0 : UInt64)), (.int v')])) rfl (by rw [hml]; rfl) (argsL := []) (rest := [(.double (0 : UInt64)), (.int v')]) (lenOf pd_5 rfl) rfl 3 (Nat.le_of_eq rfl) (hb hby d17_30) (by decide) (by decide) (by decide) (by decide) ?_
  rintro _ T8 _ ⟨rfl, rfl⟩ H8
  show Go _ _ _ _ (T8.setTop (mkF m 33 #[.val (.ref a), .val (.int i), .val (.int t)] [(.double cH), (.double (0 : UInt64)), (.int v')]))
  refine own_callS H8 hx hZ (y := (⟨"com/example/neardb/neardb/index/Grid", "edge", "(IDD)D"⟩ : MethodName)) hown (hw _ (List.mem_of_getElem? (i := 121) rfl)) (hw _ (List.mem_of_getElem? (i := 122) rfl)) (hw _ (List.mem_of_getElem? (i := 123) rfl)) (hw _ (List.mem_of_getElem? (i := 124) rfl)) (by decide) (rmEd l Z a0 hw v' h0 n0) (g := (mkF m 33 #[.val (.ref a), .val (.int i), .val (.int t)] [(.double cH), (.double (0 : UInt64)), (.int v')])) rfl (by rw [hml]; rfl) (argsL := [(.int v'), (.double (0 : UInt64)), (.double cH)]) (rest := []) (lenOf pd_6 rfl) rfl 0 (Nat.le_of_eq rfl) (hb hby d17_33) (by decide) (by decide) (by decide) (by decide) ?_
  rintro _ T9 _ ⟨rfl, rfl⟩ H9
  show Go _ _ _ _ (T9.setTop (mkF m 36 #[.val (.ref a), .val (.int i), .val (.int t)] [(.double (FP.i2d v'))]))
  exact own_retD H9 hx hlk hret (hb hby d17_36) ⟨rfl, rfl⟩ (by decide) (by decide)
theorem ef_rm0 (m : MethodId) (x0 : Int32) (x1 : Int32) (x2 : Int32) (x3 : Int32) (x4 : Int32) : entryFrame m #[(.int x0), (.int x1), (.int x2), (.int x3), (.int x4)] maxLocals = mkF m 0 #[.val (.int x0), .val (.int x1), .val (.int x2), .val (.int x3), .val (.int x4), .unset, .unset, .unset, .unset] [] := by first | (simp [entryFrame, mkF, argsToLocals, Value.category, maxLocals]; done) | rfl
theorem pd_7 : parseMethodDescriptor "(JJDDDDJZDDIZ[I)V" = some ⟨[.long, .long, .double, .double, .double, .double, .long, .boolean, .double, .double, .int, .boolean, (.array .int)], none⟩ := by decide +kernel
theorem pd_8 : parseMethodDescriptor "(Lcom/example/neardb/neardb/index/Header;I)V" = some ⟨[(.object "com/example/neardb/neardb/index/Header"), .int], none⟩ := by decide +kernel
theorem pd_9 : parseMethodDescriptor "(IIII)V" = some ⟨[.int, .int, .int, .int], none⟩ := by decide +kernel
theorem pd_10 : parseMethodDescriptor "()I" = some ⟨[], some .int⟩ := by decide +kernel
theorem pd_11 : parseMethodDescriptor "(I)I" = some ⟨[.int], some .int⟩ := by decide +kernel
theorem pd_12 : parseMethodDescriptor "(II)D" = some ⟨[.int, .int], some .double⟩ := by decide +kernel
set_option maxRecDepth 65536 in
set_option maxHeartbeats 40000000 in
theorem rm0 (l : Launch) (Z : State) (a0 : Array Value) (hw : ∀ d ∈ tables_1, d.before a0 Z = true) (p1 p2 p3 p4 p5 : Int32) (h0 : Heap) (n0 : Nat) (Z0 : n0 ≤ h0.size) :
    CM l Z x code maxLocals ret room_1 #[(.int p1), (.int p2), (.int p3), (.int p4), (.int p5)] h0 n0 (fun v h => v = some (.int (1 : Int32))) := by
  refine own_enter (by decide +kernel) ?_
  intro p e s m below meth c T0 hx hby hml hown hnm hZ hret hlk H0
  replace hown : s.vm.findClass "com/example/neardb/neardb/index/PostingPageAddPinLaw" = some m.cls := hown
  replace hret : meth.sig.returnType = some .boolean := hret
  replace hml : c.maxLocals = 9 := hml
  refine Go.via (fun t_ k_ => castTop (ef_rm0 m p1 p2 p3 p4 p5) k_) ?_
  show Go _ _ _ _ (T0.setTop (mkF m 0 #[.val (.int p1), .val (.int p2), .val (.int p3), .val (.int p4), .val (.int p5), .unset, .unset, .unset, .unset] []))
  refine own_newO H0 hx hZ hown (hw _ (List.mem_of_getElem? (i := 0) rfl)) (hw _ (List.mem_of_getElem? (i := 1) rfl)) (hw _ (List.mem_of_getElem? (i := 2) rfl)) (g := (mkF m 0 #[.val (.int p1), .val (.int p2), .val (.int p3), .val (.int p4), .val (.int p5), .unset, .unset, .unset, .unset] [])) rfl (hb hby at_0) (by decide) (by decide) ?_
  intro T1 h1 a1 ga1 E1 A1 D1 H1
  have g_a1 : n0 ≤ a1 := by rw [ga1]; exact Z0
  have sz1 : n0 ≤ h1.size := Nat.le_trans Z0 E1.1
  have F1_objectCount : Fld Z h1 a1 "com/example/neardb/neardb/index/Header" "objectCount" "J" (.long (0 : Int64)) := D1 (Or.inr (hw _ (List.mem_of_getElem? (i := 12) rfl))) (ty := .long) (by decide)
  have F1_termCount : Fld Z h1 a1 "com/example/neardb/neardb/index/Header" "termCount" "J" (.long (0 : Int64)) := D1 (Or.inr (hw _ (List.mem_of_getElem? (i := 14) rfl))) (ty := .long) (by decide)
  have F1_minX : Fld Z h1 a1 "com/example/neardb/neardb/index/Header" "minX" "D" (.double (0 : UInt64)) := D1 (Or.inr (hw _ (List.mem_of_getElem? (i := 16) rfl))) (ty := .double) (by decide)
  have F1_minY : Fld Z h1 a1 "com/example/neardb/neardb/index/Header" "minY" "D" (.double (0 : UInt64)) := D1 (Or.inr (hw _ (List.mem_of_getElem? (i := 18) rfl))) (ty := .double) (by decide)
  have F1_maxX : Fld Z h1 a1 "com/example/neardb/neardb/index/Header" "maxX" "D" (.double (0 : UInt64)) := D1 (Or.inr (hw _ (List.mem_of_getElem? (i := 20) rfl))) (ty := .double) (by decide)
  have F1_maxY : Fld Z h1 a1 "com/example/neardb/neardb/index/Header" "maxY" "D" (.double (0 : UInt64)) := D1 (Or.inr (hw _ (List.mem_of_getElem? (i := 22) rfl))) (ty := .double) (by decide)
  have F1_postingBytes : Fld Z h1 a1 "com/example/neardb/neardb/index/Header" "postingBytes" "J" (.long (0 : Int64)) := D1 (Or.inr (hw _ (List.mem_of_getElem? (i := 24) rfl))) (ty := .long) (by decide)
  have F1_hasValues : Fld Z h1 a1 "com/example/neardb/neardb/index/Header" "hasValues" "Z" (.int (0 : Int32)) := D1 (Or.inr (hw _ (List.mem_of_getElem? (i := 26) rfl))) (ty := .boolean) (by decide)
  have F1_minValue : Fld Z h1 a1 "com/example/neardb/neardb/index/Header" "minValue" "D" (.double (0 : UInt64)) := D1 (Or.inr (hw _ (List.mem_of_getElem? (i := 28) rfl))) (ty := .double) (by decide)
  have F1_maxValue : Fld Z h1 a1 "com/example/neardb/neardb/index/Header" "maxValue" "D" (.double (0 : UInt64)) := D1 (Or.inr (hw _ (List.mem_of_getElem? (i := 30) rfl))) (ty := .double) (by decide)
  have F1_numberCount : Fld Z h1 a1 "com/example/neardb/neardb/index/Header" "numberCount" "I" (.int (0 : Int32)) := D1 (Or.inr (hw _ (List.mem_of_getElem? (i := 32) rfl))) (ty := .int) (by decide)
  have F1_keepsNumbers : Fld Z h1 a1 "com/example/neardb/neardb/index/Header" "keepsNumbers" "Z" (.int (0 : Int32)) := D1 (Or.inr (hw _ (List.mem_of_getElem? (i := 34) rfl))) (ty := .boolean) (by decide)
  have F1_segments : Fld Z h1 a1 "com/example/neardb/neardb/index/Header" "segments" "[I" .null := D1 (Or.inr (hw _ (List.mem_of_getElem? (i := 45) rfl))) (ty := (.array .int)) (by decide)
  show Go _ _ _ _ (T1.setTop (mkF m 3 #[.val (.int p1), .val (.int p2), .val (.int p3), .val (.int p4), .val (.int p5), .unset, .unset, .unset, .unset] [(.ref a1)]))
  refine Go.via (fun t_ k_ => XS.dup H1.here hx rfl (hb hby at_3) rfl rfl k_) ?_
  show Go _ _ _ _ (T1.setTop (mkF m 4 #[.val (.int p1), .val (.int p2), .val (.int p3), .val (.int p4), .val (.int p5), .unset, .unset, .unset, .unset] [(.ref a1), (.ref a1)]))
  refine Go.via (fun t_ k_ => XS.lconst H1.here hx rfl (hb hby at_4) k_) ?_
  show Go _ _ _ _ (T1.setTop (mkF m 5 #[.val (.int p1), .val (.int p2), .val (.int p3), .val (.int p4), .val (.int p5), .unset, .unset, .unset, .unset] [(.long (0 : Int64)), (.ref a1), (.ref a1)]))
  refine Go.via (fun t_ k_ => XS.lconst H1.here hx rfl (hb hby at_5) k_) ?_
  show Go _ _ _ _ (T1.setTop (mkF m 6 #[.val (.int p1), .val (.int p2), .val (.int p3), .val (.int p4), .val (.int p5), .unset, .unset, .unset, .unset] [(.long (0 : Int64)), (.long (0 : Int64)), (.ref a1), (.ref a1)]))
  refine Go.via (fun t_ k_ => own_dconst0 H1.here hx rfl (hb hby at_6) k_) ?_
  show Go _ _ _ _ (T1.setTop (mkF m 7 #[.val (.int p1), .val (.int p2), .val (.int p3), .val (.int p4), .val (.int p5), .unset, .unset, .unset, .unset] [(.double (0 : UInt64)), (.long (0 : Int64)), (.long (0 : Int64)), (.ref a1), (.ref a1)]))
  refine Go.via (fun t_ k_ => own_dconst0 H1.here hx rfl (hb hby at_7) k_) ?_
  show Go _ _ _ _ (T1.setTop (mkF m 8 #[.val (.int p1), .val (.int p2), .val (.int p3), .val (.int p4), .val (.int p5), .unset, .unset, .unset, .unset] [(.double (0 : UInt64)), (.double (0 : UInt64)), (.long (0 : Int64)), (.long (0 : Int64)), (.ref a1), (.ref a1)]))
  refine own_ldcD H1 hx hZ hown (v := cH) (hw _ (List.mem_of_getElem? (i := 3) rfl)) (g := (mkF m 8 #[.val (.int p1), .val (.int p2), .val (.int p3), .val (.int p4), .val (.int p5), .unset, .unset, .unset, .unset] [(.double (0 : UInt64)), (.double (0 : UInt64)), (.long (0 : Int64)), (.long (0 : Int64)), (.ref a1), (.ref a1)])) rfl (hb hby at_8) ?_
  show Go _ _ _ _ (T1.setTop (mkF m 11 #[.val (.int p1), .val (.int p2), .val (.int p3), .val (.int p4), .val (.int p5), .unset, .unset, .unset, .unset] [(.double cH), (.double (0 : UInt64)), (.double (0 : UInt64)), (.long (0 : Int64)), (.long (0 : Int64)), (.ref a1), (.ref a1)]))
  refine own_ldcD H1 hx hZ hown (v := cH) (hw _ (List.mem_of_getElem? (i := 3) rfl)) (g := (mkF m 11 #[.val (.int p1), .val (.int p2), .val (.int p3), .val (.int p4), .val (.int p5), .unset, .unset, .unset, .unset] [(.double cH), (.double (0 : UInt64)), (.double (0 : UInt64)), (.long (0 : Int64)), (.long (0 : Int64)), (.ref a1), (.ref a1)])) rfl (hb hby at_11) ?_
  show Go _ _ _ _ (T1.setTop (mkF m 14 #[.val (.int p1), .val (.int p2), .val (.int p3), .val (.int p4), .val (.int p5), .unset, .unset, .unset, .unset] [(.double cH), (.double cH), (.double (0 : UInt64)), (.double (0 : UInt64)), (.long (0 : Int64)), (.long (0 : Int64)), (.ref a1), (.ref a1)]))
  refine Go.via (fun t_ k_ => XS.lconst H1.here hx rfl (hb hby at_14) k_) ?_
  show Go _ _ _ _ (T1.setTop (mkF m 15 #[.val (.int p1), .val (.int p2), .val (.int p3), .val (.int p4), .val (.int p5), .unset, .unset, .unset, .unset] [(.long (0 : Int64)), (.double cH), (.double cH), (.double (0 : UInt64)), (.double (0 : UInt64)), (.long (0 : Int64)), (.long (0 : Int64)), (.ref a1), (.ref a1)]))
  refine Go.via (fun t_ k_ => XS.iconst H1.here hx rfl (hb hby at_15) k_) ?_
  show Go _ _ _ _ (T1.setTop (mkF m 16 #[.val (.int p1), .val (.int p2), .val (.int p3), .val (.int p4), .val (.int p5), .unset, .unset, .unset, .unset] [(.int (0 : Int32)), (.long (0 : Int64)), (.double cH), (.double cH), (.double (0 : UInt64)), (.double (0 : UInt64)), (.long (0 : Int64)), (.long (0 : Int64)), (.ref a1), (.ref a1)]))
  refine Go.via (fun t_ k_ => own_dconst0 H1.here hx rfl (hb hby at_16) k_) ?_
  show Go _ _ _ _ (T1.setTop (mkF m 17 #[.val (.int p1), .val (.int p2), .val (.int p3), .val (.int p4), .val (.int p5), .unset, .unset, .unset, .unset] [(.double (0 : UInt64)), (.int (0 : Int32)), (.long (0 : Int64)), (.double cH), (.double cH), (.double (0 : UInt64)), (.double (0 : UInt64)), (.long (0 : Int64)), (.long (0 : Int64)), (.ref a1), (.ref a1)]))
  refine Go.via (fun t_ k_ => own_dconst0 H1.here hx rfl (hb hby at_17) k_) ?_
  show Go _ _ _ _ (T1.setTop (mkF m 18 #[.val (.int p1), .val (.int p2), .val (.int p3), .val (.int p4), .val (.int p5), .unset, .unset, .unset, .unset] [(.double (0 : UInt64)), (.double (0 : UInt64)), (.int (0 : Int32)), (.long (0 : Int64)), (.double cH), (.double cH), (.double (0 : UInt64)), (.double (0 : UInt64)), (.long (0 : Int64)), (.long (0 : Int64)), (.ref a1), (.ref a1)]))
  refine Go.via (fun t_ k_ => XS.iconst H1.here hx rfl (hb hby at_18) k_) ?_
  show Go _ _ _ _ (T1.setTop (mkF m 19 #[.val (.int p1), .val (.int p2), .val (.int p3), .val (.int p4), .val (.int p5), .unset, .unset, .unset, .unset] [(.int (-1 : Int32)), (.double (0 : UInt64)), (.double (0 : UInt64)), (.int (0 : Int32)), (.long (0 : Int64)), (.double cH), (.double cH), (.double (0 : UInt64)), (.double (0 : UInt64)), (.long (0 : Int64)), (.long (0 : Int64)), (.ref a1), (.ref a1)]))
  refine Go.via (fun t_ k_ => XS.iconst H1.here hx rfl (hb hby at_19) k_) ?_
  show Go _ _ _ _ (T1.setTop (mkF m 20 #[.val (.int p1), .val (.int p2), .val (.int p3), .val (.int p4), .val (.int p5), .unset, .unset, .unset, .unset] [(.int (0 : Int32)), (.int (-1 : Int32)), (.double (0 : UInt64)), (.double (0 : UInt64)), (.int (0 : Int32)), (.long (0 : Int64)), (.double cH), (.double cH), (.double (0 : UInt64)), (.double (0 : UInt64)), (.long (0 : Int64)), (.long (0 : Int64)), (.ref a1), (.ref a1)]))
  refine Go.via (fun t_ k_ => XS.iconst H1.here hx rfl (hb hby at_20) k_) ?_
  show Go _ _ _ _ (T1.setTop (mkF m 21 #[.val (.int p1), .val (.int p2), .val (.int p3), .val (.int p4), .val (.int p5), .unset, .unset, .unset, .unset] [(.int (0 : Int32)), (.int (0 : Int32)), (.int (-1 : Int32)), (.double (0 : UInt64)), (.double (0 : UInt64)), (.int (0 : Int32)), (.long (0 : Int64)), (.double cH), (.double cH), (.double (0 : UInt64)), (.double (0 : UInt64)), (.long (0 : Int64)), (.long (0 : Int64)), (.ref a1), (.ref a1)]))
  refine own_newE H1 hx hZ (hw _ (List.mem_of_getElem? (i := 4) rfl)) (g := (mkF m 21 #[.val (.int p1), .val (.int p2), .val (.int p3), .val (.int p4), .val (.int p5), .unset, .unset, .unset, .unset] [(.int (0 : Int32)), (.int (0 : Int32)), (.int (-1 : Int32)), (.double (0 : UInt64)), (.double (0 : UInt64)), (.int (0 : Int32)), (.long (0 : Int64)), (.double cH), (.double cH), (.double (0 : UInt64)), (.double (0 : UInt64)), (.long (0 : Int64)), (.long (0 : Int64)), (.ref a1), (.ref a1)])) rfl (hb hby at_21) rfl (by decide) 0 (by decide) 0 (by decide) (by decide) (by decide) (by decide) ?_
  intro T2 h2 a2 ga2 E2 B2 Ex2 H2
  have ne_a1_a2 : a1 ≠ a2 := by rw [ga2]; exact Nat.ne_of_lt A1.lt
  have g_a2 : n0 ≤ a2 := by rw [ga2]; exact sz1
  have sz2 : n0 ≤ h2.size := Nat.le_trans sz1 E2.1
  show Go _ _ _ _ (T2.setTop (mkF m 23 #[.val (.int p1), .val (.int p2), .val (.int p3), .val (.int p4), .val (.int p5), .unset, .unset, .unset, .unset] [(.ref a2), (.int (0 : Int32)), (.int (-1 : Int32)), (.double (0 : UInt64)), (.double (0 : UInt64)), (.int (0 : Int32)), (.long (0 : Int64)), (.double cH), (.double cH), (.double (0 : UInt64)), (.double (0 : UInt64)), (.long (0 : Int64)), (.long (0 : Int64)), (.ref a1), (.ref a1)]))
  refine own_callI H2 hx hZ (y := (⟨"com/example/neardb/neardb/index/Header", "<init>", "(JJDDDDJZDDIZ[I)V"⟩ : MethodName)) (a := a1) rfl hown (hw _ (List.mem_of_getElem? (i := 5) rfl)) (hw _ (List.mem_of_getElem? (i := 6) rfl)) (hw _ (List.mem_of_getElem? (i := 2) rfl)) (hw _ (List.mem_of_getElem? (i := 7) rfl)) (by decide) (rmHI l Z a0 hw a1 a2 h2 n0 (A1.ext E2) (F1_objectCount.ext E2) (F1_termCount.ext E2) (F1_minX.ext E2) (F1_minY.ext E2) (F1_maxX.ext E2) (F1_maxY.ext E2) (F1_postingBytes.ext E2) (F1_hasValues.ext E2) (F1_minValue.ext E2) (F1_maxValue.ext E2) (F1_numberCount.ext E2) (F1_keepsNumbers.ext E2) (F1_segments.ext E2) g_a1 sz2 B2 Ex2 ne_a1_a2) (g := (mkF m 23 #[.val (.int p1), .val (.int p2), .val (.int p3), .val (.int p4), .val (.int p5), .unset, .unset, .unset, .unset] [(.ref a2), (.int (0 : Int32)), (.int (-1 : Int32)), (.double (0 : UInt64)), (.double (0 : UInt64)), (.int (0 : Int32)), (.long (0 : Int64)), (.double cH), (.double cH), (.double (0 : UInt64)), (.double (0 : UInt64)), (.long (0 : Int64)), (.long (0 : Int64)), (.ref a1), (.ref a1)])) rfl (by rw [hml]; rfl) (argsL := [(.long (0 : Int64)), (.long (0 : Int64)), (.double (0 : UInt64)), (.double (0 : UInt64)), (.double cH), (.double cH), (.long (0 : Int64)), (.int (0 : Int32)), (.double (0 : UInt64)), (.double (0 : UInt64)), (.int (-1 : Int32)), (.int (0 : Int32)), (.ref a2)]) (rest := [(.ref a1)]) (lenOf pd_7 rfl) rfl 1 (Nat.le_of_eq rfl) (hb hby at_23) (by decide) (by decide) (by decide) (by decide) ?_
  rintro _ T3 h3 ⟨rfl, K3, E3, FminX_3, FminY_3, FmaxX_3, FmaxY_3⟩ H3
  show Go _ _ _ _ (T3.setTop (mkF m 26 #[.val (.int p1), .val (.int p2), .val (.int p3), .val (.int p4), .val (.int p5), .unset, .unset, .unset, .unset] [(.ref a1)]))
  refine Go.via (fun t_ k_ => XS.astore H3.here hx rfl (hb hby at_26) rfl rfl (l' := #[.val (.int p1), .val (.int p2), .val (.int p3), .val (.int p4), .val (.int p5), .val (.ref a1), .unset, .unset, .unset]) rfl k_) ?_
  show Go _ _ _ _ (T3.setTop (mkF m 28 #[.val (.int p1), .val (.int p2), .val (.int p3), .val (.int p4), .val (.int p5), .val (.ref a1), .unset, .unset, .unset] []))
  refine own_newO H3 hx hZ hown (hw _ (List.mem_of_getElem? (i := 46) rfl)) (hw _ (List.mem_of_getElem? (i := 47) rfl)) (hw _ (List.mem_of_getElem? (i := 48) rfl)) (g := (mkF m 28 #[.val (.int p1), .val (.int p2), .val (.int p3), .val (.int p4), .val (.int p5), .val (.ref a1), .unset, .unset, .unset] [])) rfl (hb hby at_28) (by decide) (by decide) ?_
  intro T4 h4 a4 ga4 E4 A4 D4 H4
  have ne_a1_a4 : a1 ≠ a4 := by rw [ga4]; exact Nat.ne_of_lt E3.lt
  have g_a4 : n0 ≤ a4 := by rw [ga4]; exact (Nat.le_trans sz2 K3.1)
  have sz4 : n0 ≤ h4.size := Nat.le_trans (Nat.le_trans sz2 K3.1) E4.1
  have F4_runFrequencies : Fld Z h4 a4 "com/example/neardb/neardb/index/PostingPage" "runFrequencies" "[I" .null := D4 (Or.inl (hw _ (List.mem_of_getElem? (i := 54) rfl))) (ty := (.array .int)) (by decide)
  have F4_runStarts : Fld Z h4 a4 "com/example/neardb/neardb/index/PostingPage" "runStarts" "[I" .null := D4 (Or.inl (hw _ (List.mem_of_getElem? (i := 56) rfl))) (ty := (.array .int)) (by decide)
  have F4_header : Fld Z h4 a4 "com/example/neardb/neardb/index/PostingPage" "header" "Lcom/example/neardb/neardb/index/Header;" .null := D4 (Or.inr (hw _ (List.mem_of_getElem? (i := 58) rfl))) (ty := (.object "com/example/neardb/neardb/index/Header")) (by decide)
  have F4_frequencies : Fld Z h4 a4 "com/example/neardb/neardb/index/PostingPage" "frequencies" "[I" .null := D4 (Or.inr (hw _ (List.mem_of_getElem? (i := 60) rfl))) (ty := (.array .int)) (by decide)
  have F4_ordinals : Fld Z h4 a4 "com/example/neardb/neardb/index/PostingPage" "ordinals" "[I" .null := D4 (Or.inr (hw _ (List.mem_of_getElem? (i := 62) rfl))) (ty := (.array .int)) (by decide)
  have F4_columns : Fld Z h4 a4 "com/example/neardb/neardb/index/PostingPage" "columns" "[I" .null := D4 (Or.inr (hw _ (List.mem_of_getElem? (i := 64) rfl))) (ty := (.array .int)) (by decide)
  have F4_rows : Fld Z h4 a4 "com/example/neardb/neardb/index/PostingPage" "rows" "[I" .null := D4 (Or.inr (hw _ (List.mem_of_getElem? (i := 66) rfl))) (ty := (.array .int)) (by decide)
  have F4_size : Fld Z h4 a4 "com/example/neardb/neardb/index/PostingPage" "size" "I" (.int (0 : Int32)) := D4 (Or.inl (hw _ (List.mem_of_getElem? (i := 73) rfl))) (ty := .int) (by decide)
  show Go _ _ _ _ (T4.setTop (mkF m 31 #[.val (.int p1), .val (.int p2), .val (.int p3), .val (.int p4), .val (.int p5), .val (.ref a1), .unset, .unset, .unset] [(.ref a4)]))
  refine Go.via (fun t_ k_ => XS.dup H4.here hx rfl (hb hby at_31) rfl rfl k_) ?_
  show Go _ _ _ _ (T4.setTop (mkF m 32 #[.val (.int p1), .val (.int p2), .val (.int p3), .val (.int p4), .val (.int p5), .val (.ref a1), .unset, .unset, .unset] [(.ref a4), (.ref a4)]))
  refine Go.via (fun t_ k_ => XS.aload H4.here hx rfl (hb hby at_32) rfl rfl k_) ?_
  show Go _ _ _ _ (T4.setTop (mkF m 34 #[.val (.int p1), .val (.int p2), .val (.int p3), .val (.int p4), .val (.int p5), .val (.ref a1), .unset, .unset, .unset] [(.ref a1), (.ref a4), (.ref a4)]))
  refine Go.via (fun t_ k_ => XS.iconst H4.here hx rfl (hb hby at_34) k_) ?_
  show Go _ _ _ _ (T4.setTop (mkF m 35 #[.val (.int p1), .val (.int p2), .val (.int p3), .val (.int p4), .val (.int p5), .val (.ref a1), .unset, .unset, .unset] [(.int (2 : Int32)), (.ref a1), (.ref a4), (.ref a4)]))
  refine own_callI H4 hx hZ (y := (⟨"com/example/neardb/neardb/index/PostingPage", "<init>", "(Lcom/example/neardb/neardb/index/Header;I)V"⟩ : MethodName)) (a := a4) rfl hown (hw _ (List.mem_of_getElem? (i := 49) rfl)) (hw _ (List.mem_of_getElem? (i := 50) rfl)) (hw _ (List.mem_of_getElem? (i := 48) rfl)) (hw _ (List.mem_of_getElem? (i := 51) rfl)) (by decide) (rmPI l Z a0 hw a4 a1 h4 n0 A4 (E3.ext E4) F4_runFrequencies F4_runStarts F4_header F4_frequencies F4_ordinals F4_columns F4_rows F4_size g_a4 sz4 (Ne.symm ne_a1_a4)) (g := (mkF m 35 #[.val (.int p1), .val (.int p2), .val (.int p3), .val (.int p4), .val (.int p5), .val (.ref a1), .unset, .unset, .unset] [(.int (2 : Int32)), (.ref a1), (.ref a4), (.ref a4)])) rfl (by rw [hml]; rfl) (argsL := [(.ref a1), (.int (2 : Int32))]) (rest := [(.ref a4)]) (lenOf pd_8 rfl) rfl 1 (Nat.le_of_eq rfl) (hb hby at_35) (by decide) (by decide) (by decide) (by decide) ?_
  rintro _ T5 h5 ⟨fa5, oa5, ca5, ra5, rfl, K5, E5, Fh5, Fs5, Ffrequencies_5, Fordinals_5, Fcolumns_5, Frows_5, A_fa5, A_oa5, A_ca5, A_ra5, ne_a_fa5, ne_a_oa5, ne_a_ca5, ne_a_ra5, ne_fa_oa5, ne_fa_ca5, ne_fa_ra5, ne_oa_ca5, ne_oa_ra5, ne_ca_ra5, ne_hd_fa5, ne_hd_oa5, ne_hd_ca5, ne_hd_ra5, g_fa5, g_oa5, g_ca5, g_ra5⟩ H5
  show Go _ _ _ _ (T5.setTop (mkF m 38 #[.val (.int p1), .val (.int p2), .val (.int p3), .val (.int p4), .val (.int p5), .val (.ref a1), .unset, .unset, .unset] [(.ref a4)]))
  refine Go.via (fun t_ k_ => XS.astore H5.here hx rfl (hb hby at_38) rfl rfl (l' := #[.val (.int p1), .val (.int p2), .val (.int p3), .val (.int p4), .val (.int p5), .val (.ref a1), .val (.ref a4), .unset, .unset]) rfl k_) ?_
  show Go _ _ _ _ (T5.setTop (mkF m 40 #[.val (.int p1), .val (.int p2), .val (.int p3), .val (.int p4), .val (.int p5), .val (.ref a1), .val (.ref a4), .unset, .unset] []))
  refine Go.via (fun t_ k_ => XS.iconst H5.here hx rfl (hb hby at_40) k_) ?_
  show Go _ _ _ _ (T5.setTop (mkF m 41 #[.val (.int p1), .val (.int p2), .val (.int p3), .val (.int p4), .val (.int p5), .val (.ref a1), .val (.ref a4), .unset, .unset] [(.int (0 : Int32))]))
  refine Go.via (fun t_ k_ => XS.istore H5.here hx rfl (hb hby at_41) rfl (l' := #[.val (.int p1), .val (.int p2), .val (.int p3), .val (.int p4), .val (.int p5), .val (.ref a1), .val (.ref a4), .val (.int (0 : Int32)), .unset]) rfl k_) ?_
  show Go _ _ _ _ (T5.setTop (mkF m 43 #[.val (.int p1), .val (.int p2), .val (.int p3), .val (.int p4), .val (.int p5), .val (.ref a1), .val (.ref a4), .val (.int (0 : Int32)), .unset] []))
  refine Go.via (fun t_ k_ => XS.iload H5.here hx rfl (hb hby at_43) rfl k_) ?_
  show Go _ _ _ _ (T5.setTop (mkF m 45 #[.val (.int p1), .val (.int p2), .val (.int p3), .val (.int p4), .val (.int p5), .val (.ref a1), .val (.ref a4), .val (.int (0 : Int32)), .unset] [(.int p5)]))
  refine Go.via (fun t_ k_ => XS.iconst H5.here hx rfl (hb hby at_45) k_) ?_
  show Go _ _ _ _ (T5.setTop (mkF m 46 #[.val (.int p1), .val (.int p2), .val (.int p3), .val (.int p4), .val (.int p5), .val (.ref a1), .val (.ref a4), .val (.int (0 : Int32)), .unset] [(.int (1 : Int32)), (.int p5)]))
  refine Go.via (fun t_ k_ => XS.iand H5.here hx rfl (hb hby at_46) rfl k_) ?_
  show Go _ _ _ _ (T5.setTop (mkF m 47 #[.val (.int p1), .val (.int p2), .val (.int p3), .val (.int p4), .val (.int p5), .val (.ref a1), .val (.ref a4), .val (.int (0 : Int32)), .unset] [(.int (p5 &&& (1 : Int32)))]))
  by_cases hc47 : (p5 &&& (1 : Int32)) = (0 : Int32)
  · refine Go.via (fun t_ k_ => XS.ifYes H5.here hx rfl (pc0 := 47) (pc' := 62) rfl (hb hby at_47) rfl ((if0 _ _).trans (teq hc47).1) (by decide) (by decide) k_) ?_
    show Go _ _ _ _ (T5.setTop (mkF m 62 #[.val (.int p1), .val (.int p2), .val (.int p3), .val (.int p4), .val (.int p5), .val (.ref a1), .val (.ref a4), .val (.int (0 : Int32)), .unset] []))
    refine Go.via (fun t_ k_ => XS.aload H5.here hx rfl (hb hby at_62) rfl rfl k_) ?_
    show Go _ _ _ _ (T5.setTop (mkF m 64 #[.val (.int p1), .val (.int p2), .val (.int p3), .val (.int p4), .val (.int p5), .val (.ref a1), .val (.ref a4), .val (.int (0 : Int32)), .unset] [(.ref a4)]))
    refine Go.via (fun t_ k_ => XS.iloadN H5.here hx rfl (hb hby at_64) rfl k_) ?_
    show Go _ _ _ _ (T5.setTop (mkF m 65 #[.val (.int p1), .val (.int p2), .val (.int p3), .val (.int p4), .val (.int p5), .val (.ref a1), .val (.ref a4), .val (.int (0 : Int32)), .unset] [(.int p1), (.ref a4)]))
    refine Go.via (fun t_ k_ => XS.iloadN H5.here hx rfl (hb hby at_65) rfl k_) ?_
    show Go _ _ _ _ (T5.setTop (mkF m 66 #[.val (.int p1), .val (.int p2), .val (.int p3), .val (.int p4), .val (.int p5), .val (.ref a1), .val (.ref a4), .val (.int (0 : Int32)), .unset] [(.int p2), (.int p1), (.ref a4)]))
    refine Go.via (fun t_ k_ => XS.iloadN H5.here hx rfl (hb hby at_66) rfl k_) ?_
    show Go _ _ _ _ (T5.setTop (mkF m 67 #[.val (.int p1), .val (.int p2), .val (.int p3), .val (.int p4), .val (.int p5), .val (.ref a1), .val (.ref a4), .val (.int (0 : Int32)), .unset] [(.int p3), (.int p2), (.int p1), (.ref a4)]))
    refine Go.via (fun t_ k_ => XS.iloadN H5.here hx rfl (hb hby at_67) rfl k_) ?_
    show Go _ _ _ _ (T5.setTop (mkF m 68 #[.val (.int p1), .val (.int p2), .val (.int p3), .val (.int p4), .val (.int p5), .val (.ref a1), .val (.ref a4), .val (.int (0 : Int32)), .unset] [(.int p4), (.int p3), (.int p2), (.int p1), (.ref a4)]))
    refine own_callV H5 hx hZ (C := "com/example/neardb/neardb/index/PostingPage") (y := (⟨"com/example/neardb/neardb/index/PostingPage", "add", "(IIII)V"⟩ : MethodName)) (a := a4) hown (hw _ (List.mem_of_getElem? (i := 67) rfl)) (hw _ (List.mem_of_getElem? (i := 68) rfl)) (hw _ (List.mem_of_getElem? (i := 70) rfl)) (hw _ (List.mem_of_getElem? (i := 69) rfl)) (hw _ (List.mem_of_getElem? (i := 48) rfl)) (hw _ (List.mem_of_getElem? (i := 71) rfl)) (by decide) E5 (rmAd l Z a0 hw a4 a1 fa5 oa5 ca5 ra5 (fun _ => (0 : Int32)) (fun _ => (0 : Int32)) (fun _ => (0 : Int32)) (fun _ => (0 : Int32)) (0 : Int32) (1 : Int32) p1 p2 p3 p4 0 h5 n0 E5 Fh5 Fs5 Ffrequencies_5 Fordinals_5 Fcolumns_5 Frows_5 A_fa5 A_oa5 A_ca5 A_ra5 g_a4 g_fa5 g_oa5 g_ca5 g_ra5 ne_a_fa5 ne_a_oa5 ne_a_ca5 ne_a_ra5 ne_fa_oa5 ne_fa_ca5 ne_fa_ra5 ne_oa_ca5 ne_oa_ra5 ne_ca_ra5 (by decide) (by decide) (by decide)) (g := (mkF m 68 #[.val (.int p1), .val (.int p2), .val (.int p3), .val (.int p4), .val (.int p5), .val (.ref a1), .val (.ref a4), .val (.int (0 : Int32)), .unset] [(.int p4), (.int p3), (.int p2), (.int p1), (.ref a4)])) rfl (by rw [hml]; rfl) (argsL := [(.int p1), (.int p2), (.int p3), (.int p4)]) (rest := []) (lenOf pd_9 rfl) rfl 0 (Nat.le_of_eq rfl) (hb hby at_68) (by decide) (by decide) (by decide) (by decide) ?_
    rintro _ T6 h6 ⟨rfl, K6, E6, Fh6, Fs6, Ffrequencies_6, Fordinals_6, Fcolumns_6, Frows_6, A0_6, A1_6, A2_6, A3_6⟩ H6
    show Go _ _ _ _ (T6.setTop (mkF m 71 #[.val (.int p1), .val (.int p2), .val (.int p3), .val (.int p4), .val (.int p5), .val (.ref a1), .val (.ref a4), .val (.int (0 : Int32)), .unset] []))
    refine Go.via (fun t_ k_ => XS.aload H6.here hx rfl (hb hby at_71) rfl rfl k_) ?_
    show Go _ _ _ _ (T6.setTop (mkF m 73 #[.val (.int p1), .val (.int p2), .val (.int p3), .val (.int p4), .val (.int p5), .val (.ref a1), .val (.ref a4), .val (.int (0 : Int32)), .unset] [(.ref a4)]))
    refine own_callV H6 hx hZ (C := "com/example/neardb/neardb/index/PostingPage") (y := (⟨"com/example/neardb/neardb/index/PostingPage", "size", "()I"⟩ : MethodName)) (a := a4) hown (hw _ (List.mem_of_getElem? (i := 74) rfl)) (hw _ (List.mem_of_getElem? (i := 75) rfl)) (hw _ (List.mem_of_getElem? (i := 77) rfl)) (hw _ (List.mem_of_getElem? (i := 76) rfl)) (hw _ (List.mem_of_getElem? (i := 48) rfl)) (hw _ (List.mem_of_getElem? (i := 78) rfl)) (by decide) E6 (rmSz l Z a0 hw a4 (1 : Int32) h6 n0 Fs6) (g := (mkF m 73 #[.val (.int p1), .val (.int p2), .val (.int p3), .val (.int p4), .val (.int p5), .val (.ref a1), .val (.ref a4), .val (.int (0 : Int32)), .unset] [(.ref a4)])) rfl (by rw [hml]; rfl) (argsL := []) (rest := []) (lenOf pd_10 rfl) rfl 0 (Nat.le_of_eq rfl) (hb hby at_73) (by decide) (by decide) (by decide) (by decide) ?_
    rintro _ T7 _ ⟨rfl, rfl⟩ H7
    show Go _ _ _ _ (T7.setTop (mkF m 76 #[.val (.int p1), .val (.int p2), .val (.int p3), .val (.int p4), .val (.int p5), .val (.ref a1), .val (.ref a4), .val (.int (0 : Int32)), .unset] [(.int (1 : Int32))]))
    refine Go.via (fun t_ k_ => XS.iload H7.here hx rfl (hb hby at_76) rfl k_) ?_
    show Go _ _ _ _ (T7.setTop (mkF m 78 #[.val (.int p1), .val (.int p2), .val (.int p3), .val (.int p4), .val (.int p5), .val (.ref a1), .val (.ref a4), .val (.int (0 : Int32)), .unset] [(.int (0 : Int32)), (.int (1 : Int32))]))
    refine Go.via (fun t_ k_ => XS.iconst H7.here hx rfl (hb hby at_78) k_) ?_
    show Go _ _ _ _ (T7.setTop (mkF m 79 #[.val (.int p1), .val (.int p2), .val (.int p3), .val (.int p4), .val (.int p5), .val (.ref a1), .val (.ref a4), .val (.int (0 : Int32)), .unset] [(.int (1 : Int32)), (.int (0 : Int32)), (.int (1 : Int32))]))
    refine Go.via (fun t_ k_ => XS.iadd H7.here hx rfl (hb hby at_79) rfl k_) ?_
    show Go _ _ _ _ (T7.setTop (mkF m 80 #[.val (.int p1), .val (.int p2), .val (.int p3), .val (.int p4), .val (.int p5), .val (.ref a1), .val (.ref a4), .val (.int (0 : Int32)), .unset] [(.int ((0 : Int32) + (1 : Int32))), (.int (1 : Int32))]))
    refine Go.via (fun t_ k_ => XS.icmpYes H7.here hx rfl (pc0 := 80) (pc' := 85) rfl (hb hby at_80) rfl ((teq (show (1 : Int32) = ((0 : Int32) + (1 : Int32)) from (by decide))).1) (by decide) (by decide) k_) ?_
    show Go _ _ _ _ (T7.setTop (mkF m 85 #[.val (.int p1), .val (.int p2), .val (.int p3), .val (.int p4), .val (.int p5), .val (.ref a1), .val (.ref a4), .val (.int (0 : Int32)), .unset] []))
    refine Go.via (fun t_ k_ => XS.aload H7.here hx rfl (hb hby at_85) rfl rfl k_) ?_
    show Go _ _ _ _ (T7.setTop (mkF m 87 #[.val (.int p1), .val (.int p2), .val (.int p3), .val (.int p4), .val (.int p5), .val (.ref a1), .val (.ref a4), .val (.int (0 : Int32)), .unset] [(.ref a4)]))
    refine Go.via (fun t_ k_ => XS.iload H7.here hx rfl (hb hby at_87) rfl k_) ?_
    show Go _ _ _ _ (T7.setTop (mkF m 89 #[.val (.int p1), .val (.int p2), .val (.int p3), .val (.int p4), .val (.int p5), .val (.ref a1), .val (.ref a4), .val (.int (0 : Int32)), .unset] [(.int (0 : Int32)), (.ref a4)]))
    refine own_callV H7 hx hZ (C := "com/example/neardb/neardb/index/PostingPage") (y := (⟨"com/example/neardb/neardb/index/PostingPage", "frequency", "(I)I"⟩ : MethodName)) (a := a4) hown (hw _ (List.mem_of_getElem? (i := 79) rfl)) (hw _ (List.mem_of_getElem? (i := 80) rfl)) (hw _ (List.mem_of_getElem? (i := 82) rfl)) (hw _ (List.mem_of_getElem? (i := 81) rfl)) (hw _ (List.mem_of_getElem? (i := 48) rfl)) (hw _ (List.mem_of_getElem? (i := 83) rfl)) (by decide) E6 (rmFr l Z a0 hw a4 fa5 (upd (fun _ => (0 : Int32)) 0 p1) (0 : Int32) (1 : Int32) p1 0 h6 n0 Ffrequencies_6 Fs6 A0_6 (by decide) (by decide) (by decide) (by decide) rfl) (g := (mkF m 89 #[.val (.int p1), .val (.int p2), .val (.int p3), .val (.int p4), .val (.int p5), .val (.ref a1), .val (.ref a4), .val (.int (0 : Int32)), .unset] [(.int (0 : Int32)), (.ref a4)])) rfl (by rw [hml]; rfl) (argsL := [(.int (0 : Int32))]) (rest := []) (lenOf pd_11 rfl) rfl 0 (Nat.le_of_eq rfl) (hb hby at_89) (by decide) (by decide) (by decide) (by decide) ?_
    rintro _ T8 _ ⟨rfl, rfl⟩ H8
    show Go _ _ _ _ (T8.setTop (mkF m 92 #[.val (.int p1), .val (.int p2), .val (.int p3), .val (.int p4), .val (.int p5), .val (.ref a1), .val (.ref a4), .val (.int (0 : Int32)), .unset] [(.int p1)]))
    refine Go.via (fun t_ k_ => XS.iloadN H8.here hx rfl (hb hby at_92) rfl k_) ?_
    show Go _ _ _ _ (T8.setTop (mkF m 93 #[.val (.int p1), .val (.int p2), .val (.int p3), .val (.int p4), .val (.int p5), .val (.ref a1), .val (.ref a4), .val (.int (0 : Int32)), .unset] [(.int p1), (.int p1)]))
    refine Go.via (fun t_ k_ => XS.icmpNo H8.here hx rfl (hb hby at_93) rfl ((teq (show p1 = p1 from rfl)).2) k_) ?_
    show Go _ _ _ _ (T8.setTop (mkF m 96 #[.val (.int p1), .val (.int p2), .val (.int p3), .val (.int p4), .val (.int p5), .val (.ref a1), .val (.ref a4), .val (.int (0 : Int32)), .unset] []))
    refine Go.via (fun t_ k_ => XS.aload H8.here hx rfl (hb hby at_96) rfl rfl k_) ?_
    show Go _ _ _ _ (T8.setTop (mkF m 98 #[.val (.int p1), .val (.int p2), .val (.int p3), .val (.int p4), .val (.int p5), .val (.ref a1), .val (.ref a4), .val (.int (0 : Int32)), .unset] [(.ref a4)]))
    refine Go.via (fun t_ k_ => XS.iload H8.here hx rfl (hb hby at_98) rfl k_) ?_
    show Go _ _ _ _ (T8.setTop (mkF m 100 #[.val (.int p1), .val (.int p2), .val (.int p3), .val (.int p4), .val (.int p5), .val (.ref a1), .val (.ref a4), .val (.int (0 : Int32)), .unset] [(.int (0 : Int32)), (.ref a4)]))
    refine own_callV H8 hx hZ (C := "com/example/neardb/neardb/index/PostingPage") (y := (⟨"com/example/neardb/neardb/index/PostingPage", "ordinal", "(I)I"⟩ : MethodName)) (a := a4) hown (hw _ (List.mem_of_getElem? (i := 92) rfl)) (hw _ (List.mem_of_getElem? (i := 93) rfl)) (hw _ (List.mem_of_getElem? (i := 95) rfl)) (hw _ (List.mem_of_getElem? (i := 94) rfl)) (hw _ (List.mem_of_getElem? (i := 48) rfl)) (hw _ (List.mem_of_getElem? (i := 96) rfl)) (by decide) E6 (rmOr l Z a0 hw a4 oa5 (upd (fun _ => (0 : Int32)) 0 p2) (0 : Int32) (1 : Int32) p2 0 h6 n0 Fordinals_6 Fs6 A1_6 (by decide) (by decide) (by decide) (by decide) rfl) (g := (mkF m 100 #[.val (.int p1), .val (.int p2), .val (.int p3), .val (.int p4), .val (.int p5), .val (.ref a1), .val (.ref a4), .val (.int (0 : Int32)), .unset] [(.int (0 : Int32)), (.ref a4)])) rfl (by rw [hml]; rfl) (argsL := [(.int (0 : Int32))]) (rest := []) (lenOf pd_11 rfl) rfl 0 (Nat.le_of_eq rfl) (hb hby at_100) (by decide) (by decide) (by decide) (by decide) ?_
    rintro _ T9 _ ⟨rfl, rfl⟩ H9
    show Go _ _ _ _ (T9.setTop (mkF m 103 #[.val (.int p1), .val (.int p2), .val (.int p3), .val (.int p4), .val (.int p5), .val (.ref a1), .val (.ref a4), .val (.int (0 : Int32)), .unset] [(.int p2)]))
    refine Go.via (fun t_ k_ => XS.iloadN H9.here hx rfl (hb hby at_103) rfl k_) ?_
    show Go _ _ _ _ (T9.setTop (mkF m 104 #[.val (.int p1), .val (.int p2), .val (.int p3), .val (.int p4), .val (.int p5), .val (.ref a1), .val (.ref a4), .val (.int (0 : Int32)), .unset] [(.int p2), (.int p2)]))
    refine Go.via (fun t_ k_ => XS.icmpNo H9.here hx rfl (hb hby at_104) rfl ((teq (show p2 = p2 from rfl)).2) k_) ?_
    show Go _ _ _ _ (T9.setTop (mkF m 107 #[.val (.int p1), .val (.int p2), .val (.int p3), .val (.int p4), .val (.int p5), .val (.ref a1), .val (.ref a4), .val (.int (0 : Int32)), .unset] []))
    refine Go.via (fun t_ k_ => XS.aload H9.here hx rfl (hb hby at_107) rfl rfl k_) ?_
    show Go _ _ _ _ (T9.setTop (mkF m 109 #[.val (.int p1), .val (.int p2), .val (.int p3), .val (.int p4), .val (.int p5), .val (.ref a1), .val (.ref a4), .val (.int (0 : Int32)), .unset] [(.ref a4)]))
    refine Go.via (fun t_ k_ => XS.iload H9.here hx rfl (hb hby at_109) rfl k_) ?_
    show Go _ _ _ _ (T9.setTop (mkF m 111 #[.val (.int p1), .val (.int p2), .val (.int p3), .val (.int p4), .val (.int p5), .val (.ref a1), .val (.ref a4), .val (.int (0 : Int32)), .unset] [(.int (0 : Int32)), (.ref a4)]))
    refine Go.via (fun t_ k_ => XS.iload H9.here hx rfl (hb hby at_111) rfl k_) ?_
    show Go _ _ _ _ (T9.setTop (mkF m 113 #[.val (.int p1), .val (.int p2), .val (.int p3), .val (.int p4), .val (.int p5), .val (.ref a1), .val (.ref a4), .val (.int (0 : Int32)), .unset] [(.int (0 : Int32)), (.int (0 : Int32)), (.ref a4)]))
    refine Go.via (fun t_ k_ => XS.iconst H9.here hx rfl (hb hby at_113) k_) ?_
    show Go _ _ _ _ (T9.setTop (mkF m 114 #[.val (.int p1), .val (.int p2), .val (.int p3), .val (.int p4), .val (.int p5), .val (.ref a1), .val (.ref a4), .val (.int (0 : Int32)), .unset] [(.int (1 : Int32)), (.int (0 : Int32)), (.int (0 : Int32)), (.ref a4)]))
    refine Go.via (fun t_ k_ => XS.iadd H9.here hx rfl (hb hby at_114) rfl k_) ?_
    show Go _ _ _ _ (T9.setTop (mkF m 115 #[.val (.int p1), .val (.int p2), .val (.int p3), .val (.int p4), .val (.int p5), .val (.ref a1), .val (.ref a4), .val (.int (0 : Int32)), .unset] [(.int ((0 : Int32) + (1 : Int32))), (.int (0 : Int32)), (.ref a4)]))
    refine own_callV H9 hx hZ (C := "com/example/neardb/neardb/index/PostingPage") (y := (⟨"com/example/neardb/neardb/index/PostingPage", "minX", "(II)D"⟩ : MethodName)) (a := a4) hown (hw _ (List.mem_of_getElem? (i := 97) rfl)) (hw _ (List.mem_of_getElem? (i := 98) rfl)) (hw _ (List.mem_of_getElem? (i := 100) rfl)) (hw _ (List.mem_of_getElem? (i := 99) rfl)) (hw _ (List.mem_of_getElem? (i := 48) rfl)) (hw _ (List.mem_of_getElem? (i := 101) rfl)) (by decide) E6 (rmMX l Z a0 hw a4 ca5 a1 (upd (fun _ => (0 : Int32)) 0 p3) (0 : Int32) ((0 : Int32) + (1 : Int32)) (1 : Int32) p3 0 h6 n0 Fcolumns_6 Fs6 Fh6 (((E3.ext E4).keep K5).keep K6) (((FminX_3.ext E4).keep K5 (ninS ne_a1_a4 nin0)).keep K6 (ninS ne_a1_a4 (ninS ne_hd_fa5 (ninS ne_hd_oa5 (ninS ne_hd_ca5 (ninS ne_hd_ra5 nin0)))))) (((FmaxX_3.ext E4).keep K5 (ninS ne_a1_a4 nin0)).keep K6 (ninS ne_a1_a4 (ninS ne_hd_fa5 (ninS ne_hd_oa5 (ninS ne_hd_ca5 (ninS ne_hd_ra5 nin0)))))) A2_6 (by decide) (by decide) (by decide) (by decide) (by decide) (by decide) rfl) (g := (mkF m 115 #[.val (.int p1), .val (.int p2), .val (.int p3), .val (.int p4), .val (.int p5), .val (.ref a1), .val (.ref a4), .val (.int (0 : Int32)), .unset] [(.int ((0 : Int32) + (1 : Int32))), (.int (0 : Int32)), (.ref a4)])) rfl (by rw [hml]; rfl) (argsL := [(.int (0 : Int32)), (.int ((0 : Int32) + (1 : Int32)))]) (rest := []) (lenOf pd_12 rfl) rfl 0 (Nat.le_of_eq rfl) (hb hby at_115) (by decide) (by decide) (by decide) (by decide) ?_
    rintro _ T10 _ ⟨rfl, rfl⟩ H10
    show Go _ _ _ _ (T10.setTop (mkF m 118 #[.val (.int p1), .val (.int p2), .val (.int p3), .val (.int p4), .val (.int p5), .val (.ref a1), .val (.ref a4), .val (.int (0 : Int32)), .unset] [(.double (FP.i2d p3))]))
    refine Go.via (fun t_ k_ => XS.iloadN H10.here hx rfl (hb hby at_118) rfl k_) ?_
    show Go _ _ _ _ (T10.setTop (mkF m 119 #[.val (.int p1), .val (.int p2), .val (.int p3), .val (.int p4), .val (.int p5), .val (.ref a1), .val (.ref a4), .val (.int (0 : Int32)), .unset] [(.int p3), (.double (FP.i2d p3))]))
    refine Go.via (fun t_ k_ => own_i2dS H10.here hx rfl (hb hby at_119) rfl k_) ?_
    show Go _ _ _ _ (T10.setTop (mkF m 120 #[.val (.int p1), .val (.int p2), .val (.int p3), .val (.int p4), .val (.int p5), .val (.ref a1), .val (.ref a4), .val (.int (0 : Int32)), .unset] [(.double (FP.i2d p3)), (.double (FP.i2d p3))]))
    refine Go.via (fun t_ k_ => own_dcmpl H10.here hx rfl (hb hby at_120) rfl (own_self p3) k_) ?_
    show Go _ _ _ _ (T10.setTop (mkF m 121 #[.val (.int p1), .val (.int p2), .val (.int p3), .val (.int p4), .val (.int p5), .val (.ref a1), .val (.ref a4), .val (.int (0 : Int32)), .unset] [(.int (0 : Int32))]))
    refine Go.via (fun t_ k_ => XS.ifNo H10.here hx rfl (hb hby at_121) rfl ((if0 _ _).trans (teq (show (0 : Int32) = (0 : Int32) from (by decide))).2) k_) ?_
    show Go _ _ _ _ (T10.setTop (mkF m 124 #[.val (.int p1), .val (.int p2), .val (.int p3), .val (.int p4), .val (.int p5), .val (.ref a1), .val (.ref a4), .val (.int (0 : Int32)), .unset] []))
    refine Go.via (fun t_ k_ => XS.aload H10.here hx rfl (hb hby at_124) rfl rfl k_) ?_
    show Go _ _ _ _ (T10.setTop (mkF m 126 #[.val (.int p1), .val (.int p2), .val (.int p3), .val (.int p4), .val (.int p5), .val (.ref a1), .val (.ref a4), .val (.int (0 : Int32)), .unset] [(.ref a4)]))
    refine Go.via (fun t_ k_ => XS.iload H10.here hx rfl (hb hby at_126) rfl k_) ?_
    show Go _ _ _ _ (T10.setTop (mkF m 128 #[.val (.int p1), .val (.int p2), .val (.int p3), .val (.int p4), .val (.int p5), .val (.ref a1), .val (.ref a4), .val (.int (0 : Int32)), .unset] [(.int (0 : Int32)), (.ref a4)]))
    refine Go.via (fun t_ k_ => XS.iload H10.here hx rfl (hb hby at_128) rfl k_) ?_
    show Go _ _ _ _ (T10.setTop (mkF m 130 #[.val (.int p1), .val (.int p2), .val (.int p3), .val (.int p4), .val (.int p5), .val (.ref a1), .val (.ref a4), .val (.int (0 : Int32)), .unset] [(.int (0 : Int32)), (.int (0 : Int32)), (.ref a4)]))
    refine Go.via (fun t_ k_ => XS.iconst H10.here hx rfl (hb hby at_130) k_) ?_
    show Go _ _ _ _ (T10.setTop (mkF m 131 #[.val (.int p1), .val (.int p2), .val (.int p3), .val (.int p4), .val (.int p5), .val (.ref a1), .val (.ref a4), .val (.int (0 : Int32)), .unset] [(.int (1 : Int32)), (.int (0 : Int32)), (.int (0 : Int32)), (.ref a4)]))
    refine Go.via (fun t_ k_ => XS.iadd H10.here hx rfl (hb hby at_131) rfl k_) ?_
    show Go _ _ _ _ (T10.setTop (mkF m 132 #[.val (.int p1), .val (.int p2), .val (.int p3), .val (.int p4), .val (.int p5), .val (.ref a1), .val (.ref a4), .val (.int (0 : Int32)), .unset] [(.int ((0 : Int32) + (1 : Int32))), (.int (0 : Int32)), (.ref a4)]))
    refine own_callV H10 hx hZ (C := "com/example/neardb/neardb/index/PostingPage") (y := (⟨"com/example/neardb/neardb/index/PostingPage", "minY", "(II)D"⟩ : MethodName)) (a := a4) hown (hw _ (List.mem_of_getElem? (i := 127) rfl)) (hw _ (List.mem_of_getElem? (i := 128) rfl)) (hw _ (List.mem_of_getElem? (i := 130) rfl)) (hw _ (List.mem_of_getElem? (i := 129) rfl)) (hw _ (List.mem_of_getElem? (i := 48) rfl)) (hw _ (List.mem_of_getElem? (i := 131) rfl)) (by decide) E6 (rmMY l Z a0 hw a4 ra5 a1 (upd (fun _ => (0 : Int32)) 0 p4) (0 : Int32) ((0 : Int32) + (1 : Int32)) (1 : Int32) p4 0 h6 n0 Frows_6 Fs6 Fh6 (((E3.ext E4).keep K5).keep K6) (((FminY_3.ext E4).keep K5 (ninS ne_a1_a4 nin0)).keep K6 (ninS ne_a1_a4 (ninS ne_hd_fa5 (ninS ne_hd_oa5 (ninS ne_hd_ca5 (ninS ne_hd_ra5 nin0)))))) (((FmaxY_3.ext E4).keep K5 (ninS ne_a1_a4 nin0)).keep K6 (ninS ne_a1_a4 (ninS ne_hd_fa5 (ninS ne_hd_oa5 (ninS ne_hd_ca5 (ninS ne_hd_ra5 nin0)))))) A3_6 (by decide) (by decide) (by decide) (by decide) (by decide) (by decide) rfl) (g := (mkF m 132 #[.val (.int p1), .val (.int p2), .val (.int p3), .val (.int p4), .val (.int p5), .val (.ref a1), .val (.ref a4), .val (.int (0 : Int32)), .unset] [(.int ((0 : Int32) + (1 : Int32))), (.int (0 : Int32)), (.ref a4)])) rfl (by rw [hml]; rfl) (argsL := [(.int (0 : Int32)), (.int ((0 : Int32) + (1 : Int32)))]) (rest := []) (lenOf pd_12 rfl) rfl 0 (Nat.le_of_eq rfl) (hb hby at_132) (by decide) (by decide) (by decide) (by decide) ?_
    rintro _ T11 _ ⟨rfl, rfl⟩ H11
    show Go _ _ _ _ (T11.setTop (mkF m 135 #[.val (.int p1), .val (.int p2), .val (.int p3), .val (.int p4), .val (.int p5), .val (.ref a1), .val (.ref a4), .val (.int (0 : Int32)), .unset] [(.double (FP.i2d p4))]))
    refine Go.via (fun t_ k_ => XS.iloadN H11.here hx rfl (hb hby at_135) rfl k_) ?_
    show Go _ _ _ _ (T11.setTop (mkF m 136 #[.val (.int p1), .val (.int p2), .val (.int p3), .val (.int p4), .val (.int p5), .val (.ref a1), .val (.ref a4), .val (.int (0 : Int32)), .unset] [(.int p4), (.double (FP.i2d p4))]))
    refine Go.via (fun t_ k_ => own_i2dS H11.here hx rfl (hb hby at_136) rfl k_) ?_
    show Go _ _ _ _ (T11.setTop (mkF m 137 #[.val (.int p1), .val (.int p2), .val (.int p3), .val (.int p4), .val (.int p5), .val (.ref a1), .val (.ref a4), .val (.int (0 : Int32)), .unset] [(.double (FP.i2d p4)), (.double (FP.i2d p4))]))
    refine Go.via (fun t_ k_ => own_dcmpl H11.here hx rfl (hb hby at_137) rfl (own_self p4) k_) ?_
    show Go _ _ _ _ (T11.setTop (mkF m 138 #[.val (.int p1), .val (.int p2), .val (.int p3), .val (.int p4), .val (.int p5), .val (.ref a1), .val (.ref a4), .val (.int (0 : Int32)), .unset] [(.int (0 : Int32))]))
    refine Go.via (fun t_ k_ => XS.ifNo H11.here hx rfl (hb hby at_138) rfl ((if0 _ _).trans (teq (show (0 : Int32) = (0 : Int32) from (by decide))).2) k_) ?_
    show Go _ _ _ _ (T11.setTop (mkF m 141 #[.val (.int p1), .val (.int p2), .val (.int p3), .val (.int p4), .val (.int p5), .val (.ref a1), .val (.ref a4), .val (.int (0 : Int32)), .unset] []))
    refine Go.via (fun t_ k_ => XS.iconst H11.here hx rfl (hb hby at_141) k_) ?_
    show Go _ _ _ _ (T11.setTop (mkF m 142 #[.val (.int p1), .val (.int p2), .val (.int p3), .val (.int p4), .val (.int p5), .val (.ref a1), .val (.ref a4), .val (.int (0 : Int32)), .unset] [(.int (1 : Int32))]))
    refine Go.via (fun t_ k_ => XS.goto H11.here hx rfl (pc0 := 142) (pc' := 146) rfl (hb hby at_142) (by decide) (by decide) k_) ?_
    show Go _ _ _ _ (T11.setTop (mkF m 146 #[.val (.int p1), .val (.int p2), .val (.int p3), .val (.int p4), .val (.int p5), .val (.ref a1), .val (.ref a4), .val (.int (0 : Int32)), .unset] [(.int (1 : Int32))]))
    refine Go.via (fun t_ k_ => XS.istore H11.here hx rfl (hb hby at_146) rfl (l' := #[.val (.int p1), .val (.int p2), .val (.int p3), .val (.int p4), .val (.int p5), .val (.ref a1), .val (.ref a4), .val (.int (0 : Int32)), .val (.int (1 : Int32))]) rfl k_) ?_
    show Go _ _ _ _ (T11.setTop (mkF m 148 #[.val (.int p1), .val (.int p2), .val (.int p3), .val (.int p4), .val (.int p5), .val (.ref a1), .val (.ref a4), .val (.int (0 : Int32)), .val (.int (1 : Int32))] []))
    refine Go.via (fun t_ k_ => XS.iload H11.here hx rfl (hb hby at_148) rfl k_) ?_
    show Go _ _ _ _ (T11.setTop (mkF m 150 #[.val (.int p1), .val (.int p2), .val (.int p3), .val (.int p4), .val (.int p5), .val (.ref a1), .val (.ref a4), .val (.int (0 : Int32)), .val (.int (1 : Int32))] [(.int (0 : Int32))]))
    refine Go.via (fun t_ k_ => XS.iconst H11.here hx rfl (hb hby at_150) k_) ?_
    show Go _ _ _ _ (T11.setTop (mkF m 151 #[.val (.int p1), .val (.int p2), .val (.int p3), .val (.int p4), .val (.int p5), .val (.ref a1), .val (.ref a4), .val (.int (0 : Int32)), .val (.int (1 : Int32))] [(.int (1 : Int32)), (.int (0 : Int32))]))
    refine Go.via (fun t_ k_ => XS.icmpYes H11.here hx rfl (pc0 := 151) (pc' := 176) rfl (hb hby at_151) rfl ((feq (show ¬ ((0 : Int32) = (1 : Int32)) from (by decide))).2) (by decide) (by decide) k_) ?_
    show Go _ _ _ _ (T11.setTop (mkF m 176 #[.val (.int p1), .val (.int p2), .val (.int p3), .val (.int p4), .val (.int p5), .val (.ref a1), .val (.ref a4), .val (.int (0 : Int32)), .val (.int (1 : Int32))] []))
    refine Go.via (fun t_ k_ => XS.iload H11.here hx rfl (hb hby at_176) rfl k_) ?_
    show Go _ _ _ _ (T11.setTop (mkF m 178 #[.val (.int p1), .val (.int p2), .val (.int p3), .val (.int p4), .val (.int p5), .val (.ref a1), .val (.ref a4), .val (.int (0 : Int32)), .val (.int (1 : Int32))] [(.int (1 : Int32))]))
    exact own_retN H11 hx hlk (by simp) hret (hb hby at_178) rfl (by decide) (by decide)
  · refine Go.via (fun t_ k_ => XS.ifNo H5.here hx rfl (hb hby at_47) rfl ((if0 _ _).trans (feq hc47).1) k_) ?_
    show Go _ _ _ _ (T5.setTop (mkF m 50 #[.val (.int p1), .val (.int p2), .val (.int p3), .val (.int p4), .val (.int p5), .val (.ref a1), .val (.ref a4), .val (.int (0 : Int32)), .unset] []))
    refine Go.via (fun t_ k_ => XS.aload H5.here hx rfl (hb hby at_50) rfl rfl k_) ?_
    show Go _ _ _ _ (T5.setTop (mkF m 52 #[.val (.int p1), .val (.int p2), .val (.int p3), .val (.int p4), .val (.int p5), .val (.ref a1), .val (.ref a4), .val (.int (0 : Int32)), .unset] [(.ref a4)]))
    refine Go.via (fun t_ k_ => XS.iloadN H5.here hx rfl (hb hby at_52) rfl k_) ?_
    show Go _ _ _ _ (T5.setTop (mkF m 53 #[.val (.int p1), .val (.int p2), .val (.int p3), .val (.int p4), .val (.int p5), .val (.ref a1), .val (.ref a4), .val (.int (0 : Int32)), .unset] [(.int p4), (.ref a4)]))
    refine Go.via (fun t_ k_ => XS.iloadN H5.here hx rfl (hb hby at_53) rfl k_) ?_
    show Go _ _ _ _ (T5.setTop (mkF m 54 #[.val (.int p1), .val (.int p2), .val (.int p3), .val (.int p4), .val (.int p5), .val (.ref a1), .val (.ref a4), .val (.int (0 : Int32)), .unset] [(.int p3), (.int p4), (.ref a4)]))
    refine Go.via (fun t_ k_ => XS.iloadN H5.here hx rfl (hb hby at_54) rfl k_) ?_
    show Go _ _ _ _ (T5.setTop (mkF m 55 #[.val (.int p1), .val (.int p2), .val (.int p3), .val (.int p4), .val (.int p5), .val (.ref a1), .val (.ref a4), .val (.int (0 : Int32)), .unset] [(.int p2), (.int p3), (.int p4), (.ref a4)]))
    refine Go.via (fun t_ k_ => XS.iloadN H5.here hx rfl (hb hby at_55) rfl k_) ?_
    show Go _ _ _ _ (T5.setTop (mkF m 56 #[.val (.int p1), .val (.int p2), .val (.int p3), .val (.int p4), .val (.int p5), .val (.ref a1), .val (.ref a4), .val (.int (0 : Int32)), .unset] [(.int p1), (.int p2), (.int p3), (.int p4), (.ref a4)]))
    refine own_callV H5 hx hZ (C := "com/example/neardb/neardb/index/PostingPage") (y := (⟨"com/example/neardb/neardb/index/PostingPage", "add", "(IIII)V"⟩ : MethodName)) (a := a4) hown (hw _ (List.mem_of_getElem? (i := 67) rfl)) (hw _ (List.mem_of_getElem? (i := 68) rfl)) (hw _ (List.mem_of_getElem? (i := 70) rfl)) (hw _ (List.mem_of_getElem? (i := 69) rfl)) (hw _ (List.mem_of_getElem? (i := 48) rfl)) (hw _ (List.mem_of_getElem? (i := 71) rfl)) (by decide) E5 (rmAd l Z a0 hw a4 a1 fa5 oa5 ca5 ra5 (fun _ => (0 : Int32)) (fun _ => (0 : Int32)) (fun _ => (0 : Int32)) (fun _ => (0 : Int32)) (0 : Int32) (1 : Int32) p4 p3 p2 p1 0 h5 n0 E5 Fh5 Fs5 Ffrequencies_5 Fordinals_5 Fcolumns_5 Frows_5 A_fa5 A_oa5 A_ca5 A_ra5 g_a4 g_fa5 g_oa5 g_ca5 g_ra5 ne_a_fa5 ne_a_oa5 ne_a_ca5 ne_a_ra5 ne_fa_oa5 ne_fa_ca5 ne_fa_ra5 ne_oa_ca5 ne_oa_ra5 ne_ca_ra5 (by decide) (by decide) (by decide)) (g := (mkF m 56 #[.val (.int p1), .val (.int p2), .val (.int p3), .val (.int p4), .val (.int p5), .val (.ref a1), .val (.ref a4), .val (.int (0 : Int32)), .unset] [(.int p1), (.int p2), (.int p3), (.int p4), (.ref a4)])) rfl (by rw [hml]; rfl) (argsL := [(.int p4), (.int p3), (.int p2), (.int p1)]) (rest := []) (lenOf pd_9 rfl) rfl 0 (Nat.le_of_eq rfl) (hb hby at_56) (by decide) (by decide) (by decide) (by decide) ?_
    rintro _ T12 h12 ⟨rfl, K12, E12, Fh12, Fs12, Ffrequencies_12, Fordinals_12, Fcolumns_12, Frows_12, A0_12, A1_12, A2_12, A3_12⟩ H12
    show Go _ _ _ _ (T12.setTop (mkF m 59 #[.val (.int p1), .val (.int p2), .val (.int p3), .val (.int p4), .val (.int p5), .val (.ref a1), .val (.ref a4), .val (.int (0 : Int32)), .unset] []))
    refine Go.via (fun t_ k_ => XS.iconst H12.here hx rfl (hb hby at_59) k_) ?_
    show Go _ _ _ _ (T12.setTop (mkF m 60 #[.val (.int p1), .val (.int p2), .val (.int p3), .val (.int p4), .val (.int p5), .val (.ref a1), .val (.ref a4), .val (.int (0 : Int32)), .unset] [(.int (1 : Int32))]))
    refine Go.via (fun t_ k_ => XS.istore H12.here hx rfl (hb hby at_60) rfl (l' := #[.val (.int p1), .val (.int p2), .val (.int p3), .val (.int p4), .val (.int p5), .val (.ref a1), .val (.ref a4), .val (.int (1 : Int32)), .unset]) rfl k_) ?_
    show Go _ _ _ _ (T12.setTop (mkF m 62 #[.val (.int p1), .val (.int p2), .val (.int p3), .val (.int p4), .val (.int p5), .val (.ref a1), .val (.ref a4), .val (.int (1 : Int32)), .unset] []))
    refine Go.via (fun t_ k_ => XS.aload H12.here hx rfl (hb hby at_62) rfl rfl k_) ?_
    show Go _ _ _ _ (T12.setTop (mkF m 64 #[.val (.int p1), .val (.int p2), .val (.int p3), .val (.int p4), .val (.int p5), .val (.ref a1), .val (.ref a4), .val (.int (1 : Int32)), .unset] [(.ref a4)]))
    refine Go.via (fun t_ k_ => XS.iloadN H12.here hx rfl (hb hby at_64) rfl k_) ?_
    show Go _ _ _ _ (T12.setTop (mkF m 65 #[.val (.int p1), .val (.int p2), .val (.int p3), .val (.int p4), .val (.int p5), .val (.ref a1), .val (.ref a4), .val (.int (1 : Int32)), .unset] [(.int p1), (.ref a4)]))
    refine Go.via (fun t_ k_ => XS.iloadN H12.here hx rfl (hb hby at_65) rfl k_) ?_
    show Go _ _ _ _ (T12.setTop (mkF m 66 #[.val (.int p1), .val (.int p2), .val (.int p3), .val (.int p4), .val (.int p5), .val (.ref a1), .val (.ref a4), .val (.int (1 : Int32)), .unset] [(.int p2), (.int p1), (.ref a4)]))
    refine Go.via (fun t_ k_ => XS.iloadN H12.here hx rfl (hb hby at_66) rfl k_) ?_
    show Go _ _ _ _ (T12.setTop (mkF m 67 #[.val (.int p1), .val (.int p2), .val (.int p3), .val (.int p4), .val (.int p5), .val (.ref a1), .val (.ref a4), .val (.int (1 : Int32)), .unset] [(.int p3), (.int p2), (.int p1), (.ref a4)]))
    refine Go.via (fun t_ k_ => XS.iloadN H12.here hx rfl (hb hby at_67) rfl k_) ?_
    show Go _ _ _ _ (T12.setTop (mkF m 68 #[.val (.int p1), .val (.int p2), .val (.int p3), .val (.int p4), .val (.int p5), .val (.ref a1), .val (.ref a4), .val (.int (1 : Int32)), .unset] [(.int p4), (.int p3), (.int p2), (.int p1), (.ref a4)]))
    refine own_callV H12 hx hZ (C := "com/example/neardb/neardb/index/PostingPage") (y := (⟨"com/example/neardb/neardb/index/PostingPage", "add", "(IIII)V"⟩ : MethodName)) (a := a4) hown (hw _ (List.mem_of_getElem? (i := 67) rfl)) (hw _ (List.mem_of_getElem? (i := 68) rfl)) (hw _ (List.mem_of_getElem? (i := 70) rfl)) (hw _ (List.mem_of_getElem? (i := 69) rfl)) (hw _ (List.mem_of_getElem? (i := 48) rfl)) (hw _ (List.mem_of_getElem? (i := 71) rfl)) (by decide) E12 (rmAd l Z a0 hw a4 a1 fa5 oa5 ca5 ra5 (upd (fun _ => (0 : Int32)) 0 p4) (upd (fun _ => (0 : Int32)) 0 p3) (upd (fun _ => (0 : Int32)) 0 p2) (upd (fun _ => (0 : Int32)) 0 p1) (1 : Int32) (2 : Int32) p1 p2 p3 p4 1 h12 n0 E12 Fh12 Fs12 Ffrequencies_12 Fordinals_12 Fcolumns_12 Frows_12 A0_12 A1_12 A2_12 A3_12 g_a4 g_fa5 g_oa5 g_ca5 g_ra5 ne_a_fa5 ne_a_oa5 ne_a_ca5 ne_a_ra5 ne_fa_oa5 ne_fa_ca5 ne_fa_ra5 ne_oa_ca5 ne_oa_ra5 ne_ca_ra5 (by decide) (by decide) (by decide)) (g := (mkF m 68 #[.val (.int p1), .val (.int p2), .val (.int p3), .val (.int p4), .val (.int p5), .val (.ref a1), .val (.ref a4), .val (.int (1 : Int32)), .unset] [(.int p4), (.int p3), (.int p2), (.int p1), (.ref a4)])) rfl (by rw [hml]; rfl) (argsL := [(.int p1), (.int p2), (.int p3), (.int p4)]) (rest := []) (lenOf pd_9 rfl) rfl 0 (Nat.le_of_eq rfl) (hb hby at_68) (by decide) (by decide) (by decide) (by decide) ?_
    rintro _ T13 h13 ⟨rfl, K13, E13, Fh13, Fs13, Ffrequencies_13, Fordinals_13, Fcolumns_13, Frows_13, A0_13, A1_13, A2_13, A3_13⟩ H13
    show Go _ _ _ _ (T13.setTop (mkF m 71 #[.val (.int p1), .val (.int p2), .val (.int p3), .val (.int p4), .val (.int p5), .val (.ref a1), .val (.ref a4), .val (.int (1 : Int32)), .unset] []))
    refine Go.via (fun t_ k_ => XS.aload H13.here hx rfl (hb hby at_71) rfl rfl k_) ?_
    show Go _ _ _ _ (T13.setTop (mkF m 73 #[.val (.int p1), .val (.int p2), .val (.int p3), .val (.int p4), .val (.int p5), .val (.ref a1), .val (.ref a4), .val (.int (1 : Int32)), .unset] [(.ref a4)]))
    refine own_callV H13 hx hZ (C := "com/example/neardb/neardb/index/PostingPage") (y := (⟨"com/example/neardb/neardb/index/PostingPage", "size", "()I"⟩ : MethodName)) (a := a4) hown (hw _ (List.mem_of_getElem? (i := 74) rfl)) (hw _ (List.mem_of_getElem? (i := 75) rfl)) (hw _ (List.mem_of_getElem? (i := 77) rfl)) (hw _ (List.mem_of_getElem? (i := 76) rfl)) (hw _ (List.mem_of_getElem? (i := 48) rfl)) (hw _ (List.mem_of_getElem? (i := 78) rfl)) (by decide) E13 (rmSz l Z a0 hw a4 (2 : Int32) h13 n0 Fs13) (g := (mkF m 73 #[.val (.int p1), .val (.int p2), .val (.int p3), .val (.int p4), .val (.int p5), .val (.ref a1), .val (.ref a4), .val (.int (1 : Int32)), .unset] [(.ref a4)])) rfl (by rw [hml]; rfl) (argsL := []) (rest := []) (lenOf pd_10 rfl) rfl 0 (Nat.le_of_eq rfl) (hb hby at_73) (by decide) (by decide) (by decide) (by decide) ?_
    rintro _ T14 _ ⟨rfl, rfl⟩ H14
    show Go _ _ _ _ (T14.setTop (mkF m 76 #[.val (.int p1), .val (.int p2), .val (.int p3), .val (.int p4), .val (.int p5), .val (.ref a1), .val (.ref a4), .val (.int (1 : Int32)), .unset] [(.int (2 : Int32))]))
    refine Go.via (fun t_ k_ => XS.iload H14.here hx rfl (hb hby at_76) rfl k_) ?_
    show Go _ _ _ _ (T14.setTop (mkF m 78 #[.val (.int p1), .val (.int p2), .val (.int p3), .val (.int p4), .val (.int p5), .val (.ref a1), .val (.ref a4), .val (.int (1 : Int32)), .unset] [(.int (1 : Int32)), (.int (2 : Int32))]))
    refine Go.via (fun t_ k_ => XS.iconst H14.here hx rfl (hb hby at_78) k_) ?_
    show Go _ _ _ _ (T14.setTop (mkF m 79 #[.val (.int p1), .val (.int p2), .val (.int p3), .val (.int p4), .val (.int p5), .val (.ref a1), .val (.ref a4), .val (.int (1 : Int32)), .unset] [(.int (1 : Int32)), (.int (1 : Int32)), (.int (2 : Int32))]))
    refine Go.via (fun t_ k_ => XS.iadd H14.here hx rfl (hb hby at_79) rfl k_) ?_
    show Go _ _ _ _ (T14.setTop (mkF m 80 #[.val (.int p1), .val (.int p2), .val (.int p3), .val (.int p4), .val (.int p5), .val (.ref a1), .val (.ref a4), .val (.int (1 : Int32)), .unset] [(.int ((1 : Int32) + (1 : Int32))), (.int (2 : Int32))]))
    refine Go.via (fun t_ k_ => XS.icmpYes H14.here hx rfl (pc0 := 80) (pc' := 85) rfl (hb hby at_80) rfl ((teq (show (2 : Int32) = ((1 : Int32) + (1 : Int32)) from (by decide))).1) (by decide) (by decide) k_) ?_
    show Go _ _ _ _ (T14.setTop (mkF m 85 #[.val (.int p1), .val (.int p2), .val (.int p3), .val (.int p4), .val (.int p5), .val (.ref a1), .val (.ref a4), .val (.int (1 : Int32)), .unset] []))
    refine Go.via (fun t_ k_ => XS.aload H14.here hx rfl (hb hby at_85) rfl rfl k_) ?_
    show Go _ _ _ _ (T14.setTop (mkF m 87 #[.val (.int p1), .val (.int p2), .val (.int p3), .val (.int p4), .val (.int p5), .val (.ref a1), .val (.ref a4), .val (.int (1 : Int32)), .unset] [(.ref a4)]))
    refine Go.via (fun t_ k_ => XS.iload H14.here hx rfl (hb hby at_87) rfl k_) ?_
    show Go _ _ _ _ (T14.setTop (mkF m 89 #[.val (.int p1), .val (.int p2), .val (.int p3), .val (.int p4), .val (.int p5), .val (.ref a1), .val (.ref a4), .val (.int (1 : Int32)), .unset] [(.int (1 : Int32)), (.ref a4)]))
    refine own_callV H14 hx hZ (C := "com/example/neardb/neardb/index/PostingPage") (y := (⟨"com/example/neardb/neardb/index/PostingPage", "frequency", "(I)I"⟩ : MethodName)) (a := a4) hown (hw _ (List.mem_of_getElem? (i := 79) rfl)) (hw _ (List.mem_of_getElem? (i := 80) rfl)) (hw _ (List.mem_of_getElem? (i := 82) rfl)) (hw _ (List.mem_of_getElem? (i := 81) rfl)) (hw _ (List.mem_of_getElem? (i := 48) rfl)) (hw _ (List.mem_of_getElem? (i := 83) rfl)) (by decide) E13 (rmFr l Z a0 hw a4 fa5 (upd (upd (fun _ => (0 : Int32)) 0 p4) 1 p1) (1 : Int32) (2 : Int32) p1 1 h13 n0 Ffrequencies_13 Fs13 A0_13 (by decide) (by decide) (by decide) (by decide) rfl) (g := (mkF m 89 #[.val (.int p1), .val (.int p2), .val (.int p3), .val (.int p4), .val (.int p5), .val (.ref a1), .val (.ref a4), .val (.int (1 : Int32)), .unset] [(.int (1 : Int32)), (.ref a4)])) rfl (by rw [hml]; rfl) (argsL := [(.int (1 : Int32))]) (rest := []) (lenOf pd_11 rfl) rfl 0 (Nat.le_of_eq rfl) (hb hby at_89) (by decide) (by decide) (by decide) (by decide) ?_
    rintro _ T15 _ ⟨rfl, rfl⟩ H15
    show Go _ _ _ _ (T15.setTop (mkF m 92 #[.val (.int p1), .val (.int p2), .val (.int p3), .val (.int p4), .val (.int p5), .val (.ref a1), .val (.ref a4), .val (.int (1 : Int32)), .unset] [(.int p1)]))
    refine Go.via (fun t_ k_ => XS.iloadN H15.here hx rfl (hb hby at_92) rfl k_) ?_
    show Go _ _ _ _ (T15.setTop (mkF m 93 #[.val (.int p1), .val (.int p2), .val (.int p3), .val (.int p4), .val (.int p5), .val (.ref a1), .val (.ref a4), .val (.int (1 : Int32)), .unset] [(.int p1), (.int p1)]))
    refine Go.via (fun t_ k_ => XS.icmpNo H15.here hx rfl (hb hby at_93) rfl ((teq (show p1 = p1 from rfl)).2) k_) ?_
    show Go _ _ _ _ (T15.setTop (mkF m 96 #[.val (.int p1), .val (.int p2), .val (.int p3), .val (.int p4), .val (.int p5), .val (.ref a1), .val (.ref a4), .val (.int (1 : Int32)), .unset] []))
    refine Go.via (fun t_ k_ => XS.aload H15.here hx rfl (hb hby at_96) rfl rfl k_) ?_
    show Go _ _ _ _ (T15.setTop (mkF m 98 #[.val (.int p1), .val (.int p2), .val (.int p3), .val (.int p4), .val (.int p5), .val (.ref a1), .val (.ref a4), .val (.int (1 : Int32)), .unset] [(.ref a4)]))
    refine Go.via (fun t_ k_ => XS.iload H15.here hx rfl (hb hby at_98) rfl k_) ?_
    show Go _ _ _ _ (T15.setTop (mkF m 100 #[.val (.int p1), .val (.int p2), .val (.int p3), .val (.int p4), .val (.int p5), .val (.ref a1), .val (.ref a4), .val (.int (1 : Int32)), .unset] [(.int (1 : Int32)), (.ref a4)]))
    refine own_callV H15 hx hZ (C := "com/example/neardb/neardb/index/PostingPage") (y := (⟨"com/example/neardb/neardb/index/PostingPage", "ordinal", "(I)I"⟩ : MethodName)) (a := a4) hown (hw _ (List.mem_of_getElem? (i := 92) rfl)) (hw _ (List.mem_of_getElem? (i := 93) rfl)) (hw _ (List.mem_of_getElem? (i := 95) rfl)) (hw _ (List.mem_of_getElem? (i := 94) rfl)) (hw _ (List.mem_of_getElem? (i := 48) rfl)) (hw _ (List.mem_of_getElem? (i := 96) rfl)) (by decide) E13 (rmOr l Z a0 hw a4 oa5 (upd (upd (fun _ => (0 : Int32)) 0 p3) 1 p2) (1 : Int32) (2 : Int32) p2 1 h13 n0 Fordinals_13 Fs13 A1_13 (by decide) (by decide) (by decide) (by decide) rfl) (g := (mkF m 100 #[.val (.int p1), .val (.int p2), .val (.int p3), .val (.int p4), .val (.int p5), .val (.ref a1), .val (.ref a4), .val (.int (1 : Int32)), .unset] [(.int (1 : Int32)), (.ref a4)])) rfl (by rw [hml]; rfl) (argsL := [(.int (1 : Int32))]) (rest := []) (lenOf pd_11 rfl) rfl 0 (Nat.le_of_eq rfl) (hb hby at_100) (by decide) (by decide) (by decide) (by decide) ?_
    rintro _ T16 _ ⟨rfl, rfl⟩ H16
    show Go _ _ _ _ (T16.setTop (mkF m 103 #[.val (.int p1), .val (.int p2), .val (.int p3), .val (.int p4), .val (.int p5), .val (.ref a1), .val (.ref a4), .val (.int (1 : Int32)), .unset] [(.int p2)]))
    refine Go.via (fun t_ k_ => XS.iloadN H16.here hx rfl (hb hby at_103) rfl k_) ?_
    show Go _ _ _ _ (T16.setTop (mkF m 104 #[.val (.int p1), .val (.int p2), .val (.int p3), .val (.int p4), .val (.int p5), .val (.ref a1), .val (.ref a4), .val (.int (1 : Int32)), .unset] [(.int p2), (.int p2)]))
    refine Go.via (fun t_ k_ => XS.icmpNo H16.here hx rfl (hb hby at_104) rfl ((teq (show p2 = p2 from rfl)).2) k_) ?_
    show Go _ _ _ _ (T16.setTop (mkF m 107 #[.val (.int p1), .val (.int p2), .val (.int p3), .val (.int p4), .val (.int p5), .val (.ref a1), .val (.ref a4), .val (.int (1 : Int32)), .unset] []))
    refine Go.via (fun t_ k_ => XS.aload H16.here hx rfl (hb hby at_107) rfl rfl k_) ?_
    show Go _ _ _ _ (T16.setTop (mkF m 109 #[.val (.int p1), .val (.int p2), .val (.int p3), .val (.int p4), .val (.int p5), .val (.ref a1), .val (.ref a4), .val (.int (1 : Int32)), .unset] [(.ref a4)]))
    refine Go.via (fun t_ k_ => XS.iload H16.here hx rfl (hb hby at_109) rfl k_) ?_
    show Go _ _ _ _ (T16.setTop (mkF m 111 #[.val (.int p1), .val (.int p2), .val (.int p3), .val (.int p4), .val (.int p5), .val (.ref a1), .val (.ref a4), .val (.int (1 : Int32)), .unset] [(.int (1 : Int32)), (.ref a4)]))
    refine Go.via (fun t_ k_ => XS.iload H16.here hx rfl (hb hby at_111) rfl k_) ?_
    show Go _ _ _ _ (T16.setTop (mkF m 113 #[.val (.int p1), .val (.int p2), .val (.int p3), .val (.int p4), .val (.int p5), .val (.ref a1), .val (.ref a4), .val (.int (1 : Int32)), .unset] [(.int (1 : Int32)), (.int (1 : Int32)), (.ref a4)]))
    refine Go.via (fun t_ k_ => XS.iconst H16.here hx rfl (hb hby at_113) k_) ?_
    show Go _ _ _ _ (T16.setTop (mkF m 114 #[.val (.int p1), .val (.int p2), .val (.int p3), .val (.int p4), .val (.int p5), .val (.ref a1), .val (.ref a4), .val (.int (1 : Int32)), .unset] [(.int (1 : Int32)), (.int (1 : Int32)), (.int (1 : Int32)), (.ref a4)]))
    refine Go.via (fun t_ k_ => XS.iadd H16.here hx rfl (hb hby at_114) rfl k_) ?_
    show Go _ _ _ _ (T16.setTop (mkF m 115 #[.val (.int p1), .val (.int p2), .val (.int p3), .val (.int p4), .val (.int p5), .val (.ref a1), .val (.ref a4), .val (.int (1 : Int32)), .unset] [(.int ((1 : Int32) + (1 : Int32))), (.int (1 : Int32)), (.ref a4)]))
    refine own_callV H16 hx hZ (C := "com/example/neardb/neardb/index/PostingPage") (y := (⟨"com/example/neardb/neardb/index/PostingPage", "minX", "(II)D"⟩ : MethodName)) (a := a4) hown (hw _ (List.mem_of_getElem? (i := 97) rfl)) (hw _ (List.mem_of_getElem? (i := 98) rfl)) (hw _ (List.mem_of_getElem? (i := 100) rfl)) (hw _ (List.mem_of_getElem? (i := 99) rfl)) (hw _ (List.mem_of_getElem? (i := 48) rfl)) (hw _ (List.mem_of_getElem? (i := 101) rfl)) (by decide) E13 (rmMX l Z a0 hw a4 ca5 a1 (upd (upd (fun _ => (0 : Int32)) 0 p2) 1 p3) (1 : Int32) ((1 : Int32) + (1 : Int32)) (2 : Int32) p3 1 h13 n0 Fcolumns_13 Fs13 Fh13 ((((E3.ext E4).keep K5).keep K12).keep K13) ((((FminX_3.ext E4).keep K5 (ninS ne_a1_a4 nin0)).keep K12 (ninS ne_a1_a4 (ninS ne_hd_fa5 (ninS ne_hd_oa5 (ninS ne_hd_ca5 (ninS ne_hd_ra5 nin0)))))).keep K13 (ninS ne_a1_a4 (ninS ne_hd_fa5 (ninS ne_hd_oa5 (ninS ne_hd_ca5 (ninS ne_hd_ra5 nin0)))))) ((((FmaxX_3.ext E4).keep K5 (ninS ne_a1_a4 nin0)).keep K12 (ninS ne_a1_a4 (ninS ne_hd_fa5 (ninS ne_hd_oa5 (ninS ne_hd_ca5 (ninS ne_hd_ra5 nin0)))))).keep K13 (ninS ne_a1_a4 (ninS ne_hd_fa5 (ninS ne_hd_oa5 (ninS ne_hd_ca5 (ninS ne_hd_ra5 nin0)))))) A2_13 (by decide) (by decide) (by decide) (by decide) (by decide) (by decide) rfl) (g := (mkF m 115 #[.val (.int p1), .val (.int p2), .val (.int p3), .val (.int p4), .val (.int p5), .val (.ref a1), .val (.ref a4), .val (.int (1 : Int32)), .unset] [(.int ((1 : Int32) + (1 : Int32))), (.int (1 : Int32)), (.ref a4)])) rfl (by rw [hml]; rfl) (argsL := [(.int (1 : Int32)), (.int ((1 : Int32) + (1 : Int32)))]) (rest := []) (lenOf pd_12 rfl) rfl 0 (Nat.le_of_eq rfl) (hb hby at_115) (by decide) (by decide) (by decide) (by decide) ?_
    rintro _ T17 _ ⟨rfl, rfl⟩ H17
    show Go _ _ _ _ (T17.setTop (mkF m 118 #[.val (.int p1), .val (.int p2), .val (.int p3), .val (.int p4), .val (.int p5), .val (.ref a1), .val (.ref a4), .val (.int (1 : Int32)), .unset] [(.double (FP.i2d p3))]))
    refine Go.via (fun t_ k_ => XS.iloadN H17.here hx rfl (hb hby at_118) rfl k_) ?_
    show Go _ _ _ _ (T17.setTop (mkF m 119 #[.val (.int p1), .val (.int p2), .val (.int p3), .val (.int p4), .val (.int p5), .val (.ref a1), .val (.ref a4), .val (.int (1 : Int32)), .unset] [(.int p3), (.double (FP.i2d p3))]))
    refine Go.via (fun t_ k_ => own_i2dS H17.here hx rfl (hb hby at_119) rfl k_) ?_
    show Go _ _ _ _ (T17.setTop (mkF m 120 #[.val (.int p1), .val (.int p2), .val (.int p3), .val (.int p4), .val (.int p5), .val (.ref a1), .val (.ref a4), .val (.int (1 : Int32)), .unset] [(.double (FP.i2d p3)), (.double (FP.i2d p3))]))
    refine Go.via (fun t_ k_ => own_dcmpl H17.here hx rfl (hb hby at_120) rfl (own_self p3) k_) ?_
    show Go _ _ _ _ (T17.setTop (mkF m 121 #[.val (.int p1), .val (.int p2), .val (.int p3), .val (.int p4), .val (.int p5), .val (.ref a1), .val (.ref a4), .val (.int (1 : Int32)), .unset] [(.int (0 : Int32))]))
    refine Go.via (fun t_ k_ => XS.ifNo H17.here hx rfl (hb hby at_121) rfl ((if0 _ _).trans (teq (show (0 : Int32) = (0 : Int32) from (by decide))).2) k_) ?_
    show Go _ _ _ _ (T17.setTop (mkF m 124 #[.val (.int p1), .val (.int p2), .val (.int p3), .val (.int p4), .val (.int p5), .val (.ref a1), .val (.ref a4), .val (.int (1 : Int32)), .unset] []))
    refine Go.via (fun t_ k_ => XS.aload H17.here hx rfl (hb hby at_124) rfl rfl k_) ?_
    show Go _ _ _ _ (T17.setTop (mkF m 126 #[.val (.int p1), .val (.int p2), .val (.int p3), .val (.int p4), .val (.int p5), .val (.ref a1), .val (.ref a4), .val (.int (1 : Int32)), .unset] [(.ref a4)]))
    refine Go.via (fun t_ k_ => XS.iload H17.here hx rfl (hb hby at_126) rfl k_) ?_
    show Go _ _ _ _ (T17.setTop (mkF m 128 #[.val (.int p1), .val (.int p2), .val (.int p3), .val (.int p4), .val (.int p5), .val (.ref a1), .val (.ref a4), .val (.int (1 : Int32)), .unset] [(.int (1 : Int32)), (.ref a4)]))
    refine Go.via (fun t_ k_ => XS.iload H17.here hx rfl (hb hby at_128) rfl k_) ?_
    show Go _ _ _ _ (T17.setTop (mkF m 130 #[.val (.int p1), .val (.int p2), .val (.int p3), .val (.int p4), .val (.int p5), .val (.ref a1), .val (.ref a4), .val (.int (1 : Int32)), .unset] [(.int (1 : Int32)), (.int (1 : Int32)), (.ref a4)]))
    refine Go.via (fun t_ k_ => XS.iconst H17.here hx rfl (hb hby at_130) k_) ?_
    show Go _ _ _ _ (T17.setTop (mkF m 131 #[.val (.int p1), .val (.int p2), .val (.int p3), .val (.int p4), .val (.int p5), .val (.ref a1), .val (.ref a4), .val (.int (1 : Int32)), .unset] [(.int (1 : Int32)), (.int (1 : Int32)), (.int (1 : Int32)), (.ref a4)]))
    refine Go.via (fun t_ k_ => XS.iadd H17.here hx rfl (hb hby at_131) rfl k_) ?_
    show Go _ _ _ _ (T17.setTop (mkF m 132 #[.val (.int p1), .val (.int p2), .val (.int p3), .val (.int p4), .val (.int p5), .val (.ref a1), .val (.ref a4), .val (.int (1 : Int32)), .unset] [(.int ((1 : Int32) + (1 : Int32))), (.int (1 : Int32)), (.ref a4)]))
    refine own_callV H17 hx hZ (C := "com/example/neardb/neardb/index/PostingPage") (y := (⟨"com/example/neardb/neardb/index/PostingPage", "minY", "(II)D"⟩ : MethodName)) (a := a4) hown (hw _ (List.mem_of_getElem? (i := 127) rfl)) (hw _ (List.mem_of_getElem? (i := 128) rfl)) (hw _ (List.mem_of_getElem? (i := 130) rfl)) (hw _ (List.mem_of_getElem? (i := 129) rfl)) (hw _ (List.mem_of_getElem? (i := 48) rfl)) (hw _ (List.mem_of_getElem? (i := 131) rfl)) (by decide) E13 (rmMY l Z a0 hw a4 ra5 a1 (upd (upd (fun _ => (0 : Int32)) 0 p1) 1 p4) (1 : Int32) ((1 : Int32) + (1 : Int32)) (2 : Int32) p4 1 h13 n0 Frows_13 Fs13 Fh13 ((((E3.ext E4).keep K5).keep K12).keep K13) ((((FminY_3.ext E4).keep K5 (ninS ne_a1_a4 nin0)).keep K12 (ninS ne_a1_a4 (ninS ne_hd_fa5 (ninS ne_hd_oa5 (ninS ne_hd_ca5 (ninS ne_hd_ra5 nin0)))))).keep K13 (ninS ne_a1_a4 (ninS ne_hd_fa5 (ninS ne_hd_oa5 (ninS ne_hd_ca5 (ninS ne_hd_ra5 nin0)))))) ((((FmaxY_3.ext E4).keep K5 (ninS ne_a1_a4 nin0)).keep K12 (ninS ne_a1_a4 (ninS ne_hd_fa5 (ninS ne_hd_oa5 (ninS ne_hd_ca5 (ninS ne_hd_ra5 nin0)))))).keep K13 (ninS ne_a1_a4 (ninS ne_hd_fa5 (ninS ne_hd_oa5 (ninS ne_hd_ca5 (ninS ne_hd_ra5 nin0)))))) A3_13 (by decide) (by decide) (by decide) (by decide) (by decide) (by decide) rfl) (g := (mkF m 132 #[.val (.int p1), .val (.int p2), .val (.int p3), .val (.int p4), .val (.int p5), .val (.ref a1), .val (.ref a4), .val (.int (1 : Int32)), .unset] [(.int ((1 : Int32) + (1 : Int32))), (.int (1 : Int32)), (.ref a4)])) rfl (by rw [hml]; rfl) (argsL := [(.int (1 : Int32)), (.int ((1 : Int32) + (1 : Int32)))]) (rest := []) (lenOf pd_12 rfl) rfl 0 (Nat.le_of_eq rfl) (hb hby at_132) (by decide) (by decide) (by decide) (by decide) ?_
    rintro _ T18 _ ⟨rfl, rfl⟩ H18
    show Go _ _ _ _ (T18.setTop (mkF m 135 #[.val (.int p1), .val (.int p2), .val (.int p3), .val (.int p4), .val (.int p5), .val (.ref a1), .val (.ref a4), .val (.int (1 : Int32)), .unset] [(.double (FP.i2d p4))]))
    refine Go.via (fun t_ k_ => XS.iloadN H18.here hx rfl (hb hby at_135) rfl k_) ?_
    show Go _ _ _ _ (T18.setTop (mkF m 136 #[.val (.int p1), .val (.int p2), .val (.int p3), .val (.int p4), .val (.int p5), .val (.ref a1), .val (.ref a4), .val (.int (1 : Int32)), .unset] [(.int p4), (.double (FP.i2d p4))]))
    refine Go.via (fun t_ k_ => own_i2dS H18.here hx rfl (hb hby at_136) rfl k_) ?_
    show Go _ _ _ _ (T18.setTop (mkF m 137 #[.val (.int p1), .val (.int p2), .val (.int p3), .val (.int p4), .val (.int p5), .val (.ref a1), .val (.ref a4), .val (.int (1 : Int32)), .unset] [(.double (FP.i2d p4)), (.double (FP.i2d p4))]))
    refine Go.via (fun t_ k_ => own_dcmpl H18.here hx rfl (hb hby at_137) rfl (own_self p4) k_) ?_
    show Go _ _ _ _ (T18.setTop (mkF m 138 #[.val (.int p1), .val (.int p2), .val (.int p3), .val (.int p4), .val (.int p5), .val (.ref a1), .val (.ref a4), .val (.int (1 : Int32)), .unset] [(.int (0 : Int32))]))
    refine Go.via (fun t_ k_ => XS.ifNo H18.here hx rfl (hb hby at_138) rfl ((if0 _ _).trans (teq (show (0 : Int32) = (0 : Int32) from (by decide))).2) k_) ?_
    show Go _ _ _ _ (T18.setTop (mkF m 141 #[.val (.int p1), .val (.int p2), .val (.int p3), .val (.int p4), .val (.int p5), .val (.ref a1), .val (.ref a4), .val (.int (1 : Int32)), .unset] []))
    refine Go.via (fun t_ k_ => XS.iconst H18.here hx rfl (hb hby at_141) k_) ?_
    show Go _ _ _ _ (T18.setTop (mkF m 142 #[.val (.int p1), .val (.int p2), .val (.int p3), .val (.int p4), .val (.int p5), .val (.ref a1), .val (.ref a4), .val (.int (1 : Int32)), .unset] [(.int (1 : Int32))]))
    refine Go.via (fun t_ k_ => XS.goto H18.here hx rfl (pc0 := 142) (pc' := 146) rfl (hb hby at_142) (by decide) (by decide) k_) ?_
    show Go _ _ _ _ (T18.setTop (mkF m 146 #[.val (.int p1), .val (.int p2), .val (.int p3), .val (.int p4), .val (.int p5), .val (.ref a1), .val (.ref a4), .val (.int (1 : Int32)), .unset] [(.int (1 : Int32))]))
    refine Go.via (fun t_ k_ => XS.istore H18.here hx rfl (hb hby at_146) rfl (l' := #[.val (.int p1), .val (.int p2), .val (.int p3), .val (.int p4), .val (.int p5), .val (.ref a1), .val (.ref a4), .val (.int (1 : Int32)), .val (.int (1 : Int32))]) rfl k_) ?_
    show Go _ _ _ _ (T18.setTop (mkF m 148 #[.val (.int p1), .val (.int p2), .val (.int p3), .val (.int p4), .val (.int p5), .val (.ref a1), .val (.ref a4), .val (.int (1 : Int32)), .val (.int (1 : Int32))] []))
    refine Go.via (fun t_ k_ => XS.iload H18.here hx rfl (hb hby at_148) rfl k_) ?_
    show Go _ _ _ _ (T18.setTop (mkF m 150 #[.val (.int p1), .val (.int p2), .val (.int p3), .val (.int p4), .val (.int p5), .val (.ref a1), .val (.ref a4), .val (.int (1 : Int32)), .val (.int (1 : Int32))] [(.int (1 : Int32))]))
    refine Go.via (fun t_ k_ => XS.iconst H18.here hx rfl (hb hby at_150) k_) ?_
    show Go _ _ _ _ (T18.setTop (mkF m 151 #[.val (.int p1), .val (.int p2), .val (.int p3), .val (.int p4), .val (.int p5), .val (.ref a1), .val (.ref a4), .val (.int (1 : Int32)), .val (.int (1 : Int32))] [(.int (1 : Int32)), (.int (1 : Int32))]))
    refine Go.via (fun t_ k_ => XS.icmpNo H18.here hx rfl (hb hby at_151) rfl ((teq (show (1 : Int32) = (1 : Int32) from (by decide))).2) k_) ?_
    show Go _ _ _ _ (T18.setTop (mkF m 154 #[.val (.int p1), .val (.int p2), .val (.int p3), .val (.int p4), .val (.int p5), .val (.ref a1), .val (.ref a4), .val (.int (1 : Int32)), .val (.int (1 : Int32))] []))
    refine Go.via (fun t_ k_ => XS.iload H18.here hx rfl (hb hby at_154) rfl k_) ?_
    show Go _ _ _ _ (T18.setTop (mkF m 156 #[.val (.int p1), .val (.int p2), .val (.int p3), .val (.int p4), .val (.int p5), .val (.ref a1), .val (.ref a4), .val (.int (1 : Int32)), .val (.int (1 : Int32))] [(.int (1 : Int32))]))
    refine Go.via (fun t_ k_ => XS.ifNo H18.here hx rfl (hb hby at_156) rfl ((if0 _ _).trans (feq (show ¬ ((1 : Int32) = (0 : Int32)) from (by decide))).1) k_) ?_
    show Go _ _ _ _ (T18.setTop (mkF m 159 #[.val (.int p1), .val (.int p2), .val (.int p3), .val (.int p4), .val (.int p5), .val (.ref a1), .val (.ref a4), .val (.int (1 : Int32)), .val (.int (1 : Int32))] []))
    refine Go.via (fun t_ k_ => XS.aload H18.here hx rfl (hb hby at_159) rfl rfl k_) ?_
    show Go _ _ _ _ (T18.setTop (mkF m 161 #[.val (.int p1), .val (.int p2), .val (.int p3), .val (.int p4), .val (.int p5), .val (.ref a1), .val (.ref a4), .val (.int (1 : Int32)), .val (.int (1 : Int32))] [(.ref a4)]))
    refine Go.via (fun t_ k_ => XS.iconst H18.here hx rfl (hb hby at_161) k_) ?_
    show Go _ _ _ _ (T18.setTop (mkF m 162 #[.val (.int p1), .val (.int p2), .val (.int p3), .val (.int p4), .val (.int p5), .val (.ref a1), .val (.ref a4), .val (.int (1 : Int32)), .val (.int (1 : Int32))] [(.int (0 : Int32)), (.ref a4)]))
    refine own_callV H18 hx hZ (C := "com/example/neardb/neardb/index/PostingPage") (y := (⟨"com/example/neardb/neardb/index/PostingPage", "ordinal", "(I)I"⟩ : MethodName)) (a := a4) hown (hw _ (List.mem_of_getElem? (i := 92) rfl)) (hw _ (List.mem_of_getElem? (i := 93) rfl)) (hw _ (List.mem_of_getElem? (i := 95) rfl)) (hw _ (List.mem_of_getElem? (i := 94) rfl)) (hw _ (List.mem_of_getElem? (i := 48) rfl)) (hw _ (List.mem_of_getElem? (i := 96) rfl)) (by decide) E13 (rmOr l Z a0 hw a4 oa5 (upd (upd (fun _ => (0 : Int32)) 0 p3) 1 p2) (0 : Int32) (2 : Int32) p3 0 h13 n0 Fordinals_13 Fs13 A1_13 (by decide) (by decide) (by decide) (by decide) rfl) (g := (mkF m 162 #[.val (.int p1), .val (.int p2), .val (.int p3), .val (.int p4), .val (.int p5), .val (.ref a1), .val (.ref a4), .val (.int (1 : Int32)), .val (.int (1 : Int32))] [(.int (0 : Int32)), (.ref a4)])) rfl (by rw [hml]; rfl) (argsL := [(.int (0 : Int32))]) (rest := []) (lenOf pd_11 rfl) rfl 0 (Nat.le_of_eq rfl) (hb hby at_162) (by decide) (by decide) (by decide) (by decide) ?_
    rintro _ T19 _ ⟨rfl, rfl⟩ H19
    show Go _ _ _ _ (T19.setTop (mkF m 165 #[.val (.int p1), .val (.int p2), .val (.int p3), .val (.int p4), .val (.int p5), .val (.ref a1), .val (.ref a4), .val (.int (1 : Int32)), .val (.int (1 : Int32))] [(.int p3)]))
    refine Go.via (fun t_ k_ => XS.iloadN H19.here hx rfl (hb hby at_165) rfl k_) ?_
    show Go _ _ _ _ (T19.setTop (mkF m 166 #[.val (.int p1), .val (.int p2), .val (.int p3), .val (.int p4), .val (.int p5), .val (.ref a1), .val (.ref a4), .val (.int (1 : Int32)), .val (.int (1 : Int32))] [(.int p3), (.int p3)]))
    refine Go.via (fun t_ k_ => XS.icmpNo H19.here hx rfl (hb hby at_166) rfl ((teq (show p3 = p3 from rfl)).2) k_) ?_
    show Go _ _ _ _ (T19.setTop (mkF m 169 #[.val (.int p1), .val (.int p2), .val (.int p3), .val (.int p4), .val (.int p5), .val (.ref a1), .val (.ref a4), .val (.int (1 : Int32)), .val (.int (1 : Int32))] []))
    refine Go.via (fun t_ k_ => XS.iconst H19.here hx rfl (hb hby at_169) k_) ?_
    show Go _ _ _ _ (T19.setTop (mkF m 170 #[.val (.int p1), .val (.int p2), .val (.int p3), .val (.int p4), .val (.int p5), .val (.ref a1), .val (.ref a4), .val (.int (1 : Int32)), .val (.int (1 : Int32))] [(.int (1 : Int32))]))
    refine Go.via (fun t_ k_ => XS.goto H19.here hx rfl (pc0 := 170) (pc' := 174) rfl (hb hby at_170) (by decide) (by decide) k_) ?_
    show Go _ _ _ _ (T19.setTop (mkF m 174 #[.val (.int p1), .val (.int p2), .val (.int p3), .val (.int p4), .val (.int p5), .val (.ref a1), .val (.ref a4), .val (.int (1 : Int32)), .val (.int (1 : Int32))] [(.int (1 : Int32))]))
    refine Go.via (fun t_ k_ => XS.istore H19.here hx rfl (hb hby at_174) rfl (l' := #[.val (.int p1), .val (.int p2), .val (.int p3), .val (.int p4), .val (.int p5), .val (.ref a1), .val (.ref a4), .val (.int (1 : Int32)), .val (.int (1 : Int32))]) rfl k_) ?_
    show Go _ _ _ _ (T19.setTop (mkF m 176 #[.val (.int p1), .val (.int p2), .val (.int p3), .val (.int p4), .val (.int p5), .val (.ref a1), .val (.ref a4), .val (.int (1 : Int32)), .val (.int (1 : Int32))] []))
    refine Go.via (fun t_ k_ => XS.iload H19.here hx rfl (hb hby at_176) rfl k_) ?_
    show Go _ _ _ _ (T19.setTop (mkF m 178 #[.val (.int p1), .val (.int p2), .val (.int p3), .val (.int p4), .val (.int p5), .val (.ref a1), .val (.ref a4), .val (.int (1 : Int32)), .val (.int (1 : Int32))] [(.int (1 : Int32))]))
    exact own_retN H19 hx hlk (by simp) hret (hb hby at_178) rfl (by decide) (by decide)
set_option maxRecDepth 65536 in
set_option maxHeartbeats 40000000 in
theorem comes_1 {Post : Tables → Env → Array Value → State → Outcome → State → Prop} (hpost : ∀ tb e args s v u, (limb_1_1.after args s (.returned v) u = true ∧ limb_1_2.after args s (.returned v) u = true ∧ True) → FrameEnd s (.returned v) u (Jvm.fieldLocs frame_1_writes args s ++ Jvm.arrayLocs frame_1_arrays args s ++ Jvm.staticLocs frame_1_statics s) 32 128 → Post tb e args s (.returned v) u) :
    ArmFor flags0 classFile x code maxLocals ret World_1 tables_1 room_1 Calls_1 rest_1 Pre_1 Post := by
  intro l hfl _ _ p e ha hc hk s m args below hf hA hF happ hP
  obtain ⟨hcalls, hrest, hpre⟩ := hP
  obtain ⟨-, -, -, hnamed, -, -, -, hat⟩ := (Spec.applies_iff hf).mp happ
  obtain ⟨hg, hn⟩ := and_e (Cond.before_iff.mp (show (Jvm.Cond.and given_1 narrow_1).before args s = true from hpre))
  obtain ⟨g0, g1⟩ := and_e hg
  obtain ⟨i0, r0⟩ := and_e g1
  obtain ⟨i1, r1⟩ := and_e r0
  obtain ⟨i2, r2⟩ := and_e r1
  obtain ⟨i3, r3⟩ := and_e r2
  obtain ⟨w0, w1, w2, w3, w4, rfl⟩ : ∃ w0 w1 w2 w3 w4 : Value, args = #[w0, w1, w2, w3, w4] := by
    have hs : args.size = 5 := by simpa [Cond.value, given_1] using g0
    obtain ⟨L⟩ := args
    match L, hs with
    | [w0, w1, w2, w3, w4], _ => exact ⟨w0, w1, w2, w3, w4, rfl⟩
  have hw := fun d (hd : d ∈ tables_1) => atoms_spec (ws := Jvm.Cond.code x code maxLocals ret :: tables_1) hat d (List.mem_cons_of_mem _ hd)
  have hfit : Fit s := fun {y c} hc i hi => by
    obtain ⟨ha, rfl⟩ := Array.getElem?_eq_some_iff.mp hc
    have q := List.all_eq_true.mp ((Array.all_eq_true_iff_forall_mem.mp hF) _ (Array.getElem_mem ha)) i (List.mem_range.mpr hi)
    simpa [Array.getElem?_eq_getElem hi] using q
  obtain ⟨v0, e0⟩ := is_v i0
  obtain rfl : w0 = (.int v0) := Option.some.inj e0
  obtain ⟨v1, e1⟩ := is_v i1
  obtain rfl : w1 = (.int v1) := Option.some.inj e1
  obtain ⟨v2, e2⟩ := is_v i2
  obtain rfl : w2 = (.int v2) := Option.some.inj e2
  obtain ⟨v3, e3⟩ := is_v i3
  obtain rfl : w3 = (.int v3) := Option.some.inj e3
  obtain ⟨v4, e4⟩ := is_v r3
  obtain rfl : w4 = (.int v4) := Option.some.inj e4
  obtain ⟨n, o, h1, h2, h3, _, L, rfl, ⟨rfl, N⟩, hq⟩ := rm0 l s _ hw v0 v1 v2 v3 v4 s.heap s.heap.size (Nat.le_refl _) tables_1 p e ha hc hk s m _ below hf ((Spec.applies_iff_loose hf).mp happ).1 ⟨rfl, State.Warmed39.refl s, rfl⟩ trivial
  refine ⟨n, _, h1, h2, h3, hpost _ _ _ _ _ _ ⟨Cond.after_iff.mpr rfl, Cond.after_iff.mpr (eq_i res_at (Term.int_eval (1)) rfl), trivial⟩ ⟨hq.1, hq.2.1, (hq.2.2.sift fun y hy => Or.inr (N y hy)).mono (by decide) (by decide)⟩⟩
theorem main_1_1 : Claimed_1_1 := comes_1 fun _ _ _ _ _ _ h hF => ⟨h.1, hF⟩
theorem main_1_2 : Claimed_1_2 := comes_1 fun _ _ _ _ _ _ h hF => ⟨h.2.1, hF⟩
end Jvm.Pilot.@@N@@
namespace Jvm.Pilot.@@N@@
open Jvm Jvm.ClassFile Sem Op Lib Jvm.Free Jvm.Stand Jvm.Pilot.@@N@@.Jvm.D
/-! MADE BY PROGRAM (witnessworld.py) out of the Statement's table words and the real class files: 13 classes; the members and pool entries that the words name. The judged class is class 1, her method 1. -/
namespace start1
open Jvm.ClassFile
def u (s : String) : CpInfo := .utf8 (stringToUtf16 s)
/-- a pool by its gaps: so many unusable entries, then the entry; so many at the end -/
def gap : Nat → List CpInfo → List CpInfo
  | 0, r => r
  | n + 1, r => .unusable :: gap n r
def poolList (es : List (Nat × CpInfo)) (last : Nat) : List CpInfo := es.foldr (fun e r => gap e.1 (e.2 :: r)) (gap last [])
def pool (es : List (Nat × CpInfo)) (last : Nat) : Array CpInfo := ⟨poolList es last⟩
def fileOf (pool : Array CpInfo) (this : Nat) (attrs : Array Attribute := #[]) (ms : Array MethodInfo := #[]) (fl : Nat := 33) (sup : Nat := 0) (ifs : Array Nat := #[]) (fds : Array FieldInfo := #[]) : ClassFile where
  minorVersion := 0
  majorVersion := 65
  constantPool := pool
  accessFlags := fl
  thisClass := this
  superClass := sup
  interfaces := ifs
  fields := fds
  methods := ms
  attributes := attrs
def plain (name : String) (sup : Option ClassId) : Class where
  name := name
  kind := .ordinary
  loader := none
  accessFlags := 33
  super := sup
  interfaces := #[]
  cf := none
  fields := #[]
  methods := #[]
  instanceTypes := #[]
  staticTypes := #[]
  resolved := #[]
  callSites := []
  init := .initialized
  statics := none
  mirror := none

def pool0 : Array CpInfo := pool [(5, u "<init>"), (0, u "()V"), (1, .class_ 10), (1, u "java/lang/Object"), (85, u "clone"), (0, u "()Ljava/lang/Object;")] 26

def k0c0 : Code := { maxStack := 0, maxLocals := 1, code := object_method_1_code, exceptionTable := #[], attributes := #[] }
def k0m0 : Method := { name := "<init>", desc := "()V", sig := { parameters := [], returnType := none }, accessFlags := 1, code := some k0c0 }
def k0m1 : Method := { name := "clone", desc := "()Ljava/lang/Object;", sig := { parameters := [], returnType := some (.object "java/lang/Object") }, accessFlags := 260, code := none }
/-- java/lang/Object -/
def k0 : Class := { plain "java/lang/Object" none with
  accessFlags := 33
  interfaces := #[]
  cf := some (fileOf pool0 8 #[] #[{ accessFlags := 1, nameIndex := 5, descriptorIndex := 6, attributes := #[] }, { accessFlags := 260, nameIndex := 96, descriptorIndex := 97, attributes := #[] }] 33 0 #[] #[])
  fields := #[]
  methods := #[k0m0, k0m1]
  instanceTypes := #[]
  staticTypes := #[]
  resolved := Array.replicate 124 none
  statics := none }

def pool1 : Array CpInfo := pool [(2, .class_ 4), (1, u "java/lang/Object"), (0, u "<init>"), (0, u "()V"), (0, .class_ 8), (0, u "com/example/neardb/neardb/index/Header"), (0, .double 4679240012837945344), (1, .methodref 7 12), (0, .nameAndType 5 13), (0, u "(JJDDDDJZDDIZ[I)V"), (0, .class_ 15), (0, u "com/example/neardb/neardb/index/PostingPage"), (0, .methodref 14 17), (0, .nameAndType 5 18), (0, u "(Lcom/example/neardb/neardb/index/Header;I)V"), (0, .methodref 14 20), (0, .nameAndType 21 22), (0, u "add"), (0, u "(IIII)V"), (0, .methodref 14 24), (0, .nameAndType 25 26), (0, u "size"), (0, u "()I"), (0, .methodref 14 28), (0, .nameAndType 29 30), (0, u "frequency"), (0, u "(I)I"), (0, .methodref 14 32), (0, .nameAndType 33 30), (0, u "ordinal"), (0, .methodref 14 35), (0, .nameAndType 36 37), (0, u "minX"), (0, u "(II)D"), (0, .methodref 14 39), (0, .nameAndType 40 37), (0, u "minY"), (0, .class_ 42), (0, u "com/example/neardb/neardb/index/PostingPageAddPinLaw"), (2, u "law"), (0, u "(IIIII)Z")] 3

def k1m0 : Method := { name := "<init>", desc := "()V", sig := { parameters := [], returnType := none }, accessFlags := 1, code := none }
def k1c1 : Code := { maxStack := 24, maxLocals := 9, code := code, exceptionTable := #[], attributes := #[] }
def k1m1 : Method := { name := "law", desc := "(IIIII)Z", sig := { parameters := [.int, .int, .int, .int, .int], returnType := some .boolean }, accessFlags := 9, code := some k1c1 }
/-- com/example/neardb/neardb/index/PostingPageAddPinLaw -/
def k1 : Class := { plain "com/example/neardb/neardb/index/PostingPageAddPinLaw" (some 0) with
  accessFlags := 49
  interfaces := #[]
  cf := some (fileOf pool1 41 #[] #[{ accessFlags := 1, nameIndex := 5, descriptorIndex := 6, attributes := #[] }, { accessFlags := 9, nameIndex := 45, descriptorIndex := 46, attributes := #[] }] 49 2 #[] #[])
  fields := #[]
  methods := #[k1m0, k1m1]
  instanceTypes := #[]
  staticTypes := #[]
  resolved := Array.replicate 50 none
  statics := none }

def pool2 : Array CpInfo := pool [(1, .class_ 2), (0, u "com/example/neardb/neardb/index/Header"), (6, .methodref 10 11), (0, .class_ 12), (0, .nameAndType 13 14), (0, u "java/lang/Object"), (0, u "<init>"), (0, u "()V"), (0, .fieldref 1 16), (0, .nameAndType 17 18), (0, u "objectCount"), (0, u "J"), (0, .fieldref 1 20), (0, .nameAndType 21 18), (0, u "termCount"), (0, .fieldref 1 23), (0, .nameAndType 24 25), (0, u "minX"), (0, u "D"), (0, .fieldref 1 27), (0, .nameAndType 28 25), (0, u "minY"), (0, .fieldref 1 30), (0, .nameAndType 31 25), (0, u "maxX"), (0, .fieldref 1 33), (0, .nameAndType 34 25), (0, u "maxY"), (0, .fieldref 1 36), (0, .nameAndType 37 18), (0, u "postingBytes"), (0, .fieldref 1 39), (0, .nameAndType 40 41), (0, u "hasValues"), (0, u "Z"), (0, .fieldref 1 43), (0, .nameAndType 44 25), (0, u "minValue"), (0, .fieldref 1 46), (0, .nameAndType 47 25), (0, u "maxValue"), (0, .fieldref 1 49), (0, .nameAndType 50 51), (0, u "numberCount"), (0, u "I"), (0, .fieldref 1 53), (0, .nameAndType 54 41), (0, u "keepsNumbers"), (0, .methodref 56 57), (0, .class_ 58), (0, .nameAndType 59 60), (0, u "[I"), (0, u "clone"), (0, u "()Ljava/lang/Object;"), (0, .fieldref 1 62), (0, .nameAndType 63 58), (0, u "segments"), (2, u "(JJDDDDJZDDIZ[I)V"), (8, u "MAGIC"), (0, u "[B"), (128, u "()D"), (43, u "CHECKED_BYTES"), (2, u "VALUES_START"), (1, u "VALUES_CHECKED_BYTES"), (1, u "COLLECTION_START"), (1, u "MAX_SEGMENTS")] 42

def k2c0 : Code := { maxStack := 3, maxLocals := 23, code := prog_29_method_1_code, exceptionTable := #[], attributes := #[] }
def k2m0 : Method := { name := "<init>", desc := "(JJDDDDJZDDIZ[I)V", sig := { parameters := [.long, .long, .double, .double, .double, .double, .long, .boolean, .double, .double, .int, .boolean, (.array .int)], returnType := none }, accessFlags := 0, code := some k2c0 }
def k2c1 : Code := { maxStack := 2, maxLocals := 1, code := prog_29_method_5_code, exceptionTable := #[], attributes := #[] }
def k2m1 : Method := { name := "minX", desc := "()D", sig := { parameters := [], returnType := some .double }, accessFlags := 0, code := some k2c1 }
def k2c2 : Code := { maxStack := 2, maxLocals := 1, code := prog_29_method_6_code, exceptionTable := #[], attributes := #[] }
def k2m2 : Method := { name := "minY", desc := "()D", sig := { parameters := [], returnType := some .double }, accessFlags := 0, code := some k2c2 }
def k2c3 : Code := { maxStack := 2, maxLocals := 1, code := prog_29_method_7_code, exceptionTable := #[], attributes := #[] }
def k2m3 : Method := { name := "maxX", desc := "()D", sig := { parameters := [], returnType := some .double }, accessFlags := 0, code := some k2c3 }
def k2c4 : Code := { maxStack := 2, maxLocals := 1, code := prog_29_method_8_code, exceptionTable := #[], attributes := #[] }
def k2m4 : Method := { name := "maxY", desc := "()D", sig := { parameters := [], returnType := some .double }, accessFlags := 0, code := some k2c4 }
/-- com/example/neardb/neardb/index/Header -/
def k2 : Class := { plain "com/example/neardb/neardb/index/Header" (some 0) with
  accessFlags := 48
  interfaces := #[]
  cf := some (fileOf pool2 1 #[] #[{ accessFlags := 0, nameIndex := 13, descriptorIndex := 66, attributes := #[] }, { accessFlags := 0, nameIndex := 24, descriptorIndex := 205, attributes := #[] }, { accessFlags := 0, nameIndex := 28, descriptorIndex := 205, attributes := #[] }, { accessFlags := 0, nameIndex := 31, descriptorIndex := 205, attributes := #[] }, { accessFlags := 0, nameIndex := 34, descriptorIndex := 205, attributes := #[] }] 48 10 #[] #[{ accessFlags := 26, nameIndex := 75, descriptorIndex := 76, attributes := #[] }, { accessFlags := 26, nameIndex := 249, descriptorIndex := 51, attributes := #[] }, { accessFlags := 26, nameIndex := 252, descriptorIndex := 51, attributes := #[] }, { accessFlags := 26, nameIndex := 254, descriptorIndex := 51, attributes := #[] }, { accessFlags := 26, nameIndex := 256, descriptorIndex := 51, attributes := #[] }, { accessFlags := 24, nameIndex := 258, descriptorIndex := 51, attributes := #[] }, { accessFlags := 18, nameIndex := 17, descriptorIndex := 18, attributes := #[] }, { accessFlags := 18, nameIndex := 21, descriptorIndex := 18, attributes := #[] }, { accessFlags := 18, nameIndex := 24, descriptorIndex := 25, attributes := #[] }, { accessFlags := 18, nameIndex := 28, descriptorIndex := 25, attributes := #[] }, { accessFlags := 18, nameIndex := 31, descriptorIndex := 25, attributes := #[] }, { accessFlags := 18, nameIndex := 34, descriptorIndex := 25, attributes := #[] }, { accessFlags := 18, nameIndex := 37, descriptorIndex := 18, attributes := #[] }, { accessFlags := 18, nameIndex := 40, descriptorIndex := 41, attributes := #[] }, { accessFlags := 18, nameIndex := 44, descriptorIndex := 25, attributes := #[] }, { accessFlags := 18, nameIndex := 47, descriptorIndex := 25, attributes := #[] }, { accessFlags := 18, nameIndex := 50, descriptorIndex := 51, attributes := #[] }, { accessFlags := 18, nameIndex := 54, descriptorIndex := 41, attributes := #[] }, { accessFlags := 18, nameIndex := 63, descriptorIndex := 58, attributes := #[] }])
  fields := #[{ name := "MAGIC", type := (.array .byte), accessFlags := 26, slot := 0, constantValue := 0 }, { name := "CHECKED_BYTES", type := .int, accessFlags := 26, slot := 1, constantValue := 0 }, { name := "VALUES_START", type := .int, accessFlags := 26, slot := 2, constantValue := 0 }, { name := "VALUES_CHECKED_BYTES", type := .int, accessFlags := 26, slot := 3, constantValue := 0 }, { name := "COLLECTION_START", type := .int, accessFlags := 26, slot := 4, constantValue := 0 }, { name := "MAX_SEGMENTS", type := .int, accessFlags := 24, slot := 5, constantValue := 0 }, { name := "objectCount", type := .long, accessFlags := 18, slot := 0, constantValue := 0 }, { name := "termCount", type := .long, accessFlags := 18, slot := 1, constantValue := 0 }, { name := "minX", type := .double, accessFlags := 18, slot := 2, constantValue := 0 }, { name := "minY", type := .double, accessFlags := 18, slot := 3, constantValue := 0 }, { name := "maxX", type := .double, accessFlags := 18, slot := 4, constantValue := 0 }, { name := "maxY", type := .double, accessFlags := 18, slot := 5, constantValue := 0 }, { name := "postingBytes", type := .long, accessFlags := 18, slot := 6, constantValue := 0 }, { name := "hasValues", type := .boolean, accessFlags := 18, slot := 7, constantValue := 0 }, { name := "minValue", type := .double, accessFlags := 18, slot := 8, constantValue := 0 }, { name := "maxValue", type := .double, accessFlags := 18, slot := 9, constantValue := 0 }, { name := "numberCount", type := .int, accessFlags := 18, slot := 10, constantValue := 0 }, { name := "keepsNumbers", type := .boolean, accessFlags := 18, slot := 11, constantValue := 0 }, { name := "segments", type := (.array .int), accessFlags := 18, slot := 12, constantValue := 0 }]
  methods := #[k2m0, k2m1, k2m2, k2m3, k2m4]
  instanceTypes := #[.long, .long, .double, .double, .double, .double, .long, .boolean, .double, .double, .int, .boolean, (.array .int)]
  staticTypes := #[(.array .byte), .int, .int, .int, .int, .int]
  resolved := Array.replicate 301 none
  statics := none }

def pool3 : Array CpInfo := pool [(1, .class_ 2), (0, u "java/lang/Cloneable"), (0, .class_ 4), (0, u "java/lang/Object")] 2

/-- java/lang/Cloneable -/
def k3 : Class := { plain "java/lang/Cloneable" (some 0) with
  accessFlags := 1537
  interfaces := #[]
  cf := some (fileOf pool3 1 #[] #[] 1537 3 #[] #[])
  fields := #[]
  methods := #[]
  instanceTypes := #[]
  staticTypes := #[]
  resolved := Array.replicate 7 none
  statics := none }

def pool4 : Array CpInfo := pool [(1, .methodref 2 3), (0, .class_ 4), (0, .nameAndType 5 6), (0, u "java/lang/Object"), (0, u "<init>"), (0, u "()V"), (0, .fieldref 8 9), (0, .class_ 10), (0, .nameAndType 11 12), (0, u "com/example/neardb/neardb/index/PostingPage"), (0, u "runFrequencies"), (0, u "[I"), (0, .fieldref 8 14), (0, .nameAndType 15 12), (0, u "runStarts"), (0, .fieldref 8 17), (0, .nameAndType 18 19), (0, u "header"), (0, u "Lcom/example/neardb/neardb/index/Header;"), (0, .fieldref 8 21), (0, .nameAndType 22 12), (0, u "frequencies"), (0, .fieldref 8 24), (0, .nameAndType 25 12), (0, u "ordinals"), (0, .fieldref 8 27), (0, .nameAndType 28 12), (0, u "columns"), (0, .fieldref 8 30), (0, .nameAndType 31 12), (0, u "rows"), (0, .fieldref 8 33), (0, .nameAndType 34 35), (0, u "size"), (0, u "I"), (0, .methodref 37 38), (0, .class_ 39), (0, .nameAndType 40 41), (0, u "java/util/Objects"), (0, u "checkIndex"), (0, u "(II)I"), (0, .methodref 37 43), (0, .nameAndType 44 45), (0, u "checkFromToIndex"), (0, u "(III)I"), (0, .methodref 8 47), (0, .nameAndType 48 49), (0, u "least"), (0, u "([III)I"), (0, .methodref 51 52), (0, .class_ 53), (0, .nameAndType 54 55), (0, u "com/example/neardb/neardb/index/Header"), (0, u "minX"), (0, u "()D"), (0, .methodref 51 57), (0, .nameAndType 58 55), (0, u "maxX"), (0, .methodref 60 61), (0, .class_ 62), (0, .nameAndType 63 64), (0, u "com/example/neardb/neardb/index/Grid"), (0, u "edge"), (0, u "(IDD)D"), (0, .methodref 51 66), (0, .nameAndType 67 55), (0, u "minY"), (0, .methodref 51 69), (0, .nameAndType 70 55), (0, u "maxY"), (11, u "runs"), (18, u "(Lcom/example/neardb/neardb/index/Header;I)V"), (2, u "()I"), (0, u "ordinal"), (0, u "(I)I"), (0, u "frequency"), (0, u "(II)D"), (4, u "add"), (0, u "(IIII)V")] 2

def k4c0 : Code := { maxStack := 2, maxLocals := 3, code := prog_48_method_1_code, exceptionTable := #[], attributes := #[] }
def k4m0 : Method := { name := "<init>", desc := "(Lcom/example/neardb/neardb/index/Header;I)V", sig := { parameters := [(.object "com/example/neardb/neardb/index/Header"), .int], returnType := none }, accessFlags := 0, code := some k4c0 }
def k4c1 : Code := { maxStack := 1, maxLocals := 1, code := prog_48_method_2_code, exceptionTable := #[], attributes := #[] }
def k4m1 : Method := { name := "size", desc := "()I", sig := { parameters := [], returnType := some .int }, accessFlags := 1, code := some k4c1 }
def k4c2 : Code := { maxStack := 3, maxLocals := 2, code := prog_48_method_3_code, exceptionTable := #[], attributes := #[] }
def k4m2 : Method := { name := "ordinal", desc := "(I)I", sig := { parameters := [.int], returnType := some .int }, accessFlags := 1, code := some k4c2 }
def k4c3 : Code := { maxStack := 3, maxLocals := 2, code := prog_48_method_4_code, exceptionTable := #[], attributes := #[] }
def k4m3 : Method := { name := "frequency", desc := "(I)I", sig := { parameters := [.int], returnType := some .int }, accessFlags := 1, code := some k4c3 }
def k4c4 : Code := { maxStack := 5, maxLocals := 3, code := prog_48_method_5_code, exceptionTable := #[], attributes := #[] }
def k4m4 : Method := { name := "minX", desc := "(II)D", sig := { parameters := [.int, .int], returnType := some .double }, accessFlags := 1, code := some k4c4 }
def k4c5 : Code := { maxStack := 5, maxLocals := 3, code := prog_48_method_6_code, exceptionTable := #[], attributes := #[] }
def k4m5 : Method := { name := "minY", desc := "(II)D", sig := { parameters := [.int, .int], returnType := some .double }, accessFlags := 1, code := some k4c5 }
def k4c6 : Code := { maxStack := 3, maxLocals := 5, code := prog_48_method_13_code, exceptionTable := #[], attributes := #[] }
def k4m6 : Method := { name := "add", desc := "(IIII)V", sig := { parameters := [.int, .int, .int, .int], returnType := none }, accessFlags := 0, code := some k4c6 }
def k4c7 : Code := { maxStack := 3, maxLocals := 5, code := prog_48_method_14_code, exceptionTable := #[], attributes := #[] }
def k4m7 : Method := { name := "least", desc := "([III)I", sig := { parameters := [(.array .int), .int, .int], returnType := some .int }, accessFlags := 10, code := some k4c7 }
/-- com/example/neardb/neardb/index/PostingPage -/
def k4 : Class := { plain "com/example/neardb/neardb/index/PostingPage" (some 0) with
  accessFlags := 49
  interfaces := #[]
  cf := some (fileOf pool4 8 #[] #[{ accessFlags := 0, nameIndex := 5, descriptorIndex := 101, attributes := #[] }, { accessFlags := 1, nameIndex := 34, descriptorIndex := 104, attributes := #[] }, { accessFlags := 1, nameIndex := 105, descriptorIndex := 106, attributes := #[] }, { accessFlags := 1, nameIndex := 107, descriptorIndex := 106, attributes := #[] }, { accessFlags := 1, nameIndex := 54, descriptorIndex := 108, attributes := #[] }, { accessFlags := 1, nameIndex := 67, descriptorIndex := 108, attributes := #[] }, { accessFlags := 0, nameIndex := 113, descriptorIndex := 114, attributes := #[] }, { accessFlags := 10, nameIndex := 48, descriptorIndex := 49, attributes := #[] }] 49 2 #[] #[{ accessFlags := 18, nameIndex := 18, descriptorIndex := 19, attributes := #[] }, { accessFlags := 18, nameIndex := 22, descriptorIndex := 12, attributes := #[] }, { accessFlags := 18, nameIndex := 25, descriptorIndex := 12, attributes := #[] }, { accessFlags := 18, nameIndex := 28, descriptorIndex := 12, attributes := #[] }, { accessFlags := 18, nameIndex := 31, descriptorIndex := 12, attributes := #[] }, { accessFlags := 2, nameIndex := 34, descriptorIndex := 35, attributes := #[] }, { accessFlags := 2, nameIndex := 11, descriptorIndex := 12, attributes := #[] }, { accessFlags := 2, nameIndex := 15, descriptorIndex := 12, attributes := #[] }, { accessFlags := 2, nameIndex := 82, descriptorIndex := 35, attributes := #[] }])
  fields := #[{ name := "header", type := (.object "com/example/neardb/neardb/index/Header"), accessFlags := 18, slot := 0, constantValue := 0 }, { name := "frequencies", type := (.array .int), accessFlags := 18, slot := 1, constantValue := 0 }, { name := "ordinals", type := (.array .int), accessFlags := 18, slot := 2, constantValue := 0 }, { name := "columns", type := (.array .int), accessFlags := 18, slot := 3, constantValue := 0 }, { name := "rows", type := (.array .int), accessFlags := 18, slot := 4, constantValue := 0 }, { name := "size", type := .int, accessFlags := 2, slot := 5, constantValue := 0 }, { name := "runFrequencies", type := (.array .int), accessFlags := 2, slot := 6, constantValue := 0 }, { name := "runStarts", type := (.array .int), accessFlags := 2, slot := 7, constantValue := 0 }, { name := "runs", type := .int, accessFlags := 2, slot := 8, constantValue := 0 }]
  methods := #[k4m0, k4m1, k4m2, k4m3, k4m4, k4m5, k4m6, k4m7]
  instanceTypes := #[(.object "com/example/neardb/neardb/index/Header"), (.array .int), (.array .int), (.array .int), (.array .int), .int, (.array .int), (.array .int), .int]
  staticTypes := #[]
  resolved := Array.replicate 117 none
  statics := none }

def pool5 : Array CpInfo := pool [(2, .class_ 4), (1, u "java/lang/Object"), (0, u "<init>"), (0, u "()V"), (35, .class_ 44), (1, u "java/util/Objects"), (60, .methodref 106 107), (0, .class_ 108), (0, .nameAndType 109 110), (0, u "jdk/internal/util/Preconditions"), (0, u "checkIndex"), (0, u "(IILjava/util/function/BiFunction;)I"), (0, .methodref 106 112), (0, .nameAndType 113 114), (0, u "checkFromToIndex"), (0, u "(IIILjava/util/function/BiFunction;)I"), (56, u "(II)I"), (3, u "(III)I")] 8

def k5m0 : Method := { name := "<init>", desc := "()V", sig := { parameters := [], returnType := none }, accessFlags := 2, code := none }
def k5c1 : Code := { maxStack := 3, maxLocals := 2, code := jdk_31_method_17_code, exceptionTable := #[], attributes := #[] }
def k5m1 : Method := { name := "checkIndex", desc := "(II)I", sig := { parameters := [.int, .int], returnType := some .int }, accessFlags := 9, code := some k5c1 }
def k5c2 : Code := { maxStack := 4, maxLocals := 3, code := jdk_31_method_18_code, exceptionTable := #[], attributes := #[] }
def k5m2 : Method := { name := "checkFromToIndex", desc := "(III)I", sig := { parameters := [.int, .int, .int], returnType := some .int }, accessFlags := 9, code := some k5c2 }
/-- java/util/Objects -/
def k5 : Class := { plain "java/util/Objects" (some 0) with
  accessFlags := 49
  interfaces := #[]
  cf := some (fileOf pool5 42 #[] #[{ accessFlags := 2, nameIndex := 5, descriptorIndex := 6, attributes := #[] }, { accessFlags := 9, nameIndex := 109, descriptorIndex := 171, attributes := #[] }, { accessFlags := 9, nameIndex := 113, descriptorIndex := 175, attributes := #[] }] 49 2 #[] #[])
  fields := #[]
  methods := #[k5m0, k5m1, k5m2]
  instanceTypes := #[]
  staticTypes := #[]
  resolved := Array.replicate 184 none
  statics := none }

def pool6 : Array CpInfo := pool [(2, .class_ 4), (1, u "java/lang/Object"), (0, u "<init>"), (0, u "()V"), (17, .class_ 26), (1, u "jdk/internal/util/Preconditions"), (6, u "checkIndex"), (13, u "checkFromToIndex"), (7, .class_ 56), (0, u "jdk/internal/util/Preconditions$4"), (57, .class_ 115), (0, u "jdk/internal/util/Preconditions$1"), (7, u "SIOOBE_FORMATTER"), (0, u "Ljava/util/function/BiFunction;"), (0, .class_ 126), (0, u "jdk/internal/util/Preconditions$2"), (3, u "AIOOBE_FORMATTER"), (0, .class_ 132), (0, u "jdk/internal/util/Preconditions$3"), (3, u "IOOBE_FORMATTER"), (41, u "(IILjava/util/function/BiFunction;)I"), (4, u "(IIILjava/util/function/BiFunction;)I")] 10

def k6m0 : Method := { name := "<init>", desc := "()V", sig := { parameters := [], returnType := none }, accessFlags := 1, code := none }
def k6c1 : Code := { maxStack := 3, maxLocals := 3, code := jdk_41_method_11_code, exceptionTable := #[], attributes := #[] }
def k6m1 : Method := { name := "checkIndex", desc := "(IILjava/util/function/BiFunction;)I", sig := { parameters := [.int, .int, (.object "java/util/function/BiFunction")], returnType := some .int }, accessFlags := 9, code := some k6c1 }
def k6c2 : Code := { maxStack := 4, maxLocals := 4, code := jdk_41_method_12_code, exceptionTable := #[], attributes := #[] }
def k6m2 : Method := { name := "checkFromToIndex", desc := "(IIILjava/util/function/BiFunction;)I", sig := { parameters := [.int, .int, .int, (.object "java/util/function/BiFunction")], returnType := some .int }, accessFlags := 9, code := some k6c2 }
/-- jdk/internal/util/Preconditions -/
def k6 : Class := { plain "jdk/internal/util/Preconditions" (some 0) with
  accessFlags := 33
  interfaces := #[]
  cf := some (fileOf pool6 24 #[.nestMembers #[55, 131, 125, 114]] #[{ accessFlags := 1, nameIndex := 5, descriptorIndex := 6, attributes := #[] }, { accessFlags := 9, nameIndex := 33, descriptorIndex := 178, attributes := #[] }, { accessFlags := 9, nameIndex := 47, descriptorIndex := 183, attributes := #[] }] 33 2 #[] #[{ accessFlags := 25, nameIndex := 123, descriptorIndex := 124, attributes := #[] }, { accessFlags := 25, nameIndex := 130, descriptorIndex := 124, attributes := #[] }, { accessFlags := 25, nameIndex := 136, descriptorIndex := 124, attributes := #[] }])
  fields := #[{ name := "SIOOBE_FORMATTER", type := (.object "java/util/function/BiFunction"), accessFlags := 25, slot := 0, constantValue := 0 }, { name := "AIOOBE_FORMATTER", type := (.object "java/util/function/BiFunction"), accessFlags := 25, slot := 1, constantValue := 0 }, { name := "IOOBE_FORMATTER", type := (.object "java/util/function/BiFunction"), accessFlags := 25, slot := 2, constantValue := 0 }]
  methods := #[k6m0, k6m1, k6m2]
  instanceTypes := #[]
  staticTypes := #[(.object "java/util/function/BiFunction"), (.object "java/util/function/BiFunction"), (.object "java/util/function/BiFunction")]
  resolved := Array.replicate 194 none
  statics := none }

def pool7 : Array CpInfo := pool [(1, .class_ 2), (0, u "com/example/neardb/neardb/index/Grid"), (1, .class_ 6), (1, u "java/lang/Object"), (0, u "<init>"), (0, u "()V"), (23, u "edge"), (0, u "(IDD)D"), (1, .integer 65536), (0, .double 4535124824762089472), (2, u "CELLS"), (0, u "I"), (1, u "CELL_SHARE"), (0, u "D")] 9

def k7m0 : Method := { name := "<init>", desc := "()V", sig := { parameters := [], returnType := none }, accessFlags := 2, code := none }
def k7c1 : Code := { maxStack := 8, maxLocals := 7, code := prog_28_method_3_code, exceptionTable := #[], attributes := #[] }
def k7m1 : Method := { name := "edge", desc := "(IDD)D", sig := { parameters := [.int, .double, .double], returnType := some .double }, accessFlags := 8, code := some k7c1 }
/-- com/example/neardb/neardb/index/Grid -/
def k7 : Class := { plain "com/example/neardb/neardb/index/Grid" (some 0) with
  accessFlags := 48
  interfaces := #[]
  cf := some (fileOf pool7 1 #[] #[{ accessFlags := 2, nameIndex := 7, descriptorIndex := 8, attributes := #[] }, { accessFlags := 8, nameIndex := 32, descriptorIndex := 33, attributes := #[] }] 48 4 #[] #[{ accessFlags := 24, nameIndex := 39, descriptorIndex := 40, attributes := #[] }, { accessFlags := 26, nameIndex := 42, descriptorIndex := 43, attributes := #[] }])
  fields := #[{ name := "CELLS", type := .int, accessFlags := 24, slot := 0, constantValue := 0 }, { name := "CELL_SHARE", type := .double, accessFlags := 26, slot := 1, constantValue := 0 }]
  methods := #[k7m0, k7m1]
  instanceTypes := #[]
  staticTypes := #[.int, .double]
  resolved := Array.replicate 53 none
  statics := none }

def pool8 : Array CpInfo := pool [(1, u "java/io/Serializable"), (0, .class_ 1), (0, u "java/lang/Object"), (0, .class_ 3)] 3

/-- java/io/Serializable -/
def k8 : Class := { plain "java/io/Serializable" (some 0) with
  accessFlags := 1537
  interfaces := #[]
  cf := some (fileOf pool8 2 #[] #[] 1537 4 #[] #[])
  fields := #[]
  methods := #[]
  instanceTypes := #[]
  staticTypes := #[]
  resolved := Array.replicate 8 none
  statics := none }

/-- the primitive byte -/
def k9 : Class := { plain "byte" none with kind := .primitive 'B', accessFlags := 0x411 }
/-- [B -/
def k10 : Class := { plain "[B" (some 0) with kind := .array 9 .byte, interfaces := #[3, 8], accessFlags := 1041 }

/-- the primitive int -/
def k11 : Class := { plain "int" none with kind := .primitive 'I', accessFlags := 0x411 }
/-- [I -/
def k12 : Class := { plain "[I" (some 0) with kind := .array 11 .int, interfaces := #[3, 8], accessFlags := 1041 }

def heap : Heap := #[]
def classes : Array Class := #[k0, k1, k2, k3, k4, k5, k6, k7, k8, k9, k10, k11, k12]
def interned : List (Array UInt16 × Addr) := []
def slotsUsed : Nat := 0
def theMethod : MethodId := ⟨1, 1⟩
def args0 : Array Value := #[.int 5, .int 6, .int 7, .int 8, .int 1]
def aboutOver (below : List Frame) : State where
  vm := { classes := classes, interned := interned.toArray }
  heap := heap
  slotsUsed := slotsUsed
  threads := #[{ frames := .invoking theMethod args0 :: below }]
def below0 : List Frame := [.native { method := ⟨0, 0⟩, args := #[] }]
def about1 : State := aboutOver below0
def p0 : Program := .bare "" "" ""
def e0 : Env := launch0.env 0 0 0
theorem w_frames : about1.frames = Frame.invoking theMethod args0 :: below0 := rfl
set_option maxRecDepth 65536 in
theorem w_args : argsFit about1.vm theMethod args0 = true := by decide +kernel
set_option maxRecDepth 65536 in
theorem w_heap : heapFits about1 = true := by decide +kernel
set_option maxRecDepth 65536 in
theorem w_runnable : about1.curStatus? = some .runnable := by decide +kernel
set_option maxRecDepth 65536 in
theorem w_alone : about1.alone = true := by decide +kernel
set_option maxRecDepth 65536 in
theorem w_named : about1.methodNamed? x = some theMethod := by decide +kernel
set_option maxRecDepth 65536 in
theorem w_hears : about1.hears theMethod below0 = true := by decide +kernel
set_option maxRecDepth 65536 in
theorem w_ripe : about1.ripe theMethod args0 below0 = true := by decide +kernel
theorem w_running : about1.status = .running := rfl
set_option maxRecDepth 65536 in
theorem w_room : about1.hasRoom e0.platform room_1 = true :=
  launch0.hasRoom_least _ room_1 (by decide +kernel) (by decide +kernel) (by decide +kernel) (by decide +kernel) (by decide +kernel) (by decide +kernel)
theorem allAtoms_all (ts : List Jvm.Cond) (a : Array Jvm.Value) (st : Jvm.State) : (allAtoms ts).before a st = ts.all (fun c => c.before a st) := by
  induction ts with
  | nil => rfl
  | cons c t ih =>
    show (Jvm.Cond.and c (allAtoms t)).before a st = _
    rw [Jvm.Cond.before_and, ih, List.all_cons]
def words1 : List Jvm.Cond := Jvm.Cond.code x code maxLocals ret :: tables_1
/-- a 'code' word, met by the world's own term for the bytes: nothing is compared byte by byte -/
theorem code_word {y : MethodName} {bytes : ByteArray} {mx : Nat} {rt : Option FieldType} {a : Array Value} {s : State} {m : MethodId} {meth : Method} {c : Code} (h1 : s.methodNamed? y = some m) (h2 : s.vm.method? m = some meth) (h3 : meth.code = some c) (h4 : c.code = bytes)
    (h5 : (c.maxLocals == mx && c.exceptionTable.isEmpty && decide (c.maxStack ≤ mostOperands) && decide (meth.sig.returnType = rt) && !meth.locks && decide (parseMethodDescriptor y.desc = some meth.sig)) = true) : (Jvm.Cond.code y bytes mx rt).before a s = true := by
  simp only [Bool.and_eq_true, beq_iff_eq, Bool.not_eq_true', decide_eq_true_eq] at h5
  obtain ⟨⟨⟨⟨⟨g1, g2⟩, g3⟩, g4⟩, g5⟩, g6⟩ := h5
  simp [Cond.before, Cond.holds, Cond.value, h1, h2, h3, h4, g1, g2, g3, g4, g5, g6]
def isCode : Jvm.Cond → Bool
  | .code _ _ _ _ => true
  | _ => false
theorem all_split {L : List Jvm.Cond} {P : Jvm.Cond → Bool} (h1 : L.all (fun c => isCode c || P c) = true) (h2 : ∀ c ∈ L.filter isCode, P c = true) : L.all P = true := by
  refine List.all_eq_true.mpr fun c hc => ?_
  have h := List.all_eq_true.mp h1 c hc
  rcases Bool.eq_false_or_eq_true (isCode c) with hi | hi
  · exact h2 c (List.mem_filter.mpr ⟨hc, hi⟩)
  · simpa [hi] using h
set_option maxRecDepth 65536 in
theorem w_c0 : (Jvm.Cond.code x code maxLocals ret).before args0 about1 = true := code_word (m := ⟨1, 1⟩) (meth := k1m1) (c := k1c1) (by decide +kernel) rfl rfl rfl (by decide +kernel)
set_option maxRecDepth 65536 in
theorem w_c1 : (Jvm.Cond.code ({ cls := "com/example/neardb/neardb/index/Header", name := "<init>", desc := "(JJDDDDJZDDIZ[I)V" } : Jvm.MethodName) prog_29_method_1_code (23 : Nat) (Option.none : Option Jvm.ClassFile.FieldType)).before args0 about1 = true := code_word (m := ⟨2, 0⟩) (meth := k2m0) (c := k2c0) (by decide +kernel) rfl rfl rfl (by decide +kernel)
set_option maxRecDepth 65536 in
theorem w_c2 : (Jvm.Cond.code ({ cls := "java/lang/Object", name := "<init>", desc := "()V" } : Jvm.MethodName) object_method_1_code (1 : Nat) (Option.none : Option Jvm.ClassFile.FieldType)).before args0 about1 = true := code_word (m := ⟨0, 0⟩) (meth := k0m0) (c := k0c0) (by decide +kernel) rfl rfl rfl (by decide +kernel)
set_option maxRecDepth 65536 in
theorem w_c3 : (Jvm.Cond.code ({ cls := "com/example/neardb/neardb/index/PostingPage", name := "<init>", desc := "(Lcom/example/neardb/neardb/index/Header;I)V" } : Jvm.MethodName) prog_48_method_1_code (3 : Nat) (Option.none : Option Jvm.ClassFile.FieldType)).before args0 about1 = true := code_word (m := ⟨4, 0⟩) (meth := k4m0) (c := k4c0) (by decide +kernel) rfl rfl rfl (by decide +kernel)
set_option maxRecDepth 65536 in
theorem w_c4 : (Jvm.Cond.code ({ cls := "com/example/neardb/neardb/index/PostingPage", name := "add", desc := "(IIII)V" } : Jvm.MethodName) prog_48_method_13_code (5 : Nat) (Option.none : Option Jvm.ClassFile.FieldType)).before args0 about1 = true := code_word (m := ⟨4, 6⟩) (meth := k4m6) (c := k4c6) (by decide +kernel) rfl rfl rfl (by decide +kernel)
set_option maxRecDepth 65536 in
theorem w_c5 : (Jvm.Cond.code ({ cls := "com/example/neardb/neardb/index/PostingPage", name := "size", desc := "()I" } : Jvm.MethodName) prog_48_method_2_code (1 : Nat) (Option.some Jvm.ClassFile.FieldType.int)).before args0 about1 = true := code_word (m := ⟨4, 1⟩) (meth := k4m1) (c := k4c1) (by decide +kernel) rfl rfl rfl (by decide +kernel)
set_option maxRecDepth 65536 in
theorem w_c6 : (Jvm.Cond.code ({ cls := "com/example/neardb/neardb/index/PostingPage", name := "frequency", desc := "(I)I" } : Jvm.MethodName) prog_48_method_4_code (2 : Nat) (Option.some Jvm.ClassFile.FieldType.int)).before args0 about1 = true := code_word (m := ⟨4, 3⟩) (meth := k4m3) (c := k4c3) (by decide +kernel) rfl rfl rfl (by decide +kernel)
set_option maxRecDepth 65536 in
theorem w_c7 : (Jvm.Cond.code ({ cls := "java/util/Objects", name := "checkIndex", desc := "(II)I" } : Jvm.MethodName) jdk_31_method_17_code (2 : Nat) (Option.some Jvm.ClassFile.FieldType.int)).before args0 about1 = true := code_word (m := ⟨5, 1⟩) (meth := k5m1) (c := k5c1) (by decide +kernel) rfl rfl rfl (by decide +kernel)
set_option maxRecDepth 65536 in
theorem w_c8 : (Jvm.Cond.code ({ cls := "jdk/internal/util/Preconditions", name := "checkIndex", desc := "(IILjava/util/function/BiFunction;)I" } : Jvm.MethodName) jdk_41_method_11_code (3 : Nat) (Option.some Jvm.ClassFile.FieldType.int)).before args0 about1 = true := code_word (m := ⟨6, 1⟩) (meth := k6m1) (c := k6c1) (by decide +kernel) rfl rfl rfl (by decide +kernel)
set_option maxRecDepth 65536 in
theorem w_c9 : (Jvm.Cond.code ({ cls := "com/example/neardb/neardb/index/PostingPage", name := "ordinal", desc := "(I)I" } : Jvm.MethodName) prog_48_method_3_code (2 : Nat) (Option.some Jvm.ClassFile.FieldType.int)).before args0 about1 = true := code_word (m := ⟨4, 2⟩) (meth := k4m2) (c := k4c2) (by decide +kernel) rfl rfl rfl (by decide +kernel)
set_option maxRecDepth 65536 in
theorem w_c10 : (Jvm.Cond.code ({ cls := "com/example/neardb/neardb/index/PostingPage", name := "minX", desc := "(II)D" } : Jvm.MethodName) prog_48_method_5_code (3 : Nat) (Option.some Jvm.ClassFile.FieldType.double)).before args0 about1 = true := code_word (m := ⟨4, 4⟩) (meth := k4m4) (c := k4c4) (by decide +kernel) rfl rfl rfl (by decide +kernel)
set_option maxRecDepth 65536 in
theorem w_c11 : (Jvm.Cond.code ({ cls := "java/util/Objects", name := "checkFromToIndex", desc := "(III)I" } : Jvm.MethodName) jdk_31_method_18_code (3 : Nat) (Option.some Jvm.ClassFile.FieldType.int)).before args0 about1 = true := code_word (m := ⟨5, 2⟩) (meth := k5m2) (c := k5c2) (by decide +kernel) rfl rfl rfl (by decide +kernel)
set_option maxRecDepth 65536 in
theorem w_c12 : (Jvm.Cond.code ({ cls := "jdk/internal/util/Preconditions", name := "checkFromToIndex", desc := "(IIILjava/util/function/BiFunction;)I" } : Jvm.MethodName) jdk_41_method_12_code (4 : Nat) (Option.some Jvm.ClassFile.FieldType.int)).before args0 about1 = true := code_word (m := ⟨6, 2⟩) (meth := k6m2) (c := k6c2) (by decide +kernel) rfl rfl rfl (by decide +kernel)
set_option maxRecDepth 65536 in
theorem w_c13 : (Jvm.Cond.code ({ cls := "com/example/neardb/neardb/index/PostingPage", name := "least", desc := "([III)I" } : Jvm.MethodName) prog_48_method_14_code (5 : Nat) (Option.some Jvm.ClassFile.FieldType.int)).before args0 about1 = true := code_word (m := ⟨4, 7⟩) (meth := k4m7) (c := k4c7) (by decide +kernel) rfl rfl rfl (by decide +kernel)
set_option maxRecDepth 65536 in
theorem w_c14 : (Jvm.Cond.code ({ cls := "com/example/neardb/neardb/index/Header", name := "minX", desc := "()D" } : Jvm.MethodName) prog_29_method_5_code (1 : Nat) (Option.some Jvm.ClassFile.FieldType.double)).before args0 about1 = true := code_word (m := ⟨2, 1⟩) (meth := k2m1) (c := k2c1) (by decide +kernel) rfl rfl rfl (by decide +kernel)
set_option maxRecDepth 65536 in
theorem w_c15 : (Jvm.Cond.code ({ cls := "com/example/neardb/neardb/index/Header", name := "maxX", desc := "()D" } : Jvm.MethodName) prog_29_method_7_code (1 : Nat) (Option.some Jvm.ClassFile.FieldType.double)).before args0 about1 = true := code_word (m := ⟨2, 3⟩) (meth := k2m3) (c := k2c3) (by decide +kernel) rfl rfl rfl (by decide +kernel)
set_option maxRecDepth 65536 in
theorem w_c16 : (Jvm.Cond.code ({ cls := "com/example/neardb/neardb/index/Grid", name := "edge", desc := "(IDD)D" } : Jvm.MethodName) prog_28_method_3_code (7 : Nat) (Option.some Jvm.ClassFile.FieldType.double)).before args0 about1 = true := code_word (m := ⟨7, 1⟩) (meth := k7m1) (c := k7c1) (by decide +kernel) rfl rfl rfl (by decide +kernel)
set_option maxRecDepth 65536 in
theorem w_c17 : (Jvm.Cond.code ({ cls := "com/example/neardb/neardb/index/PostingPage", name := "minY", desc := "(II)D" } : Jvm.MethodName) prog_48_method_6_code (3 : Nat) (Option.some Jvm.ClassFile.FieldType.double)).before args0 about1 = true := code_word (m := ⟨4, 5⟩) (meth := k4m5) (c := k4c5) (by decide +kernel) rfl rfl rfl (by decide +kernel)
set_option maxRecDepth 65536 in
theorem w_c18 : (Jvm.Cond.code ({ cls := "com/example/neardb/neardb/index/Header", name := "minY", desc := "()D" } : Jvm.MethodName) prog_29_method_6_code (1 : Nat) (Option.some Jvm.ClassFile.FieldType.double)).before args0 about1 = true := code_word (m := ⟨2, 2⟩) (meth := k2m2) (c := k2c2) (by decide +kernel) rfl rfl rfl (by decide +kernel)
set_option maxRecDepth 65536 in
theorem w_c19 : (Jvm.Cond.code ({ cls := "com/example/neardb/neardb/index/Header", name := "maxY", desc := "()D" } : Jvm.MethodName) prog_29_method_8_code (1 : Nat) (Option.some Jvm.ClassFile.FieldType.double)).before args0 about1 = true := code_word (m := ⟨2, 4⟩) (meth := k2m4) (c := k2c4) (by decide +kernel) rfl rfl rfl (by decide +kernel)
def codes1 : List Jvm.Cond := [Jvm.Cond.code x code maxLocals ret, Jvm.Cond.code ({ cls := "com/example/neardb/neardb/index/Header", name := "<init>", desc := "(JJDDDDJZDDIZ[I)V" } : Jvm.MethodName) prog_29_method_1_code (23 : Nat) (Option.none : Option Jvm.ClassFile.FieldType), Jvm.Cond.code ({ cls := "java/lang/Object", name := "<init>", desc := "()V" } : Jvm.MethodName) object_method_1_code (1 : Nat) (Option.none : Option Jvm.ClassFile.FieldType), Jvm.Cond.code ({ cls := "com/example/neardb/neardb/index/PostingPage", name := "<init>", desc := "(Lcom/example/neardb/neardb/index/Header;I)V" } : Jvm.MethodName) prog_48_method_1_code (3 : Nat) (Option.none : Option Jvm.ClassFile.FieldType), Jvm.Cond.code ({ cls := "com/example/neardb/neardb/index/PostingPage", name := "add", desc := "(IIII)V" } : Jvm.MethodName) prog_48_method_13_code (5 : Nat) (Option.none : Option Jvm.ClassFile.FieldType), Jvm.Cond.code ({ cls := "com/example/neardb/neardb/index/PostingPage", name := "size", desc := "()I" } : Jvm.MethodName) prog_48_method_2_code (1 : Nat) (Option.some Jvm.ClassFile.FieldType.int), Jvm.Cond.code ({ cls := "com/example/neardb/neardb/index/PostingPage", name := "frequency", desc := "(I)I" } : Jvm.MethodName) prog_48_method_4_code (2 : Nat) (Option.some Jvm.ClassFile.FieldType.int), Jvm.Cond.code ({ cls := "java/util/Objects", name := "checkIndex", desc := "(II)I" } : Jvm.MethodName) jdk_31_method_17_code (2 : Nat) (Option.some Jvm.ClassFile.FieldType.int), Jvm.Cond.code ({ cls := "jdk/internal/util/Preconditions", name := "checkIndex", desc := "(IILjava/util/function/BiFunction;)I" } : Jvm.MethodName) jdk_41_method_11_code (3 : Nat) (Option.some Jvm.ClassFile.FieldType.int), Jvm.Cond.code ({ cls := "com/example/neardb/neardb/index/PostingPage", name := "ordinal", desc := "(I)I" } : Jvm.MethodName) prog_48_method_3_code (2 : Nat) (Option.some Jvm.ClassFile.FieldType.int), Jvm.Cond.code ({ cls := "com/example/neardb/neardb/index/PostingPage", name := "minX", desc := "(II)D" } : Jvm.MethodName) prog_48_method_5_code (3 : Nat) (Option.some Jvm.ClassFile.FieldType.double), Jvm.Cond.code ({ cls := "java/util/Objects", name := "checkFromToIndex", desc := "(III)I" } : Jvm.MethodName) jdk_31_method_18_code (3 : Nat) (Option.some Jvm.ClassFile.FieldType.int), Jvm.Cond.code ({ cls := "jdk/internal/util/Preconditions", name := "checkFromToIndex", desc := "(IIILjava/util/function/BiFunction;)I" } : Jvm.MethodName) jdk_41_method_12_code (4 : Nat) (Option.some Jvm.ClassFile.FieldType.int), Jvm.Cond.code ({ cls := "com/example/neardb/neardb/index/PostingPage", name := "least", desc := "([III)I" } : Jvm.MethodName) prog_48_method_14_code (5 : Nat) (Option.some Jvm.ClassFile.FieldType.int), Jvm.Cond.code ({ cls := "com/example/neardb/neardb/index/Header", name := "minX", desc := "()D" } : Jvm.MethodName) prog_29_method_5_code (1 : Nat) (Option.some Jvm.ClassFile.FieldType.double), Jvm.Cond.code ({ cls := "com/example/neardb/neardb/index/Header", name := "maxX", desc := "()D" } : Jvm.MethodName) prog_29_method_7_code (1 : Nat) (Option.some Jvm.ClassFile.FieldType.double), Jvm.Cond.code ({ cls := "com/example/neardb/neardb/index/Grid", name := "edge", desc := "(IDD)D" } : Jvm.MethodName) prog_28_method_3_code (7 : Nat) (Option.some Jvm.ClassFile.FieldType.double), Jvm.Cond.code ({ cls := "com/example/neardb/neardb/index/PostingPage", name := "minY", desc := "(II)D" } : Jvm.MethodName) prog_48_method_6_code (3 : Nat) (Option.some Jvm.ClassFile.FieldType.double), Jvm.Cond.code ({ cls := "com/example/neardb/neardb/index/Header", name := "minY", desc := "()D" } : Jvm.MethodName) prog_29_method_6_code (1 : Nat) (Option.some Jvm.ClassFile.FieldType.double), Jvm.Cond.code ({ cls := "com/example/neardb/neardb/index/Header", name := "maxY", desc := "()D" } : Jvm.MethodName) prog_29_method_8_code (1 : Nat) (Option.some Jvm.ClassFile.FieldType.double)]
set_option maxRecDepth 65536 in
theorem codes_eq : words1.filter isCode = codes1 := rfl
theorem w_codes : ∀ c ∈ words1.filter isCode, c.before args0 about1 = true := by
  rw [codes_eq]
  intro c hc
  simp only [codes1, List.mem_cons, List.not_mem_nil, or_false] at hc
  rcases hc with rfl | rfl | rfl | rfl | rfl | rfl | rfl | rfl | rfl | rfl | rfl | rfl | rfl | rfl | rfl | rfl | rfl | rfl | rfl | rfl
  · exact w_c0
  · exact w_c1
  · exact w_c2
  · exact w_c3
  · exact w_c4
  · exact w_c5
  · exact w_c6
  · exact w_c7
  · exact w_c8
  · exact w_c9
  · exact w_c10
  · exact w_c11
  · exact w_c12
  · exact w_c13
  · exact w_c14
  · exact w_c15
  · exact w_c16
  · exact w_c17
  · exact w_c18
  · exact w_c19
set_option maxRecDepth 65536 in
theorem w_t1 : (words1.take 24).all (fun c => isCode c || c.before args0 about1) = true := by decide +kernel
set_option maxRecDepth 65536 in
theorem w_t2 : ((words1.drop 24).take 24).all (fun c => isCode c || c.before args0 about1) = true := by decide +kernel
set_option maxRecDepth 65536 in
theorem w_t3 : (((words1.drop 24).drop 24).take 24).all (fun c => isCode c || c.before args0 about1) = true := by decide +kernel
set_option maxRecDepth 65536 in
theorem w_t4 : ((((words1.drop 24).drop 24).drop 24).take 24).all (fun c => isCode c || c.before args0 about1) = true := by decide +kernel
set_option maxRecDepth 65536 in
theorem w_t5 : (((((words1.drop 24).drop 24).drop 24).drop 24).take 24).all (fun c => isCode c || c.before args0 about1) = true := by decide +kernel
set_option maxRecDepth 65536 in
theorem w_t6 : (((((words1.drop 24).drop 24).drop 24).drop 24).drop 24).all (fun c => isCode c || c.before args0 about1) = true := by decide +kernel
theorem w_tables : (allAtoms (Jvm.Cond.code x code maxLocals ret :: tables_1)).before args0 about1 = true := by
  rw [allAtoms_all]
  show words1.all (fun c => c.before args0 about1) = true
  refine all_split ?_ w_codes
  rw [← List.take_append_drop 24 words1, List.all_append, w_t1, ← List.take_append_drop 24 (words1.drop 24), List.all_append, w_t2, ← List.take_append_drop 24 ((words1.drop 24).drop 24), List.all_append, w_t3, ← List.take_append_drop 24 (((words1.drop 24).drop 24).drop 24), List.all_append, w_t4, ← List.take_append_drop 24 ((((words1.drop 24).drop 24).drop 24).drop 24), List.all_append, w_t5, w_t6]
  rfl
set_option maxRecDepth 65536 in
theorem w_case : (Jvm.Cond.and given_1 narrow_1).before args0 about1 = true := by decide +kernel
theorem w_applies : (headSpec (Jvm.Cond.code x code maxLocals ret :: tables_1) room_1).applies x e0.platform about1 = true :=
  (Spec.applies_iff w_frames).mpr ⟨w_running, w_runnable, w_alone, w_named, w_hears, w_ripe, w_room, w_tables⟩
theorem atStart : AtStart classFile x code maxLocals ret World_1 tables_1 room_1 Calls_1 rest_1 Pre_1 launch0 p0 e0 about1 theMethod args0 below0 :=
  ⟨lists_1, trivial, launch0.admits_env _ _ _, launch0.least_env, fairChoices_fair.cas, fairChoices_fair.clock, w_frames, w_args, w_heap, w_applies, trivial, trivial, w_case⟩
end start1
theorem witness_1 : WitnessClaimed_1 := ⟨start1.p0, start1.e0, start1.about1, start1.theMethod, start1.args0, start1.below0, start1.atStart⟩
end Jvm.Pilot.@@N@@
