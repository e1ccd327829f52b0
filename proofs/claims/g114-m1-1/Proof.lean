import JvmDerived
import JvmDerived.Pilot.@@N@@Statement
import JvmDerived.Pilot.@@N@@Code
set_option linter.unusedVariables false
set_option linter.unusedSimpArgs false
namespace Jvm.Pilot.@@N@@
open Jvm Jvm.ClassFile Sem Op Lib Jvm.Free Jvm.Stand Jvm.LawKit Jvm.RoadKit Bundle Jvm.Pilot.@@N@@.Jvm.D
/-! THE WALK IN CONTINUATION FORM. Here: the run stands in T, its heap is h, nothing old was written. Go: from the state F the run ends as Q says. CM: a callee's contract. -/
def Here (p : Program) (l : Launch) (e : Env) (R : Room) (s : State) (m : MethodId) (args : Array Value) (below : List Frame) (meth : Method) (c : Code) (n0 : Nat) (T : State) (h : Heap) (k n : Nat) : Prop :=
  ∃ locs, Stand p l e R s m args below meth c T locs k n ∧ T.heap = h ∧ Fr n0 locs
def Fini (below : List Frame) (s : State) (n0 : Nat) (Q : Option Value → Heap → Prop) (K N : Nat) (t : State) (o : Outcome) : Prop :=
  t.status = .running ∧ Ended t below o ∧ ∃ v L, o = .returned v ∧ (Q v t.heap ∧ Fr n0 L) ∧ FrameEnd s o t L K N
def Go (p : Program) (e : Env) (below : List Frame) (Φ : State → Outcome → Prop) (F : State) : Prop :=
  ∃ t o, Steps p.tables e below F t ∧ Φ t o
def CM (l : Launch) (Z : State) (y : MethodName) (code : ByteArray) (maxL : Nat) (ret : Option FieldType) (R : Room) (as : Array Value) (h0 : Heap) (n0 : Nat) (Q : Option Value → Heap → Prop) : Prop :=
  ∀ ws, MetFree l y (head1 (Jvm.Cond.code y code maxL ret :: ws) R) (fun a U => a = as ∧ Z.Warmed39 U.vm ∧ U.heap = h0) (fun _ _ _ _ _ => True) (fun _ U o U' => ∃ v L, o = .returned v ∧ (Q v U'.heap ∧ Fr n0 L) ∧ FrameEnd U o U' L R.cells R.slots)
section Own
variable {p : Program} {l : Launch} {e : Env} {R : Room} {s : State} {m : MethodId} {args : Array Value} {below : List Frame} {meth : Method} {c : Code} {T : State} {h : Heap} {k n n0 K N : Nat} {Q : Option Value → Heap → Prop} {Z : State} {a0 : Array Value} {Φ : State → Outcome → Prop}
theorem Here.here (H : Here p l e R s m args below meth c n0 T h k n) : At T m c below := by obtain ⟨_, X, _, _⟩ := H; exact X.here
theorem Here.stand (H : Here p l e R s m args below meth c n0 T h k n) : ∃ locs, Stand p l e R s m args below meth c T locs k n ∧ T.heap = h ∧ Fr n0 locs := H
theorem Go.via {F F' : State} (st : ∀ t, Steps p.tables e below F' t → Steps p.tables e below F t) (g : Go p e below Φ F') : Go p e below Φ F := by
  obtain ⟨t, o, h1, r⟩ := g; exact ⟨t, o, st t h1, r⟩
theorem own_enter {y : MethodName} {code : ByteArray} {maxL : Nat} {ret : Option FieldType} {as : Array Value} {h0 : Heap} (hpl : plainFor y = true)
    (body : ∀ (p : Program) (e : Env) (s : State) (m : MethodId) (below : List Frame) (meth : Method) (c : Code) (T : State), p.tables.exec = Jvm.exec → c.code = code → c.maxLocals = maxL → s.vm.findClass y.cls = some m.cls → meth.name = y.name → Z.Warmed39 s.vm → meth.sig.returnType = ret → meth.locks = false → Here p l e R s m as below meth c n0 T h0 0 0 → Go p e below (Fini below s n0 Q R.cells R.slots) (T.setTop (entryFrame m as maxL))) :
    CM l Z y code maxL ret R as h0 n0 Q := by
  intro ws
  refine MetFree.of_bodySF hpl hisR ?_
  intro p e s m args below meth c s₁ Bd hml0 hP hK
  obtain ⟨rfl, hZ, hh⟩ := hP
  exact body p e s m below meth c s₁ Bd.exec Bd.bytes hml0 (findClass_of_methodNamed Bd.named) (name_of_methodNamed Bd.named Bd.method).1 hZ Bd.returns Bd.notSynchronized ⟨[], Stand.of_body Bd, by rw [← hh, Bd.state]; rfl, Fr.nil n0⟩
theorem Here.leave (H : Here p l e R s m args below meth c n0 T h k n) (hlk : meth.locks = false) {v : Option Value} (hv : meth.sig.returnType = none → v = none) (hQ : Q v h) (hk : k ≤ K) (hn : n ≤ N) {F : State}
    (st : ∀ fs, (∀ (f : JFrame) (acts : List Action), f.method = m → f.locked = none → f.entered = [] → (doReturn e (T.setTop f) acts v).1 = T.setFrames fs) → Steps p.tables e below F (T.setFrames fs)) : Go p e below (Fini below s n0 Q K N) F := by
  obtain ⟨locs, X, rfl, F0⟩ := H
  obtain ⟨fs, hr, hrun, hended, hW, hsame⟩ := X.leave (v := v) hv hlk
  exact ⟨_, _, st fs hr, hrun, hended, v, locs, rfl, ⟨hQ, F0⟩, ⟨_, rfl⟩, hW, hsame.mono hk hn⟩
theorem own_retV (H : Here p l e R s m args below meth c n0 T h k n) (hx : p.tables.exec = Jvm.exec) (hlk : meth.locks = false) (hret : meth.sig.returnType = none) {pc : Nat} {Ls : Array Slot} (hd : decode c.code pc = .ok (.return_, 1)) (hQ : Q none h) (hk : k ≤ K) (hn : n ≤ N) :
    Go p e below (Fini below s n0 Q K N) (T.setTop (mkF m pc Ls [])) := by
  obtain ⟨locs, X, r1, r2⟩ := H.stand
  exact H.leave hlk (fun _ => rfl) hQ hk hn fun fs hr => X.returnOut hx hret hd hr
theorem own_retI (H : Here p l e R s m args below meth c n0 T h k n) (hx : p.tables.exec = Jvm.exec) (hlk : meth.locks = false) (hret : meth.sig.returnType = some .int) {pc : Nat} {Ls : Array Slot} {z : Int32} {rest : List Value} (hd : decode c.code pc = .ok (.ireturn, 1)) (hQ : Q (some (.int z)) h) (hk : k ≤ K) (hn : n ≤ N) :
    Go p e below (Fini below s n0 Q K N) (T.setTop (mkF m pc Ls (.int z :: rest))) := by
  obtain ⟨locs, X, r1, r2⟩ := H.stand
  exact H.leave hlk (fun q => by rw [hret] at q; cases q) hQ hk hn fun fs hr => retOut X hx hret rfl (Or.inl ⟨rfl, Or.inl rfl, z, rfl⟩) hd hr
theorem own_retN (H : Here p l e R s m args below meth c n0 T h k n) (hx : p.tables.exec = Jvm.exec) (hlk : meth.locks = false) {t : FieldType} (ht : t = .boolean ∨ t = .byte ∨ t = .char ∨ t = .short) (hret : meth.sig.returnType = some t) {pc : Nat} {Ls : Array Slot} {z : Int32} {rest : List Value} (hd : decode c.code pc = .ok (.ireturn, 1)) (hQ : Q (some (.int (nar t z))) h) (hk : k ≤ K) (hn : n ≤ N) :
    Go p e below (Fini below s n0 Q K N) (T.setTop (mkF m pc Ls (.int z :: rest))) := by
  obtain ⟨locs, X, r1, r2⟩ := H.stand
  exact H.leave hlk (fun q => by rw [hret] at q; cases q) hQ hk hn fun fs hr => retN X hx hret ht hd hr
theorem own_retL (H : Here p l e R s m args below meth c n0 T h k n) (hx : p.tables.exec = Jvm.exec) (hlk : meth.locks = false) (hret : meth.sig.returnType = some .long) {pc : Nat} {Ls : Array Slot} {z : Int64} {rest : List Value} (hd : decode c.code pc = .ok (.lreturn, 1)) (hQ : Q (some (.long z)) h) (hk : k ≤ K) (hn : n ≤ N) :
    Go p e below (Fini below s n0 Q K N) (T.setTop (mkF m pc Ls (.long z :: rest))) := by
  obtain ⟨locs, X, r1, r2⟩ := H.stand
  exact H.leave hlk (fun q => by rw [hret] at q; cases q) hQ hk hn fun fs hr => retOut X hx hret rfl (Or.inr (Or.inl ⟨rfl, rfl, z, rfl⟩)) hd hr
theorem own_retA (H : Here p l e R s m args below meth c n0 T h k n) (hx : p.tables.exec = Jvm.exec) (hlk : meth.locks = false) {t : FieldType} (ht : t.isReference = true) (hret : meth.sig.returnType = some t) {pc : Nat} {Ls : Array Slot} {w : Value} {rest : List Value} (hn' : narrow t w = w) (hw : w.isRef = true) (hd : decode c.code pc = .ok (.areturn, 1)) (hQ : Q (some w) h) (hk : k ≤ K) (hn : n ≤ N) :
    Go p e below (Fini below s n0 Q K N) (T.setTop (mkF m pc Ls (w :: rest))) := by
  obtain ⟨locs, X, r1, r2⟩ := H.stand
  exact H.leave hlk (fun q => by rw [hret] at q; cases q) hQ hk hn fun fs hr => retOut X hx hret hn' (Or.inr (Or.inr (Or.inr (Or.inr ⟨rfl, ht, hw⟩)))) hd hr
/-! calls -/
theorem own_callS (H : Here p l e R s m args below meth c n0 T h k n) (hx : p.tables.exec = Jvm.exec) (hZ : Z.Warmed39 s.vm) {own : String} {index : Nat} {y : MethodName} {bytes : ByteArray} {maxL : Nat} {ret : Option FieldType} {rm : Room} {argsL rest : List Value} {Q' : Option Value → Heap → Prop}
    (hown : s.vm.findClass own = some m.cls) (w1 : (Jvm.Cond.methodLink own index y).before a0 Z = true) (w2 : (Jvm.Cond.static y).before a0 Z = true) (w3 : (Jvm.Cond.initialized y.cls).before a0 Z = true) (w4 : (Jvm.Cond.code y bytes maxL ret).before a0 Z = true)
    (hy : y.cls ≠ "java/lang/invoke/MethodHandle" ∧ y.cls ≠ "java/lang/invoke/VarHandle") (hM : CM l Z y bytes maxL ret rm argsL.toArray h n0 Q')
    {g : JFrame} (hg : g.method = m) (hsize : g.locals.size = c.maxLocals) (hlen : ∀ sig, parseMethodDescriptor y.desc = some sig → argsL.length = sig.parameters.length)
    (hstack : g.stack = argsL.reverse ++ rest) (W : Nat) (hW : 2 * g.monitorRoom + (rest.map fun v => v.category).sum ≤ W) (hd : decode c.code g.pc = .ok (.invokestatic index, 3))
    (hf : rm.frames + 1 ≤ R.frames) (hl : W + (maxL + 11) + rm.locals ≤ R.locals) (hc : k + rm.cells ≤ R.cells) (hs : n + rm.slots ≤ R.slots)
    (next : ∀ v T' h', Q' v h' → Here p l e R s m args below meth c n0 T' h' (k + rm.cells) (n + rm.slots) → Go p e below Φ (T'.setTop { g with pc := g.pc + 3, stack := v.toList ++ rest })) :
    Go p e below Φ (T.setTop g) := by
  obtain ⟨locs, X, rfl, F⟩ := H
  obtain ⟨v, _, ⟨T3, L3, k3, n3⟩, -, X3, ⟨Lc3, hQ3, l3, y3, z3⟩, st3⟩ := Jvm.LawKit.callS X hx (y := y) hown (mvT hZ w1) (mvT hZ w2) (mvT hZ w3) (mvT hZ w4) hy (backOf (W := W) (Q := fun v h L => Q' v h ∧ Fr n0 L) (hM []) hZ w4 w3 hf hl) (g := g) hg hsize (argsL := argsL) (rest := rest) hlen hstack hW hd (fun _ _ => ⟨rfl, rfl, hc, hs⟩)
  dsimp only [Pt.U, Pt.locs, Pt.cells, Pt.slots] at X3 l3 y3 z3 st3 hQ3
  subst l3 y3 z3
  exact Go.via st3 (next v T3 T3.heap hQ3.1 ⟨_, X3, rfl, F.app hQ3.2⟩)
theorem own_callI (H : Here p l e R s m args below meth c n0 T h k n) (hx : p.tables.exec = Jvm.exec) (hZ : Z.Warmed39 s.vm) {own : String} {index : Nat} {y : MethodName} {bytes : ByteArray} {maxL : Nat} {rm : Room} {a : Addr} {argsL rest : List Value} {Q' : Option Value → Heap → Prop}
    (hy1 : y.name = "<init>") (hown : s.vm.findClass own = some m.cls) (w1 : (Jvm.Cond.methodLink own index y).before a0 Z = true) (w2 : (Jvm.Cond.instanceMethod y).before a0 Z = true) (w3 : (Jvm.Cond.initialized y.cls).before a0 Z = true) (w4 : (Jvm.Cond.code y bytes maxL none).before a0 Z = true)
    (hy : y.cls ≠ "java/lang/invoke/MethodHandle" ∧ y.cls ≠ "java/lang/invoke/VarHandle") (hM : CM l Z y bytes maxL none rm (Value.ref a :: argsL).toArray h n0 Q')
    {g : JFrame} (hg : g.method = m) (hsize : g.locals.size = c.maxLocals) (hlen : ∀ sig, parseMethodDescriptor y.desc = some sig → argsL.length = sig.parameters.length)
    (hstack : g.stack = argsL.reverse ++ .ref a :: rest) (W : Nat) (hW : 2 * g.monitorRoom + (rest.map fun v => v.category).sum ≤ W) (hd : decode c.code g.pc = .ok (.invokespecial index, 3))
    (hf : rm.frames + 1 ≤ R.frames) (hl : W + (maxL + 11) + rm.locals ≤ R.locals) (hc : k + rm.cells ≤ R.cells) (hs : n + rm.slots ≤ R.slots)
    (next : ∀ v T' h', Q' v h' → Here p l e R s m args below meth c n0 T' h' (k + rm.cells) (n + rm.slots) → Go p e below Φ (T'.setTop { g with pc := g.pc + 3, stack := v.toList ++ rest })) :
    Go p e below Φ (T.setTop g) := by
  obtain ⟨locs, X, rfl, F⟩ := H
  obtain ⟨v, _, ⟨T3, L3, k3, n3⟩, -, X3, ⟨Lc3, hQ3, l3, y3, z3⟩, st3⟩ := X.specialBack hx (y := y) hy1 hown (mvT hZ w1) (mvT hZ w2) (mvT hZ w4) hy (backOf (W := W) (Q := fun v h L => Q' v h ∧ Fr n0 L) (hM []) hZ w4 w3 hf hl) (g := g) hg hsize (Steps.refl _) (a := a) (argsL := argsL) (rest := rest) hlen hstack hW hd (fun _ _ => ⟨rfl, rfl, hc, hs⟩)
  dsimp only [Pt.U, Pt.locs, Pt.cells, Pt.slots] at X3 l3 y3 z3 st3 hQ3
  subst l3 y3 z3
  exact Go.via (fun t q => st3.trans q) (next v T3 T3.heap hQ3.1 ⟨_, X3, rfl, F.app hQ3.2⟩)
theorem own_callV (H : Here p l e R s m args below meth c n0 T h k n) (hx : p.tables.exec = Jvm.exec) (hZ : Z.Warmed39 s.vm) {own C : String} {index : Nat} {y : MethodName} {bytes : ByteArray} {maxL : Nat} {ret : Option FieldType} {rm : Room} {a : Addr} {argsL rest : List Value} {Q' : Option Value → Heap → Prop}
    (hown : s.vm.findClass own = some m.cls) (w1 : (Jvm.Cond.methodLink own index y).before a0 Z = true) (w2 : (Jvm.Cond.declares y).before a0 Z = true) (w3 : (Jvm.Cond.selects C y y).before a0 Z = true) (w4 : (Jvm.Cond.instanceMethod y).before a0 Z = true) (w5 : (Jvm.Cond.initialized y.cls).before a0 Z = true) (w6 : (Jvm.Cond.code y bytes maxL ret).before a0 Z = true)
    (hy : y.cls ≠ "java/lang/invoke/MethodHandle" ∧ y.cls ≠ "java/lang/invoke/VarHandle") (hE : Exa Z h a C) (hM : CM l Z y bytes maxL ret rm (Value.ref a :: argsL).toArray h n0 Q')
    {g : JFrame} (hg : g.method = m) (hsize : g.locals.size = c.maxLocals) (hlen : ∀ sig, parseMethodDescriptor y.desc = some sig → argsL.length = sig.parameters.length)
    (hstack : g.stack = argsL.reverse ++ .ref a :: rest) (W : Nat) (hW : 2 * g.monitorRoom + (rest.map fun v => v.category).sum ≤ W) (hd : decode c.code g.pc = .ok (.invokevirtual index, 3))
    (hf : rm.frames + 1 ≤ R.frames) (hl : W + (maxL + 11) + rm.locals ≤ R.locals) (hc : k + rm.cells ≤ R.cells) (hs : n + rm.slots ≤ R.slots)
    (next : ∀ v T' h', Q' v h' → Here p l e R s m args below meth c n0 T' h' (k + rm.cells) (n + rm.slots) → Go p e below Φ (T'.setTop { g with pc := g.pc + 3, stack := v.toList ++ rest })) :
    Go p e below Φ (T.setTop g) := by
  obtain ⟨locs, X, rfl, F⟩ := H
  obtain ⟨cq, kq, qa, qb, qc⟩ := isOf hZ rfl hE
  obtain ⟨v, _, ⟨T3, L3, k3, n3⟩, -, X3, ⟨Lc3, hQ3, l3, y3, z3⟩, st3⟩ := X.virtualBack hx (y := y) (z := y) hown (mvT hZ w1) (mvT hZ w2) (notFace_of_selects (args := #[]) (mvT hZ w3)) (mvT hZ w3) (mvT hZ w4) hy (backOf (W := W) (Q := fun v h L => Q' v h ∧ Fr n0 L) (hM []) hZ w6 w5 hf hl) qa qc (g := g) hg hsize (Steps.refl _) (argsL := argsL) (rest := rest) hlen hstack hW hd (fun _ _ => ⟨rfl, rfl, hc, hs⟩)
  dsimp only [Pt.U, Pt.locs, Pt.cells, Pt.slots] at X3 l3 y3 z3 st3 hQ3
  subst l3 y3 z3
  exact Go.via (fun t q => st3.trans q) (next v T3 T3.heap hQ3.1 ⟨_, X3, rfl, F.app hQ3.2⟩)
/-! fields, objects -/
theorem own_getF (H : Here p l e R s m args below meth c n0 T h k n) (hx : p.tables.exec = Jvm.exec) (hZ : Z.Warmed39 s.vm) {own O nm d : String} {index : Nat} (hown : s.vm.findClass own = some m.cls) (w : (Jvm.Cond.fieldLink own index O nm d).before a0 Z = true)
    {a : Addr} {v : Value} (F : Fld Z h a O nm d v) {g : JFrame} (hg : g.method = m) {rest : List Value} (hs : g.stack = .ref a :: rest) (hd : decode c.code g.pc = .ok (.getfield index, 3))
    (next : ∀ T', Here p l e R s m args below meth c n0 T' h k n → Go p e below Φ (T'.setTop { g with pc := g.pc + 3, stack := v :: rest })) : Go p e below Φ (T.setTop g) := by
  obtain ⟨locs, X, r1, r2⟩ := H.stand
  obtain ⟨T', X', e', st⟩ := getF X hx hZ hown (host := "") (Or.inl w) Via.refl r1 F hg hs hd
  exact Go.via st (next T' ⟨_, X', e', r2⟩)
theorem own_putF (H : Here p l e R s m args below meth c n0 T h k n) (hx : p.tables.exec = Jvm.exec) (hZ : Z.Warmed39 s.vm) {own O nm d C : String} {index kk : Nat} {ty : FieldType} (hown : s.vm.findClass own = some m.cls) (w : (Jvm.Cond.fieldLink own index O nm d).before a0 Z = true)
    {a : Addr} {v old : Value} (F : Fld Z h a O nm d old) (E : Exa Z h a C) (L : (Jvm.Cond.lays C O nm d).before a0 Z = true ∨ ((Jvm.Cond.laysFinal C O nm d).before a0 Z = true ∧ own = O ∧ meth.name = "<init>")) (wi : (Jvm.Cond.instantiable C kk).before a0 Z = true) (ha : n0 ≤ a)
    (hty : parseFieldDescriptor d = some ty) (hn : narrow ty v = v) (hf : fits ty v = true) {g : JFrame} (hg : g.method = m) {rest : List Value} (hs : g.stack = v :: .ref a :: rest) (hd : decode c.code g.pc = .ok (.putfield index, 3))
    (next : ∀ T' h', Wr h h' a (Jvm.RoadKit.slotOf Z O nm d) v → Here p l e R s m args below meth c n0 T' h' k n → Go p e below Φ (T'.setTop { g with pc := g.pc + 3, stack := rest })) : Go p e below Φ (T.setTop g) := by
  obtain ⟨locs, X, r1, r2⟩ := H.stand
  obtain ⟨T', h', X', e', W, st⟩ := putF X hx hZ hown (host := "") (Or.inl w) Via.refl r1 F E L wi hty hn hf hg hs hd
  exact Go.via st (next T' h' W ⟨_, X', e', Fr.snoc X' r2 ha⟩)
theorem own_putFN (H : Here p l e R s m args below meth c n0 T h k n) (hx : p.tables.exec = Jvm.exec) (hZ : Z.Warmed39 s.vm) {own O nm d C : String} {index kk : Nat} {ty : FieldType} (hown : s.vm.findClass own = some m.cls) (w : (Jvm.Cond.fieldLink own index O nm d).before a0 Z = true)
    {a : Addr} {v v' old : Value} (F : Fld Z h a O nm d old) (E : Exa Z h a C) (L : (Jvm.Cond.lays C O nm d).before a0 Z = true ∨ ((Jvm.Cond.laysFinal C O nm d).before a0 Z = true ∧ own = O ∧ meth.name = "<init>")) (wi : (Jvm.Cond.instantiable C kk).before a0 Z = true) (ha : n0 ≤ a)
    (hty : parseFieldDescriptor d = some ty) (hn : narrow ty v = v') (hf : fits ty v' = true) {g : JFrame} (hg : g.method = m) {rest : List Value} (hs : g.stack = v :: .ref a :: rest) (hd : decode c.code g.pc = .ok (.putfield index, 3))
    (next : ∀ T' h', Wr h h' a (Jvm.RoadKit.slotOf Z O nm d) v' → Here p l e R s m args below meth c n0 T' h' k n → Go p e below Φ (T'.setTop { g with pc := g.pc + 3, stack := rest })) : Go p e below Φ (T.setTop g) := by
  obtain ⟨locs, X, r1, r2⟩ := H.stand
  obtain ⟨T', h', X', e', W, st⟩ := putFN X hx hZ hown w Via.refl r1 F E L wi hty hn hf hg hs hd
  exact Go.via st (next T' h' W ⟨_, X', e', Fr.snoc X' r2 ha⟩)
theorem own_newO (H : Here p l e R s m args below meth c n0 T h k n) (hx : p.tables.exec = Jvm.exec) (hZ : Z.Warmed39 s.vm) {own C : String} {index sl : Nat} (hown : s.vm.findClass own = some m.cls) (w : (Jvm.Cond.classLink own index C).before a0 Z = true) (wi : (Jvm.Cond.instantiable C sl).before a0 Z = true) (wz : (Jvm.Cond.initialized C).before a0 Z = true)
    {g : JFrame} (hg : g.method = m) (hd : decode c.code g.pc = .ok (.new index, 3)) (hc : k + 1 ≤ R.cells) (hl : n + sl ≤ R.slots)
    (next : ∀ T' h' a, a = h.size → Ext h h' → Exa Z h' a C → (∀ {O nm d : String} {ty : FieldType}, Laid Z a0 C O nm d → parseFieldDescriptor d = some ty → Fld Z h' a O nm d (defaultValue ty)) → Here p l e R s m args below meth c n0 T' h' (k + 1) (n + sl) → Go p e below Φ (T'.setTop { g with pc := g.pc + 3, stack := .ref a :: g.stack })) : Go p e below Φ (T.setTop g) := by
  obtain ⟨locs, X, r1, r2⟩ := H.stand
  obtain ⟨T', h', X', e', E, A, D, -, st⟩ := newO X hx hZ hown w wi wz r1 hg hd hc hl
  exact Go.via st (next T' h' _ rfl E A D ⟨_, X', e', r2⟩)
/-! arrays -/
theorem own_newP (H : Here p l e R s m args below meth c n0 T h k n) (hx : p.tables.exec = Jvm.exec) (hZ : Z.Warmed39 s.vm) {aty : ArrayType} (w : (Jvm.Cond.arrayClass (newarray.typeOf aty)).before a0 Z = true) {g : JFrame} (hg : g.method = m) (hd : decode c.code g.pc = .ok (.newarray aty, 2)) {z : Int32} {rest : List Value} (hs : g.stack = .int z :: rest)
    (hn : ¬ z < 0) (cap : Nat) (hcap : z.toNatClampNeg ≤ cap) (hb : cap * 8 ≤ 536870912) (hc : k + 1 ≤ R.cells) (hl : n + cap ≤ R.slots)
    (next : ∀ T' h' a cA, a = h.size → Ext h h' → Arr Z h' a (newA cA (newarray.typeOf aty) z) (newarray.typeOf aty) → Here p l e R s m args below meth c n0 T' h' (k + 1) (n + cap) → Go p e below Φ (T'.setTop { g with pc := g.pc + 2, stack := .ref a :: rest })) : Go p e below Φ (T.setTop g) := by
  obtain ⟨locs, X, r1, r2⟩ := H.stand
  obtain ⟨T', h', cA, X', e', E, A, st⟩ := newP X hx hZ w r1 hg hd hs hn hcap hb hc hl
  exact Go.via st (next T' h' _ cA rfl E A ⟨_, X', e', r2⟩)
theorem own_stI (H : Here p l e R s m args below meth c n0 T h k n) (hx : p.tables.exec = Jvm.exec) (hZ : Z.Warmed39 s.vm) {a : Addr} {cl : Cell} (A : Arr Z h a cl .int) {j x : Int32} (hj : ¬ (j < 0 ∨ cl.slots.size ≤ j.toNatClampNeg)) (ha : n0 ≤ a) {g : JFrame} (hg : g.method = m) {rest : List Value} (hs : g.stack = .int x :: .int j :: .ref a :: rest) (hd : decode c.code g.pc = .ok (.iastore, 1))
    (next : ∀ T' h', Wr h h' a j.toNatClampNeg (.int x) → Here p l e R s m args below meth c n0 T' h' k n → Go p e below Φ (T'.setTop { g with pc := g.pc + 1, stack := rest })) : Go p e below Φ (T.setTop g) := by
  obtain ⟨locs, X, r1, r2⟩ := H.stand
  obtain ⟨T', h', X', e', W, st⟩ := stI X hx hZ r1 A hj hg hs hd
  exact Go.via st (next T' h' W ⟨_, X', e', Fr.snoc X' r2 ha⟩)
theorem own_stB (H : Here p l e R s m args below meth c n0 T h k n) (hx : p.tables.exec = Jvm.exec) (hZ : Z.Warmed39 s.vm) {a : Addr} {cl : Cell} (A : Arr Z h a cl .byte) {j x : Int32} (hj : ¬ (j < 0 ∨ cl.slots.size ≤ j.toNatClampNeg)) (ha : n0 ≤ a) {g : JFrame} (hg : g.method = m) {rest : List Value} (hs : g.stack = .int x :: .int j :: .ref a :: rest) (hd : decode c.code g.pc = .ok (.bastore, 1))
    (next : ∀ T' h', Wr h h' a j.toNatClampNeg (.int (nar .byte x)) → Here p l e R s m args below meth c n0 T' h' k n → Go p e below Φ (T'.setTop { g with pc := g.pc + 1, stack := rest })) : Go p e below Φ (T.setTop g) := by
  obtain ⟨locs, X, r1, r2⟩ := H.stand
  obtain ⟨T', h', X', e', W, st⟩ := stB X hx hZ r1 A hj hg hs hd
  exact Go.via st (next T' h' W ⟨_, X', e', Fr.snoc X' r2 ha⟩)
theorem own_len (H : Here p l e R s m args below meth c n0 T h k n) (hx : p.tables.exec = Jvm.exec) (hZ : Z.Warmed39 s.vm) {a : Addr} {cl : Cell} {ty : FieldType} (A : Arr Z h a cl ty) {g : JFrame} (hg : g.method = m) {rest : List Value} (hs : g.stack = .ref a :: rest) (hd : decode c.code g.pc = .ok (.arraylength, 1))
    (next : Go p e below Φ (T.setTop { g with pc := g.pc + 1, stack := .int cl.slots.size.toInt32 :: rest })) : Go p e below Φ (T.setTop g) := by
  obtain ⟨locs, X, r1, r2⟩ := H.stand
  exact Go.via (fun t q => X.arraylength hx (by rw [r1]; exact A.1) (State.isArrayOf_alike hZ.alike A.2.1) hg hs hd t q) next
theorem own_ldI (H : Here p l e R s m args below meth c n0 T h k n) (hx : p.tables.exec = Jvm.exec) (hZ : Z.Warmed39 s.vm) {a : Addr} {cl : Cell} (A : Arr Z h a cl .int) {j : Int32} {v : Value} (hj : ¬ (j < 0 ∨ cl.slots.size ≤ j.toNatClampNeg)) (hv : cl.slots[j.toNatClampNeg]? = some v) {g : JFrame} (hg : g.method = m) {rest : List Value} (hs : g.stack = .int j :: .ref a :: rest) (hd : decode c.code g.pc = .ok (.iaload, 1))
    (next : Go p e below Φ (T.setTop { g with pc := g.pc + 1, stack := v :: rest })) : Go p e below Φ (T.setTop g) := by
  obtain ⟨locs, X, r1, r2⟩ := H.stand
  exact Go.via (fun t q => X.iaload hx (by rw [r1]; exact A.1) (State.isArrayOf_alike hZ.alike A.2.1) A.2.2 hj hv hg hs hd t q) next
theorem own_ldB (H : Here p l e R s m args below meth c n0 T h k n) (hx : p.tables.exec = Jvm.exec) (hZ : Z.Warmed39 s.vm) {a : Addr} {cl : Cell} (A : Arr Z h a cl .byte) {j : Int32} {v : Value} (hj : ¬ (j < 0 ∨ cl.slots.size ≤ j.toNatClampNeg)) (hv : cl.slots[j.toNatClampNeg]? = some v) {g : JFrame} (hg : g.method = m) {rest : List Value} (hs : g.stack = .int j :: .ref a :: rest) (hd : decode c.code g.pc = .ok (.baload, 1))
    (next : Go p e below Φ (T.setTop { g with pc := g.pc + 1, stack := v :: rest })) : Go p e below Φ (T.setTop g) := by
  obtain ⟨locs, X, r1, r2⟩ := H.stand
  exact Go.via (fun t q => X.baloadBytes hx (by rw [r1]; exact A.1) (State.isArrayOf_alike hZ.alike A.2.1) A.2.2 hj hv hg hs hd t q) next
/-! arrays of ints by a function of the place -/
def upd (B : Nat → Int32) (j : Nat) (v : Int32) : Nat → Int32 := fun i => if i = j then v else B i
theorem upd_hit {B : Nat → Int32} {j : Nat} {v : Int32} : upd B j v j = v := if_pos rfl
theorem upd_miss {B : Nat → Int32} {i j : Nat} {v : Int32} (q : i ≠ j) : upd B j v i = B i := if_neg q
def Ab (Z : State) (h : Heap) (a : Addr) (ty : FieldType) (n : Nat) (B : Nat → Int32) : Prop := ∃ c : Cell, Arr Z h a c ty ∧ c.slots.size = n ∧ ∀ i, i < n → c.slots[i]? = some (.int (B i))
theorem Ab.lt {a : Addr} {ty : FieldType} {B : Nat → Int32} (F : Ab Z h a ty n B) : a < h.size := by obtain ⟨c, A, -⟩ := F; exact A.lt
theorem Ab.ext {h' : Heap} {a : Addr} {ty : FieldType} {B : Nat → Int32} (F : Ab Z h a ty n B) (E : Ext h h') : Ab Z h' a ty n B := by obtain ⟨c, A, r⟩ := F; exact ⟨c, A.ext E, r⟩
theorem Ab.other {h' : Heap} {a b : Addr} {sl : Nat} {v : Value} {ty : FieldType} {B : Nat → Int32} (F : Ab Z h b ty n B) (W : Wr h h' a sl v) (q : b ≠ a) : Ab Z h' b ty n B := by obtain ⟨c, A, r⟩ := F; exact ⟨c, A.other W q, r⟩
theorem Ab.keep {h' : Heap} {a : Addr} {ws : List Addr} {ty : FieldType} {B : Nat → Int32} (F : Ab Z h a ty n B) (Kp : Keep h h' ws) (q : a ∉ ws) : Ab Z h' a ty n B := by obtain ⟨c, A, r⟩ := F; exact ⟨c, ⟨Kp.2.1 a c A.1 q, A.2⟩, r⟩
theorem Ab.set {h' : Heap} {a : Addr} {j : Nat} {v : Int32} {ty : FieldType} {B : Nat → Int32} (F : Ab Z h a ty n B) (W : Wr h h' a j (.int v)) : Ab Z h' a ty n (upd B j v) := by
  obtain ⟨c, A, S, G⟩ := F
  obtain ⟨c', q1, -, -, q4, -, q6, q7⟩ := wr_at W A.1
  obtain ⟨rfl, q8, -⟩ := q7 rfl
  refine ⟨_, A.same W, q4.trans S, fun i hi => ?_⟩
  by_cases q : i = j
  · subst q; rw [q8, upd_hit]
  · rw [q6 i q, G i hi, upd_miss q]
theorem Ab.new {a : Addr} {ty : FieldType} {kk : ClassId} {z : Int32} (A : Arr Z h a (newA kk ty z) ty) (hz : z.toNatClampNeg = n) (hd : defaultValue ty = .int 0) : Ab Z h a ty n (fun _ => 0) := by
  refine ⟨_, A, (sz_new _ _ _).trans hz, fun i hi => ?_⟩
  have hz' : z.toNatClampNeg < 2 ^ 31 := by
    by_cases q : z < 0
    · have : z.toNatClampNeg ≤ 0 := by rw [Int32.lt_iff_toInt_lt] at q; have e0 : (0 : Int32).toInt = 0 := rfl; have : z.toNatClampNeg = z.toInt.toNat := rfl; omega
      omega
    · exact (back32 q).2
  have e1 : i.toInt32.toNatClampNeg = i := by
    have q := idx_in (i := i) (n := i + 1) (Nat.lt_succ_self i) (by omega)
    have q2 : i.toInt32.toInt = i := len_toInt (by omega)
    have := nat_of (j := i.toInt32) (fun z => q (Or.inl z))
    omega
  have q0 : ¬ (i.toInt32 < 0 ∨ z.toNatClampNeg ≤ i.toInt32.toNatClampNeg) := by
    rw [hz, e1]
    intro q
    rcases q with q | q
    · have q3 : i.toInt32.toInt = i := len_toInt (by omega)
      rw [Int32.lt_iff_toInt_lt, q3] at q
      have e0 : (0 : Int32).toInt = 0 := rfl
      omega
    · omega
  have g := get_new (cA := kk) (ty := ty) (n := z) (k := i.toInt32) q0
  rw [e1] at g
  rw [g, hd]
theorem own_idx {J : Int32} {j : Nat} (e : J.toInt = (j : Int)) : ¬ J < 0 ∧ J.toNatClampNeg = j := by
  have h0 : ¬ J < 0 := by rw [Int32.lt_iff_toInt_lt]; have e0 : (0 : Int32).toInt = 0 := rfl; omega
  have := nat_of h0
  exact ⟨h0, by omega⟩
theorem own_in {c : Cell} {J : Int32} {j N' : Nat} (e : J.toInt = (j : Int)) (S : c.slots.size = N') (hj : j < N') : ¬ (J < 0 ∨ c.slots.size ≤ J.toNatClampNeg) := by
  obtain ⟨q1, q2⟩ := own_idx e
  rw [q2, S]; intro q; rcases q with q | q
  · exact q1 q
  · omega
theorem own_newA (H : Here p l e R s m args below meth c n0 T h k n) (hx : p.tables.exec = Jvm.exec) (hZ : Z.Warmed39 s.vm) {aty : ArrayType} (w : (Jvm.Cond.arrayClass (newarray.typeOf aty)).before a0 Z = true) {g : JFrame} (hg : g.method = m) (hd : decode c.code g.pc = .ok (.newarray aty, 2)) {z : Int32} {rest : List Value} (hs : g.stack = .int z :: rest)
    (hn : ¬ z < 0) (N' : Nat) (hz : z.toNatClampNeg = N') (hdv : defaultValue (newarray.typeOf aty) = .int 0) (cap : Nat) (hcap : N' ≤ cap) (hb : cap * 8 ≤ 536870912) (hc : k + 1 ≤ R.cells) (hl : n + cap ≤ R.slots)
    (next : ∀ T' h' a, a = h.size → Ext h h' → Ab Z h' a (newarray.typeOf aty) N' (fun _ => 0) → Here p l e R s m args below meth c n0 T' h' (k + 1) (n + cap) → Go p e below Φ (T'.setTop { g with pc := g.pc + 2, stack := .ref a :: rest })) : Go p e below Φ (T.setTop g) :=
  own_newP H hx hZ w hg hd hs hn cap (by rw [hz]; exact hcap) hb hc hl fun T' h' a cA q1 q2 q3 q4 => next T' h' a q1 q2 (Ab.new q3 hz hdv) q4
theorem own_stIA (H : Here p l e R s m args below meth c n0 T h k n) (hx : p.tables.exec = Jvm.exec) (hZ : Z.Warmed39 s.vm) {a : Addr} {N' : Nat} {B : Nat → Int32} (A : Ab Z h a .int N' B) {J x : Int32} {j : Nat} (ej : J.toInt = (j : Int)) (hj : j < N') (ha : n0 ≤ a) {g : JFrame} (hg : g.method = m) {rest : List Value} (hs : g.stack = .int x :: .int J :: .ref a :: rest) (hd : decode c.code g.pc = .ok (.iastore, 1))
    (next : ∀ T' h', Wr h h' a j (.int x) → Ab Z h' a .int N' (upd B j x) → Here p l e R s m args below meth c n0 T' h' k n → Go p e below Φ (T'.setTop { g with pc := g.pc + 1, stack := rest })) : Go p e below Φ (T.setTop g) := by
  have A' := A
  obtain ⟨cl, A0, S, G⟩ := A
  refine own_stI H hx hZ A0 (own_in ej S hj) ha hg hs hd fun T' h' W H' => ?_
  rw [(own_idx ej).2] at W
  exact next T' h' W (A'.set W) H'
theorem own_stBA (H : Here p l e R s m args below meth c n0 T h k n) (hx : p.tables.exec = Jvm.exec) (hZ : Z.Warmed39 s.vm) {a : Addr} {N' : Nat} {B : Nat → Int32} (A : Ab Z h a .byte N' B) {J x : Int32} {j : Nat} (ej : J.toInt = (j : Int)) (hj : j < N') (ha : n0 ≤ a) {g : JFrame} (hg : g.method = m) {rest : List Value} (hs : g.stack = .int x :: .int J :: .ref a :: rest) (hd : decode c.code g.pc = .ok (.bastore, 1))
    (next : ∀ T' h', Wr h h' a j (.int (nar .byte x)) → Ab Z h' a .byte N' (upd B j (nar .byte x)) → Here p l e R s m args below meth c n0 T' h' k n → Go p e below Φ (T'.setTop { g with pc := g.pc + 1, stack := rest })) : Go p e below Φ (T.setTop g) := by
  have A' := A
  obtain ⟨cl, A0, S, G⟩ := A
  refine own_stB H hx hZ A0 (own_in ej S hj) ha hg hs hd fun T' h' W H' => ?_
  rw [(own_idx ej).2] at W
  exact next T' h' W (A'.set W) H'
theorem own_ldIA (H : Here p l e R s m args below meth c n0 T h k n) (hx : p.tables.exec = Jvm.exec) (hZ : Z.Warmed39 s.vm) {a : Addr} {N' : Nat} {B : Nat → Int32} (A : Ab Z h a .int N' B) {J : Int32} {j : Nat} (ej : J.toInt = (j : Int)) (hj : j < N') {g : JFrame} (hg : g.method = m) {rest : List Value} (hs : g.stack = .int J :: .ref a :: rest) (hd : decode c.code g.pc = .ok (.iaload, 1))
    (next : Go p e below Φ (T.setTop { g with pc := g.pc + 1, stack := .int (B j) :: rest })) : Go p e below Φ (T.setTop g) := by
  obtain ⟨cl, A0, S, G⟩ := A
  exact own_ldI H hx hZ A0 (own_in ej S hj) (by rw [(own_idx ej).2]; exact G j hj) hg hs hd next
theorem own_ldBA (H : Here p l e R s m args below meth c n0 T h k n) (hx : p.tables.exec = Jvm.exec) (hZ : Z.Warmed39 s.vm) {a : Addr} {N' : Nat} {B : Nat → Int32} (A : Ab Z h a .byte N' B) {J : Int32} {j : Nat} (ej : J.toInt = (j : Int)) (hj : j < N') {g : JFrame} (hg : g.method = m) {rest : List Value} (hs : g.stack = .int J :: .ref a :: rest) (hd : decode c.code g.pc = .ok (.baload, 1))
    (next : Go p e below Φ (T.setTop { g with pc := g.pc + 1, stack := .int (B j) :: rest })) : Go p e below Φ (T.setTop g) := by
  obtain ⟨cl, A0, S, G⟩ := A
  exact own_ldB H hx hZ A0 (own_in ej S hj) (by rw [(own_idx ej).2]; exact G j hj) hg hs hd next
theorem own_lenA (H : Here p l e R s m args below meth c n0 T h k n) (hx : p.tables.exec = Jvm.exec) (hZ : Z.Warmed39 s.vm) {a : Addr} {N' : Nat} {B : Nat → Int32} {ty : FieldType} (A : Ab Z h a ty N' B) {z : Int32} (hz : N'.toInt32 = z) {g : JFrame} (hg : g.method = m) {rest : List Value} (hs : g.stack = .ref a :: rest) (hd : decode c.code g.pc = .ok (.arraylength, 1))
    (next : Go p e below Φ (T.setTop { g with pc := g.pc + 1, stack := .int z :: rest })) : Go p e below Φ (T.setTop g) := by
  obtain ⟨cl, A0, S, G⟩ := A
  subst S; subst hz
  exact own_len H hx hZ A0 hg hs hd next
/-! constants -/
theorem own_ldcI (H : Here p l e R s m args below meth c n0 T h k n) (hx : p.tables.exec = Jvm.exec) (hZ : Z.Warmed39 s.vm) {own : String} {index : Nat} {v : Int32} (hown : s.vm.findClass own = some m.cls) (w : (Jvm.Cond.constant own index v).before a0 Z = true) {g : JFrame} (hg : g.method = m) (hd : decode c.code g.pc = .ok (.ldc index, 2))
    (next : Go p e below Φ (T.setTop { g with pc := g.pc + 2, stack := .int v :: g.stack })) : Go p e below Φ (T.setTop g) := by
  obtain ⟨locs, X, r1, r2⟩ := H.stand
  exact Go.via (X.ldcInt hx hown (mvT hZ w) hg hd) next
theorem own_ldcL (H : Here p l e R s m args below meth c n0 T h k n) (hx : p.tables.exec = Jvm.exec) (hZ : Z.Warmed39 s.vm) {own : String} {index : Nat} {v : Int64} (hown : s.vm.findClass own = some m.cls) (w : (Jvm.Cond.constantLong own index v).before a0 Z = true) {g : JFrame} (hg : g.method = m) (hd : decode c.code g.pc = .ok (.ldc2_w index, 3))
    (next : Go p e below Φ (T.setTop { g with pc := g.pc + 3, stack := .long v :: g.stack })) : Go p e below Φ (T.setTop g) := by
  obtain ⟨locs, X, r1, r2⟩ := H.stand
  exact Go.via (X.ldc2Long hx hown (mvT hZ w) hg hd) next
/-! comparisons of longs -/
theorem own_llt {x y : Int64} (q : x < y) : ifCond.holds .lt (lcmpW x y) = true ∧ ifCond.holds .ge (lcmpW x y) = false := by
  have := (lw_lt x y).mpr q; rw [if0, if0]; exact ⟨(tlt this).1, (tlt this).2.1⟩
theorem own_nlt {x y : Int64} (q : ¬ x < y) : ifCond.holds .lt (lcmpW x y) = false ∧ ifCond.holds .ge (lcmpW x y) = true := by
  have : ¬ lcmpW x y < 0 := fun z => q ((lw_lt x y).mp z); rw [if0, if0]; exact ⟨(flt this).1, (flt this).2.1⟩
theorem own_lgt {x y : Int64} (q : y < x) : ifCond.holds .gt (lcmpW x y) = true ∧ ifCond.holds .le (lcmpW x y) = false := by
  have := (lw_gt x y).mpr q; rw [if0, if0]; exact ⟨(tlt this).2.2.1, (tlt this).2.2.2⟩
theorem own_ngt {x y : Int64} (q : ¬ y < x) : ifCond.holds .gt (lcmpW x y) = false ∧ ifCond.holds .le (lcmpW x y) = true := by
  have : ¬ 0 < lcmpW x y := fun z => q ((lw_gt x y).mp z); rw [if0, if0]; exact ⟨(flt this).2.2.1, (flt this).2.2.2⟩
theorem own_leq {x y : Int64} (q : x = y) : ifCond.holds .eq (lcmpW x y) = true ∧ ifCond.holds .ne (lcmpW x y) = false := by
  have := (lw_eq x y).mpr q; rw [if0, if0]; exact ⟨(teq this).1, (teq this).2⟩
theorem own_neq {x y : Int64} (q : ¬ x = y) : ifCond.holds .eq (lcmpW x y) = false ∧ ifCond.holds .ne (lcmpW x y) = true := by
  have : ¬ lcmpW x y = 0 := fun z => q ((lw_eq x y).mp z); rw [if0, if0]; exact ⟨(feq this).1, (feq this).2⟩
end Own
def bv (B : Nat → Int32) (i : Nat) : Nat := ((B i) &&& (255 : Int32)).toInt.toNat
theorem own_bv (B : Nat → Int32) (i : Nat) : ((B i) &&& (255 : Int32)).toInt = (bv B i : Int) ∧ bv B i < 256 := by
  have e := c_mask (B i) 255 8 (by decide) (by decide)
  unfold bv; omega
theorem own_m80 {c : Int32} {n : Nat} (hc : c.toInt = (n : Int)) (hn : n < 256) : (c &&& (128 : Int32)) = (0 : Int32) ↔ n < 128 := by
  have hd : ∀ k : Fin 256, ((Int32.ofNat k.1 &&& (128 : Int32)) = (0 : Int32)) ↔ (k.1 < 128) := by decide +kernel
  have e : c = Int32.ofNat n := by
    apply Int32.toInt_inj.mp; rw [hc, Int32.toInt_ofNat_of_lt (by omega)]
  rw [e]; exact hd ⟨n, hn⟩
theorem own_mC0 {c : Int32} {n : Nat} (hc : c.toInt = (n : Int)) (hn : n < 256) : (c &&& (224 : Int32)) = (192 : Int32) ↔ 192 ≤ n ∧ n ≤ 223 := by
  have hd : ∀ k : Fin 256, ((Int32.ofNat k.1 &&& (224 : Int32)) = (192 : Int32)) ↔ (192 ≤ k.1 ∧ k.1 ≤ 223) := by decide +kernel
  have e : c = Int32.ofNat n := by
    apply Int32.toInt_inj.mp; rw [hc, Int32.toInt_ofNat_of_lt (by omega)]
  rw [e]; exact hd ⟨n, hn⟩
theorem own_mE0 {c : Int32} {n : Nat} (hc : c.toInt = (n : Int)) (hn : n < 256) : (c &&& (240 : Int32)) = (224 : Int32) ↔ 224 ≤ n ∧ n ≤ 239 := by
  have hd : ∀ k : Fin 256, ((Int32.ofNat k.1 &&& (240 : Int32)) = (224 : Int32)) ↔ (224 ≤ k.1 ∧ k.1 ≤ 239) := by decide +kernel
  have e : c = Int32.ofNat n := by
    apply Int32.toInt_inj.mp; rw [hc, Int32.toInt_ofNat_of_lt (by omega)]
  rw [e]; exact hd ⟨n, hn⟩
theorem own_mF0 {c : Int32} {n : Nat} (hc : c.toInt = (n : Int)) (hn : n < 256) : (c &&& (248 : Int32)) = (240 : Int32) ↔ 240 ≤ n ∧ n ≤ 247 := by
  have hd : ∀ k : Fin 256, ((Int32.ofNat k.1 &&& (248 : Int32)) = (240 : Int32)) ↔ (240 ≤ k.1 ∧ k.1 ≤ 247) := by decide +kernel
  have e : c = Int32.ofNat n := by
    apply Int32.toInt_inj.mp; rw [hc, Int32.toInt_ofNat_of_lt (by omega)]
  rw [e]; exact hd ⟨n, hn⟩
theorem own_mT {c : Int32} {n : Nat} (hc : c.toInt = (n : Int)) (hn : n < 256) : (c &&& (192 : Int32)) = (128 : Int32) ↔ 128 ≤ n ∧ n ≤ 191 := by
  have hd : ∀ k : Fin 256, ((Int32.ofNat k.1 &&& (192 : Int32)) = (128 : Int32)) ↔ (128 ≤ k.1 ∧ k.1 ≤ 191) := by decide +kernel
  have e : c = Int32.ofNat n := by
    apply Int32.toInt_inj.mp; rw [hc, Int32.toInt_ofNat_of_lt (by omega)]
  rw [e]; exact hd ⟨n, hn⟩
theorem own_lti {c d : Int32} {n m : Nat} (hc : c.toInt = (n : Int)) (hd : d.toInt = (m : Int)) : c < d ↔ n < m := by
  rw [Int32.lt_iff_toInt_lt, hc, hd]; omega
theorem own_eqi {c d : Int32} {n m : Nat} (hc : c.toInt = (n : Int)) (hd : d.toInt = (m : Int)) : c = d ↔ n = m := by
  rw [← Int32.toInt_inj, hc, hd]; omega
theorem own_ix {I : Int32} {i : Nat} (k : Int32) (kn : Nat) (hI : I.toInt = (i : Int)) (hk : k.toInt = (kn : Int)) (h : i < 100) (h' : kn < 100) : (I + k).toInt = ((i + kn : Nat) : Int) := by
  have c1 := c_iadd I k; have r := rng32 (I + k)
  omega
theorem own_sub {G I : Int32} {t i : Nat} (hG : G.toInt = (t : Int)) (hI : I.toInt = (i : Int)) (ht : t < 100) (hi : i ≤ t) : (G - I).toInt = ((t - i : Nat) : Int) := by
  have c1 := c_isub G I; have r := rng32 (G - I)
  omega
theorem own_cp {x y : Int32} {X Y : Nat} (hx : x.toInt = (X : Int)) (hX : X < 32768) (hy : y.toInt = (Y : Int)) (hY : Y < 64) : ((x <<< ((6 : Int32) &&& 31)) ||| y).toInt = ((X * 64 + Y : Nat) : Int) := by
  have c1 := c_ishl x 6 6 (by decide)
  have r1 := rng32 (x <<< ((6 : Int32) &&& 31))
  have e1 : (x <<< ((6 : Int32) &&& 31)).toInt = ((X * 64 : Nat) : Int) := by
    rw [hx] at c1; omega
  have c2 := c_or (x <<< ((6 : Int32) &&& 31)) y 6 (by decide) 64 (by decide) (by rw [e1]; omega) (by omega) (by omega)
  have r2 := rng32 ((x <<< ((6 : Int32) &&& 31)) ||| y)
  omega
theorem own_mk {c : Int32} {n : Nat} (m : Int32) (k : Nat) (hk : k ≤ 31) (hm : m.toBitVec.toNat = 2 ^ k - 1) (hc : c.toInt = (n : Int)) : (c &&& m).toInt = ((n % 2 ^ k : Nat) : Int) := by
  rw [c_mask c m k hk hm, hc]; rfl
theorem own_t2 {b : Int32} {n : Nat} (hc : (b &&& (255 : Int32)).toInt = (n : Int)) (hn : n < 256) : (b &&& (192 : Int32)) = (128 : Int32) ↔ 128 ≤ n ∧ n ≤ 191 := by
  have e : (b &&& (192 : Int32)) = ((b &&& (255 : Int32)) &&& (192 : Int32)) := by
    rw [Int32.and_assoc]; rfl
  rw [e]; exact own_mT hc hn
def nxtI (c0 c1 c2 c3 i t : Nat) : Int :=
  if c0 < 128 then ((i + 1 : Nat) : Int)
  else if 194 ≤ c0 ∧ c0 ≤ 223 then (if i + 2 ≤ t ∧ 128 ≤ c1 ∧ c1 ≤ 191 then ((i + 2 : Nat) : Int) else -1)
  else if 224 ≤ c0 ∧ c0 ≤ 239 then (if i + 3 ≤ t ∧ (c0 = 224 → 160 ≤ c1) ∧ 128 ≤ c1 ∧ (c0 = 237 → c1 ≤ 159) ∧ c1 ≤ 191 ∧ 128 ≤ c2 ∧ c2 ≤ 191 then ((i + 3 : Nat) : Int) else -1)
  else if 240 ≤ c0 ∧ c0 ≤ 244 then (if i + 4 ≤ t ∧ (c0 = 240 → 144 ≤ c1) ∧ 128 ≤ c1 ∧ (c0 = 244 → c1 ≤ 143) ∧ c1 ≤ 191 ∧ 128 ≤ c2 ∧ c2 ≤ 191 ∧ 128 ≤ c3 ∧ c3 ≤ 191 then ((i + 4 : Nat) : Int) else -1)
  else -1
def nx (B : Nat → Int32) (i t : Nat) : Int := nxtI (bv B i) (bv B (i + 1)) (bv B (i + 2)) (bv B (i + 3)) i t
def advI (B : Nat → Int32) (t : Nat) (q : Int) : Int := if q < 0 ∨ (t : Int) ≤ q then q else nx B q.toNat t
def okk (B : Nat → Int32) (t : Nat) : Nat → Nat → Bool
  | 0, _ => true
  | k + 1, i => if i < t then (if nx B i t = -1 then false else okk B t k (nx B i t).toNat) else true
theorem own_nxb {B : Nat → Int32} {i t : Nat} (h : i < t) : nx B i t = -1 ∨ ∃ j : Nat, nx B i t = (j : Int) ∧ i < j ∧ j ≤ t := by
  unfold nx nxtI
  repeat' split
  all_goals first | (exact Or.inl rfl) | (exact Or.inr ⟨_, rfl, by omega, by omega⟩)
theorem own_okN {B : Nat → Int32} {i t k : Nat} (h : i < t) (q : nx B i t = -1) : okk B t (k + 1) i = false := by
  show (if i < t then _ else _) = _
  rw [if_pos h, if_pos q]
theorem own_okS {B : Nat → Int32} {i t k j : Nat} (h : i < t) (q : nx B i t = (j : Int)) : okk B t (k + 1) i = okk B t k j := by
  show (if i < t then _ else _) = _
  rw [if_pos h, if_neg (by omega), q]; rfl
theorem own_okT {B : Nat → Int32} {i t k : Nat} (h : ¬ i < t) : okk B t k i = true := by
  cases k with
  | zero => rfl
  | succ k => show (if i < t then _ else _) = _; rw [if_neg h]
def advN (B : Nat → Int32) (t : Nat) : Nat → Int → Int
  | 0, q => q
  | k + 1, q => advN B t k (advI B t q)
theorem own_advNeg {B : Nat → Int32} {t : Nat} : ∀ k, advN B t k (-1) = -1 := by
  intro k; induction k with
  | zero => rfl
  | succ k ih => show advN B t k (advI B t (-1)) = -1; rw [show advI B t (-1) = -1 from if_pos (Or.inl (by decide))]; exact ih
theorem own_advEnd {B : Nat → Int32} {t : Nat} : ∀ k, advN B t k (t : Int) = (t : Int) := by
  intro k; induction k with
  | zero => rfl
  | succ k ih => show advN B t k (advI B t t) = t; rw [show advI B t (t : Int) = (t : Int) from if_pos (Or.inr (Int.le_refl _))]; exact ih
theorem own_law {B : Nat → Int32} {t : Nat} : ∀ k i, i ≤ t → t - i ≤ k → ∀ k', t - i ≤ k' → (advN B t k (i : Int) = (t : Int) ↔ okk B t k' i = true) := by
  intro k; induction k with
  | zero =>
    intro i h1 h2 k' h3
    have : i = t := by omega
    subst this
    rw [own_okT (by omega)]; simp [advN]
  | succ k ih =>
    intro i h1 h2 k' h3
    by_cases h : i < t
    · cases k' with
      | zero => omega
      | succ k' =>
        have e : advN B t (k + 1) (i : Int) = advN B t k (nx B i t) := by
          show advN B t k (advI B t i) = _
          rw [show advI B t (i : Int) = nx B i t from by unfold advI; rw [if_neg (by omega)]; rfl]
        rw [e]
        rcases own_nxb (B := B) h with q | ⟨j, q, h4, h5⟩
        · rw [own_okN h q, q, own_advNeg]
          simp only [Bool.false_eq_true, iff_false]; omega
        · rw [own_okS h q, q]
          exact ih j h5 (by omega) k' (by omega)
    · have : i = t := by omega
      subst this
      rw [own_okT h, own_advEnd]; simp
theorem own_from (r : Int32) : ∃ f : Nat, ((r &&& (15 : Int32)) % (9 : Int32)).toInt = (f : Int) ∧ f ≤ 8 := by
  have e1 := c_mask r 15 4 (by decide) (by decide)
  have e2 := (c_irem (r &&& 15) 9 9 (by decide)).1
  exact ⟨((r &&& 15) % 9).toInt.toNat, by omega, by omega⟩
theorem own_to {F z : Int32} {f : Nat} (hF : F.toInt = (f : Int)) (hf : f ≤ 8) (hz : 0 ≤ z.toInt ∧ z.toInt ≤ 15) : ∃ t : Nat, (F + z % ((9 : Int32) - F)).toInt = (t : Int) ∧ f ≤ t ∧ t ≤ 8 := by
  have c1 := c_isub 9 F
  have r1 := rng32 ((9 : Int32) - F)
  have e1 : (9 : Int32).toInt = 9 := by decide
  have e2 : ((9 : Int32) - F).toInt = 9 - f := by omega
  have e3 := (c_iremV z ((9 : Int32) - F)).1 hz.1 (by omega)
  have c2 := c_iadd F (z % ((9 : Int32) - F))
  have r2 := rng32 (F + z % ((9 : Int32) - F))
  exact ⟨(F + z % ((9 : Int32) - F)).toInt.toNat, by omega, by omega, by omega⟩
theorem own_nine {F : Int32} {f : Nat} (hF : F.toInt = (f : Int)) (hf : f ≤ 8) : (9 : Int32) - F ≠ 0 := fun q => by
  have c1 := c_isub 9 F
  have e1 : (9 : Int32).toInt = 9 := by decide
  have e0 : (0 : Int32).toInt = 0 := by decide
  rw [q, e0] at c1
  omega
theorem own_m15 (z : Int32) : 0 ≤ (z &&& (15 : Int32)).toInt ∧ (z &&& (15 : Int32)).toInt ≤ 15 := by
  have e1 := c_mask z 15 4 (by decide) (by decide)
  omega
theorem d1_0 : decode method_3_code 0 = .ok (.iload_n 1, 1) := by decide +kernel
theorem d1_1 : decode method_3_code 1 = .ok (.ifCond .lt 8, 3) := by decide +kernel
theorem d1_4 : decode method_3_code 4 = .ok (.iload_n 1, 1) := by decide +kernel
theorem d1_5 : decode method_3_code 5 = .ok (.iload_n 2, 1) := by decide +kernel
theorem d1_6 : decode method_3_code 6 = .ok (.if_icmp .lt 5, 3) := by decide +kernel
theorem d1_9 : decode method_3_code 9 = .ok (.iload_n 1, 1) := by decide +kernel
theorem d1_10 : decode method_3_code 10 = .ok (.ireturn, 1) := by decide +kernel
theorem d1_11 : decode method_3_code 11 = .ok (.aload_n 0, 1) := by decide +kernel
theorem d1_12 : decode method_3_code 12 = .ok (.iload_n 1, 1) := by decide +kernel
theorem d1_13 : decode method_3_code 13 = .ok (.baload, 1) := by decide +kernel
theorem d1_14 : decode method_3_code 14 = .ok (.sipush 255, 3) := by decide +kernel
theorem d1_17 : decode method_3_code 17 = .ok (.iand, 1) := by decide +kernel
theorem d1_18 : decode method_3_code 18 = .ok (.istore_n 3, 1) := by decide +kernel
theorem d1_19 : decode method_3_code 19 = .ok (.iload_n 3, 1) := by decide +kernel
theorem d1_20 : decode method_3_code 20 = .ok (.sipush 128, 3) := by decide +kernel
theorem d1_23 : decode method_3_code 23 = .ok (.iand, 1) := by decide +kernel
theorem d1_24 : decode method_3_code 24 = .ok (.ifCond .ne 7, 3) := by decide +kernel
theorem d1_27 : decode method_3_code 27 = .ok (.iload_n 1, 1) := by decide +kernel
theorem d1_28 : decode method_3_code 28 = .ok (.iconst 1, 1) := by decide +kernel
theorem d1_29 : decode method_3_code 29 = .ok (.iadd, 1) := by decide +kernel
theorem d1_30 : decode method_3_code 30 = .ok (.ireturn, 1) := by decide +kernel
theorem d1_31 : decode method_3_code 31 = .ok (.iload_n 3, 1) := by decide +kernel
theorem d1_32 : decode method_3_code 32 = .ok (.sipush 224, 3) := by decide +kernel
theorem d1_35 : decode method_3_code 35 = .ok (.iand, 1) := by decide +kernel
theorem d1_36 : decode method_3_code 36 = .ok (.sipush 192, 3) := by decide +kernel
theorem d1_39 : decode method_3_code 39 = .ok (.if_icmp .ne 20, 3) := by decide +kernel
theorem d1_42 : decode method_3_code 42 = .ok (.iconst 2, 1) := by decide +kernel
theorem d1_43 : decode method_3_code 43 = .ok (.istore 4, 2) := by decide +kernel
theorem d1_45 : decode method_3_code 45 = .ok (.iload_n 3, 1) := by decide +kernel
theorem d1_46 : decode method_3_code 46 = .ok (.bipush 31, 2) := by decide +kernel
theorem d1_48 : decode method_3_code 48 = .ok (.iand, 1) := by decide +kernel
theorem d1_49 : decode method_3_code 49 = .ok (.istore 5, 2) := by decide +kernel
theorem d1_51 : decode method_3_code 51 = .ok (.sipush 128, 3) := by decide +kernel
theorem d1_54 : decode method_3_code 54 = .ok (.istore 6, 2) := by decide +kernel
theorem d1_56 : decode method_3_code 56 = .ok (.goto 60, 3) := by decide +kernel
theorem d1_59 : decode method_3_code 59 = .ok (.iload_n 3, 1) := by decide +kernel
theorem d1_60 : decode method_3_code 60 = .ok (.sipush 240, 3) := by decide +kernel
theorem d1_63 : decode method_3_code 63 = .ok (.iand, 1) := by decide +kernel
theorem d1_64 : decode method_3_code 64 = .ok (.sipush 224, 3) := by decide +kernel
theorem d1_67 : decode method_3_code 67 = .ok (.if_icmp .ne 20, 3) := by decide +kernel
theorem d1_70 : decode method_3_code 70 = .ok (.iconst 3, 1) := by decide +kernel
theorem d1_71 : decode method_3_code 71 = .ok (.istore 4, 2) := by decide +kernel
theorem d1_73 : decode method_3_code 73 = .ok (.iload_n 3, 1) := by decide +kernel
theorem d1_74 : decode method_3_code 74 = .ok (.bipush 15, 2) := by decide +kernel
theorem d1_76 : decode method_3_code 76 = .ok (.iand, 1) := by decide +kernel
theorem d1_77 : decode method_3_code 77 = .ok (.istore 5, 2) := by decide +kernel
theorem d1_79 : decode method_3_code 79 = .ok (.sipush 2048, 3) := by decide +kernel
theorem d1_82 : decode method_3_code 82 = .ok (.istore 6, 2) := by decide +kernel
theorem d1_84 : decode method_3_code 84 = .ok (.goto 32, 3) := by decide +kernel
theorem d1_87 : decode method_3_code 87 = .ok (.iload_n 3, 1) := by decide +kernel
theorem d1_88 : decode method_3_code 88 = .ok (.sipush 248, 3) := by decide +kernel
theorem d1_91 : decode method_3_code 91 = .ok (.iand, 1) := by decide +kernel
theorem d1_92 : decode method_3_code 92 = .ok (.sipush 240, 3) := by decide +kernel
theorem d1_95 : decode method_3_code 95 = .ok (.if_icmp .ne 19, 3) := by decide +kernel
theorem d1_98 : decode method_3_code 98 = .ok (.iconst 4, 1) := by decide +kernel
theorem d1_99 : decode method_3_code 99 = .ok (.istore 4, 2) := by decide +kernel
theorem d1_101 : decode method_3_code 101 = .ok (.iload_n 3, 1) := by decide +kernel
theorem d1_102 : decode method_3_code 102 = .ok (.bipush 7, 2) := by decide +kernel
theorem d1_104 : decode method_3_code 104 = .ok (.iand, 1) := by decide +kernel
theorem d1_105 : decode method_3_code 105 = .ok (.istore 5, 2) := by decide +kernel
theorem d1_107 : decode method_3_code 107 = .ok (.ldc 19, 2) := by decide +kernel
theorem d1_109 : decode method_3_code 109 = .ok (.istore 6, 2) := by decide +kernel
theorem d1_111 : decode method_3_code 111 = .ok (.goto 5, 3) := by decide +kernel
theorem d1_114 : decode method_3_code 114 = .ok (.iconst (-1), 1) := by decide +kernel
theorem d1_115 : decode method_3_code 115 = .ok (.ireturn, 1) := by decide +kernel
theorem d1_116 : decode method_3_code 116 = .ok (.iload_n 2, 1) := by decide +kernel
theorem d1_117 : decode method_3_code 117 = .ok (.iload_n 1, 1) := by decide +kernel
theorem d1_118 : decode method_3_code 118 = .ok (.isub, 1) := by decide +kernel
theorem d1_119 : decode method_3_code 119 = .ok (.iload 4, 2) := by decide +kernel
theorem d1_121 : decode method_3_code 121 = .ok (.if_icmp .ge 5, 3) := by decide +kernel
theorem d1_124 : decode method_3_code 124 = .ok (.iconst (-1), 1) := by decide +kernel
theorem d1_125 : decode method_3_code 125 = .ok (.ireturn, 1) := by decide +kernel
theorem d1_126 : decode method_3_code 126 = .ok (.aload_n 0, 1) := by decide +kernel
theorem d1_127 : decode method_3_code 127 = .ok (.iload_n 1, 1) := by decide +kernel
theorem d1_128 : decode method_3_code 128 = .ok (.iconst 1, 1) := by decide +kernel
theorem d1_129 : decode method_3_code 129 = .ok (.iadd, 1) := by decide +kernel
theorem d1_130 : decode method_3_code 130 = .ok (.baload, 1) := by decide +kernel
theorem d1_131 : decode method_3_code 131 = .ok (.sipush 255, 3) := by decide +kernel
theorem d1_134 : decode method_3_code 134 = .ok (.iand, 1) := by decide +kernel
theorem d1_135 : decode method_3_code 135 = .ok (.istore 7, 2) := by decide +kernel
theorem d1_137 : decode method_3_code 137 = .ok (.iload 7, 2) := by decide +kernel
theorem d1_139 : decode method_3_code 139 = .ok (.sipush 192, 3) := by decide +kernel
theorem d1_142 : decode method_3_code 142 = .ok (.iand, 1) := by decide +kernel
theorem d1_143 : decode method_3_code 143 = .ok (.sipush 128, 3) := by decide +kernel
theorem d1_146 : decode method_3_code 146 = .ok (.if_icmp .eq 5, 3) := by decide +kernel
theorem d1_149 : decode method_3_code 149 = .ok (.iconst (-1), 1) := by decide +kernel
theorem d1_150 : decode method_3_code 150 = .ok (.ireturn, 1) := by decide +kernel
theorem d1_151 : decode method_3_code 151 = .ok (.iload 5, 2) := by decide +kernel
theorem d1_153 : decode method_3_code 153 = .ok (.bipush 6, 2) := by decide +kernel
theorem d1_155 : decode method_3_code 155 = .ok (.ishl, 1) := by decide +kernel
theorem d1_156 : decode method_3_code 156 = .ok (.iload 7, 2) := by decide +kernel
theorem d1_158 : decode method_3_code 158 = .ok (.bipush 63, 2) := by decide +kernel
theorem d1_160 : decode method_3_code 160 = .ok (.iand, 1) := by decide +kernel
theorem d1_161 : decode method_3_code 161 = .ok (.ior, 1) := by decide +kernel
theorem d1_162 : decode method_3_code 162 = .ok (.istore 5, 2) := by decide +kernel
theorem d1_164 : decode method_3_code 164 = .ok (.iload 4, 2) := by decide +kernel
theorem d1_166 : decode method_3_code 166 = .ok (.iconst 3, 1) := by decide +kernel
theorem d1_167 : decode method_3_code 167 = .ok (.if_icmp .lt 41, 3) := by decide +kernel
theorem d1_170 : decode method_3_code 170 = .ok (.aload_n 0, 1) := by decide +kernel
theorem d1_171 : decode method_3_code 171 = .ok (.iload_n 1, 1) := by decide +kernel
theorem d1_172 : decode method_3_code 172 = .ok (.iconst 2, 1) := by decide +kernel
theorem d1_173 : decode method_3_code 173 = .ok (.iadd, 1) := by decide +kernel
theorem d1_174 : decode method_3_code 174 = .ok (.baload, 1) := by decide +kernel
theorem d1_175 : decode method_3_code 175 = .ok (.sipush 255, 3) := by decide +kernel
theorem d1_178 : decode method_3_code 178 = .ok (.iand, 1) := by decide +kernel
theorem d1_179 : decode method_3_code 179 = .ok (.istore 8, 2) := by decide +kernel
theorem d1_181 : decode method_3_code 181 = .ok (.iload 8, 2) := by decide +kernel
theorem d1_183 : decode method_3_code 183 = .ok (.sipush 192, 3) := by decide +kernel
theorem d1_186 : decode method_3_code 186 = .ok (.iand, 1) := by decide +kernel
theorem d1_187 : decode method_3_code 187 = .ok (.sipush 128, 3) := by decide +kernel
theorem d1_190 : decode method_3_code 190 = .ok (.if_icmp .eq 5, 3) := by decide +kernel
theorem d1_193 : decode method_3_code 193 = .ok (.iconst (-1), 1) := by decide +kernel
theorem d1_194 : decode method_3_code 194 = .ok (.ireturn, 1) := by decide +kernel
theorem d1_195 : decode method_3_code 195 = .ok (.iload 5, 2) := by decide +kernel
theorem d1_197 : decode method_3_code 197 = .ok (.bipush 6, 2) := by decide +kernel
theorem d1_199 : decode method_3_code 199 = .ok (.ishl, 1) := by decide +kernel
theorem d1_200 : decode method_3_code 200 = .ok (.iload 8, 2) := by decide +kernel
theorem d1_202 : decode method_3_code 202 = .ok (.bipush 63, 2) := by decide +kernel
theorem d1_204 : decode method_3_code 204 = .ok (.iand, 1) := by decide +kernel
theorem d1_205 : decode method_3_code 205 = .ok (.ior, 1) := by decide +kernel
theorem d1_206 : decode method_3_code 206 = .ok (.istore 5, 2) := by decide +kernel
theorem d1_208 : decode method_3_code 208 = .ok (.iload 4, 2) := by decide +kernel
theorem d1_210 : decode method_3_code 210 = .ok (.iconst 4, 1) := by decide +kernel
theorem d1_211 : decode method_3_code 211 = .ok (.if_icmp .ne 41, 3) := by decide +kernel
theorem d1_214 : decode method_3_code 214 = .ok (.aload_n 0, 1) := by decide +kernel
theorem d1_215 : decode method_3_code 215 = .ok (.iload_n 1, 1) := by decide +kernel
theorem d1_216 : decode method_3_code 216 = .ok (.iconst 3, 1) := by decide +kernel
theorem d1_217 : decode method_3_code 217 = .ok (.iadd, 1) := by decide +kernel
theorem d1_218 : decode method_3_code 218 = .ok (.baload, 1) := by decide +kernel
theorem d1_219 : decode method_3_code 219 = .ok (.sipush 255, 3) := by decide +kernel
theorem d1_222 : decode method_3_code 222 = .ok (.iand, 1) := by decide +kernel
theorem d1_223 : decode method_3_code 223 = .ok (.istore 8, 2) := by decide +kernel
theorem d1_225 : decode method_3_code 225 = .ok (.iload 8, 2) := by decide +kernel
theorem d1_227 : decode method_3_code 227 = .ok (.sipush 192, 3) := by decide +kernel
theorem d1_230 : decode method_3_code 230 = .ok (.iand, 1) := by decide +kernel
theorem d1_231 : decode method_3_code 231 = .ok (.sipush 128, 3) := by decide +kernel
theorem d1_234 : decode method_3_code 234 = .ok (.if_icmp .eq 5, 3) := by decide +kernel
theorem d1_237 : decode method_3_code 237 = .ok (.iconst (-1), 1) := by decide +kernel
theorem d1_238 : decode method_3_code 238 = .ok (.ireturn, 1) := by decide +kernel
theorem d1_239 : decode method_3_code 239 = .ok (.iload 5, 2) := by decide +kernel
theorem d1_241 : decode method_3_code 241 = .ok (.bipush 6, 2) := by decide +kernel
theorem d1_243 : decode method_3_code 243 = .ok (.ishl, 1) := by decide +kernel
theorem d1_244 : decode method_3_code 244 = .ok (.iload 8, 2) := by decide +kernel
theorem d1_246 : decode method_3_code 246 = .ok (.bipush 63, 2) := by decide +kernel
theorem d1_248 : decode method_3_code 248 = .ok (.iand, 1) := by decide +kernel
theorem d1_249 : decode method_3_code 249 = .ok (.ior, 1) := by decide +kernel
theorem d1_250 : decode method_3_code 250 = .ok (.istore 5, 2) := by decide +kernel
theorem d1_252 : decode method_3_code 252 = .ok (.iload 5, 2) := by decide +kernel
theorem d1_254 : decode method_3_code 254 = .ok (.iload 6, 2) := by decide +kernel
theorem d1_256 : decode method_3_code 256 = .ok (.if_icmp .lt 24, 3) := by decide +kernel
theorem d1_259 : decode method_3_code 259 = .ok (.iload 5, 2) := by decide +kernel
theorem d1_261 : decode method_3_code 261 = .ok (.ldc 20, 2) := by decide +kernel
theorem d1_263 : decode method_3_code 263 = .ok (.if_icmp .gt 17, 3) := by decide +kernel
theorem d1_266 : decode method_3_code 266 = .ok (.iload 5, 2) := by decide +kernel
theorem d1_268 : decode method_3_code 268 = .ok (.ldc 21, 2) := by decide +kernel
theorem d1_270 : decode method_3_code 270 = .ok (.if_icmp .lt 12, 3) := by decide +kernel
theorem d1_273 : decode method_3_code 273 = .ok (.iload 5, 2) := by decide +kernel
theorem d1_275 : decode method_3_code 275 = .ok (.ldc 22, 2) := by decide +kernel
theorem d1_277 : decode method_3_code 277 = .ok (.if_icmp .gt 5, 3) := by decide +kernel
theorem d1_280 : decode method_3_code 280 = .ok (.iconst (-1), 1) := by decide +kernel
theorem d1_281 : decode method_3_code 281 = .ok (.ireturn, 1) := by decide +kernel
theorem d1_282 : decode method_3_code 282 = .ok (.iload_n 1, 1) := by decide +kernel
theorem d1_283 : decode method_3_code 283 = .ok (.iload 4, 2) := by decide +kernel
theorem d1_285 : decode method_3_code 285 = .ok (.iadd, 1) := by decide +kernel
theorem d1_286 : decode method_3_code 286 = .ok (.ireturn, 1) := by decide +kernel
theorem ef_rmAdv (m : MethodId) (x0 : Addr) (x1 : Int32) (x2 : Int32) : entryFrame m #[(.ref x0), (.int x1), (.int x2)] 9 = mkF m 0 #[.val (.ref x0), .val (.int x1), .val (.int x2), .unset, .unset, .unset, .unset, .unset, .unset] [] := by first | (simp [entryFrame, mkF, argsToLocals, Value.category]; done) | rfl
set_option maxRecDepth 65536 in
set_option maxHeartbeats 40000000 in
theorem rmAdv (l : Launch) (Z : State) (a0 : Array Value) (hw : ∀ d ∈ tables_1, d.before a0 Z = true) (a : Addr) (B : Nat → Int32) (p1 p2 : Int32) (t : Nat) (h0 : Heap) (n0 : Nat) (A : Ab Z h0 a .byte 8 B) (qt : p2.toInt = (t : Int)) (ht : t ≤ 8) :
    CM l Z (⟨"com/example/perekaz/perekaz/TextLinesIsUtf8PinLaw", "adv", "([BII)I"⟩ : MethodName) method_3_code 9 (some .int) ({ frames := 0, cells := 0, slots := 0, locals := 0 } : Room) #[(.ref a), (.int p1), (.int p2)] h0 n0 (fun v h => ∃ r : Int32, v = some (.int r) ∧ r.toInt = advI B t p1.toInt ∧ h0 = h) := by
  refine own_enter (by decide +kernel) ?_
  intro p e s m below meth c T0 hx hby hml hown hnm hZ hret hlk H0
  replace hown : s.vm.findClass "com/example/perekaz/perekaz/TextLinesIsUtf8PinLaw" = some m.cls := hown
  replace hret : meth.sig.returnType = some .int := hret
  refine Go.via (fun t_ k_ => castTop (ef_rmAdv m a p1 p2) k_) ?_
  show Go _ _ _ _ (T0.setTop (mkF m 0 #[.val (.ref a), .val (.int p1), .val (.int p2), .unset, .unset, .unset, .unset, .unset, .unset] []))
  refine Go.via (fun t_ k_ => XS.iloadN H0.here hx rfl (hb hby d1_0) rfl k_) ?_
  show Go _ _ _ _ (T0.setTop (mkF m 1 #[.val (.ref a), .val (.int p1), .val (.int p2), .unset, .unset, .unset, .unset, .unset, .unset] [(.int p1)]))
  by_cases hc1 : p1 < (0 : Int32)
  · refine Go.via (fun t_ k_ => XS.ifYes H0.here hx rfl (pc0 := 1) (pc' := 9) rfl (hb hby d1_1) rfl ((if0 _ _).trans (tlt hc1).1) (by decide) (by decide) k_) ?_
    show Go _ _ _ _ (T0.setTop (mkF m 9 #[.val (.ref a), .val (.int p1), .val (.int p2), .unset, .unset, .unset, .unset, .unset, .unset] []))
    refine Go.via (fun t_ k_ => XS.iloadN H0.here hx rfl (hb hby d1_9) rfl k_) ?_
    show Go _ _ _ _ (T0.setTop (mkF m 10 #[.val (.ref a), .val (.int p1), .val (.int p2), .unset, .unset, .unset, .unset, .unset, .unset] [(.int p1)]))
    exact own_retI H0 hx hlk hret (hb hby d1_10) ⟨p1, rfl, (by unfold advI; rw [Int32.lt_iff_toInt_lt] at *; have z0 : (0 : Int32).toInt = 0 := rfl; rw [if_pos (by omega)]), rfl⟩ (by decide) (by decide)
  · refine Go.via (fun t_ k_ => XS.ifNo H0.here hx rfl (hb hby d1_1) rfl ((if0 _ _).trans (flt hc1).1) k_) ?_
    show Go _ _ _ _ (T0.setTop (mkF m 4 #[.val (.ref a), .val (.int p1), .val (.int p2), .unset, .unset, .unset, .unset, .unset, .unset] []))
    refine Go.via (fun t_ k_ => XS.iloadN H0.here hx rfl (hb hby d1_4) rfl k_) ?_
    show Go _ _ _ _ (T0.setTop (mkF m 5 #[.val (.ref a), .val (.int p1), .val (.int p2), .unset, .unset, .unset, .unset, .unset, .unset] [(.int p1)]))
    refine Go.via (fun t_ k_ => XS.iloadN H0.here hx rfl (hb hby d1_5) rfl k_) ?_
    show Go _ _ _ _ (T0.setTop (mkF m 6 #[.val (.ref a), .val (.int p1), .val (.int p2), .unset, .unset, .unset, .unset, .unset, .unset] [(.int p2), (.int p1)]))
    by_cases hc6 : p1 < p2
    · refine Go.via (fun t_ k_ => XS.icmpYes H0.here hx rfl (pc0 := 6) (pc' := 11) rfl (hb hby d1_6) rfl ((tlt hc6).1) (by decide) (by decide) k_) ?_
      show Go _ _ _ _ (T0.setTop (mkF m 11 #[.val (.ref a), .val (.int p1), .val (.int p2), .unset, .unset, .unset, .unset, .unset, .unset] []))
      rw [Int32.lt_iff_toInt_lt] at hc1 hc6
      have z0 : (0 : Int32).toInt = 0 := rfl
      obtain ⟨i, hi⟩ : ∃ i : Nat, p1.toInt = (i : Int) := ⟨p1.toInt.toNat, by omega⟩
      have hit : i < t := by omega
      have hadv : advI B t p1.toInt = nx B i t := by unfold advI; rw [hi, if_neg (by omega)]; rfl
      have e0 := own_bv B (i)
      have e1 := own_bv B (i + 1)
      have e2 := own_bv B (i + 2)
      have e3 := own_bv B (i + 3)
      refine Go.via (fun t_ k_ => XS.aloadN H0.here hx rfl (hb hby d1_11) rfl rfl k_) ?_
      show Go _ _ _ _ (T0.setTop (mkF m 12 #[.val (.ref a), .val (.int p1), .val (.int p2), .unset, .unset, .unset, .unset, .unset, .unset] [(.ref a)]))
      refine Go.via (fun t_ k_ => XS.iloadN H0.here hx rfl (hb hby d1_12) rfl k_) ?_
      show Go _ _ _ _ (T0.setTop (mkF m 13 #[.val (.ref a), .val (.int p1), .val (.int p2), .unset, .unset, .unset, .unset, .unset, .unset] [(.int p1), (.ref a)]))
      refine own_ldBA H0 hx hZ A (j := i) hi (by omega) (g := (mkF m 13 #[.val (.ref a), .val (.int p1), .val (.int p2), .unset, .unset, .unset, .unset, .unset, .unset] [(.int p1), (.ref a)])) rfl rfl (hb hby d1_13) ?_
      show Go _ _ _ _ (T0.setTop (mkF m 14 #[.val (.ref a), .val (.int p1), .val (.int p2), .unset, .unset, .unset, .unset, .unset, .unset] [(.int (B i))]))
      refine Go.via (fun t_ k_ => XS.sipush H0.here hx rfl (hb hby d1_14) k_) ?_
      show Go _ _ _ _ (T0.setTop (mkF m 17 #[.val (.ref a), .val (.int p1), .val (.int p2), .unset, .unset, .unset, .unset, .unset, .unset] [(.int (255 : Int32)), (.int (B i))]))
      refine Go.via (fun t_ k_ => XS.iand H0.here hx rfl (hb hby d1_17) rfl k_) ?_
      show Go _ _ _ _ (T0.setTop (mkF m 18 #[.val (.ref a), .val (.int p1), .val (.int p2), .unset, .unset, .unset, .unset, .unset, .unset] [(.int ((B i) &&& (255 : Int32)))]))
      refine Go.via (fun t_ k_ => XS.istoreN H0.here hx rfl (hb hby d1_18) rfl (l' := #[.val (.ref a), .val (.int p1), .val (.int p2), .val (.int ((B i) &&& (255 : Int32))), .unset, .unset, .unset, .unset, .unset]) rfl k_) ?_
      show Go _ _ _ _ (T0.setTop (mkF m 19 #[.val (.ref a), .val (.int p1), .val (.int p2), .val (.int ((B i) &&& (255 : Int32))), .unset, .unset, .unset, .unset, .unset] []))
      refine Go.via (fun t_ k_ => XS.iloadN H0.here hx rfl (hb hby d1_19) rfl k_) ?_
      show Go _ _ _ _ (T0.setTop (mkF m 20 #[.val (.ref a), .val (.int p1), .val (.int p2), .val (.int ((B i) &&& (255 : Int32))), .unset, .unset, .unset, .unset, .unset] [(.int ((B i) &&& (255 : Int32)))]))
      refine Go.via (fun t_ k_ => XS.sipush H0.here hx rfl (hb hby d1_20) k_) ?_
      show Go _ _ _ _ (T0.setTop (mkF m 23 #[.val (.ref a), .val (.int p1), .val (.int p2), .val (.int ((B i) &&& (255 : Int32))), .unset, .unset, .unset, .unset, .unset] [(.int (128 : Int32)), (.int ((B i) &&& (255 : Int32)))]))
      refine Go.via (fun t_ k_ => XS.iand H0.here hx rfl (hb hby d1_23) rfl k_) ?_
      show Go _ _ _ _ (T0.setTop (mkF m 24 #[.val (.ref a), .val (.int p1), .val (.int p2), .val (.int ((B i) &&& (255 : Int32))), .unset, .unset, .unset, .unset, .unset] [(.int (((B i) &&& (255 : Int32)) &&& (128 : Int32)))]))
      by_cases hc24 : (((B i) &&& (255 : Int32)) &&& (128 : Int32)) = (0 : Int32)
      · refine Go.via (fun t_ k_ => XS.ifNo H0.here hx rfl (hb hby d1_24) rfl ((if0 _ _).trans (teq hc24).2) k_) ?_
        show Go _ _ _ _ (T0.setTop (mkF m 27 #[.val (.ref a), .val (.int p1), .val (.int p2), .val (.int ((B i) &&& (255 : Int32))), .unset, .unset, .unset, .unset, .unset] []))
        refine Go.via (fun t_ k_ => XS.iloadN H0.here hx rfl (hb hby d1_27) rfl k_) ?_
        show Go _ _ _ _ (T0.setTop (mkF m 28 #[.val (.ref a), .val (.int p1), .val (.int p2), .val (.int ((B i) &&& (255 : Int32))), .unset, .unset, .unset, .unset, .unset] [(.int p1)]))
        refine Go.via (fun t_ k_ => XS.iconst H0.here hx rfl (hb hby d1_28) k_) ?_
        show Go _ _ _ _ (T0.setTop (mkF m 29 #[.val (.ref a), .val (.int p1), .val (.int p2), .val (.int ((B i) &&& (255 : Int32))), .unset, .unset, .unset, .unset, .unset] [(.int (1 : Int32)), (.int p1)]))
        refine Go.via (fun t_ k_ => XS.iadd H0.here hx rfl (hb hby d1_29) rfl k_) ?_
        show Go _ _ _ _ (T0.setTop (mkF m 30 #[.val (.ref a), .val (.int p1), .val (.int p2), .val (.int ((B i) &&& (255 : Int32))), .unset, .unset, .unset, .unset, .unset] [(.int (p1 + (1 : Int32)))]))
        exact own_retI H0 hx hlk hret (hb hby d1_30) ⟨_, rfl, (by rw [hadv]; rw [own_m80 e0.1 e0.2] at hc24; rw [own_ix (1 : Int32) 1 hi (by decide) (by omega) (by decide)]; have b0 := e0.2; have b1 := e1.2; have b2 := e2.2; have b3 := e3.2; unfold nx; generalize bv B i = n0 at *; generalize bv B (i + 1) = n1 at *; generalize bv B (i + 2) = n2 at *; generalize bv B (i + 3) = n3 at *; unfold nxtI; (repeat' split) <;> omega), rfl⟩ (by decide) (by decide)
      · refine Go.via (fun t_ k_ => XS.ifYes H0.here hx rfl (pc0 := 24) (pc' := 31) rfl (hb hby d1_24) rfl ((if0 _ _).trans (feq hc24).2) (by decide) (by decide) k_) ?_
        show Go _ _ _ _ (T0.setTop (mkF m 31 #[.val (.ref a), .val (.int p1), .val (.int p2), .val (.int ((B i) &&& (255 : Int32))), .unset, .unset, .unset, .unset, .unset] []))
        refine Go.via (fun t_ k_ => XS.iloadN H0.here hx rfl (hb hby d1_31) rfl k_) ?_
        show Go _ _ _ _ (T0.setTop (mkF m 32 #[.val (.ref a), .val (.int p1), .val (.int p2), .val (.int ((B i) &&& (255 : Int32))), .unset, .unset, .unset, .unset, .unset] [(.int ((B i) &&& (255 : Int32)))]))
        refine Go.via (fun t_ k_ => XS.sipush H0.here hx rfl (hb hby d1_32) k_) ?_
        show Go _ _ _ _ (T0.setTop (mkF m 35 #[.val (.ref a), .val (.int p1), .val (.int p2), .val (.int ((B i) &&& (255 : Int32))), .unset, .unset, .unset, .unset, .unset] [(.int (224 : Int32)), (.int ((B i) &&& (255 : Int32)))]))
        refine Go.via (fun t_ k_ => XS.iand H0.here hx rfl (hb hby d1_35) rfl k_) ?_
        show Go _ _ _ _ (T0.setTop (mkF m 36 #[.val (.ref a), .val (.int p1), .val (.int p2), .val (.int ((B i) &&& (255 : Int32))), .unset, .unset, .unset, .unset, .unset] [(.int (((B i) &&& (255 : Int32)) &&& (224 : Int32)))]))
        refine Go.via (fun t_ k_ => XS.sipush H0.here hx rfl (hb hby d1_36) k_) ?_
        show Go _ _ _ _ (T0.setTop (mkF m 39 #[.val (.ref a), .val (.int p1), .val (.int p2), .val (.int ((B i) &&& (255 : Int32))), .unset, .unset, .unset, .unset, .unset] [(.int (192 : Int32)), (.int (((B i) &&& (255 : Int32)) &&& (224 : Int32)))]))
        by_cases hc39 : (((B i) &&& (255 : Int32)) &&& (224 : Int32)) = (192 : Int32)
        · refine Go.via (fun t_ k_ => XS.icmpNo H0.here hx rfl (hb hby d1_39) rfl ((teq hc39).2) k_) ?_
          show Go _ _ _ _ (T0.setTop (mkF m 42 #[.val (.ref a), .val (.int p1), .val (.int p2), .val (.int ((B i) &&& (255 : Int32))), .unset, .unset, .unset, .unset, .unset] []))
          refine Go.via (fun t_ k_ => XS.iconst H0.here hx rfl (hb hby d1_42) k_) ?_
          show Go _ _ _ _ (T0.setTop (mkF m 43 #[.val (.ref a), .val (.int p1), .val (.int p2), .val (.int ((B i) &&& (255 : Int32))), .unset, .unset, .unset, .unset, .unset] [(.int (2 : Int32))]))
          refine Go.via (fun t_ k_ => XS.istore H0.here hx rfl (hb hby d1_43) rfl (l' := #[.val (.ref a), .val (.int p1), .val (.int p2), .val (.int ((B i) &&& (255 : Int32))), .val (.int (2 : Int32)), .unset, .unset, .unset, .unset]) rfl k_) ?_
          show Go _ _ _ _ (T0.setTop (mkF m 45 #[.val (.ref a), .val (.int p1), .val (.int p2), .val (.int ((B i) &&& (255 : Int32))), .val (.int (2 : Int32)), .unset, .unset, .unset, .unset] []))
          refine Go.via (fun t_ k_ => XS.iloadN H0.here hx rfl (hb hby d1_45) rfl k_) ?_
          show Go _ _ _ _ (T0.setTop (mkF m 46 #[.val (.ref a), .val (.int p1), .val (.int p2), .val (.int ((B i) &&& (255 : Int32))), .val (.int (2 : Int32)), .unset, .unset, .unset, .unset] [(.int ((B i) &&& (255 : Int32)))]))
          refine Go.via (fun t_ k_ => XS.bipush H0.here hx rfl (hb hby d1_46) k_) ?_
          show Go _ _ _ _ (T0.setTop (mkF m 48 #[.val (.ref a), .val (.int p1), .val (.int p2), .val (.int ((B i) &&& (255 : Int32))), .val (.int (2 : Int32)), .unset, .unset, .unset, .unset] [(.int (31 : Int32)), (.int ((B i) &&& (255 : Int32)))]))
          refine Go.via (fun t_ k_ => XS.iand H0.here hx rfl (hb hby d1_48) rfl k_) ?_
          show Go _ _ _ _ (T0.setTop (mkF m 49 #[.val (.ref a), .val (.int p1), .val (.int p2), .val (.int ((B i) &&& (255 : Int32))), .val (.int (2 : Int32)), .unset, .unset, .unset, .unset] [(.int (((B i) &&& (255 : Int32)) &&& (31 : Int32)))]))
          refine Go.via (fun t_ k_ => XS.istore H0.here hx rfl (hb hby d1_49) rfl (l' := #[.val (.ref a), .val (.int p1), .val (.int p2), .val (.int ((B i) &&& (255 : Int32))), .val (.int (2 : Int32)), .val (.int (((B i) &&& (255 : Int32)) &&& (31 : Int32))), .unset, .unset, .unset]) rfl k_) ?_
          show Go _ _ _ _ (T0.setTop (mkF m 51 #[.val (.ref a), .val (.int p1), .val (.int p2), .val (.int ((B i) &&& (255 : Int32))), .val (.int (2 : Int32)), .val (.int (((B i) &&& (255 : Int32)) &&& (31 : Int32))), .unset, .unset, .unset] []))
          refine Go.via (fun t_ k_ => XS.sipush H0.here hx rfl (hb hby d1_51) k_) ?_
          show Go _ _ _ _ (T0.setTop (mkF m 54 #[.val (.ref a), .val (.int p1), .val (.int p2), .val (.int ((B i) &&& (255 : Int32))), .val (.int (2 : Int32)), .val (.int (((B i) &&& (255 : Int32)) &&& (31 : Int32))), .unset, .unset, .unset] [(.int (128 : Int32))]))
          refine Go.via (fun t_ k_ => XS.istore H0.here hx rfl (hb hby d1_54) rfl (l' := #[.val (.ref a), .val (.int p1), .val (.int p2), .val (.int ((B i) &&& (255 : Int32))), .val (.int (2 : Int32)), .val (.int (((B i) &&& (255 : Int32)) &&& (31 : Int32))), .val (.int (128 : Int32)), .unset, .unset]) rfl k_) ?_
          show Go _ _ _ _ (T0.setTop (mkF m 56 #[.val (.ref a), .val (.int p1), .val (.int p2), .val (.int ((B i) &&& (255 : Int32))), .val (.int (2 : Int32)), .val (.int (((B i) &&& (255 : Int32)) &&& (31 : Int32))), .val (.int (128 : Int32)), .unset, .unset] []))
          refine Go.via (fun t_ k_ => XS.goto H0.here hx rfl (pc0 := 56) (pc' := 116) rfl (hb hby d1_56) (by decide) (by decide) k_) ?_
          show Go _ _ _ _ (T0.setTop (mkF m 116 #[.val (.ref a), .val (.int p1), .val (.int p2), .val (.int ((B i) &&& (255 : Int32))), .val (.int (2 : Int32)), .val (.int (((B i) &&& (255 : Int32)) &&& (31 : Int32))), .val (.int (128 : Int32)), .unset, .unset] []))
          refine Go.via (fun t_ k_ => XS.iloadN H0.here hx rfl (hb hby d1_116) rfl k_) ?_
          show Go _ _ _ _ (T0.setTop (mkF m 117 #[.val (.ref a), .val (.int p1), .val (.int p2), .val (.int ((B i) &&& (255 : Int32))), .val (.int (2 : Int32)), .val (.int (((B i) &&& (255 : Int32)) &&& (31 : Int32))), .val (.int (128 : Int32)), .unset, .unset] [(.int p2)]))
          refine Go.via (fun t_ k_ => XS.iloadN H0.here hx rfl (hb hby d1_117) rfl k_) ?_
          show Go _ _ _ _ (T0.setTop (mkF m 118 #[.val (.ref a), .val (.int p1), .val (.int p2), .val (.int ((B i) &&& (255 : Int32))), .val (.int (2 : Int32)), .val (.int (((B i) &&& (255 : Int32)) &&& (31 : Int32))), .val (.int (128 : Int32)), .unset, .unset] [(.int p1), (.int p2)]))
          refine Go.via (fun t_ k_ => XS.isub H0.here hx rfl (hb hby d1_118) rfl k_) ?_
          show Go _ _ _ _ (T0.setTop (mkF m 119 #[.val (.ref a), .val (.int p1), .val (.int p2), .val (.int ((B i) &&& (255 : Int32))), .val (.int (2 : Int32)), .val (.int (((B i) &&& (255 : Int32)) &&& (31 : Int32))), .val (.int (128 : Int32)), .unset, .unset] [(.int (p2 - p1))]))
          refine Go.via (fun t_ k_ => XS.iload H0.here hx rfl (hb hby d1_119) rfl k_) ?_
          show Go _ _ _ _ (T0.setTop (mkF m 121 #[.val (.ref a), .val (.int p1), .val (.int p2), .val (.int ((B i) &&& (255 : Int32))), .val (.int (2 : Int32)), .val (.int (((B i) &&& (255 : Int32)) &&& (31 : Int32))), .val (.int (128 : Int32)), .unset, .unset] [(.int (2 : Int32)), (.int (p2 - p1))]))
          by_cases hc121 : (p2 - p1) < (2 : Int32)
          · refine Go.via (fun t_ k_ => XS.icmpNo H0.here hx rfl (hb hby d1_121) rfl ((tlt hc121).2.1) k_) ?_
            show Go _ _ _ _ (T0.setTop (mkF m 124 #[.val (.ref a), .val (.int p1), .val (.int p2), .val (.int ((B i) &&& (255 : Int32))), .val (.int (2 : Int32)), .val (.int (((B i) &&& (255 : Int32)) &&& (31 : Int32))), .val (.int (128 : Int32)), .unset, .unset] []))
            refine Go.via (fun t_ k_ => XS.iconst H0.here hx rfl (hb hby d1_124) k_) ?_
            show Go _ _ _ _ (T0.setTop (mkF m 125 #[.val (.ref a), .val (.int p1), .val (.int p2), .val (.int ((B i) &&& (255 : Int32))), .val (.int (2 : Int32)), .val (.int (((B i) &&& (255 : Int32)) &&& (31 : Int32))), .val (.int (128 : Int32)), .unset, .unset] [(.int (-1 : Int32))]))
            exact own_retI H0 hx hlk hret (hb hby d1_125) ⟨_, rfl, (by rw [hadv]; rw [own_m80 e0.1 e0.2] at hc24; rw [own_mC0 e0.1 e0.2] at hc39; rw [own_lti (own_sub qt hi (by omega) (by omega)) (m := 2) (by decide)] at hc121; show (-1 : Int32).toInt = nx B i t; rw [show (-1 : Int32).toInt = -1 from by decide]; have b0 := e0.2; have b1 := e1.2; have b2 := e2.2; have b3 := e3.2; unfold nx; generalize bv B i = n0 at *; generalize bv B (i + 1) = n1 at *; generalize bv B (i + 2) = n2 at *; generalize bv B (i + 3) = n3 at *; unfold nxtI; (repeat' split) <;> omega), rfl⟩ (by decide) (by decide)
          · refine Go.via (fun t_ k_ => XS.icmpYes H0.here hx rfl (pc0 := 121) (pc' := 126) rfl (hb hby d1_121) rfl ((flt hc121).2.1) (by decide) (by decide) k_) ?_
            show Go _ _ _ _ (T0.setTop (mkF m 126 #[.val (.ref a), .val (.int p1), .val (.int p2), .val (.int ((B i) &&& (255 : Int32))), .val (.int (2 : Int32)), .val (.int (((B i) &&& (255 : Int32)) &&& (31 : Int32))), .val (.int (128 : Int32)), .unset, .unset] []))
            have hl : ¬ (t - i < 2) := fun q => hc121 ((own_lti (own_sub qt hi (by omega) (by omega)) (m := 2) (by decide)).mpr q)
            refine Go.via (fun t_ k_ => XS.aloadN H0.here hx rfl (hb hby d1_126) rfl rfl k_) ?_
            show Go _ _ _ _ (T0.setTop (mkF m 127 #[.val (.ref a), .val (.int p1), .val (.int p2), .val (.int ((B i) &&& (255 : Int32))), .val (.int (2 : Int32)), .val (.int (((B i) &&& (255 : Int32)) &&& (31 : Int32))), .val (.int (128 : Int32)), .unset, .unset] [(.ref a)]))
            refine Go.via (fun t_ k_ => XS.iloadN H0.here hx rfl (hb hby d1_127) rfl k_) ?_
            show Go _ _ _ _ (T0.setTop (mkF m 128 #[.val (.ref a), .val (.int p1), .val (.int p2), .val (.int ((B i) &&& (255 : Int32))), .val (.int (2 : Int32)), .val (.int (((B i) &&& (255 : Int32)) &&& (31 : Int32))), .val (.int (128 : Int32)), .unset, .unset] [(.int p1), (.ref a)]))
            refine Go.via (fun t_ k_ => XS.iconst H0.here hx rfl (hb hby d1_128) k_) ?_
            show Go _ _ _ _ (T0.setTop (mkF m 129 #[.val (.ref a), .val (.int p1), .val (.int p2), .val (.int ((B i) &&& (255 : Int32))), .val (.int (2 : Int32)), .val (.int (((B i) &&& (255 : Int32)) &&& (31 : Int32))), .val (.int (128 : Int32)), .unset, .unset] [(.int (1 : Int32)), (.int p1), (.ref a)]))
            refine Go.via (fun t_ k_ => XS.iadd H0.here hx rfl (hb hby d1_129) rfl k_) ?_
            show Go _ _ _ _ (T0.setTop (mkF m 130 #[.val (.ref a), .val (.int p1), .val (.int p2), .val (.int ((B i) &&& (255 : Int32))), .val (.int (2 : Int32)), .val (.int (((B i) &&& (255 : Int32)) &&& (31 : Int32))), .val (.int (128 : Int32)), .unset, .unset] [(.int (p1 + (1 : Int32))), (.ref a)]))
            refine own_ldBA H0 hx hZ A (j := (i + 1)) (own_ix (1 : Int32) 1 hi (by decide) (by omega) (by decide)) (by omega) (g := (mkF m 130 #[.val (.ref a), .val (.int p1), .val (.int p2), .val (.int ((B i) &&& (255 : Int32))), .val (.int (2 : Int32)), .val (.int (((B i) &&& (255 : Int32)) &&& (31 : Int32))), .val (.int (128 : Int32)), .unset, .unset] [(.int (p1 + (1 : Int32))), (.ref a)])) rfl rfl (hb hby d1_130) ?_
            show Go _ _ _ _ (T0.setTop (mkF m 131 #[.val (.ref a), .val (.int p1), .val (.int p2), .val (.int ((B i) &&& (255 : Int32))), .val (.int (2 : Int32)), .val (.int (((B i) &&& (255 : Int32)) &&& (31 : Int32))), .val (.int (128 : Int32)), .unset, .unset] [(.int (B (i + 1)))]))
            refine Go.via (fun t_ k_ => XS.sipush H0.here hx rfl (hb hby d1_131) k_) ?_
            show Go _ _ _ _ (T0.setTop (mkF m 134 #[.val (.ref a), .val (.int p1), .val (.int p2), .val (.int ((B i) &&& (255 : Int32))), .val (.int (2 : Int32)), .val (.int (((B i) &&& (255 : Int32)) &&& (31 : Int32))), .val (.int (128 : Int32)), .unset, .unset] [(.int (255 : Int32)), (.int (B (i + 1)))]))
            refine Go.via (fun t_ k_ => XS.iand H0.here hx rfl (hb hby d1_134) rfl k_) ?_
            show Go _ _ _ _ (T0.setTop (mkF m 135 #[.val (.ref a), .val (.int p1), .val (.int p2), .val (.int ((B i) &&& (255 : Int32))), .val (.int (2 : Int32)), .val (.int (((B i) &&& (255 : Int32)) &&& (31 : Int32))), .val (.int (128 : Int32)), .unset, .unset] [(.int ((B (i + 1)) &&& (255 : Int32)))]))
            refine Go.via (fun t_ k_ => XS.istore H0.here hx rfl (hb hby d1_135) rfl (l' := #[.val (.ref a), .val (.int p1), .val (.int p2), .val (.int ((B i) &&& (255 : Int32))), .val (.int (2 : Int32)), .val (.int (((B i) &&& (255 : Int32)) &&& (31 : Int32))), .val (.int (128 : Int32)), .val (.int ((B (i + 1)) &&& (255 : Int32))), .unset]) rfl k_) ?_
            show Go _ _ _ _ (T0.setTop (mkF m 137 #[.val (.ref a), .val (.int p1), .val (.int p2), .val (.int ((B i) &&& (255 : Int32))), .val (.int (2 : Int32)), .val (.int (((B i) &&& (255 : Int32)) &&& (31 : Int32))), .val (.int (128 : Int32)), .val (.int ((B (i + 1)) &&& (255 : Int32))), .unset] []))
            refine Go.via (fun t_ k_ => XS.iload H0.here hx rfl (hb hby d1_137) rfl k_) ?_
            show Go _ _ _ _ (T0.setTop (mkF m 139 #[.val (.ref a), .val (.int p1), .val (.int p2), .val (.int ((B i) &&& (255 : Int32))), .val (.int (2 : Int32)), .val (.int (((B i) &&& (255 : Int32)) &&& (31 : Int32))), .val (.int (128 : Int32)), .val (.int ((B (i + 1)) &&& (255 : Int32))), .unset] [(.int ((B (i + 1)) &&& (255 : Int32)))]))
            refine Go.via (fun t_ k_ => XS.sipush H0.here hx rfl (hb hby d1_139) k_) ?_
            show Go _ _ _ _ (T0.setTop (mkF m 142 #[.val (.ref a), .val (.int p1), .val (.int p2), .val (.int ((B i) &&& (255 : Int32))), .val (.int (2 : Int32)), .val (.int (((B i) &&& (255 : Int32)) &&& (31 : Int32))), .val (.int (128 : Int32)), .val (.int ((B (i + 1)) &&& (255 : Int32))), .unset] [(.int (192 : Int32)), (.int ((B (i + 1)) &&& (255 : Int32)))]))
            refine Go.via (fun t_ k_ => XS.iand H0.here hx rfl (hb hby d1_142) rfl k_) ?_
            show Go _ _ _ _ (T0.setTop (mkF m 143 #[.val (.ref a), .val (.int p1), .val (.int p2), .val (.int ((B i) &&& (255 : Int32))), .val (.int (2 : Int32)), .val (.int (((B i) &&& (255 : Int32)) &&& (31 : Int32))), .val (.int (128 : Int32)), .val (.int ((B (i + 1)) &&& (255 : Int32))), .unset] [(.int (((B (i + 1)) &&& (255 : Int32)) &&& (192 : Int32)))]))
            refine Go.via (fun t_ k_ => XS.sipush H0.here hx rfl (hb hby d1_143) k_) ?_
            show Go _ _ _ _ (T0.setTop (mkF m 146 #[.val (.ref a), .val (.int p1), .val (.int p2), .val (.int ((B i) &&& (255 : Int32))), .val (.int (2 : Int32)), .val (.int (((B i) &&& (255 : Int32)) &&& (31 : Int32))), .val (.int (128 : Int32)), .val (.int ((B (i + 1)) &&& (255 : Int32))), .unset] [(.int (128 : Int32)), (.int (((B (i + 1)) &&& (255 : Int32)) &&& (192 : Int32)))]))
            by_cases hc146 : (((B (i + 1)) &&& (255 : Int32)) &&& (192 : Int32)) = (128 : Int32)
            · refine Go.via (fun t_ k_ => XS.icmpYes H0.here hx rfl (pc0 := 146) (pc' := 151) rfl (hb hby d1_146) rfl ((teq hc146).1) (by decide) (by decide) k_) ?_
              show Go _ _ _ _ (T0.setTop (mkF m 151 #[.val (.ref a), .val (.int p1), .val (.int p2), .val (.int ((B i) &&& (255 : Int32))), .val (.int (2 : Int32)), .val (.int (((B i) &&& (255 : Int32)) &&& (31 : Int32))), .val (.int (128 : Int32)), .val (.int ((B (i + 1)) &&& (255 : Int32))), .unset] []))
              refine Go.via (fun t_ k_ => XS.iload H0.here hx rfl (hb hby d1_151) rfl k_) ?_
              show Go _ _ _ _ (T0.setTop (mkF m 153 #[.val (.ref a), .val (.int p1), .val (.int p2), .val (.int ((B i) &&& (255 : Int32))), .val (.int (2 : Int32)), .val (.int (((B i) &&& (255 : Int32)) &&& (31 : Int32))), .val (.int (128 : Int32)), .val (.int ((B (i + 1)) &&& (255 : Int32))), .unset] [(.int (((B i) &&& (255 : Int32)) &&& (31 : Int32)))]))
              refine Go.via (fun t_ k_ => XS.bipush H0.here hx rfl (hb hby d1_153) k_) ?_
              show Go _ _ _ _ (T0.setTop (mkF m 155 #[.val (.ref a), .val (.int p1), .val (.int p2), .val (.int ((B i) &&& (255 : Int32))), .val (.int (2 : Int32)), .val (.int (((B i) &&& (255 : Int32)) &&& (31 : Int32))), .val (.int (128 : Int32)), .val (.int ((B (i + 1)) &&& (255 : Int32))), .unset] [(.int (6 : Int32)), (.int (((B i) &&& (255 : Int32)) &&& (31 : Int32)))]))
              refine Go.via (fun t_ k_ => XS.ishl H0.here hx rfl (hb hby d1_155) rfl k_) ?_
              show Go _ _ _ _ (T0.setTop (mkF m 156 #[.val (.ref a), .val (.int p1), .val (.int p2), .val (.int ((B i) &&& (255 : Int32))), .val (.int (2 : Int32)), .val (.int (((B i) &&& (255 : Int32)) &&& (31 : Int32))), .val (.int (128 : Int32)), .val (.int ((B (i + 1)) &&& (255 : Int32))), .unset] [(.int ((((B i) &&& (255 : Int32)) &&& (31 : Int32)) <<< ((6 : Int32) &&& 31)))]))
              refine Go.via (fun t_ k_ => XS.iload H0.here hx rfl (hb hby d1_156) rfl k_) ?_
              show Go _ _ _ _ (T0.setTop (mkF m 158 #[.val (.ref a), .val (.int p1), .val (.int p2), .val (.int ((B i) &&& (255 : Int32))), .val (.int (2 : Int32)), .val (.int (((B i) &&& (255 : Int32)) &&& (31 : Int32))), .val (.int (128 : Int32)), .val (.int ((B (i + 1)) &&& (255 : Int32))), .unset] [(.int ((B (i + 1)) &&& (255 : Int32))), (.int ((((B i) &&& (255 : Int32)) &&& (31 : Int32)) <<< ((6 : Int32) &&& 31)))]))
              refine Go.via (fun t_ k_ => XS.bipush H0.here hx rfl (hb hby d1_158) k_) ?_
              show Go _ _ _ _ (T0.setTop (mkF m 160 #[.val (.ref a), .val (.int p1), .val (.int p2), .val (.int ((B i) &&& (255 : Int32))), .val (.int (2 : Int32)), .val (.int (((B i) &&& (255 : Int32)) &&& (31 : Int32))), .val (.int (128 : Int32)), .val (.int ((B (i + 1)) &&& (255 : Int32))), .unset] [(.int (63 : Int32)), (.int ((B (i + 1)) &&& (255 : Int32))), (.int ((((B i) &&& (255 : Int32)) &&& (31 : Int32)) <<< ((6 : Int32) &&& 31)))]))
              refine Go.via (fun t_ k_ => XS.iand H0.here hx rfl (hb hby d1_160) rfl k_) ?_
              show Go _ _ _ _ (T0.setTop (mkF m 161 #[.val (.ref a), .val (.int p1), .val (.int p2), .val (.int ((B i) &&& (255 : Int32))), .val (.int (2 : Int32)), .val (.int (((B i) &&& (255 : Int32)) &&& (31 : Int32))), .val (.int (128 : Int32)), .val (.int ((B (i + 1)) &&& (255 : Int32))), .unset] [(.int (((B (i + 1)) &&& (255 : Int32)) &&& (63 : Int32))), (.int ((((B i) &&& (255 : Int32)) &&& (31 : Int32)) <<< ((6 : Int32) &&& 31)))]))
              refine Go.via (fun t_ k_ => XS.ior H0.here hx rfl (hb hby d1_161) rfl k_) ?_
              show Go _ _ _ _ (T0.setTop (mkF m 162 #[.val (.ref a), .val (.int p1), .val (.int p2), .val (.int ((B i) &&& (255 : Int32))), .val (.int (2 : Int32)), .val (.int (((B i) &&& (255 : Int32)) &&& (31 : Int32))), .val (.int (128 : Int32)), .val (.int ((B (i + 1)) &&& (255 : Int32))), .unset] [(.int (((((B i) &&& (255 : Int32)) &&& (31 : Int32)) <<< ((6 : Int32) &&& 31)) ||| (((B (i + 1)) &&& (255 : Int32)) &&& (63 : Int32))))]))
              refine Go.via (fun t_ k_ => XS.istore H0.here hx rfl (hb hby d1_162) rfl (l' := #[.val (.ref a), .val (.int p1), .val (.int p2), .val (.int ((B i) &&& (255 : Int32))), .val (.int (2 : Int32)), .val (.int (((((B i) &&& (255 : Int32)) &&& (31 : Int32)) <<< ((6 : Int32) &&& 31)) ||| (((B (i + 1)) &&& (255 : Int32)) &&& (63 : Int32)))), .val (.int (128 : Int32)), .val (.int ((B (i + 1)) &&& (255 : Int32))), .unset]) rfl k_) ?_
              show Go _ _ _ _ (T0.setTop (mkF m 164 #[.val (.ref a), .val (.int p1), .val (.int p2), .val (.int ((B i) &&& (255 : Int32))), .val (.int (2 : Int32)), .val (.int (((((B i) &&& (255 : Int32)) &&& (31 : Int32)) <<< ((6 : Int32) &&& 31)) ||| (((B (i + 1)) &&& (255 : Int32)) &&& (63 : Int32)))), .val (.int (128 : Int32)), .val (.int ((B (i + 1)) &&& (255 : Int32))), .unset] []))
              refine Go.via (fun t_ k_ => XS.iload H0.here hx rfl (hb hby d1_164) rfl k_) ?_
              show Go _ _ _ _ (T0.setTop (mkF m 166 #[.val (.ref a), .val (.int p1), .val (.int p2), .val (.int ((B i) &&& (255 : Int32))), .val (.int (2 : Int32)), .val (.int (((((B i) &&& (255 : Int32)) &&& (31 : Int32)) <<< ((6 : Int32) &&& 31)) ||| (((B (i + 1)) &&& (255 : Int32)) &&& (63 : Int32)))), .val (.int (128 : Int32)), .val (.int ((B (i + 1)) &&& (255 : Int32))), .unset] [(.int (2 : Int32))]))
              refine Go.via (fun t_ k_ => XS.iconst H0.here hx rfl (hb hby d1_166) k_) ?_
              show Go _ _ _ _ (T0.setTop (mkF m 167 #[.val (.ref a), .val (.int p1), .val (.int p2), .val (.int ((B i) &&& (255 : Int32))), .val (.int (2 : Int32)), .val (.int (((((B i) &&& (255 : Int32)) &&& (31 : Int32)) <<< ((6 : Int32) &&& 31)) ||| (((B (i + 1)) &&& (255 : Int32)) &&& (63 : Int32)))), .val (.int (128 : Int32)), .val (.int ((B (i + 1)) &&& (255 : Int32))), .unset] [(.int (3 : Int32)), (.int (2 : Int32))]))
              refine Go.via (fun t_ k_ => XS.icmpYes H0.here hx rfl (pc0 := 167) (pc' := 208) rfl (hb hby d1_167) rfl ((tlt (show (2 : Int32) < (3 : Int32) from (by decide))).1) (by decide) (by decide) k_) ?_
              show Go _ _ _ _ (T0.setTop (mkF m 208 #[.val (.ref a), .val (.int p1), .val (.int p2), .val (.int ((B i) &&& (255 : Int32))), .val (.int (2 : Int32)), .val (.int (((((B i) &&& (255 : Int32)) &&& (31 : Int32)) <<< ((6 : Int32) &&& 31)) ||| (((B (i + 1)) &&& (255 : Int32)) &&& (63 : Int32)))), .val (.int (128 : Int32)), .val (.int ((B (i + 1)) &&& (255 : Int32))), .unset] []))
              refine Go.via (fun t_ k_ => XS.iload H0.here hx rfl (hb hby d1_208) rfl k_) ?_
              show Go _ _ _ _ (T0.setTop (mkF m 210 #[.val (.ref a), .val (.int p1), .val (.int p2), .val (.int ((B i) &&& (255 : Int32))), .val (.int (2 : Int32)), .val (.int (((((B i) &&& (255 : Int32)) &&& (31 : Int32)) <<< ((6 : Int32) &&& 31)) ||| (((B (i + 1)) &&& (255 : Int32)) &&& (63 : Int32)))), .val (.int (128 : Int32)), .val (.int ((B (i + 1)) &&& (255 : Int32))), .unset] [(.int (2 : Int32))]))
              refine Go.via (fun t_ k_ => XS.iconst H0.here hx rfl (hb hby d1_210) k_) ?_
              show Go _ _ _ _ (T0.setTop (mkF m 211 #[.val (.ref a), .val (.int p1), .val (.int p2), .val (.int ((B i) &&& (255 : Int32))), .val (.int (2 : Int32)), .val (.int (((((B i) &&& (255 : Int32)) &&& (31 : Int32)) <<< ((6 : Int32) &&& 31)) ||| (((B (i + 1)) &&& (255 : Int32)) &&& (63 : Int32)))), .val (.int (128 : Int32)), .val (.int ((B (i + 1)) &&& (255 : Int32))), .unset] [(.int (4 : Int32)), (.int (2 : Int32))]))
              refine Go.via (fun t_ k_ => XS.icmpYes H0.here hx rfl (pc0 := 211) (pc' := 252) rfl (hb hby d1_211) rfl ((feq (show ¬ ((2 : Int32) = (4 : Int32)) from (by decide))).2) (by decide) (by decide) k_) ?_
              show Go _ _ _ _ (T0.setTop (mkF m 252 #[.val (.ref a), .val (.int p1), .val (.int p2), .val (.int ((B i) &&& (255 : Int32))), .val (.int (2 : Int32)), .val (.int (((((B i) &&& (255 : Int32)) &&& (31 : Int32)) <<< ((6 : Int32) &&& 31)) ||| (((B (i + 1)) &&& (255 : Int32)) &&& (63 : Int32)))), .val (.int (128 : Int32)), .val (.int ((B (i + 1)) &&& (255 : Int32))), .unset] []))
              have hcp : (((((B i) &&& (255 : Int32)) &&& (31 : Int32)) <<< ((6 : Int32) &&& 31)) ||| (((B (i + 1)) &&& (255 : Int32)) &&& (63 : Int32))).toInt = ((((bv B i % 2 ^ 5) * 64 + bv B (i + 1) % 2 ^ 6) : Nat) : Int) := (own_cp (own_mk (31 : Int32) 5 (by decide) (by decide) e0.1) (by omega) (own_mk (63 : Int32) 6 (by decide) (by decide) e1.1) (by omega))
              refine Go.via (fun t_ k_ => XS.iload H0.here hx rfl (hb hby d1_252) rfl k_) ?_
              show Go _ _ _ _ (T0.setTop (mkF m 254 #[.val (.ref a), .val (.int p1), .val (.int p2), .val (.int ((B i) &&& (255 : Int32))), .val (.int (2 : Int32)), .val (.int (((((B i) &&& (255 : Int32)) &&& (31 : Int32)) <<< ((6 : Int32) &&& 31)) ||| (((B (i + 1)) &&& (255 : Int32)) &&& (63 : Int32)))), .val (.int (128 : Int32)), .val (.int ((B (i + 1)) &&& (255 : Int32))), .unset] [(.int (((((B i) &&& (255 : Int32)) &&& (31 : Int32)) <<< ((6 : Int32) &&& 31)) ||| (((B (i + 1)) &&& (255 : Int32)) &&& (63 : Int32))))]))
              refine Go.via (fun t_ k_ => XS.iload H0.here hx rfl (hb hby d1_254) rfl k_) ?_
              show Go _ _ _ _ (T0.setTop (mkF m 256 #[.val (.ref a), .val (.int p1), .val (.int p2), .val (.int ((B i) &&& (255 : Int32))), .val (.int (2 : Int32)), .val (.int (((((B i) &&& (255 : Int32)) &&& (31 : Int32)) <<< ((6 : Int32) &&& 31)) ||| (((B (i + 1)) &&& (255 : Int32)) &&& (63 : Int32)))), .val (.int (128 : Int32)), .val (.int ((B (i + 1)) &&& (255 : Int32))), .unset] [(.int (128 : Int32)), (.int (((((B i) &&& (255 : Int32)) &&& (31 : Int32)) <<< ((6 : Int32) &&& 31)) ||| (((B (i + 1)) &&& (255 : Int32)) &&& (63 : Int32))))]))
              by_cases hc256 : (((((B i) &&& (255 : Int32)) &&& (31 : Int32)) <<< ((6 : Int32) &&& 31)) ||| (((B (i + 1)) &&& (255 : Int32)) &&& (63 : Int32))) < (128 : Int32)
              · refine Go.via (fun t_ k_ => XS.icmpYes H0.here hx rfl (pc0 := 256) (pc' := 280) rfl (hb hby d1_256) rfl ((tlt hc256).1) (by decide) (by decide) k_) ?_
                show Go _ _ _ _ (T0.setTop (mkF m 280 #[.val (.ref a), .val (.int p1), .val (.int p2), .val (.int ((B i) &&& (255 : Int32))), .val (.int (2 : Int32)), .val (.int (((((B i) &&& (255 : Int32)) &&& (31 : Int32)) <<< ((6 : Int32) &&& 31)) ||| (((B (i + 1)) &&& (255 : Int32)) &&& (63 : Int32)))), .val (.int (128 : Int32)), .val (.int ((B (i + 1)) &&& (255 : Int32))), .unset] []))
                refine Go.via (fun t_ k_ => XS.iconst H0.here hx rfl (hb hby d1_280) k_) ?_
                show Go _ _ _ _ (T0.setTop (mkF m 281 #[.val (.ref a), .val (.int p1), .val (.int p2), .val (.int ((B i) &&& (255 : Int32))), .val (.int (2 : Int32)), .val (.int (((((B i) &&& (255 : Int32)) &&& (31 : Int32)) <<< ((6 : Int32) &&& 31)) ||| (((B (i + 1)) &&& (255 : Int32)) &&& (63 : Int32)))), .val (.int (128 : Int32)), .val (.int ((B (i + 1)) &&& (255 : Int32))), .unset] [(.int (-1 : Int32))]))
                exact own_retI H0 hx hlk hret (hb hby d1_281) ⟨_, rfl, (by rw [hadv]; rw [own_m80 e0.1 e0.2] at hc24; rw [own_mC0 e0.1 e0.2] at hc39; rw [own_mT e1.1 e1.2] at hc146; rw [own_lti (own_sub qt hi (by omega) (by omega)) (m := 2) (by decide)] at hc121; rw [own_lti hcp (m := 128) (by decide)] at hc256; show (-1 : Int32).toInt = nx B i t; rw [show (-1 : Int32).toInt = -1 from by decide]; have b0 := e0.2; have b1 := e1.2; have b2 := e2.2; have b3 := e3.2; unfold nx; generalize bv B i = n0 at *; generalize bv B (i + 1) = n1 at *; generalize bv B (i + 2) = n2 at *; generalize bv B (i + 3) = n3 at *; unfold nxtI; (repeat' split) <;> omega), rfl⟩ (by decide) (by decide)
              · refine Go.via (fun t_ k_ => XS.icmpNo H0.here hx rfl (hb hby d1_256) rfl ((flt hc256).1) k_) ?_
                show Go _ _ _ _ (T0.setTop (mkF m 259 #[.val (.ref a), .val (.int p1), .val (.int p2), .val (.int ((B i) &&& (255 : Int32))), .val (.int (2 : Int32)), .val (.int (((((B i) &&& (255 : Int32)) &&& (31 : Int32)) <<< ((6 : Int32) &&& 31)) ||| (((B (i + 1)) &&& (255 : Int32)) &&& (63 : Int32)))), .val (.int (128 : Int32)), .val (.int ((B (i + 1)) &&& (255 : Int32))), .unset] []))
                refine Go.via (fun t_ k_ => XS.iload H0.here hx rfl (hb hby d1_259) rfl k_) ?_
                show Go _ _ _ _ (T0.setTop (mkF m 261 #[.val (.ref a), .val (.int p1), .val (.int p2), .val (.int ((B i) &&& (255 : Int32))), .val (.int (2 : Int32)), .val (.int (((((B i) &&& (255 : Int32)) &&& (31 : Int32)) <<< ((6 : Int32) &&& 31)) ||| (((B (i + 1)) &&& (255 : Int32)) &&& (63 : Int32)))), .val (.int (128 : Int32)), .val (.int ((B (i + 1)) &&& (255 : Int32))), .unset] [(.int (((((B i) &&& (255 : Int32)) &&& (31 : Int32)) <<< ((6 : Int32) &&& 31)) ||| (((B (i + 1)) &&& (255 : Int32)) &&& (63 : Int32))))]))
                refine own_ldcI H0 hx hZ hown (hw _ (List.mem_of_getElem? (i := 9) rfl)) (g := (mkF m 261 #[.val (.ref a), .val (.int p1), .val (.int p2), .val (.int ((B i) &&& (255 : Int32))), .val (.int (2 : Int32)), .val (.int (((((B i) &&& (255 : Int32)) &&& (31 : Int32)) <<< ((6 : Int32) &&& 31)) ||| (((B (i + 1)) &&& (255 : Int32)) &&& (63 : Int32)))), .val (.int (128 : Int32)), .val (.int ((B (i + 1)) &&& (255 : Int32))), .unset] [(.int (((((B i) &&& (255 : Int32)) &&& (31 : Int32)) <<< ((6 : Int32) &&& 31)) ||| (((B (i + 1)) &&& (255 : Int32)) &&& (63 : Int32))))])) rfl (hb hby d1_261) ?_
                show Go _ _ _ _ (T0.setTop (mkF m 263 #[.val (.ref a), .val (.int p1), .val (.int p2), .val (.int ((B i) &&& (255 : Int32))), .val (.int (2 : Int32)), .val (.int (((((B i) &&& (255 : Int32)) &&& (31 : Int32)) <<< ((6 : Int32) &&& 31)) ||| (((B (i + 1)) &&& (255 : Int32)) &&& (63 : Int32)))), .val (.int (128 : Int32)), .val (.int ((B (i + 1)) &&& (255 : Int32))), .unset] [(.int (1114111 : Int32)), (.int (((((B i) &&& (255 : Int32)) &&& (31 : Int32)) <<< ((6 : Int32) &&& 31)) ||| (((B (i + 1)) &&& (255 : Int32)) &&& (63 : Int32))))]))
                by_cases hc263 : (1114111 : Int32) < (((((B i) &&& (255 : Int32)) &&& (31 : Int32)) <<< ((6 : Int32) &&& 31)) ||| (((B (i + 1)) &&& (255 : Int32)) &&& (63 : Int32)))
                · refine Go.via (fun t_ k_ => XS.icmpYes H0.here hx rfl (pc0 := 263) (pc' := 280) rfl (hb hby d1_263) rfl ((tlt hc263).2.2.1) (by decide) (by decide) k_) ?_
                  show Go _ _ _ _ (T0.setTop (mkF m 280 #[.val (.ref a), .val (.int p1), .val (.int p2), .val (.int ((B i) &&& (255 : Int32))), .val (.int (2 : Int32)), .val (.int (((((B i) &&& (255 : Int32)) &&& (31 : Int32)) <<< ((6 : Int32) &&& 31)) ||| (((B (i + 1)) &&& (255 : Int32)) &&& (63 : Int32)))), .val (.int (128 : Int32)), .val (.int ((B (i + 1)) &&& (255 : Int32))), .unset] []))
                  refine Go.via (fun t_ k_ => XS.iconst H0.here hx rfl (hb hby d1_280) k_) ?_
                  show Go _ _ _ _ (T0.setTop (mkF m 281 #[.val (.ref a), .val (.int p1), .val (.int p2), .val (.int ((B i) &&& (255 : Int32))), .val (.int (2 : Int32)), .val (.int (((((B i) &&& (255 : Int32)) &&& (31 : Int32)) <<< ((6 : Int32) &&& 31)) ||| (((B (i + 1)) &&& (255 : Int32)) &&& (63 : Int32)))), .val (.int (128 : Int32)), .val (.int ((B (i + 1)) &&& (255 : Int32))), .unset] [(.int (-1 : Int32))]))
                  exact own_retI H0 hx hlk hret (hb hby d1_281) ⟨_, rfl, (by rw [hadv]; rw [own_m80 e0.1 e0.2] at hc24; rw [own_mC0 e0.1 e0.2] at hc39; rw [own_mT e1.1 e1.2] at hc146; rw [own_lti (own_sub qt hi (by omega) (by omega)) (m := 2) (by decide)] at hc121; rw [own_lti hcp (m := 128) (by decide)] at hc256; rw [own_lti (n := 1114111) (by decide) hcp] at hc263; show (-1 : Int32).toInt = nx B i t; rw [show (-1 : Int32).toInt = -1 from by decide]; have b0 := e0.2; have b1 := e1.2; have b2 := e2.2; have b3 := e3.2; unfold nx; generalize bv B i = n0 at *; generalize bv B (i + 1) = n1 at *; generalize bv B (i + 2) = n2 at *; generalize bv B (i + 3) = n3 at *; unfold nxtI; (repeat' split) <;> omega), rfl⟩ (by decide) (by decide)
                · refine Go.via (fun t_ k_ => XS.icmpNo H0.here hx rfl (hb hby d1_263) rfl ((flt hc263).2.2.1) k_) ?_
                  show Go _ _ _ _ (T0.setTop (mkF m 266 #[.val (.ref a), .val (.int p1), .val (.int p2), .val (.int ((B i) &&& (255 : Int32))), .val (.int (2 : Int32)), .val (.int (((((B i) &&& (255 : Int32)) &&& (31 : Int32)) <<< ((6 : Int32) &&& 31)) ||| (((B (i + 1)) &&& (255 : Int32)) &&& (63 : Int32)))), .val (.int (128 : Int32)), .val (.int ((B (i + 1)) &&& (255 : Int32))), .unset] []))
                  refine Go.via (fun t_ k_ => XS.iload H0.here hx rfl (hb hby d1_266) rfl k_) ?_
                  show Go _ _ _ _ (T0.setTop (mkF m 268 #[.val (.ref a), .val (.int p1), .val (.int p2), .val (.int ((B i) &&& (255 : Int32))), .val (.int (2 : Int32)), .val (.int (((((B i) &&& (255 : Int32)) &&& (31 : Int32)) <<< ((6 : Int32) &&& 31)) ||| (((B (i + 1)) &&& (255 : Int32)) &&& (63 : Int32)))), .val (.int (128 : Int32)), .val (.int ((B (i + 1)) &&& (255 : Int32))), .unset] [(.int (((((B i) &&& (255 : Int32)) &&& (31 : Int32)) <<< ((6 : Int32) &&& 31)) ||| (((B (i + 1)) &&& (255 : Int32)) &&& (63 : Int32))))]))
                  refine own_ldcI H0 hx hZ hown (hw _ (List.mem_of_getElem? (i := 10) rfl)) (g := (mkF m 268 #[.val (.ref a), .val (.int p1), .val (.int p2), .val (.int ((B i) &&& (255 : Int32))), .val (.int (2 : Int32)), .val (.int (((((B i) &&& (255 : Int32)) &&& (31 : Int32)) <<< ((6 : Int32) &&& 31)) ||| (((B (i + 1)) &&& (255 : Int32)) &&& (63 : Int32)))), .val (.int (128 : Int32)), .val (.int ((B (i + 1)) &&& (255 : Int32))), .unset] [(.int (((((B i) &&& (255 : Int32)) &&& (31 : Int32)) <<< ((6 : Int32) &&& 31)) ||| (((B (i + 1)) &&& (255 : Int32)) &&& (63 : Int32))))])) rfl (hb hby d1_268) ?_
                  show Go _ _ _ _ (T0.setTop (mkF m 270 #[.val (.ref a), .val (.int p1), .val (.int p2), .val (.int ((B i) &&& (255 : Int32))), .val (.int (2 : Int32)), .val (.int (((((B i) &&& (255 : Int32)) &&& (31 : Int32)) <<< ((6 : Int32) &&& 31)) ||| (((B (i + 1)) &&& (255 : Int32)) &&& (63 : Int32)))), .val (.int (128 : Int32)), .val (.int ((B (i + 1)) &&& (255 : Int32))), .unset] [(.int (55296 : Int32)), (.int (((((B i) &&& (255 : Int32)) &&& (31 : Int32)) <<< ((6 : Int32) &&& 31)) ||| (((B (i + 1)) &&& (255 : Int32)) &&& (63 : Int32))))]))
                  by_cases hc270 : (((((B i) &&& (255 : Int32)) &&& (31 : Int32)) <<< ((6 : Int32) &&& 31)) ||| (((B (i + 1)) &&& (255 : Int32)) &&& (63 : Int32))) < (55296 : Int32)
                  · refine Go.via (fun t_ k_ => XS.icmpYes H0.here hx rfl (pc0 := 270) (pc' := 282) rfl (hb hby d1_270) rfl ((tlt hc270).1) (by decide) (by decide) k_) ?_
                    show Go _ _ _ _ (T0.setTop (mkF m 282 #[.val (.ref a), .val (.int p1), .val (.int p2), .val (.int ((B i) &&& (255 : Int32))), .val (.int (2 : Int32)), .val (.int (((((B i) &&& (255 : Int32)) &&& (31 : Int32)) <<< ((6 : Int32) &&& 31)) ||| (((B (i + 1)) &&& (255 : Int32)) &&& (63 : Int32)))), .val (.int (128 : Int32)), .val (.int ((B (i + 1)) &&& (255 : Int32))), .unset] []))
                    refine Go.via (fun t_ k_ => XS.iloadN H0.here hx rfl (hb hby d1_282) rfl k_) ?_
                    show Go _ _ _ _ (T0.setTop (mkF m 283 #[.val (.ref a), .val (.int p1), .val (.int p2), .val (.int ((B i) &&& (255 : Int32))), .val (.int (2 : Int32)), .val (.int (((((B i) &&& (255 : Int32)) &&& (31 : Int32)) <<< ((6 : Int32) &&& 31)) ||| (((B (i + 1)) &&& (255 : Int32)) &&& (63 : Int32)))), .val (.int (128 : Int32)), .val (.int ((B (i + 1)) &&& (255 : Int32))), .unset] [(.int p1)]))
                    refine Go.via (fun t_ k_ => XS.iload H0.here hx rfl (hb hby d1_283) rfl k_) ?_
                    show Go _ _ _ _ (T0.setTop (mkF m 285 #[.val (.ref a), .val (.int p1), .val (.int p2), .val (.int ((B i) &&& (255 : Int32))), .val (.int (2 : Int32)), .val (.int (((((B i) &&& (255 : Int32)) &&& (31 : Int32)) <<< ((6 : Int32) &&& 31)) ||| (((B (i + 1)) &&& (255 : Int32)) &&& (63 : Int32)))), .val (.int (128 : Int32)), .val (.int ((B (i + 1)) &&& (255 : Int32))), .unset] [(.int (2 : Int32)), (.int p1)]))
                    refine Go.via (fun t_ k_ => XS.iadd H0.here hx rfl (hb hby d1_285) rfl k_) ?_
                    show Go _ _ _ _ (T0.setTop (mkF m 286 #[.val (.ref a), .val (.int p1), .val (.int p2), .val (.int ((B i) &&& (255 : Int32))), .val (.int (2 : Int32)), .val (.int (((((B i) &&& (255 : Int32)) &&& (31 : Int32)) <<< ((6 : Int32) &&& 31)) ||| (((B (i + 1)) &&& (255 : Int32)) &&& (63 : Int32)))), .val (.int (128 : Int32)), .val (.int ((B (i + 1)) &&& (255 : Int32))), .unset] [(.int (p1 + (2 : Int32)))]))
                    exact own_retI H0 hx hlk hret (hb hby d1_286) ⟨_, rfl, (by rw [hadv]; rw [own_m80 e0.1 e0.2] at hc24; rw [own_mC0 e0.1 e0.2] at hc39; rw [own_mT e1.1 e1.2] at hc146; rw [own_lti (own_sub qt hi (by omega) (by omega)) (m := 2) (by decide)] at hc121; rw [own_lti hcp (m := 128) (by decide)] at hc256; rw [own_lti (n := 1114111) (by decide) hcp] at hc263; rw [own_lti hcp (m := 55296) (by decide)] at hc270; rw [own_ix (2 : Int32) 2 hi (by decide) (by omega) (by decide)]; have b0 := e0.2; have b1 := e1.2; have b2 := e2.2; have b3 := e3.2; unfold nx; generalize bv B i = n0 at *; generalize bv B (i + 1) = n1 at *; generalize bv B (i + 2) = n2 at *; generalize bv B (i + 3) = n3 at *; unfold nxtI; (repeat' split) <;> omega), rfl⟩ (by decide) (by decide)
                  · refine Go.via (fun t_ k_ => XS.icmpNo H0.here hx rfl (hb hby d1_270) rfl ((flt hc270).1) k_) ?_
                    show Go _ _ _ _ (T0.setTop (mkF m 273 #[.val (.ref a), .val (.int p1), .val (.int p2), .val (.int ((B i) &&& (255 : Int32))), .val (.int (2 : Int32)), .val (.int (((((B i) &&& (255 : Int32)) &&& (31 : Int32)) <<< ((6 : Int32) &&& 31)) ||| (((B (i + 1)) &&& (255 : Int32)) &&& (63 : Int32)))), .val (.int (128 : Int32)), .val (.int ((B (i + 1)) &&& (255 : Int32))), .unset] []))
                    refine Go.via (fun t_ k_ => XS.iload H0.here hx rfl (hb hby d1_273) rfl k_) ?_
                    show Go _ _ _ _ (T0.setTop (mkF m 275 #[.val (.ref a), .val (.int p1), .val (.int p2), .val (.int ((B i) &&& (255 : Int32))), .val (.int (2 : Int32)), .val (.int (((((B i) &&& (255 : Int32)) &&& (31 : Int32)) <<< ((6 : Int32) &&& 31)) ||| (((B (i + 1)) &&& (255 : Int32)) &&& (63 : Int32)))), .val (.int (128 : Int32)), .val (.int ((B (i + 1)) &&& (255 : Int32))), .unset] [(.int (((((B i) &&& (255 : Int32)) &&& (31 : Int32)) <<< ((6 : Int32) &&& 31)) ||| (((B (i + 1)) &&& (255 : Int32)) &&& (63 : Int32))))]))
                    refine own_ldcI H0 hx hZ hown (hw _ (List.mem_of_getElem? (i := 12) rfl)) (g := (mkF m 275 #[.val (.ref a), .val (.int p1), .val (.int p2), .val (.int ((B i) &&& (255 : Int32))), .val (.int (2 : Int32)), .val (.int (((((B i) &&& (255 : Int32)) &&& (31 : Int32)) <<< ((6 : Int32) &&& 31)) ||| (((B (i + 1)) &&& (255 : Int32)) &&& (63 : Int32)))), .val (.int (128 : Int32)), .val (.int ((B (i + 1)) &&& (255 : Int32))), .unset] [(.int (((((B i) &&& (255 : Int32)) &&& (31 : Int32)) <<< ((6 : Int32) &&& 31)) ||| (((B (i + 1)) &&& (255 : Int32)) &&& (63 : Int32))))])) rfl (hb hby d1_275) ?_
                    show Go _ _ _ _ (T0.setTop (mkF m 277 #[.val (.ref a), .val (.int p1), .val (.int p2), .val (.int ((B i) &&& (255 : Int32))), .val (.int (2 : Int32)), .val (.int (((((B i) &&& (255 : Int32)) &&& (31 : Int32)) <<< ((6 : Int32) &&& 31)) ||| (((B (i + 1)) &&& (255 : Int32)) &&& (63 : Int32)))), .val (.int (128 : Int32)), .val (.int ((B (i + 1)) &&& (255 : Int32))), .unset] [(.int (57343 : Int32)), (.int (((((B i) &&& (255 : Int32)) &&& (31 : Int32)) <<< ((6 : Int32) &&& 31)) ||| (((B (i + 1)) &&& (255 : Int32)) &&& (63 : Int32))))]))
                    by_cases hc277 : (57343 : Int32) < (((((B i) &&& (255 : Int32)) &&& (31 : Int32)) <<< ((6 : Int32) &&& 31)) ||| (((B (i + 1)) &&& (255 : Int32)) &&& (63 : Int32)))
                    · refine Go.via (fun t_ k_ => XS.icmpYes H0.here hx rfl (pc0 := 277) (pc' := 282) rfl (hb hby d1_277) rfl ((tlt hc277).2.2.1) (by decide) (by decide) k_) ?_
                      show Go _ _ _ _ (T0.setTop (mkF m 282 #[.val (.ref a), .val (.int p1), .val (.int p2), .val (.int ((B i) &&& (255 : Int32))), .val (.int (2 : Int32)), .val (.int (((((B i) &&& (255 : Int32)) &&& (31 : Int32)) <<< ((6 : Int32) &&& 31)) ||| (((B (i + 1)) &&& (255 : Int32)) &&& (63 : Int32)))), .val (.int (128 : Int32)), .val (.int ((B (i + 1)) &&& (255 : Int32))), .unset] []))
                      refine Go.via (fun t_ k_ => XS.iloadN H0.here hx rfl (hb hby d1_282) rfl k_) ?_
                      show Go _ _ _ _ (T0.setTop (mkF m 283 #[.val (.ref a), .val (.int p1), .val (.int p2), .val (.int ((B i) &&& (255 : Int32))), .val (.int (2 : Int32)), .val (.int (((((B i) &&& (255 : Int32)) &&& (31 : Int32)) <<< ((6 : Int32) &&& 31)) ||| (((B (i + 1)) &&& (255 : Int32)) &&& (63 : Int32)))), .val (.int (128 : Int32)), .val (.int ((B (i + 1)) &&& (255 : Int32))), .unset] [(.int p1)]))
                      refine Go.via (fun t_ k_ => XS.iload H0.here hx rfl (hb hby d1_283) rfl k_) ?_
                      show Go _ _ _ _ (T0.setTop (mkF m 285 #[.val (.ref a), .val (.int p1), .val (.int p2), .val (.int ((B i) &&& (255 : Int32))), .val (.int (2 : Int32)), .val (.int (((((B i) &&& (255 : Int32)) &&& (31 : Int32)) <<< ((6 : Int32) &&& 31)) ||| (((B (i + 1)) &&& (255 : Int32)) &&& (63 : Int32)))), .val (.int (128 : Int32)), .val (.int ((B (i + 1)) &&& (255 : Int32))), .unset] [(.int (2 : Int32)), (.int p1)]))
                      refine Go.via (fun t_ k_ => XS.iadd H0.here hx rfl (hb hby d1_285) rfl k_) ?_
                      show Go _ _ _ _ (T0.setTop (mkF m 286 #[.val (.ref a), .val (.int p1), .val (.int p2), .val (.int ((B i) &&& (255 : Int32))), .val (.int (2 : Int32)), .val (.int (((((B i) &&& (255 : Int32)) &&& (31 : Int32)) <<< ((6 : Int32) &&& 31)) ||| (((B (i + 1)) &&& (255 : Int32)) &&& (63 : Int32)))), .val (.int (128 : Int32)), .val (.int ((B (i + 1)) &&& (255 : Int32))), .unset] [(.int (p1 + (2 : Int32)))]))
                      exact own_retI H0 hx hlk hret (hb hby d1_286) ⟨_, rfl, (by rw [hadv]; rw [own_m80 e0.1 e0.2] at hc24; rw [own_mC0 e0.1 e0.2] at hc39; rw [own_mT e1.1 e1.2] at hc146; rw [own_lti (own_sub qt hi (by omega) (by omega)) (m := 2) (by decide)] at hc121; rw [own_lti hcp (m := 128) (by decide)] at hc256; rw [own_lti (n := 1114111) (by decide) hcp] at hc263; rw [own_lti hcp (m := 55296) (by decide)] at hc270; rw [own_lti (n := 57343) (by decide) hcp] at hc277; rw [own_ix (2 : Int32) 2 hi (by decide) (by omega) (by decide)]; have b0 := e0.2; have b1 := e1.2; have b2 := e2.2; have b3 := e3.2; unfold nx; generalize bv B i = n0 at *; generalize bv B (i + 1) = n1 at *; generalize bv B (i + 2) = n2 at *; generalize bv B (i + 3) = n3 at *; unfold nxtI; (repeat' split) <;> omega), rfl⟩ (by decide) (by decide)
                    · refine Go.via (fun t_ k_ => XS.icmpNo H0.here hx rfl (hb hby d1_277) rfl ((flt hc277).2.2.1) k_) ?_
                      show Go _ _ _ _ (T0.setTop (mkF m 280 #[.val (.ref a), .val (.int p1), .val (.int p2), .val (.int ((B i) &&& (255 : Int32))), .val (.int (2 : Int32)), .val (.int (((((B i) &&& (255 : Int32)) &&& (31 : Int32)) <<< ((6 : Int32) &&& 31)) ||| (((B (i + 1)) &&& (255 : Int32)) &&& (63 : Int32)))), .val (.int (128 : Int32)), .val (.int ((B (i + 1)) &&& (255 : Int32))), .unset] []))
                      refine Go.via (fun t_ k_ => XS.iconst H0.here hx rfl (hb hby d1_280) k_) ?_
                      show Go _ _ _ _ (T0.setTop (mkF m 281 #[.val (.ref a), .val (.int p1), .val (.int p2), .val (.int ((B i) &&& (255 : Int32))), .val (.int (2 : Int32)), .val (.int (((((B i) &&& (255 : Int32)) &&& (31 : Int32)) <<< ((6 : Int32) &&& 31)) ||| (((B (i + 1)) &&& (255 : Int32)) &&& (63 : Int32)))), .val (.int (128 : Int32)), .val (.int ((B (i + 1)) &&& (255 : Int32))), .unset] [(.int (-1 : Int32))]))
                      exact own_retI H0 hx hlk hret (hb hby d1_281) ⟨_, rfl, (by rw [hadv]; rw [own_m80 e0.1 e0.2] at hc24; rw [own_mC0 e0.1 e0.2] at hc39; rw [own_mT e1.1 e1.2] at hc146; rw [own_lti (own_sub qt hi (by omega) (by omega)) (m := 2) (by decide)] at hc121; rw [own_lti hcp (m := 128) (by decide)] at hc256; rw [own_lti (n := 1114111) (by decide) hcp] at hc263; rw [own_lti hcp (m := 55296) (by decide)] at hc270; rw [own_lti (n := 57343) (by decide) hcp] at hc277; show (-1 : Int32).toInt = nx B i t; rw [show (-1 : Int32).toInt = -1 from by decide]; have b0 := e0.2; have b1 := e1.2; have b2 := e2.2; have b3 := e3.2; unfold nx; generalize bv B i = n0 at *; generalize bv B (i + 1) = n1 at *; generalize bv B (i + 2) = n2 at *; generalize bv B (i + 3) = n3 at *; unfold nxtI; (repeat' split) <;> omega), rfl⟩ (by decide) (by decide)
            · refine Go.via (fun t_ k_ => XS.icmpNo H0.here hx rfl (hb hby d1_146) rfl ((feq hc146).1) k_) ?_
              show Go _ _ _ _ (T0.setTop (mkF m 149 #[.val (.ref a), .val (.int p1), .val (.int p2), .val (.int ((B i) &&& (255 : Int32))), .val (.int (2 : Int32)), .val (.int (((B i) &&& (255 : Int32)) &&& (31 : Int32))), .val (.int (128 : Int32)), .val (.int ((B (i + 1)) &&& (255 : Int32))), .unset] []))
              refine Go.via (fun t_ k_ => XS.iconst H0.here hx rfl (hb hby d1_149) k_) ?_
              show Go _ _ _ _ (T0.setTop (mkF m 150 #[.val (.ref a), .val (.int p1), .val (.int p2), .val (.int ((B i) &&& (255 : Int32))), .val (.int (2 : Int32)), .val (.int (((B i) &&& (255 : Int32)) &&& (31 : Int32))), .val (.int (128 : Int32)), .val (.int ((B (i + 1)) &&& (255 : Int32))), .unset] [(.int (-1 : Int32))]))
              exact own_retI H0 hx hlk hret (hb hby d1_150) ⟨_, rfl, (by rw [hadv]; rw [own_m80 e0.1 e0.2] at hc24; rw [own_mC0 e0.1 e0.2] at hc39; rw [own_mT e1.1 e1.2] at hc146; rw [own_lti (own_sub qt hi (by omega) (by omega)) (m := 2) (by decide)] at hc121; show (-1 : Int32).toInt = nx B i t; rw [show (-1 : Int32).toInt = -1 from by decide]; have b0 := e0.2; have b1 := e1.2; have b2 := e2.2; have b3 := e3.2; unfold nx; generalize bv B i = n0 at *; generalize bv B (i + 1) = n1 at *; generalize bv B (i + 2) = n2 at *; generalize bv B (i + 3) = n3 at *; unfold nxtI; (repeat' split) <;> omega), rfl⟩ (by decide) (by decide)
        · refine Go.via (fun t_ k_ => XS.icmpYes H0.here hx rfl (pc0 := 39) (pc' := 59) rfl (hb hby d1_39) rfl ((feq hc39).2) (by decide) (by decide) k_) ?_
          show Go _ _ _ _ (T0.setTop (mkF m 59 #[.val (.ref a), .val (.int p1), .val (.int p2), .val (.int ((B i) &&& (255 : Int32))), .unset, .unset, .unset, .unset, .unset] []))
          refine Go.via (fun t_ k_ => XS.iloadN H0.here hx rfl (hb hby d1_59) rfl k_) ?_
          show Go _ _ _ _ (T0.setTop (mkF m 60 #[.val (.ref a), .val (.int p1), .val (.int p2), .val (.int ((B i) &&& (255 : Int32))), .unset, .unset, .unset, .unset, .unset] [(.int ((B i) &&& (255 : Int32)))]))
          refine Go.via (fun t_ k_ => XS.sipush H0.here hx rfl (hb hby d1_60) k_) ?_
          show Go _ _ _ _ (T0.setTop (mkF m 63 #[.val (.ref a), .val (.int p1), .val (.int p2), .val (.int ((B i) &&& (255 : Int32))), .unset, .unset, .unset, .unset, .unset] [(.int (240 : Int32)), (.int ((B i) &&& (255 : Int32)))]))
          refine Go.via (fun t_ k_ => XS.iand H0.here hx rfl (hb hby d1_63) rfl k_) ?_
          show Go _ _ _ _ (T0.setTop (mkF m 64 #[.val (.ref a), .val (.int p1), .val (.int p2), .val (.int ((B i) &&& (255 : Int32))), .unset, .unset, .unset, .unset, .unset] [(.int (((B i) &&& (255 : Int32)) &&& (240 : Int32)))]))
          refine Go.via (fun t_ k_ => XS.sipush H0.here hx rfl (hb hby d1_64) k_) ?_
          show Go _ _ _ _ (T0.setTop (mkF m 67 #[.val (.ref a), .val (.int p1), .val (.int p2), .val (.int ((B i) &&& (255 : Int32))), .unset, .unset, .unset, .unset, .unset] [(.int (224 : Int32)), (.int (((B i) &&& (255 : Int32)) &&& (240 : Int32)))]))
          by_cases hc67 : (((B i) &&& (255 : Int32)) &&& (240 : Int32)) = (224 : Int32)
          · refine Go.via (fun t_ k_ => XS.icmpNo H0.here hx rfl (hb hby d1_67) rfl ((teq hc67).2) k_) ?_
            show Go _ _ _ _ (T0.setTop (mkF m 70 #[.val (.ref a), .val (.int p1), .val (.int p2), .val (.int ((B i) &&& (255 : Int32))), .unset, .unset, .unset, .unset, .unset] []))
            refine Go.via (fun t_ k_ => XS.iconst H0.here hx rfl (hb hby d1_70) k_) ?_
            show Go _ _ _ _ (T0.setTop (mkF m 71 #[.val (.ref a), .val (.int p1), .val (.int p2), .val (.int ((B i) &&& (255 : Int32))), .unset, .unset, .unset, .unset, .unset] [(.int (3 : Int32))]))
            refine Go.via (fun t_ k_ => XS.istore H0.here hx rfl (hb hby d1_71) rfl (l' := #[.val (.ref a), .val (.int p1), .val (.int p2), .val (.int ((B i) &&& (255 : Int32))), .val (.int (3 : Int32)), .unset, .unset, .unset, .unset]) rfl k_) ?_
            show Go _ _ _ _ (T0.setTop (mkF m 73 #[.val (.ref a), .val (.int p1), .val (.int p2), .val (.int ((B i) &&& (255 : Int32))), .val (.int (3 : Int32)), .unset, .unset, .unset, .unset] []))
            refine Go.via (fun t_ k_ => XS.iloadN H0.here hx rfl (hb hby d1_73) rfl k_) ?_
            show Go _ _ _ _ (T0.setTop (mkF m 74 #[.val (.ref a), .val (.int p1), .val (.int p2), .val (.int ((B i) &&& (255 : Int32))), .val (.int (3 : Int32)), .unset, .unset, .unset, .unset] [(.int ((B i) &&& (255 : Int32)))]))
            refine Go.via (fun t_ k_ => XS.bipush H0.here hx rfl (hb hby d1_74) k_) ?_
            show Go _ _ _ _ (T0.setTop (mkF m 76 #[.val (.ref a), .val (.int p1), .val (.int p2), .val (.int ((B i) &&& (255 : Int32))), .val (.int (3 : Int32)), .unset, .unset, .unset, .unset] [(.int (15 : Int32)), (.int ((B i) &&& (255 : Int32)))]))
            refine Go.via (fun t_ k_ => XS.iand H0.here hx rfl (hb hby d1_76) rfl k_) ?_
            show Go _ _ _ _ (T0.setTop (mkF m 77 #[.val (.ref a), .val (.int p1), .val (.int p2), .val (.int ((B i) &&& (255 : Int32))), .val (.int (3 : Int32)), .unset, .unset, .unset, .unset] [(.int (((B i) &&& (255 : Int32)) &&& (15 : Int32)))]))
            refine Go.via (fun t_ k_ => XS.istore H0.here hx rfl (hb hby d1_77) rfl (l' := #[.val (.ref a), .val (.int p1), .val (.int p2), .val (.int ((B i) &&& (255 : Int32))), .val (.int (3 : Int32)), .val (.int (((B i) &&& (255 : Int32)) &&& (15 : Int32))), .unset, .unset, .unset]) rfl k_) ?_
            show Go _ _ _ _ (T0.setTop (mkF m 79 #[.val (.ref a), .val (.int p1), .val (.int p2), .val (.int ((B i) &&& (255 : Int32))), .val (.int (3 : Int32)), .val (.int (((B i) &&& (255 : Int32)) &&& (15 : Int32))), .unset, .unset, .unset] []))
            refine Go.via (fun t_ k_ => XS.sipush H0.here hx rfl (hb hby d1_79) k_) ?_
            show Go _ _ _ _ (T0.setTop (mkF m 82 #[.val (.ref a), .val (.int p1), .val (.int p2), .val (.int ((B i) &&& (255 : Int32))), .val (.int (3 : Int32)), .val (.int (((B i) &&& (255 : Int32)) &&& (15 : Int32))), .unset, .unset, .unset] [(.int (2048 : Int32))]))
            refine Go.via (fun t_ k_ => XS.istore H0.here hx rfl (hb hby d1_82) rfl (l' := #[.val (.ref a), .val (.int p1), .val (.int p2), .val (.int ((B i) &&& (255 : Int32))), .val (.int (3 : Int32)), .val (.int (((B i) &&& (255 : Int32)) &&& (15 : Int32))), .val (.int (2048 : Int32)), .unset, .unset]) rfl k_) ?_
            show Go _ _ _ _ (T0.setTop (mkF m 84 #[.val (.ref a), .val (.int p1), .val (.int p2), .val (.int ((B i) &&& (255 : Int32))), .val (.int (3 : Int32)), .val (.int (((B i) &&& (255 : Int32)) &&& (15 : Int32))), .val (.int (2048 : Int32)), .unset, .unset] []))
            refine Go.via (fun t_ k_ => XS.goto H0.here hx rfl (pc0 := 84) (pc' := 116) rfl (hb hby d1_84) (by decide) (by decide) k_) ?_
            show Go _ _ _ _ (T0.setTop (mkF m 116 #[.val (.ref a), .val (.int p1), .val (.int p2), .val (.int ((B i) &&& (255 : Int32))), .val (.int (3 : Int32)), .val (.int (((B i) &&& (255 : Int32)) &&& (15 : Int32))), .val (.int (2048 : Int32)), .unset, .unset] []))
            refine Go.via (fun t_ k_ => XS.iloadN H0.here hx rfl (hb hby d1_116) rfl k_) ?_
            show Go _ _ _ _ (T0.setTop (mkF m 117 #[.val (.ref a), .val (.int p1), .val (.int p2), .val (.int ((B i) &&& (255 : Int32))), .val (.int (3 : Int32)), .val (.int (((B i) &&& (255 : Int32)) &&& (15 : Int32))), .val (.int (2048 : Int32)), .unset, .unset] [(.int p2)]))
            refine Go.via (fun t_ k_ => XS.iloadN H0.here hx rfl (hb hby d1_117) rfl k_) ?_
            show Go _ _ _ _ (T0.setTop (mkF m 118 #[.val (.ref a), .val (.int p1), .val (.int p2), .val (.int ((B i) &&& (255 : Int32))), .val (.int (3 : Int32)), .val (.int (((B i) &&& (255 : Int32)) &&& (15 : Int32))), .val (.int (2048 : Int32)), .unset, .unset] [(.int p1), (.int p2)]))
            refine Go.via (fun t_ k_ => XS.isub H0.here hx rfl (hb hby d1_118) rfl k_) ?_
            show Go _ _ _ _ (T0.setTop (mkF m 119 #[.val (.ref a), .val (.int p1), .val (.int p2), .val (.int ((B i) &&& (255 : Int32))), .val (.int (3 : Int32)), .val (.int (((B i) &&& (255 : Int32)) &&& (15 : Int32))), .val (.int (2048 : Int32)), .unset, .unset] [(.int (p2 - p1))]))
            refine Go.via (fun t_ k_ => XS.iload H0.here hx rfl (hb hby d1_119) rfl k_) ?_
            show Go _ _ _ _ (T0.setTop (mkF m 121 #[.val (.ref a), .val (.int p1), .val (.int p2), .val (.int ((B i) &&& (255 : Int32))), .val (.int (3 : Int32)), .val (.int (((B i) &&& (255 : Int32)) &&& (15 : Int32))), .val (.int (2048 : Int32)), .unset, .unset] [(.int (3 : Int32)), (.int (p2 - p1))]))
            by_cases hc121 : (p2 - p1) < (3 : Int32)
            · refine Go.via (fun t_ k_ => XS.icmpNo H0.here hx rfl (hb hby d1_121) rfl ((tlt hc121).2.1) k_) ?_
              show Go _ _ _ _ (T0.setTop (mkF m 124 #[.val (.ref a), .val (.int p1), .val (.int p2), .val (.int ((B i) &&& (255 : Int32))), .val (.int (3 : Int32)), .val (.int (((B i) &&& (255 : Int32)) &&& (15 : Int32))), .val (.int (2048 : Int32)), .unset, .unset] []))
              refine Go.via (fun t_ k_ => XS.iconst H0.here hx rfl (hb hby d1_124) k_) ?_
              show Go _ _ _ _ (T0.setTop (mkF m 125 #[.val (.ref a), .val (.int p1), .val (.int p2), .val (.int ((B i) &&& (255 : Int32))), .val (.int (3 : Int32)), .val (.int (((B i) &&& (255 : Int32)) &&& (15 : Int32))), .val (.int (2048 : Int32)), .unset, .unset] [(.int (-1 : Int32))]))
              exact own_retI H0 hx hlk hret (hb hby d1_125) ⟨_, rfl, (by rw [hadv]; rw [own_m80 e0.1 e0.2] at hc24; rw [own_mC0 e0.1 e0.2] at hc39; rw [own_mE0 e0.1 e0.2] at hc67; rw [own_lti (own_sub qt hi (by omega) (by omega)) (m := 3) (by decide)] at hc121; show (-1 : Int32).toInt = nx B i t; rw [show (-1 : Int32).toInt = -1 from by decide]; have b0 := e0.2; have b1 := e1.2; have b2 := e2.2; have b3 := e3.2; unfold nx; generalize bv B i = n0 at *; generalize bv B (i + 1) = n1 at *; generalize bv B (i + 2) = n2 at *; generalize bv B (i + 3) = n3 at *; unfold nxtI; (repeat' split) <;> omega), rfl⟩ (by decide) (by decide)
            · refine Go.via (fun t_ k_ => XS.icmpYes H0.here hx rfl (pc0 := 121) (pc' := 126) rfl (hb hby d1_121) rfl ((flt hc121).2.1) (by decide) (by decide) k_) ?_
              show Go _ _ _ _ (T0.setTop (mkF m 126 #[.val (.ref a), .val (.int p1), .val (.int p2), .val (.int ((B i) &&& (255 : Int32))), .val (.int (3 : Int32)), .val (.int (((B i) &&& (255 : Int32)) &&& (15 : Int32))), .val (.int (2048 : Int32)), .unset, .unset] []))
              have hl : ¬ (t - i < 3) := fun q => hc121 ((own_lti (own_sub qt hi (by omega) (by omega)) (m := 3) (by decide)).mpr q)
              refine Go.via (fun t_ k_ => XS.aloadN H0.here hx rfl (hb hby d1_126) rfl rfl k_) ?_
              show Go _ _ _ _ (T0.setTop (mkF m 127 #[.val (.ref a), .val (.int p1), .val (.int p2), .val (.int ((B i) &&& (255 : Int32))), .val (.int (3 : Int32)), .val (.int (((B i) &&& (255 : Int32)) &&& (15 : Int32))), .val (.int (2048 : Int32)), .unset, .unset] [(.ref a)]))
              refine Go.via (fun t_ k_ => XS.iloadN H0.here hx rfl (hb hby d1_127) rfl k_) ?_
              show Go _ _ _ _ (T0.setTop (mkF m 128 #[.val (.ref a), .val (.int p1), .val (.int p2), .val (.int ((B i) &&& (255 : Int32))), .val (.int (3 : Int32)), .val (.int (((B i) &&& (255 : Int32)) &&& (15 : Int32))), .val (.int (2048 : Int32)), .unset, .unset] [(.int p1), (.ref a)]))
              refine Go.via (fun t_ k_ => XS.iconst H0.here hx rfl (hb hby d1_128) k_) ?_
              show Go _ _ _ _ (T0.setTop (mkF m 129 #[.val (.ref a), .val (.int p1), .val (.int p2), .val (.int ((B i) &&& (255 : Int32))), .val (.int (3 : Int32)), .val (.int (((B i) &&& (255 : Int32)) &&& (15 : Int32))), .val (.int (2048 : Int32)), .unset, .unset] [(.int (1 : Int32)), (.int p1), (.ref a)]))
              refine Go.via (fun t_ k_ => XS.iadd H0.here hx rfl (hb hby d1_129) rfl k_) ?_
              show Go _ _ _ _ (T0.setTop (mkF m 130 #[.val (.ref a), .val (.int p1), .val (.int p2), .val (.int ((B i) &&& (255 : Int32))), .val (.int (3 : Int32)), .val (.int (((B i) &&& (255 : Int32)) &&& (15 : Int32))), .val (.int (2048 : Int32)), .unset, .unset] [(.int (p1 + (1 : Int32))), (.ref a)]))
              refine own_ldBA H0 hx hZ A (j := (i + 1)) (own_ix (1 : Int32) 1 hi (by decide) (by omega) (by decide)) (by omega) (g := (mkF m 130 #[.val (.ref a), .val (.int p1), .val (.int p2), .val (.int ((B i) &&& (255 : Int32))), .val (.int (3 : Int32)), .val (.int (((B i) &&& (255 : Int32)) &&& (15 : Int32))), .val (.int (2048 : Int32)), .unset, .unset] [(.int (p1 + (1 : Int32))), (.ref a)])) rfl rfl (hb hby d1_130) ?_
              show Go _ _ _ _ (T0.setTop (mkF m 131 #[.val (.ref a), .val (.int p1), .val (.int p2), .val (.int ((B i) &&& (255 : Int32))), .val (.int (3 : Int32)), .val (.int (((B i) &&& (255 : Int32)) &&& (15 : Int32))), .val (.int (2048 : Int32)), .unset, .unset] [(.int (B (i + 1)))]))
              refine Go.via (fun t_ k_ => XS.sipush H0.here hx rfl (hb hby d1_131) k_) ?_
              show Go _ _ _ _ (T0.setTop (mkF m 134 #[.val (.ref a), .val (.int p1), .val (.int p2), .val (.int ((B i) &&& (255 : Int32))), .val (.int (3 : Int32)), .val (.int (((B i) &&& (255 : Int32)) &&& (15 : Int32))), .val (.int (2048 : Int32)), .unset, .unset] [(.int (255 : Int32)), (.int (B (i + 1)))]))
              refine Go.via (fun t_ k_ => XS.iand H0.here hx rfl (hb hby d1_134) rfl k_) ?_
              show Go _ _ _ _ (T0.setTop (mkF m 135 #[.val (.ref a), .val (.int p1), .val (.int p2), .val (.int ((B i) &&& (255 : Int32))), .val (.int (3 : Int32)), .val (.int (((B i) &&& (255 : Int32)) &&& (15 : Int32))), .val (.int (2048 : Int32)), .unset, .unset] [(.int ((B (i + 1)) &&& (255 : Int32)))]))
              refine Go.via (fun t_ k_ => XS.istore H0.here hx rfl (hb hby d1_135) rfl (l' := #[.val (.ref a), .val (.int p1), .val (.int p2), .val (.int ((B i) &&& (255 : Int32))), .val (.int (3 : Int32)), .val (.int (((B i) &&& (255 : Int32)) &&& (15 : Int32))), .val (.int (2048 : Int32)), .val (.int ((B (i + 1)) &&& (255 : Int32))), .unset]) rfl k_) ?_
              show Go _ _ _ _ (T0.setTop (mkF m 137 #[.val (.ref a), .val (.int p1), .val (.int p2), .val (.int ((B i) &&& (255 : Int32))), .val (.int (3 : Int32)), .val (.int (((B i) &&& (255 : Int32)) &&& (15 : Int32))), .val (.int (2048 : Int32)), .val (.int ((B (i + 1)) &&& (255 : Int32))), .unset] []))
              refine Go.via (fun t_ k_ => XS.iload H0.here hx rfl (hb hby d1_137) rfl k_) ?_
              show Go _ _ _ _ (T0.setTop (mkF m 139 #[.val (.ref a), .val (.int p1), .val (.int p2), .val (.int ((B i) &&& (255 : Int32))), .val (.int (3 : Int32)), .val (.int (((B i) &&& (255 : Int32)) &&& (15 : Int32))), .val (.int (2048 : Int32)), .val (.int ((B (i + 1)) &&& (255 : Int32))), .unset] [(.int ((B (i + 1)) &&& (255 : Int32)))]))
              refine Go.via (fun t_ k_ => XS.sipush H0.here hx rfl (hb hby d1_139) k_) ?_
              show Go _ _ _ _ (T0.setTop (mkF m 142 #[.val (.ref a), .val (.int p1), .val (.int p2), .val (.int ((B i) &&& (255 : Int32))), .val (.int (3 : Int32)), .val (.int (((B i) &&& (255 : Int32)) &&& (15 : Int32))), .val (.int (2048 : Int32)), .val (.int ((B (i + 1)) &&& (255 : Int32))), .unset] [(.int (192 : Int32)), (.int ((B (i + 1)) &&& (255 : Int32)))]))
              refine Go.via (fun t_ k_ => XS.iand H0.here hx rfl (hb hby d1_142) rfl k_) ?_
              show Go _ _ _ _ (T0.setTop (mkF m 143 #[.val (.ref a), .val (.int p1), .val (.int p2), .val (.int ((B i) &&& (255 : Int32))), .val (.int (3 : Int32)), .val (.int (((B i) &&& (255 : Int32)) &&& (15 : Int32))), .val (.int (2048 : Int32)), .val (.int ((B (i + 1)) &&& (255 : Int32))), .unset] [(.int (((B (i + 1)) &&& (255 : Int32)) &&& (192 : Int32)))]))
              refine Go.via (fun t_ k_ => XS.sipush H0.here hx rfl (hb hby d1_143) k_) ?_
              show Go _ _ _ _ (T0.setTop (mkF m 146 #[.val (.ref a), .val (.int p1), .val (.int p2), .val (.int ((B i) &&& (255 : Int32))), .val (.int (3 : Int32)), .val (.int (((B i) &&& (255 : Int32)) &&& (15 : Int32))), .val (.int (2048 : Int32)), .val (.int ((B (i + 1)) &&& (255 : Int32))), .unset] [(.int (128 : Int32)), (.int (((B (i + 1)) &&& (255 : Int32)) &&& (192 : Int32)))]))
              by_cases hc146 : (((B (i + 1)) &&& (255 : Int32)) &&& (192 : Int32)) = (128 : Int32)
              · refine Go.via (fun t_ k_ => XS.icmpYes H0.here hx rfl (pc0 := 146) (pc' := 151) rfl (hb hby d1_146) rfl ((teq hc146).1) (by decide) (by decide) k_) ?_
                show Go _ _ _ _ (T0.setTop (mkF m 151 #[.val (.ref a), .val (.int p1), .val (.int p2), .val (.int ((B i) &&& (255 : Int32))), .val (.int (3 : Int32)), .val (.int (((B i) &&& (255 : Int32)) &&& (15 : Int32))), .val (.int (2048 : Int32)), .val (.int ((B (i + 1)) &&& (255 : Int32))), .unset] []))
                refine Go.via (fun t_ k_ => XS.iload H0.here hx rfl (hb hby d1_151) rfl k_) ?_
                show Go _ _ _ _ (T0.setTop (mkF m 153 #[.val (.ref a), .val (.int p1), .val (.int p2), .val (.int ((B i) &&& (255 : Int32))), .val (.int (3 : Int32)), .val (.int (((B i) &&& (255 : Int32)) &&& (15 : Int32))), .val (.int (2048 : Int32)), .val (.int ((B (i + 1)) &&& (255 : Int32))), .unset] [(.int (((B i) &&& (255 : Int32)) &&& (15 : Int32)))]))
                refine Go.via (fun t_ k_ => XS.bipush H0.here hx rfl (hb hby d1_153) k_) ?_
                show Go _ _ _ _ (T0.setTop (mkF m 155 #[.val (.ref a), .val (.int p1), .val (.int p2), .val (.int ((B i) &&& (255 : Int32))), .val (.int (3 : Int32)), .val (.int (((B i) &&& (255 : Int32)) &&& (15 : Int32))), .val (.int (2048 : Int32)), .val (.int ((B (i + 1)) &&& (255 : Int32))), .unset] [(.int (6 : Int32)), (.int (((B i) &&& (255 : Int32)) &&& (15 : Int32)))]))
                refine Go.via (fun t_ k_ => XS.ishl H0.here hx rfl (hb hby d1_155) rfl k_) ?_
                show Go _ _ _ _ (T0.setTop (mkF m 156 #[.val (.ref a), .val (.int p1), .val (.int p2), .val (.int ((B i) &&& (255 : Int32))), .val (.int (3 : Int32)), .val (.int (((B i) &&& (255 : Int32)) &&& (15 : Int32))), .val (.int (2048 : Int32)), .val (.int ((B (i + 1)) &&& (255 : Int32))), .unset] [(.int ((((B i) &&& (255 : Int32)) &&& (15 : Int32)) <<< ((6 : Int32) &&& 31)))]))
                refine Go.via (fun t_ k_ => XS.iload H0.here hx rfl (hb hby d1_156) rfl k_) ?_
                show Go _ _ _ _ (T0.setTop (mkF m 158 #[.val (.ref a), .val (.int p1), .val (.int p2), .val (.int ((B i) &&& (255 : Int32))), .val (.int (3 : Int32)), .val (.int (((B i) &&& (255 : Int32)) &&& (15 : Int32))), .val (.int (2048 : Int32)), .val (.int ((B (i + 1)) &&& (255 : Int32))), .unset] [(.int ((B (i + 1)) &&& (255 : Int32))), (.int ((((B i) &&& (255 : Int32)) &&& (15 : Int32)) <<< ((6 : Int32) &&& 31)))]))
                refine Go.via (fun t_ k_ => XS.bipush H0.here hx rfl (hb hby d1_158) k_) ?_
                show Go _ _ _ _ (T0.setTop (mkF m 160 #[.val (.ref a), .val (.int p1), .val (.int p2), .val (.int ((B i) &&& (255 : Int32))), .val (.int (3 : Int32)), .val (.int (((B i) &&& (255 : Int32)) &&& (15 : Int32))), .val (.int (2048 : Int32)), .val (.int ((B (i + 1)) &&& (255 : Int32))), .unset] [(.int (63 : Int32)), (.int ((B (i + 1)) &&& (255 : Int32))), (.int ((((B i) &&& (255 : Int32)) &&& (15 : Int32)) <<< ((6 : Int32) &&& 31)))]))
                refine Go.via (fun t_ k_ => XS.iand H0.here hx rfl (hb hby d1_160) rfl k_) ?_
                show Go _ _ _ _ (T0.setTop (mkF m 161 #[.val (.ref a), .val (.int p1), .val (.int p2), .val (.int ((B i) &&& (255 : Int32))), .val (.int (3 : Int32)), .val (.int (((B i) &&& (255 : Int32)) &&& (15 : Int32))), .val (.int (2048 : Int32)), .val (.int ((B (i + 1)) &&& (255 : Int32))), .unset] [(.int (((B (i + 1)) &&& (255 : Int32)) &&& (63 : Int32))), (.int ((((B i) &&& (255 : Int32)) &&& (15 : Int32)) <<< ((6 : Int32) &&& 31)))]))
                refine Go.via (fun t_ k_ => XS.ior H0.here hx rfl (hb hby d1_161) rfl k_) ?_
                show Go _ _ _ _ (T0.setTop (mkF m 162 #[.val (.ref a), .val (.int p1), .val (.int p2), .val (.int ((B i) &&& (255 : Int32))), .val (.int (3 : Int32)), .val (.int (((B i) &&& (255 : Int32)) &&& (15 : Int32))), .val (.int (2048 : Int32)), .val (.int ((B (i + 1)) &&& (255 : Int32))), .unset] [(.int (((((B i) &&& (255 : Int32)) &&& (15 : Int32)) <<< ((6 : Int32) &&& 31)) ||| (((B (i + 1)) &&& (255 : Int32)) &&& (63 : Int32))))]))
                refine Go.via (fun t_ k_ => XS.istore H0.here hx rfl (hb hby d1_162) rfl (l' := #[.val (.ref a), .val (.int p1), .val (.int p2), .val (.int ((B i) &&& (255 : Int32))), .val (.int (3 : Int32)), .val (.int (((((B i) &&& (255 : Int32)) &&& (15 : Int32)) <<< ((6 : Int32) &&& 31)) ||| (((B (i + 1)) &&& (255 : Int32)) &&& (63 : Int32)))), .val (.int (2048 : Int32)), .val (.int ((B (i + 1)) &&& (255 : Int32))), .unset]) rfl k_) ?_
                show Go _ _ _ _ (T0.setTop (mkF m 164 #[.val (.ref a), .val (.int p1), .val (.int p2), .val (.int ((B i) &&& (255 : Int32))), .val (.int (3 : Int32)), .val (.int (((((B i) &&& (255 : Int32)) &&& (15 : Int32)) <<< ((6 : Int32) &&& 31)) ||| (((B (i + 1)) &&& (255 : Int32)) &&& (63 : Int32)))), .val (.int (2048 : Int32)), .val (.int ((B (i + 1)) &&& (255 : Int32))), .unset] []))
                refine Go.via (fun t_ k_ => XS.iload H0.here hx rfl (hb hby d1_164) rfl k_) ?_
                show Go _ _ _ _ (T0.setTop (mkF m 166 #[.val (.ref a), .val (.int p1), .val (.int p2), .val (.int ((B i) &&& (255 : Int32))), .val (.int (3 : Int32)), .val (.int (((((B i) &&& (255 : Int32)) &&& (15 : Int32)) <<< ((6 : Int32) &&& 31)) ||| (((B (i + 1)) &&& (255 : Int32)) &&& (63 : Int32)))), .val (.int (2048 : Int32)), .val (.int ((B (i + 1)) &&& (255 : Int32))), .unset] [(.int (3 : Int32))]))
                refine Go.via (fun t_ k_ => XS.iconst H0.here hx rfl (hb hby d1_166) k_) ?_
                show Go _ _ _ _ (T0.setTop (mkF m 167 #[.val (.ref a), .val (.int p1), .val (.int p2), .val (.int ((B i) &&& (255 : Int32))), .val (.int (3 : Int32)), .val (.int (((((B i) &&& (255 : Int32)) &&& (15 : Int32)) <<< ((6 : Int32) &&& 31)) ||| (((B (i + 1)) &&& (255 : Int32)) &&& (63 : Int32)))), .val (.int (2048 : Int32)), .val (.int ((B (i + 1)) &&& (255 : Int32))), .unset] [(.int (3 : Int32)), (.int (3 : Int32))]))
                refine Go.via (fun t_ k_ => XS.icmpNo H0.here hx rfl (hb hby d1_167) rfl ((flt (show ¬ ((3 : Int32) < (3 : Int32)) from (by decide))).1) k_) ?_
                show Go _ _ _ _ (T0.setTop (mkF m 170 #[.val (.ref a), .val (.int p1), .val (.int p2), .val (.int ((B i) &&& (255 : Int32))), .val (.int (3 : Int32)), .val (.int (((((B i) &&& (255 : Int32)) &&& (15 : Int32)) <<< ((6 : Int32) &&& 31)) ||| (((B (i + 1)) &&& (255 : Int32)) &&& (63 : Int32)))), .val (.int (2048 : Int32)), .val (.int ((B (i + 1)) &&& (255 : Int32))), .unset] []))
                refine Go.via (fun t_ k_ => XS.aloadN H0.here hx rfl (hb hby d1_170) rfl rfl k_) ?_
                show Go _ _ _ _ (T0.setTop (mkF m 171 #[.val (.ref a), .val (.int p1), .val (.int p2), .val (.int ((B i) &&& (255 : Int32))), .val (.int (3 : Int32)), .val (.int (((((B i) &&& (255 : Int32)) &&& (15 : Int32)) <<< ((6 : Int32) &&& 31)) ||| (((B (i + 1)) &&& (255 : Int32)) &&& (63 : Int32)))), .val (.int (2048 : Int32)), .val (.int ((B (i + 1)) &&& (255 : Int32))), .unset] [(.ref a)]))
                refine Go.via (fun t_ k_ => XS.iloadN H0.here hx rfl (hb hby d1_171) rfl k_) ?_
                show Go _ _ _ _ (T0.setTop (mkF m 172 #[.val (.ref a), .val (.int p1), .val (.int p2), .val (.int ((B i) &&& (255 : Int32))), .val (.int (3 : Int32)), .val (.int (((((B i) &&& (255 : Int32)) &&& (15 : Int32)) <<< ((6 : Int32) &&& 31)) ||| (((B (i + 1)) &&& (255 : Int32)) &&& (63 : Int32)))), .val (.int (2048 : Int32)), .val (.int ((B (i + 1)) &&& (255 : Int32))), .unset] [(.int p1), (.ref a)]))
                refine Go.via (fun t_ k_ => XS.iconst H0.here hx rfl (hb hby d1_172) k_) ?_
                show Go _ _ _ _ (T0.setTop (mkF m 173 #[.val (.ref a), .val (.int p1), .val (.int p2), .val (.int ((B i) &&& (255 : Int32))), .val (.int (3 : Int32)), .val (.int (((((B i) &&& (255 : Int32)) &&& (15 : Int32)) <<< ((6 : Int32) &&& 31)) ||| (((B (i + 1)) &&& (255 : Int32)) &&& (63 : Int32)))), .val (.int (2048 : Int32)), .val (.int ((B (i + 1)) &&& (255 : Int32))), .unset] [(.int (2 : Int32)), (.int p1), (.ref a)]))
                refine Go.via (fun t_ k_ => XS.iadd H0.here hx rfl (hb hby d1_173) rfl k_) ?_
                show Go _ _ _ _ (T0.setTop (mkF m 174 #[.val (.ref a), .val (.int p1), .val (.int p2), .val (.int ((B i) &&& (255 : Int32))), .val (.int (3 : Int32)), .val (.int (((((B i) &&& (255 : Int32)) &&& (15 : Int32)) <<< ((6 : Int32) &&& 31)) ||| (((B (i + 1)) &&& (255 : Int32)) &&& (63 : Int32)))), .val (.int (2048 : Int32)), .val (.int ((B (i + 1)) &&& (255 : Int32))), .unset] [(.int (p1 + (2 : Int32))), (.ref a)]))
                refine own_ldBA H0 hx hZ A (j := (i + 2)) (own_ix (2 : Int32) 2 hi (by decide) (by omega) (by decide)) (by omega) (g := (mkF m 174 #[.val (.ref a), .val (.int p1), .val (.int p2), .val (.int ((B i) &&& (255 : Int32))), .val (.int (3 : Int32)), .val (.int (((((B i) &&& (255 : Int32)) &&& (15 : Int32)) <<< ((6 : Int32) &&& 31)) ||| (((B (i + 1)) &&& (255 : Int32)) &&& (63 : Int32)))), .val (.int (2048 : Int32)), .val (.int ((B (i + 1)) &&& (255 : Int32))), .unset] [(.int (p1 + (2 : Int32))), (.ref a)])) rfl rfl (hb hby d1_174) ?_
                show Go _ _ _ _ (T0.setTop (mkF m 175 #[.val (.ref a), .val (.int p1), .val (.int p2), .val (.int ((B i) &&& (255 : Int32))), .val (.int (3 : Int32)), .val (.int (((((B i) &&& (255 : Int32)) &&& (15 : Int32)) <<< ((6 : Int32) &&& 31)) ||| (((B (i + 1)) &&& (255 : Int32)) &&& (63 : Int32)))), .val (.int (2048 : Int32)), .val (.int ((B (i + 1)) &&& (255 : Int32))), .unset] [(.int (B (i + 2)))]))
                refine Go.via (fun t_ k_ => XS.sipush H0.here hx rfl (hb hby d1_175) k_) ?_
                show Go _ _ _ _ (T0.setTop (mkF m 178 #[.val (.ref a), .val (.int p1), .val (.int p2), .val (.int ((B i) &&& (255 : Int32))), .val (.int (3 : Int32)), .val (.int (((((B i) &&& (255 : Int32)) &&& (15 : Int32)) <<< ((6 : Int32) &&& 31)) ||| (((B (i + 1)) &&& (255 : Int32)) &&& (63 : Int32)))), .val (.int (2048 : Int32)), .val (.int ((B (i + 1)) &&& (255 : Int32))), .unset] [(.int (255 : Int32)), (.int (B (i + 2)))]))
                refine Go.via (fun t_ k_ => XS.iand H0.here hx rfl (hb hby d1_178) rfl k_) ?_
                show Go _ _ _ _ (T0.setTop (mkF m 179 #[.val (.ref a), .val (.int p1), .val (.int p2), .val (.int ((B i) &&& (255 : Int32))), .val (.int (3 : Int32)), .val (.int (((((B i) &&& (255 : Int32)) &&& (15 : Int32)) <<< ((6 : Int32) &&& 31)) ||| (((B (i + 1)) &&& (255 : Int32)) &&& (63 : Int32)))), .val (.int (2048 : Int32)), .val (.int ((B (i + 1)) &&& (255 : Int32))), .unset] [(.int ((B (i + 2)) &&& (255 : Int32)))]))
                refine Go.via (fun t_ k_ => XS.istore H0.here hx rfl (hb hby d1_179) rfl (l' := #[.val (.ref a), .val (.int p1), .val (.int p2), .val (.int ((B i) &&& (255 : Int32))), .val (.int (3 : Int32)), .val (.int (((((B i) &&& (255 : Int32)) &&& (15 : Int32)) <<< ((6 : Int32) &&& 31)) ||| (((B (i + 1)) &&& (255 : Int32)) &&& (63 : Int32)))), .val (.int (2048 : Int32)), .val (.int ((B (i + 1)) &&& (255 : Int32))), .val (.int ((B (i + 2)) &&& (255 : Int32)))]) rfl k_) ?_
                show Go _ _ _ _ (T0.setTop (mkF m 181 #[.val (.ref a), .val (.int p1), .val (.int p2), .val (.int ((B i) &&& (255 : Int32))), .val (.int (3 : Int32)), .val (.int (((((B i) &&& (255 : Int32)) &&& (15 : Int32)) <<< ((6 : Int32) &&& 31)) ||| (((B (i + 1)) &&& (255 : Int32)) &&& (63 : Int32)))), .val (.int (2048 : Int32)), .val (.int ((B (i + 1)) &&& (255 : Int32))), .val (.int ((B (i + 2)) &&& (255 : Int32)))] []))
                refine Go.via (fun t_ k_ => XS.iload H0.here hx rfl (hb hby d1_181) rfl k_) ?_
                show Go _ _ _ _ (T0.setTop (mkF m 183 #[.val (.ref a), .val (.int p1), .val (.int p2), .val (.int ((B i) &&& (255 : Int32))), .val (.int (3 : Int32)), .val (.int (((((B i) &&& (255 : Int32)) &&& (15 : Int32)) <<< ((6 : Int32) &&& 31)) ||| (((B (i + 1)) &&& (255 : Int32)) &&& (63 : Int32)))), .val (.int (2048 : Int32)), .val (.int ((B (i + 1)) &&& (255 : Int32))), .val (.int ((B (i + 2)) &&& (255 : Int32)))] [(.int ((B (i + 2)) &&& (255 : Int32)))]))
                refine Go.via (fun t_ k_ => XS.sipush H0.here hx rfl (hb hby d1_183) k_) ?_
                show Go _ _ _ _ (T0.setTop (mkF m 186 #[.val (.ref a), .val (.int p1), .val (.int p2), .val (.int ((B i) &&& (255 : Int32))), .val (.int (3 : Int32)), .val (.int (((((B i) &&& (255 : Int32)) &&& (15 : Int32)) <<< ((6 : Int32) &&& 31)) ||| (((B (i + 1)) &&& (255 : Int32)) &&& (63 : Int32)))), .val (.int (2048 : Int32)), .val (.int ((B (i + 1)) &&& (255 : Int32))), .val (.int ((B (i + 2)) &&& (255 : Int32)))] [(.int (192 : Int32)), (.int ((B (i + 2)) &&& (255 : Int32)))]))
                refine Go.via (fun t_ k_ => XS.iand H0.here hx rfl (hb hby d1_186) rfl k_) ?_
                show Go _ _ _ _ (T0.setTop (mkF m 187 #[.val (.ref a), .val (.int p1), .val (.int p2), .val (.int ((B i) &&& (255 : Int32))), .val (.int (3 : Int32)), .val (.int (((((B i) &&& (255 : Int32)) &&& (15 : Int32)) <<< ((6 : Int32) &&& 31)) ||| (((B (i + 1)) &&& (255 : Int32)) &&& (63 : Int32)))), .val (.int (2048 : Int32)), .val (.int ((B (i + 1)) &&& (255 : Int32))), .val (.int ((B (i + 2)) &&& (255 : Int32)))] [(.int (((B (i + 2)) &&& (255 : Int32)) &&& (192 : Int32)))]))
                refine Go.via (fun t_ k_ => XS.sipush H0.here hx rfl (hb hby d1_187) k_) ?_
                show Go _ _ _ _ (T0.setTop (mkF m 190 #[.val (.ref a), .val (.int p1), .val (.int p2), .val (.int ((B i) &&& (255 : Int32))), .val (.int (3 : Int32)), .val (.int (((((B i) &&& (255 : Int32)) &&& (15 : Int32)) <<< ((6 : Int32) &&& 31)) ||| (((B (i + 1)) &&& (255 : Int32)) &&& (63 : Int32)))), .val (.int (2048 : Int32)), .val (.int ((B (i + 1)) &&& (255 : Int32))), .val (.int ((B (i + 2)) &&& (255 : Int32)))] [(.int (128 : Int32)), (.int (((B (i + 2)) &&& (255 : Int32)) &&& (192 : Int32)))]))
                by_cases hc190 : (((B (i + 2)) &&& (255 : Int32)) &&& (192 : Int32)) = (128 : Int32)
                · refine Go.via (fun t_ k_ => XS.icmpYes H0.here hx rfl (pc0 := 190) (pc' := 195) rfl (hb hby d1_190) rfl ((teq hc190).1) (by decide) (by decide) k_) ?_
                  show Go _ _ _ _ (T0.setTop (mkF m 195 #[.val (.ref a), .val (.int p1), .val (.int p2), .val (.int ((B i) &&& (255 : Int32))), .val (.int (3 : Int32)), .val (.int (((((B i) &&& (255 : Int32)) &&& (15 : Int32)) <<< ((6 : Int32) &&& 31)) ||| (((B (i + 1)) &&& (255 : Int32)) &&& (63 : Int32)))), .val (.int (2048 : Int32)), .val (.int ((B (i + 1)) &&& (255 : Int32))), .val (.int ((B (i + 2)) &&& (255 : Int32)))] []))
                  refine Go.via (fun t_ k_ => XS.iload H0.here hx rfl (hb hby d1_195) rfl k_) ?_
                  show Go _ _ _ _ (T0.setTop (mkF m 197 #[.val (.ref a), .val (.int p1), .val (.int p2), .val (.int ((B i) &&& (255 : Int32))), .val (.int (3 : Int32)), .val (.int (((((B i) &&& (255 : Int32)) &&& (15 : Int32)) <<< ((6 : Int32) &&& 31)) ||| (((B (i + 1)) &&& (255 : Int32)) &&& (63 : Int32)))), .val (.int (2048 : Int32)), .val (.int ((B (i + 1)) &&& (255 : Int32))), .val (.int ((B (i + 2)) &&& (255 : Int32)))] [(.int (((((B i) &&& (255 : Int32)) &&& (15 : Int32)) <<< ((6 : Int32) &&& 31)) ||| (((B (i + 1)) &&& (255 : Int32)) &&& (63 : Int32))))]))
                  refine Go.via (fun t_ k_ => XS.bipush H0.here hx rfl (hb hby d1_197) k_) ?_
                  show Go _ _ _ _ (T0.setTop (mkF m 199 #[.val (.ref a), .val (.int p1), .val (.int p2), .val (.int ((B i) &&& (255 : Int32))), .val (.int (3 : Int32)), .val (.int (((((B i) &&& (255 : Int32)) &&& (15 : Int32)) <<< ((6 : Int32) &&& 31)) ||| (((B (i + 1)) &&& (255 : Int32)) &&& (63 : Int32)))), .val (.int (2048 : Int32)), .val (.int ((B (i + 1)) &&& (255 : Int32))), .val (.int ((B (i + 2)) &&& (255 : Int32)))] [(.int (6 : Int32)), (.int (((((B i) &&& (255 : Int32)) &&& (15 : Int32)) <<< ((6 : Int32) &&& 31)) ||| (((B (i + 1)) &&& (255 : Int32)) &&& (63 : Int32))))]))
                  refine Go.via (fun t_ k_ => XS.ishl H0.here hx rfl (hb hby d1_199) rfl k_) ?_
                  show Go _ _ _ _ (T0.setTop (mkF m 200 #[.val (.ref a), .val (.int p1), .val (.int p2), .val (.int ((B i) &&& (255 : Int32))), .val (.int (3 : Int32)), .val (.int (((((B i) &&& (255 : Int32)) &&& (15 : Int32)) <<< ((6 : Int32) &&& 31)) ||| (((B (i + 1)) &&& (255 : Int32)) &&& (63 : Int32)))), .val (.int (2048 : Int32)), .val (.int ((B (i + 1)) &&& (255 : Int32))), .val (.int ((B (i + 2)) &&& (255 : Int32)))] [(.int ((((((B i) &&& (255 : Int32)) &&& (15 : Int32)) <<< ((6 : Int32) &&& 31)) ||| (((B (i + 1)) &&& (255 : Int32)) &&& (63 : Int32))) <<< ((6 : Int32) &&& 31)))]))
                  refine Go.via (fun t_ k_ => XS.iload H0.here hx rfl (hb hby d1_200) rfl k_) ?_
                  show Go _ _ _ _ (T0.setTop (mkF m 202 #[.val (.ref a), .val (.int p1), .val (.int p2), .val (.int ((B i) &&& (255 : Int32))), .val (.int (3 : Int32)), .val (.int (((((B i) &&& (255 : Int32)) &&& (15 : Int32)) <<< ((6 : Int32) &&& 31)) ||| (((B (i + 1)) &&& (255 : Int32)) &&& (63 : Int32)))), .val (.int (2048 : Int32)), .val (.int ((B (i + 1)) &&& (255 : Int32))), .val (.int ((B (i + 2)) &&& (255 : Int32)))] [(.int ((B (i + 2)) &&& (255 : Int32))), (.int ((((((B i) &&& (255 : Int32)) &&& (15 : Int32)) <<< ((6 : Int32) &&& 31)) ||| (((B (i + 1)) &&& (255 : Int32)) &&& (63 : Int32))) <<< ((6 : Int32) &&& 31)))]))
                  refine Go.via (fun t_ k_ => XS.bipush H0.here hx rfl (hb hby d1_202) k_) ?_
                  show Go _ _ _ _ (T0.setTop (mkF m 204 #[.val (.ref a), .val (.int p1), .val (.int p2), .val (.int ((B i) &&& (255 : Int32))), .val (.int (3 : Int32)), .val (.int (((((B i) &&& (255 : Int32)) &&& (15 : Int32)) <<< ((6 : Int32) &&& 31)) ||| (((B (i + 1)) &&& (255 : Int32)) &&& (63 : Int32)))), .val (.int (2048 : Int32)), .val (.int ((B (i + 1)) &&& (255 : Int32))), .val (.int ((B (i + 2)) &&& (255 : Int32)))] [(.int (63 : Int32)), (.int ((B (i + 2)) &&& (255 : Int32))), (.int ((((((B i) &&& (255 : Int32)) &&& (15 : Int32)) <<< ((6 : Int32) &&& 31)) ||| (((B (i + 1)) &&& (255 : Int32)) &&& (63 : Int32))) <<< ((6 : Int32) &&& 31)))]))
                  refine Go.via (fun t_ k_ => XS.iand H0.here hx rfl (hb hby d1_204) rfl k_) ?_
                  show Go _ _ _ _ (T0.setTop (mkF m 205 #[.val (.ref a), .val (.int p1), .val (.int p2), .val (.int ((B i) &&& (255 : Int32))), .val (.int (3 : Int32)), .val (.int (((((B i) &&& (255 : Int32)) &&& (15 : Int32)) <<< ((6 : Int32) &&& 31)) ||| (((B (i + 1)) &&& (255 : Int32)) &&& (63 : Int32)))), .val (.int (2048 : Int32)), .val (.int ((B (i + 1)) &&& (255 : Int32))), .val (.int ((B (i + 2)) &&& (255 : Int32)))] [(.int (((B (i + 2)) &&& (255 : Int32)) &&& (63 : Int32))), (.int ((((((B i) &&& (255 : Int32)) &&& (15 : Int32)) <<< ((6 : Int32) &&& 31)) ||| (((B (i + 1)) &&& (255 : Int32)) &&& (63 : Int32))) <<< ((6 : Int32) &&& 31)))]))
                  refine Go.via (fun t_ k_ => XS.ior H0.here hx rfl (hb hby d1_205) rfl k_) ?_
                  show Go _ _ _ _ (T0.setTop (mkF m 206 #[.val (.ref a), .val (.int p1), .val (.int p2), .val (.int ((B i) &&& (255 : Int32))), .val (.int (3 : Int32)), .val (.int (((((B i) &&& (255 : Int32)) &&& (15 : Int32)) <<< ((6 : Int32) &&& 31)) ||| (((B (i + 1)) &&& (255 : Int32)) &&& (63 : Int32)))), .val (.int (2048 : Int32)), .val (.int ((B (i + 1)) &&& (255 : Int32))), .val (.int ((B (i + 2)) &&& (255 : Int32)))] [(.int (((((((B i) &&& (255 : Int32)) &&& (15 : Int32)) <<< ((6 : Int32) &&& 31)) ||| (((B (i + 1)) &&& (255 : Int32)) &&& (63 : Int32))) <<< ((6 : Int32) &&& 31)) ||| (((B (i + 2)) &&& (255 : Int32)) &&& (63 : Int32))))]))
                  refine Go.via (fun t_ k_ => XS.istore H0.here hx rfl (hb hby d1_206) rfl (l' := #[.val (.ref a), .val (.int p1), .val (.int p2), .val (.int ((B i) &&& (255 : Int32))), .val (.int (3 : Int32)), .val (.int (((((((B i) &&& (255 : Int32)) &&& (15 : Int32)) <<< ((6 : Int32) &&& 31)) ||| (((B (i + 1)) &&& (255 : Int32)) &&& (63 : Int32))) <<< ((6 : Int32) &&& 31)) ||| (((B (i + 2)) &&& (255 : Int32)) &&& (63 : Int32)))), .val (.int (2048 : Int32)), .val (.int ((B (i + 1)) &&& (255 : Int32))), .val (.int ((B (i + 2)) &&& (255 : Int32)))]) rfl k_) ?_
                  show Go _ _ _ _ (T0.setTop (mkF m 208 #[.val (.ref a), .val (.int p1), .val (.int p2), .val (.int ((B i) &&& (255 : Int32))), .val (.int (3 : Int32)), .val (.int (((((((B i) &&& (255 : Int32)) &&& (15 : Int32)) <<< ((6 : Int32) &&& 31)) ||| (((B (i + 1)) &&& (255 : Int32)) &&& (63 : Int32))) <<< ((6 : Int32) &&& 31)) ||| (((B (i + 2)) &&& (255 : Int32)) &&& (63 : Int32)))), .val (.int (2048 : Int32)), .val (.int ((B (i + 1)) &&& (255 : Int32))), .val (.int ((B (i + 2)) &&& (255 : Int32)))] []))
                  refine Go.via (fun t_ k_ => XS.iload H0.here hx rfl (hb hby d1_208) rfl k_) ?_
                  show Go _ _ _ _ (T0.setTop (mkF m 210 #[.val (.ref a), .val (.int p1), .val (.int p2), .val (.int ((B i) &&& (255 : Int32))), .val (.int (3 : Int32)), .val (.int (((((((B i) &&& (255 : Int32)) &&& (15 : Int32)) <<< ((6 : Int32) &&& 31)) ||| (((B (i + 1)) &&& (255 : Int32)) &&& (63 : Int32))) <<< ((6 : Int32) &&& 31)) ||| (((B (i + 2)) &&& (255 : Int32)) &&& (63 : Int32)))), .val (.int (2048 : Int32)), .val (.int ((B (i + 1)) &&& (255 : Int32))), .val (.int ((B (i + 2)) &&& (255 : Int32)))] [(.int (3 : Int32))]))
                  refine Go.via (fun t_ k_ => XS.iconst H0.here hx rfl (hb hby d1_210) k_) ?_
                  show Go _ _ _ _ (T0.setTop (mkF m 211 #[.val (.ref a), .val (.int p1), .val (.int p2), .val (.int ((B i) &&& (255 : Int32))), .val (.int (3 : Int32)), .val (.int (((((((B i) &&& (255 : Int32)) &&& (15 : Int32)) <<< ((6 : Int32) &&& 31)) ||| (((B (i + 1)) &&& (255 : Int32)) &&& (63 : Int32))) <<< ((6 : Int32) &&& 31)) ||| (((B (i + 2)) &&& (255 : Int32)) &&& (63 : Int32)))), .val (.int (2048 : Int32)), .val (.int ((B (i + 1)) &&& (255 : Int32))), .val (.int ((B (i + 2)) &&& (255 : Int32)))] [(.int (4 : Int32)), (.int (3 : Int32))]))
                  refine Go.via (fun t_ k_ => XS.icmpYes H0.here hx rfl (pc0 := 211) (pc' := 252) rfl (hb hby d1_211) rfl ((feq (show ¬ ((3 : Int32) = (4 : Int32)) from (by decide))).2) (by decide) (by decide) k_) ?_
                  show Go _ _ _ _ (T0.setTop (mkF m 252 #[.val (.ref a), .val (.int p1), .val (.int p2), .val (.int ((B i) &&& (255 : Int32))), .val (.int (3 : Int32)), .val (.int (((((((B i) &&& (255 : Int32)) &&& (15 : Int32)) <<< ((6 : Int32) &&& 31)) ||| (((B (i + 1)) &&& (255 : Int32)) &&& (63 : Int32))) <<< ((6 : Int32) &&& 31)) ||| (((B (i + 2)) &&& (255 : Int32)) &&& (63 : Int32)))), .val (.int (2048 : Int32)), .val (.int ((B (i + 1)) &&& (255 : Int32))), .val (.int ((B (i + 2)) &&& (255 : Int32)))] []))
                  have hcp : (((((((B i) &&& (255 : Int32)) &&& (15 : Int32)) <<< ((6 : Int32) &&& 31)) ||| (((B (i + 1)) &&& (255 : Int32)) &&& (63 : Int32))) <<< ((6 : Int32) &&& 31)) ||| (((B (i + 2)) &&& (255 : Int32)) &&& (63 : Int32))).toInt = (((((bv B i % 2 ^ 4) * 64 + bv B (i + 1) % 2 ^ 6) * 64 + bv B (i + 2) % 2 ^ 6) : Nat) : Int) := (own_cp (own_cp (own_mk (15 : Int32) 4 (by decide) (by decide) e0.1) (by omega) (own_mk (63 : Int32) 6 (by decide) (by decide) e1.1) (by omega)) (by omega) (own_mk (63 : Int32) 6 (by decide) (by decide) e2.1) (by omega))
                  refine Go.via (fun t_ k_ => XS.iload H0.here hx rfl (hb hby d1_252) rfl k_) ?_
                  show Go _ _ _ _ (T0.setTop (mkF m 254 #[.val (.ref a), .val (.int p1), .val (.int p2), .val (.int ((B i) &&& (255 : Int32))), .val (.int (3 : Int32)), .val (.int (((((((B i) &&& (255 : Int32)) &&& (15 : Int32)) <<< ((6 : Int32) &&& 31)) ||| (((B (i + 1)) &&& (255 : Int32)) &&& (63 : Int32))) <<< ((6 : Int32) &&& 31)) ||| (((B (i + 2)) &&& (255 : Int32)) &&& (63 : Int32)))), .val (.int (2048 : Int32)), .val (.int ((B (i + 1)) &&& (255 : Int32))), .val (.int ((B (i + 2)) &&& (255 : Int32)))] [(.int (((((((B i) &&& (255 : Int32)) &&& (15 : Int32)) <<< ((6 : Int32) &&& 31)) ||| (((B (i + 1)) &&& (255 : Int32)) &&& (63 : Int32))) <<< ((6 : Int32) &&& 31)) ||| (((B (i + 2)) &&& (255 : Int32)) &&& (63 : Int32))))]))
                  refine Go.via (fun t_ k_ => XS.iload H0.here hx rfl (hb hby d1_254) rfl k_) ?_
                  show Go _ _ _ _ (T0.setTop (mkF m 256 #[.val (.ref a), .val (.int p1), .val (.int p2), .val (.int ((B i) &&& (255 : Int32))), .val (.int (3 : Int32)), .val (.int (((((((B i) &&& (255 : Int32)) &&& (15 : Int32)) <<< ((6 : Int32) &&& 31)) ||| (((B (i + 1)) &&& (255 : Int32)) &&& (63 : Int32))) <<< ((6 : Int32) &&& 31)) ||| (((B (i + 2)) &&& (255 : Int32)) &&& (63 : Int32)))), .val (.int (2048 : Int32)), .val (.int ((B (i + 1)) &&& (255 : Int32))), .val (.int ((B (i + 2)) &&& (255 : Int32)))] [(.int (2048 : Int32)), (.int (((((((B i) &&& (255 : Int32)) &&& (15 : Int32)) <<< ((6 : Int32) &&& 31)) ||| (((B (i + 1)) &&& (255 : Int32)) &&& (63 : Int32))) <<< ((6 : Int32) &&& 31)) ||| (((B (i + 2)) &&& (255 : Int32)) &&& (63 : Int32))))]))
                  by_cases hc256 : (((((((B i) &&& (255 : Int32)) &&& (15 : Int32)) <<< ((6 : Int32) &&& 31)) ||| (((B (i + 1)) &&& (255 : Int32)) &&& (63 : Int32))) <<< ((6 : Int32) &&& 31)) ||| (((B (i + 2)) &&& (255 : Int32)) &&& (63 : Int32))) < (2048 : Int32)
                  · refine Go.via (fun t_ k_ => XS.icmpYes H0.here hx rfl (pc0 := 256) (pc' := 280) rfl (hb hby d1_256) rfl ((tlt hc256).1) (by decide) (by decide) k_) ?_
                    show Go _ _ _ _ (T0.setTop (mkF m 280 #[.val (.ref a), .val (.int p1), .val (.int p2), .val (.int ((B i) &&& (255 : Int32))), .val (.int (3 : Int32)), .val (.int (((((((B i) &&& (255 : Int32)) &&& (15 : Int32)) <<< ((6 : Int32) &&& 31)) ||| (((B (i + 1)) &&& (255 : Int32)) &&& (63 : Int32))) <<< ((6 : Int32) &&& 31)) ||| (((B (i + 2)) &&& (255 : Int32)) &&& (63 : Int32)))), .val (.int (2048 : Int32)), .val (.int ((B (i + 1)) &&& (255 : Int32))), .val (.int ((B (i + 2)) &&& (255 : Int32)))] []))
                    refine Go.via (fun t_ k_ => XS.iconst H0.here hx rfl (hb hby d1_280) k_) ?_
                    show Go _ _ _ _ (T0.setTop (mkF m 281 #[.val (.ref a), .val (.int p1), .val (.int p2), .val (.int ((B i) &&& (255 : Int32))), .val (.int (3 : Int32)), .val (.int (((((((B i) &&& (255 : Int32)) &&& (15 : Int32)) <<< ((6 : Int32) &&& 31)) ||| (((B (i + 1)) &&& (255 : Int32)) &&& (63 : Int32))) <<< ((6 : Int32) &&& 31)) ||| (((B (i + 2)) &&& (255 : Int32)) &&& (63 : Int32)))), .val (.int (2048 : Int32)), .val (.int ((B (i + 1)) &&& (255 : Int32))), .val (.int ((B (i + 2)) &&& (255 : Int32)))] [(.int (-1 : Int32))]))
                    exact own_retI H0 hx hlk hret (hb hby d1_281) ⟨_, rfl, (by rw [hadv]; rw [own_m80 e0.1 e0.2] at hc24; rw [own_mC0 e0.1 e0.2] at hc39; rw [own_mE0 e0.1 e0.2] at hc67; rw [own_mT e1.1 e1.2] at hc146; rw [own_mT e2.1 e2.2] at hc190; rw [own_lti (own_sub qt hi (by omega) (by omega)) (m := 3) (by decide)] at hc121; rw [own_lti hcp (m := 2048) (by decide)] at hc256; show (-1 : Int32).toInt = nx B i t; rw [show (-1 : Int32).toInt = -1 from by decide]; have b0 := e0.2; have b1 := e1.2; have b2 := e2.2; have b3 := e3.2; unfold nx; generalize bv B i = n0 at *; generalize bv B (i + 1) = n1 at *; generalize bv B (i + 2) = n2 at *; generalize bv B (i + 3) = n3 at *; unfold nxtI; (repeat' split) <;> omega), rfl⟩ (by decide) (by decide)
                  · refine Go.via (fun t_ k_ => XS.icmpNo H0.here hx rfl (hb hby d1_256) rfl ((flt hc256).1) k_) ?_
                    show Go _ _ _ _ (T0.setTop (mkF m 259 #[.val (.ref a), .val (.int p1), .val (.int p2), .val (.int ((B i) &&& (255 : Int32))), .val (.int (3 : Int32)), .val (.int (((((((B i) &&& (255 : Int32)) &&& (15 : Int32)) <<< ((6 : Int32) &&& 31)) ||| (((B (i + 1)) &&& (255 : Int32)) &&& (63 : Int32))) <<< ((6 : Int32) &&& 31)) ||| (((B (i + 2)) &&& (255 : Int32)) &&& (63 : Int32)))), .val (.int (2048 : Int32)), .val (.int ((B (i + 1)) &&& (255 : Int32))), .val (.int ((B (i + 2)) &&& (255 : Int32)))] []))
                    refine Go.via (fun t_ k_ => XS.iload H0.here hx rfl (hb hby d1_259) rfl k_) ?_
                    show Go _ _ _ _ (T0.setTop (mkF m 261 #[.val (.ref a), .val (.int p1), .val (.int p2), .val (.int ((B i) &&& (255 : Int32))), .val (.int (3 : Int32)), .val (.int (((((((B i) &&& (255 : Int32)) &&& (15 : Int32)) <<< ((6 : Int32) &&& 31)) ||| (((B (i + 1)) &&& (255 : Int32)) &&& (63 : Int32))) <<< ((6 : Int32) &&& 31)) ||| (((B (i + 2)) &&& (255 : Int32)) &&& (63 : Int32)))), .val (.int (2048 : Int32)), .val (.int ((B (i + 1)) &&& (255 : Int32))), .val (.int ((B (i + 2)) &&& (255 : Int32)))] [(.int (((((((B i) &&& (255 : Int32)) &&& (15 : Int32)) <<< ((6 : Int32) &&& 31)) ||| (((B (i + 1)) &&& (255 : Int32)) &&& (63 : Int32))) <<< ((6 : Int32) &&& 31)) ||| (((B (i + 2)) &&& (255 : Int32)) &&& (63 : Int32))))]))
                    refine own_ldcI H0 hx hZ hown (hw _ (List.mem_of_getElem? (i := 9) rfl)) (g := (mkF m 261 #[.val (.ref a), .val (.int p1), .val (.int p2), .val (.int ((B i) &&& (255 : Int32))), .val (.int (3 : Int32)), .val (.int (((((((B i) &&& (255 : Int32)) &&& (15 : Int32)) <<< ((6 : Int32) &&& 31)) ||| (((B (i + 1)) &&& (255 : Int32)) &&& (63 : Int32))) <<< ((6 : Int32) &&& 31)) ||| (((B (i + 2)) &&& (255 : Int32)) &&& (63 : Int32)))), .val (.int (2048 : Int32)), .val (.int ((B (i + 1)) &&& (255 : Int32))), .val (.int ((B (i + 2)) &&& (255 : Int32)))] [(.int (((((((B i) &&& (255 : Int32)) &&& (15 : Int32)) <<< ((6 : Int32) &&& 31)) ||| (((B (i + 1)) &&& (255 : Int32)) &&& (63 : Int32))) <<< ((6 : Int32) &&& 31)) ||| (((B (i + 2)) &&& (255 : Int32)) &&& (63 : Int32))))])) rfl (hb hby d1_261) ?_
                    show Go _ _ _ _ (T0.setTop (mkF m 263 #[.val (.ref a), .val (.int p1), .val (.int p2), .val (.int ((B i) &&& (255 : Int32))), .val (.int (3 : Int32)), .val (.int (((((((B i) &&& (255 : Int32)) &&& (15 : Int32)) <<< ((6 : Int32) &&& 31)) ||| (((B (i + 1)) &&& (255 : Int32)) &&& (63 : Int32))) <<< ((6 : Int32) &&& 31)) ||| (((B (i + 2)) &&& (255 : Int32)) &&& (63 : Int32)))), .val (.int (2048 : Int32)), .val (.int ((B (i + 1)) &&& (255 : Int32))), .val (.int ((B (i + 2)) &&& (255 : Int32)))] [(.int (1114111 : Int32)), (.int (((((((B i) &&& (255 : Int32)) &&& (15 : Int32)) <<< ((6 : Int32) &&& 31)) ||| (((B (i + 1)) &&& (255 : Int32)) &&& (63 : Int32))) <<< ((6 : Int32) &&& 31)) ||| (((B (i + 2)) &&& (255 : Int32)) &&& (63 : Int32))))]))
                    by_cases hc263 : (1114111 : Int32) < (((((((B i) &&& (255 : Int32)) &&& (15 : Int32)) <<< ((6 : Int32) &&& 31)) ||| (((B (i + 1)) &&& (255 : Int32)) &&& (63 : Int32))) <<< ((6 : Int32) &&& 31)) ||| (((B (i + 2)) &&& (255 : Int32)) &&& (63 : Int32)))
                    · refine Go.via (fun t_ k_ => XS.icmpYes H0.here hx rfl (pc0 := 263) (pc' := 280) rfl (hb hby d1_263) rfl ((tlt hc263).2.2.1) (by decide) (by decide) k_) ?_
                      show Go _ _ _ _ (T0.setTop (mkF m 280 #[.val (.ref a), .val (.int p1), .val (.int p2), .val (.int ((B i) &&& (255 : Int32))), .val (.int (3 : Int32)), .val (.int (((((((B i) &&& (255 : Int32)) &&& (15 : Int32)) <<< ((6 : Int32) &&& 31)) ||| (((B (i + 1)) &&& (255 : Int32)) &&& (63 : Int32))) <<< ((6 : Int32) &&& 31)) ||| (((B (i + 2)) &&& (255 : Int32)) &&& (63 : Int32)))), .val (.int (2048 : Int32)), .val (.int ((B (i + 1)) &&& (255 : Int32))), .val (.int ((B (i + 2)) &&& (255 : Int32)))] []))
                      refine Go.via (fun t_ k_ => XS.iconst H0.here hx rfl (hb hby d1_280) k_) ?_
                      show Go _ _ _ _ (T0.setTop (mkF m 281 #[.val (.ref a), .val (.int p1), .val (.int p2), .val (.int ((B i) &&& (255 : Int32))), .val (.int (3 : Int32)), .val (.int (((((((B i) &&& (255 : Int32)) &&& (15 : Int32)) <<< ((6 : Int32) &&& 31)) ||| (((B (i + 1)) &&& (255 : Int32)) &&& (63 : Int32))) <<< ((6 : Int32) &&& 31)) ||| (((B (i + 2)) &&& (255 : Int32)) &&& (63 : Int32)))), .val (.int (2048 : Int32)), .val (.int ((B (i + 1)) &&& (255 : Int32))), .val (.int ((B (i + 2)) &&& (255 : Int32)))] [(.int (-1 : Int32))]))
                      exact own_retI H0 hx hlk hret (hb hby d1_281) ⟨_, rfl, (by rw [hadv]; rw [own_m80 e0.1 e0.2] at hc24; rw [own_mC0 e0.1 e0.2] at hc39; rw [own_mE0 e0.1 e0.2] at hc67; rw [own_mT e1.1 e1.2] at hc146; rw [own_mT e2.1 e2.2] at hc190; rw [own_lti (own_sub qt hi (by omega) (by omega)) (m := 3) (by decide)] at hc121; rw [own_lti hcp (m := 2048) (by decide)] at hc256; rw [own_lti (n := 1114111) (by decide) hcp] at hc263; show (-1 : Int32).toInt = nx B i t; rw [show (-1 : Int32).toInt = -1 from by decide]; have b0 := e0.2; have b1 := e1.2; have b2 := e2.2; have b3 := e3.2; unfold nx; generalize bv B i = n0 at *; generalize bv B (i + 1) = n1 at *; generalize bv B (i + 2) = n2 at *; generalize bv B (i + 3) = n3 at *; unfold nxtI; (repeat' split) <;> omega), rfl⟩ (by decide) (by decide)
                    · refine Go.via (fun t_ k_ => XS.icmpNo H0.here hx rfl (hb hby d1_263) rfl ((flt hc263).2.2.1) k_) ?_
                      show Go _ _ _ _ (T0.setTop (mkF m 266 #[.val (.ref a), .val (.int p1), .val (.int p2), .val (.int ((B i) &&& (255 : Int32))), .val (.int (3 : Int32)), .val (.int (((((((B i) &&& (255 : Int32)) &&& (15 : Int32)) <<< ((6 : Int32) &&& 31)) ||| (((B (i + 1)) &&& (255 : Int32)) &&& (63 : Int32))) <<< ((6 : Int32) &&& 31)) ||| (((B (i + 2)) &&& (255 : Int32)) &&& (63 : Int32)))), .val (.int (2048 : Int32)), .val (.int ((B (i + 1)) &&& (255 : Int32))), .val (.int ((B (i + 2)) &&& (255 : Int32)))] []))
                      refine Go.via (fun t_ k_ => XS.iload H0.here hx rfl (hb hby d1_266) rfl k_) ?_
                      show Go _ _ _ _ (T0.setTop (mkF m 268 #[.val (.ref a), .val (.int p1), .val (.int p2), .val (.int ((B i) &&& (255 : Int32))), .val (.int (3 : Int32)), .val (.int (((((((B i) &&& (255 : Int32)) &&& (15 : Int32)) <<< ((6 : Int32) &&& 31)) ||| (((B (i + 1)) &&& (255 : Int32)) &&& (63 : Int32))) <<< ((6 : Int32) &&& 31)) ||| (((B (i + 2)) &&& (255 : Int32)) &&& (63 : Int32)))), .val (.int (2048 : Int32)), .val (.int ((B (i + 1)) &&& (255 : Int32))), .val (.int ((B (i + 2)) &&& (255 : Int32)))] [(.int (((((((B i) &&& (255 : Int32)) &&& (15 : Int32)) <<< ((6 : Int32) &&& 31)) ||| (((B (i + 1)) &&& (255 : Int32)) &&& (63 : Int32))) <<< ((6 : Int32) &&& 31)) ||| (((B (i + 2)) &&& (255 : Int32)) &&& (63 : Int32))))]))
                      refine own_ldcI H0 hx hZ hown (hw _ (List.mem_of_getElem? (i := 10) rfl)) (g := (mkF m 268 #[.val (.ref a), .val (.int p1), .val (.int p2), .val (.int ((B i) &&& (255 : Int32))), .val (.int (3 : Int32)), .val (.int (((((((B i) &&& (255 : Int32)) &&& (15 : Int32)) <<< ((6 : Int32) &&& 31)) ||| (((B (i + 1)) &&& (255 : Int32)) &&& (63 : Int32))) <<< ((6 : Int32) &&& 31)) ||| (((B (i + 2)) &&& (255 : Int32)) &&& (63 : Int32)))), .val (.int (2048 : Int32)), .val (.int ((B (i + 1)) &&& (255 : Int32))), .val (.int ((B (i + 2)) &&& (255 : Int32)))] [(.int (((((((B i) &&& (255 : Int32)) &&& (15 : Int32)) <<< ((6 : Int32) &&& 31)) ||| (((B (i + 1)) &&& (255 : Int32)) &&& (63 : Int32))) <<< ((6 : Int32) &&& 31)) ||| (((B (i + 2)) &&& (255 : Int32)) &&& (63 : Int32))))])) rfl (hb hby d1_268) ?_
                      show Go _ _ _ _ (T0.setTop (mkF m 270 #[.val (.ref a), .val (.int p1), .val (.int p2), .val (.int ((B i) &&& (255 : Int32))), .val (.int (3 : Int32)), .val (.int (((((((B i) &&& (255 : Int32)) &&& (15 : Int32)) <<< ((6 : Int32) &&& 31)) ||| (((B (i + 1)) &&& (255 : Int32)) &&& (63 : Int32))) <<< ((6 : Int32) &&& 31)) ||| (((B (i + 2)) &&& (255 : Int32)) &&& (63 : Int32)))), .val (.int (2048 : Int32)), .val (.int ((B (i + 1)) &&& (255 : Int32))), .val (.int ((B (i + 2)) &&& (255 : Int32)))] [(.int (55296 : Int32)), (.int (((((((B i) &&& (255 : Int32)) &&& (15 : Int32)) <<< ((6 : Int32) &&& 31)) ||| (((B (i + 1)) &&& (255 : Int32)) &&& (63 : Int32))) <<< ((6 : Int32) &&& 31)) ||| (((B (i + 2)) &&& (255 : Int32)) &&& (63 : Int32))))]))
                      by_cases hc270 : (((((((B i) &&& (255 : Int32)) &&& (15 : Int32)) <<< ((6 : Int32) &&& 31)) ||| (((B (i + 1)) &&& (255 : Int32)) &&& (63 : Int32))) <<< ((6 : Int32) &&& 31)) ||| (((B (i + 2)) &&& (255 : Int32)) &&& (63 : Int32))) < (55296 : Int32)
                      · refine Go.via (fun t_ k_ => XS.icmpYes H0.here hx rfl (pc0 := 270) (pc' := 282) rfl (hb hby d1_270) rfl ((tlt hc270).1) (by decide) (by decide) k_) ?_
                        show Go _ _ _ _ (T0.setTop (mkF m 282 #[.val (.ref a), .val (.int p1), .val (.int p2), .val (.int ((B i) &&& (255 : Int32))), .val (.int (3 : Int32)), .val (.int (((((((B i) &&& (255 : Int32)) &&& (15 : Int32)) <<< ((6 : Int32) &&& 31)) ||| (((B (i + 1)) &&& (255 : Int32)) &&& (63 : Int32))) <<< ((6 : Int32) &&& 31)) ||| (((B (i + 2)) &&& (255 : Int32)) &&& (63 : Int32)))), .val (.int (2048 : Int32)), .val (.int ((B (i + 1)) &&& (255 : Int32))), .val (.int ((B (i + 2)) &&& (255 : Int32)))] []))
                        refine Go.via (fun t_ k_ => XS.iloadN H0.here hx rfl (hb hby d1_282) rfl k_) ?_
                        show Go _ _ _ _ (T0.setTop (mkF m 283 #[.val (.ref a), .val (.int p1), .val (.int p2), .val (.int ((B i) &&& (255 : Int32))), .val (.int (3 : Int32)), .val (.int (((((((B i) &&& (255 : Int32)) &&& (15 : Int32)) <<< ((6 : Int32) &&& 31)) ||| (((B (i + 1)) &&& (255 : Int32)) &&& (63 : Int32))) <<< ((6 : Int32) &&& 31)) ||| (((B (i + 2)) &&& (255 : Int32)) &&& (63 : Int32)))), .val (.int (2048 : Int32)), .val (.int ((B (i + 1)) &&& (255 : Int32))), .val (.int ((B (i + 2)) &&& (255 : Int32)))] [(.int p1)]))
                        refine Go.via (fun t_ k_ => XS.iload H0.here hx rfl (hb hby d1_283) rfl k_) ?_
                        show Go _ _ _ _ (T0.setTop (mkF m 285 #[.val (.ref a), .val (.int p1), .val (.int p2), .val (.int ((B i) &&& (255 : Int32))), .val (.int (3 : Int32)), .val (.int (((((((B i) &&& (255 : Int32)) &&& (15 : Int32)) <<< ((6 : Int32) &&& 31)) ||| (((B (i + 1)) &&& (255 : Int32)) &&& (63 : Int32))) <<< ((6 : Int32) &&& 31)) ||| (((B (i + 2)) &&& (255 : Int32)) &&& (63 : Int32)))), .val (.int (2048 : Int32)), .val (.int ((B (i + 1)) &&& (255 : Int32))), .val (.int ((B (i + 2)) &&& (255 : Int32)))] [(.int (3 : Int32)), (.int p1)]))
                        refine Go.via (fun t_ k_ => XS.iadd H0.here hx rfl (hb hby d1_285) rfl k_) ?_
                        show Go _ _ _ _ (T0.setTop (mkF m 286 #[.val (.ref a), .val (.int p1), .val (.int p2), .val (.int ((B i) &&& (255 : Int32))), .val (.int (3 : Int32)), .val (.int (((((((B i) &&& (255 : Int32)) &&& (15 : Int32)) <<< ((6 : Int32) &&& 31)) ||| (((B (i + 1)) &&& (255 : Int32)) &&& (63 : Int32))) <<< ((6 : Int32) &&& 31)) ||| (((B (i + 2)) &&& (255 : Int32)) &&& (63 : Int32)))), .val (.int (2048 : Int32)), .val (.int ((B (i + 1)) &&& (255 : Int32))), .val (.int ((B (i + 2)) &&& (255 : Int32)))] [(.int (p1 + (3 : Int32)))]))
                        exact own_retI H0 hx hlk hret (hb hby d1_286) ⟨_, rfl, (by rw [hadv]; rw [own_m80 e0.1 e0.2] at hc24; rw [own_mC0 e0.1 e0.2] at hc39; rw [own_mE0 e0.1 e0.2] at hc67; rw [own_mT e1.1 e1.2] at hc146; rw [own_mT e2.1 e2.2] at hc190; rw [own_lti (own_sub qt hi (by omega) (by omega)) (m := 3) (by decide)] at hc121; rw [own_lti hcp (m := 2048) (by decide)] at hc256; rw [own_lti (n := 1114111) (by decide) hcp] at hc263; rw [own_lti hcp (m := 55296) (by decide)] at hc270; rw [own_ix (3 : Int32) 3 hi (by decide) (by omega) (by decide)]; have b0 := e0.2; have b1 := e1.2; have b2 := e2.2; have b3 := e3.2; unfold nx; generalize bv B i = n0 at *; generalize bv B (i + 1) = n1 at *; generalize bv B (i + 2) = n2 at *; generalize bv B (i + 3) = n3 at *; unfold nxtI; (repeat' split) <;> omega), rfl⟩ (by decide) (by decide)
                      · refine Go.via (fun t_ k_ => XS.icmpNo H0.here hx rfl (hb hby d1_270) rfl ((flt hc270).1) k_) ?_
                        show Go _ _ _ _ (T0.setTop (mkF m 273 #[.val (.ref a), .val (.int p1), .val (.int p2), .val (.int ((B i) &&& (255 : Int32))), .val (.int (3 : Int32)), .val (.int (((((((B i) &&& (255 : Int32)) &&& (15 : Int32)) <<< ((6 : Int32) &&& 31)) ||| (((B (i + 1)) &&& (255 : Int32)) &&& (63 : Int32))) <<< ((6 : Int32) &&& 31)) ||| (((B (i + 2)) &&& (255 : Int32)) &&& (63 : Int32)))), .val (.int (2048 : Int32)), .val (.int ((B (i + 1)) &&& (255 : Int32))), .val (.int ((B (i + 2)) &&& (255 : Int32)))] []))
                        refine Go.via (fun t_ k_ => XS.iload H0.here hx rfl (hb hby d1_273) rfl k_) ?_
                        show Go _ _ _ _ (T0.setTop (mkF m 275 #[.val (.ref a), .val (.int p1), .val (.int p2), .val (.int ((B i) &&& (255 : Int32))), .val (.int (3 : Int32)), .val (.int (((((((B i) &&& (255 : Int32)) &&& (15 : Int32)) <<< ((6 : Int32) &&& 31)) ||| (((B (i + 1)) &&& (255 : Int32)) &&& (63 : Int32))) <<< ((6 : Int32) &&& 31)) ||| (((B (i + 2)) &&& (255 : Int32)) &&& (63 : Int32)))), .val (.int (2048 : Int32)), .val (.int ((B (i + 1)) &&& (255 : Int32))), .val (.int ((B (i + 2)) &&& (255 : Int32)))] [(.int (((((((B i) &&& (255 : Int32)) &&& (15 : Int32)) <<< ((6 : Int32) &&& 31)) ||| (((B (i + 1)) &&& (255 : Int32)) &&& (63 : Int32))) <<< ((6 : Int32) &&& 31)) ||| (((B (i + 2)) &&& (255 : Int32)) &&& (63 : Int32))))]))
                        refine own_ldcI H0 hx hZ hown (hw _ (List.mem_of_getElem? (i := 12) rfl)) (g := (mkF m 275 #[.val (.ref a), .val (.int p1), .val (.int p2), .val (.int ((B i) &&& (255 : Int32))), .val (.int (3 : Int32)), .val (.int (((((((B i) &&& (255 : Int32)) &&& (15 : Int32)) <<< ((6 : Int32) &&& 31)) ||| (((B (i + 1)) &&& (255 : Int32)) &&& (63 : Int32))) <<< ((6 : Int32) &&& 31)) ||| (((B (i + 2)) &&& (255 : Int32)) &&& (63 : Int32)))), .val (.int (2048 : Int32)), .val (.int ((B (i + 1)) &&& (255 : Int32))), .val (.int ((B (i + 2)) &&& (255 : Int32)))] [(.int (((((((B i) &&& (255 : Int32)) &&& (15 : Int32)) <<< ((6 : Int32) &&& 31)) ||| (((B (i + 1)) &&& (255 : Int32)) &&& (63 : Int32))) <<< ((6 : Int32) &&& 31)) ||| (((B (i + 2)) &&& (255 : Int32)) &&& (63 : Int32))))])) rfl (hb hby d1_275) ?_
                        show Go _ _ _ _ (T0.setTop (mkF m 277 #[.val (.ref a), .val (.int p1), .val (.int p2), .val (.int ((B i) &&& (255 : Int32))), .val (.int (3 : Int32)), .val (.int (((((((B i) &&& (255 : Int32)) &&& (15 : Int32)) <<< ((6 : Int32) &&& 31)) ||| (((B (i + 1)) &&& (255 : Int32)) &&& (63 : Int32))) <<< ((6 : Int32) &&& 31)) ||| (((B (i + 2)) &&& (255 : Int32)) &&& (63 : Int32)))), .val (.int (2048 : Int32)), .val (.int ((B (i + 1)) &&& (255 : Int32))), .val (.int ((B (i + 2)) &&& (255 : Int32)))] [(.int (57343 : Int32)), (.int (((((((B i) &&& (255 : Int32)) &&& (15 : Int32)) <<< ((6 : Int32) &&& 31)) ||| (((B (i + 1)) &&& (255 : Int32)) &&& (63 : Int32))) <<< ((6 : Int32) &&& 31)) ||| (((B (i + 2)) &&& (255 : Int32)) &&& (63 : Int32))))]))
                        by_cases hc277 : (57343 : Int32) < (((((((B i) &&& (255 : Int32)) &&& (15 : Int32)) <<< ((6 : Int32) &&& 31)) ||| (((B (i + 1)) &&& (255 : Int32)) &&& (63 : Int32))) <<< ((6 : Int32) &&& 31)) ||| (((B (i + 2)) &&& (255 : Int32)) &&& (63 : Int32)))
                        · refine Go.via (fun t_ k_ => XS.icmpYes H0.here hx rfl (pc0 := 277) (pc' := 282) rfl (hb hby d1_277) rfl ((tlt hc277).2.2.1) (by decide) (by decide) k_) ?_
                          show Go _ _ _ _ (T0.setTop (mkF m 282 #[.val (.ref a), .val (.int p1), .val (.int p2), .val (.int ((B i) &&& (255 : Int32))), .val (.int (3 : Int32)), .val (.int (((((((B i) &&& (255 : Int32)) &&& (15 : Int32)) <<< ((6 : Int32) &&& 31)) ||| (((B (i + 1)) &&& (255 : Int32)) &&& (63 : Int32))) <<< ((6 : Int32) &&& 31)) ||| (((B (i + 2)) &&& (255 : Int32)) &&& (63 : Int32)))), .val (.int (2048 : Int32)), .val (.int ((B (i + 1)) &&& (255 : Int32))), .val (.int ((B (i + 2)) &&& (255 : Int32)))] []))
                          refine Go.via (fun t_ k_ => XS.iloadN H0.here hx rfl (hb hby d1_282) rfl k_) ?_
                          show Go _ _ _ _ (T0.setTop (mkF m 283 #[.val (.ref a), .val (.int p1), .val (.int p2), .val (.int ((B i) &&& (255 : Int32))), .val (.int (3 : Int32)), .val (.int (((((((B i) &&& (255 : Int32)) &&& (15 : Int32)) <<< ((6 : Int32) &&& 31)) ||| (((B (i + 1)) &&& (255 : Int32)) &&& (63 : Int32))) <<< ((6 : Int32) &&& 31)) ||| (((B (i + 2)) &&& (255 : Int32)) &&& (63 : Int32)))), .val (.int (2048 : Int32)), .val (.int ((B (i + 1)) &&& (255 : Int32))), .val (.int ((B (i + 2)) &&& (255 : Int32)))] [(.int p1)]))
                          refine Go.via (fun t_ k_ => XS.iload H0.here hx rfl (hb hby d1_283) rfl k_) ?_
                          show Go _ _ _ _ (T0.setTop (mkF m 285 #[.val (.ref a), .val (.int p1), .val (.int p2), .val (.int ((B i) &&& (255 : Int32))), .val (.int (3 : Int32)), .val (.int (((((((B i) &&& (255 : Int32)) &&& (15 : Int32)) <<< ((6 : Int32) &&& 31)) ||| (((B (i + 1)) &&& (255 : Int32)) &&& (63 : Int32))) <<< ((6 : Int32) &&& 31)) ||| (((B (i + 2)) &&& (255 : Int32)) &&& (63 : Int32)))), .val (.int (2048 : Int32)), .val (.int ((B (i + 1)) &&& (255 : Int32))), .val (.int ((B (i + 2)) &&& (255 : Int32)))] [(.int (3 : Int32)), (.int p1)]))
                          refine Go.via (fun t_ k_ => XS.iadd H0.here hx rfl (hb hby d1_285) rfl k_) ?_
                          show Go _ _ _ _ (T0.setTop (mkF m 286 #[.val (.ref a), .val (.int p1), .val (.int p2), .val (.int ((B i) &&& (255 : Int32))), .val (.int (3 : Int32)), .val (.int (((((((B i) &&& (255 : Int32)) &&& (15 : Int32)) <<< ((6 : Int32) &&& 31)) ||| (((B (i + 1)) &&& (255 : Int32)) &&& (63 : Int32))) <<< ((6 : Int32) &&& 31)) ||| (((B (i + 2)) &&& (255 : Int32)) &&& (63 : Int32)))), .val (.int (2048 : Int32)), .val (.int ((B (i + 1)) &&& (255 : Int32))), .val (.int ((B (i + 2)) &&& (255 : Int32)))] [(.int (p1 + (3 : Int32)))]))
                          exact own_retI H0 hx hlk hret (hb hby d1_286) ⟨_, rfl, (by rw [hadv]; rw [own_m80 e0.1 e0.2] at hc24; rw [own_mC0 e0.1 e0.2] at hc39; rw [own_mE0 e0.1 e0.2] at hc67; rw [own_mT e1.1 e1.2] at hc146; rw [own_mT e2.1 e2.2] at hc190; rw [own_lti (own_sub qt hi (by omega) (by omega)) (m := 3) (by decide)] at hc121; rw [own_lti hcp (m := 2048) (by decide)] at hc256; rw [own_lti (n := 1114111) (by decide) hcp] at hc263; rw [own_lti hcp (m := 55296) (by decide)] at hc270; rw [own_lti (n := 57343) (by decide) hcp] at hc277; rw [own_ix (3 : Int32) 3 hi (by decide) (by omega) (by decide)]; have b0 := e0.2; have b1 := e1.2; have b2 := e2.2; have b3 := e3.2; unfold nx; generalize bv B i = n0 at *; generalize bv B (i + 1) = n1 at *; generalize bv B (i + 2) = n2 at *; generalize bv B (i + 3) = n3 at *; unfold nxtI; (repeat' split) <;> omega), rfl⟩ (by decide) (by decide)
                        · refine Go.via (fun t_ k_ => XS.icmpNo H0.here hx rfl (hb hby d1_277) rfl ((flt hc277).2.2.1) k_) ?_
                          show Go _ _ _ _ (T0.setTop (mkF m 280 #[.val (.ref a), .val (.int p1), .val (.int p2), .val (.int ((B i) &&& (255 : Int32))), .val (.int (3 : Int32)), .val (.int (((((((B i) &&& (255 : Int32)) &&& (15 : Int32)) <<< ((6 : Int32) &&& 31)) ||| (((B (i + 1)) &&& (255 : Int32)) &&& (63 : Int32))) <<< ((6 : Int32) &&& 31)) ||| (((B (i + 2)) &&& (255 : Int32)) &&& (63 : Int32)))), .val (.int (2048 : Int32)), .val (.int ((B (i + 1)) &&& (255 : Int32))), .val (.int ((B (i + 2)) &&& (255 : Int32)))] []))
                          refine Go.via (fun t_ k_ => XS.iconst H0.here hx rfl (hb hby d1_280) k_) ?_
                          show Go _ _ _ _ (T0.setTop (mkF m 281 #[.val (.ref a), .val (.int p1), .val (.int p2), .val (.int ((B i) &&& (255 : Int32))), .val (.int (3 : Int32)), .val (.int (((((((B i) &&& (255 : Int32)) &&& (15 : Int32)) <<< ((6 : Int32) &&& 31)) ||| (((B (i + 1)) &&& (255 : Int32)) &&& (63 : Int32))) <<< ((6 : Int32) &&& 31)) ||| (((B (i + 2)) &&& (255 : Int32)) &&& (63 : Int32)))), .val (.int (2048 : Int32)), .val (.int ((B (i + 1)) &&& (255 : Int32))), .val (.int ((B (i + 2)) &&& (255 : Int32)))] [(.int (-1 : Int32))]))
                          exact own_retI H0 hx hlk hret (hb hby d1_281) ⟨_, rfl, (by rw [hadv]; rw [own_m80 e0.1 e0.2] at hc24; rw [own_mC0 e0.1 e0.2] at hc39; rw [own_mE0 e0.1 e0.2] at hc67; rw [own_mT e1.1 e1.2] at hc146; rw [own_mT e2.1 e2.2] at hc190; rw [own_lti (own_sub qt hi (by omega) (by omega)) (m := 3) (by decide)] at hc121; rw [own_lti hcp (m := 2048) (by decide)] at hc256; rw [own_lti (n := 1114111) (by decide) hcp] at hc263; rw [own_lti hcp (m := 55296) (by decide)] at hc270; rw [own_lti (n := 57343) (by decide) hcp] at hc277; show (-1 : Int32).toInt = nx B i t; rw [show (-1 : Int32).toInt = -1 from by decide]; have b0 := e0.2; have b1 := e1.2; have b2 := e2.2; have b3 := e3.2; unfold nx; generalize bv B i = n0 at *; generalize bv B (i + 1) = n1 at *; generalize bv B (i + 2) = n2 at *; generalize bv B (i + 3) = n3 at *; unfold nxtI; (repeat' split) <;> omega), rfl⟩ (by decide) (by decide)
                · refine Go.via (fun t_ k_ => XS.icmpNo H0.here hx rfl (hb hby d1_190) rfl ((feq hc190).1) k_) ?_
                  show Go _ _ _ _ (T0.setTop (mkF m 193 #[.val (.ref a), .val (.int p1), .val (.int p2), .val (.int ((B i) &&& (255 : Int32))), .val (.int (3 : Int32)), .val (.int (((((B i) &&& (255 : Int32)) &&& (15 : Int32)) <<< ((6 : Int32) &&& 31)) ||| (((B (i + 1)) &&& (255 : Int32)) &&& (63 : Int32)))), .val (.int (2048 : Int32)), .val (.int ((B (i + 1)) &&& (255 : Int32))), .val (.int ((B (i + 2)) &&& (255 : Int32)))] []))
                  refine Go.via (fun t_ k_ => XS.iconst H0.here hx rfl (hb hby d1_193) k_) ?_
                  show Go _ _ _ _ (T0.setTop (mkF m 194 #[.val (.ref a), .val (.int p1), .val (.int p2), .val (.int ((B i) &&& (255 : Int32))), .val (.int (3 : Int32)), .val (.int (((((B i) &&& (255 : Int32)) &&& (15 : Int32)) <<< ((6 : Int32) &&& 31)) ||| (((B (i + 1)) &&& (255 : Int32)) &&& (63 : Int32)))), .val (.int (2048 : Int32)), .val (.int ((B (i + 1)) &&& (255 : Int32))), .val (.int ((B (i + 2)) &&& (255 : Int32)))] [(.int (-1 : Int32))]))
                  exact own_retI H0 hx hlk hret (hb hby d1_194) ⟨_, rfl, (by rw [hadv]; rw [own_m80 e0.1 e0.2] at hc24; rw [own_mC0 e0.1 e0.2] at hc39; rw [own_mE0 e0.1 e0.2] at hc67; rw [own_mT e1.1 e1.2] at hc146; rw [own_mT e2.1 e2.2] at hc190; rw [own_lti (own_sub qt hi (by omega) (by omega)) (m := 3) (by decide)] at hc121; show (-1 : Int32).toInt = nx B i t; rw [show (-1 : Int32).toInt = -1 from by decide]; have b0 := e0.2; have b1 := e1.2; have b2 := e2.2; have b3 := e3.2; unfold nx; generalize bv B i = n0 at *; generalize bv B (i + 1) = n1 at *; generalize bv B (i + 2) = n2 at *; generalize bv B (i + 3) = n3 at *; unfold nxtI; (repeat' split) <;> omega), rfl⟩ (by decide) (by decide)
              · refine Go.via (fun t_ k_ => XS.icmpNo H0.here hx rfl (hb hby d1_146) rfl ((feq hc146).1) k_) ?_
                show Go _ _ _ _ (T0.setTop (mkF m 149 #[.val (.ref a), .val (.int p1), .val (.int p2), .val (.int ((B i) &&& (255 : Int32))), .val (.int (3 : Int32)), .val (.int (((B i) &&& (255 : Int32)) &&& (15 : Int32))), .val (.int (2048 : Int32)), .val (.int ((B (i + 1)) &&& (255 : Int32))), .unset] []))
                refine Go.via (fun t_ k_ => XS.iconst H0.here hx rfl (hb hby d1_149) k_) ?_
                show Go _ _ _ _ (T0.setTop (mkF m 150 #[.val (.ref a), .val (.int p1), .val (.int p2), .val (.int ((B i) &&& (255 : Int32))), .val (.int (3 : Int32)), .val (.int (((B i) &&& (255 : Int32)) &&& (15 : Int32))), .val (.int (2048 : Int32)), .val (.int ((B (i + 1)) &&& (255 : Int32))), .unset] [(.int (-1 : Int32))]))
                exact own_retI H0 hx hlk hret (hb hby d1_150) ⟨_, rfl, (by rw [hadv]; rw [own_m80 e0.1 e0.2] at hc24; rw [own_mC0 e0.1 e0.2] at hc39; rw [own_mE0 e0.1 e0.2] at hc67; rw [own_mT e1.1 e1.2] at hc146; rw [own_lti (own_sub qt hi (by omega) (by omega)) (m := 3) (by decide)] at hc121; show (-1 : Int32).toInt = nx B i t; rw [show (-1 : Int32).toInt = -1 from by decide]; have b0 := e0.2; have b1 := e1.2; have b2 := e2.2; have b3 := e3.2; unfold nx; generalize bv B i = n0 at *; generalize bv B (i + 1) = n1 at *; generalize bv B (i + 2) = n2 at *; generalize bv B (i + 3) = n3 at *; unfold nxtI; (repeat' split) <;> omega), rfl⟩ (by decide) (by decide)
          · refine Go.via (fun t_ k_ => XS.icmpYes H0.here hx rfl (pc0 := 67) (pc' := 87) rfl (hb hby d1_67) rfl ((feq hc67).2) (by decide) (by decide) k_) ?_
            show Go _ _ _ _ (T0.setTop (mkF m 87 #[.val (.ref a), .val (.int p1), .val (.int p2), .val (.int ((B i) &&& (255 : Int32))), .unset, .unset, .unset, .unset, .unset] []))
            refine Go.via (fun t_ k_ => XS.iloadN H0.here hx rfl (hb hby d1_87) rfl k_) ?_
            show Go _ _ _ _ (T0.setTop (mkF m 88 #[.val (.ref a), .val (.int p1), .val (.int p2), .val (.int ((B i) &&& (255 : Int32))), .unset, .unset, .unset, .unset, .unset] [(.int ((B i) &&& (255 : Int32)))]))
            refine Go.via (fun t_ k_ => XS.sipush H0.here hx rfl (hb hby d1_88) k_) ?_
            show Go _ _ _ _ (T0.setTop (mkF m 91 #[.val (.ref a), .val (.int p1), .val (.int p2), .val (.int ((B i) &&& (255 : Int32))), .unset, .unset, .unset, .unset, .unset] [(.int (248 : Int32)), (.int ((B i) &&& (255 : Int32)))]))
            refine Go.via (fun t_ k_ => XS.iand H0.here hx rfl (hb hby d1_91) rfl k_) ?_
            show Go _ _ _ _ (T0.setTop (mkF m 92 #[.val (.ref a), .val (.int p1), .val (.int p2), .val (.int ((B i) &&& (255 : Int32))), .unset, .unset, .unset, .unset, .unset] [(.int (((B i) &&& (255 : Int32)) &&& (248 : Int32)))]))
            refine Go.via (fun t_ k_ => XS.sipush H0.here hx rfl (hb hby d1_92) k_) ?_
            show Go _ _ _ _ (T0.setTop (mkF m 95 #[.val (.ref a), .val (.int p1), .val (.int p2), .val (.int ((B i) &&& (255 : Int32))), .unset, .unset, .unset, .unset, .unset] [(.int (240 : Int32)), (.int (((B i) &&& (255 : Int32)) &&& (248 : Int32)))]))
            by_cases hc95 : (((B i) &&& (255 : Int32)) &&& (248 : Int32)) = (240 : Int32)
            · refine Go.via (fun t_ k_ => XS.icmpNo H0.here hx rfl (hb hby d1_95) rfl ((teq hc95).2) k_) ?_
              show Go _ _ _ _ (T0.setTop (mkF m 98 #[.val (.ref a), .val (.int p1), .val (.int p2), .val (.int ((B i) &&& (255 : Int32))), .unset, .unset, .unset, .unset, .unset] []))
              refine Go.via (fun t_ k_ => XS.iconst H0.here hx rfl (hb hby d1_98) k_) ?_
              show Go _ _ _ _ (T0.setTop (mkF m 99 #[.val (.ref a), .val (.int p1), .val (.int p2), .val (.int ((B i) &&& (255 : Int32))), .unset, .unset, .unset, .unset, .unset] [(.int (4 : Int32))]))
              refine Go.via (fun t_ k_ => XS.istore H0.here hx rfl (hb hby d1_99) rfl (l' := #[.val (.ref a), .val (.int p1), .val (.int p2), .val (.int ((B i) &&& (255 : Int32))), .val (.int (4 : Int32)), .unset, .unset, .unset, .unset]) rfl k_) ?_
              show Go _ _ _ _ (T0.setTop (mkF m 101 #[.val (.ref a), .val (.int p1), .val (.int p2), .val (.int ((B i) &&& (255 : Int32))), .val (.int (4 : Int32)), .unset, .unset, .unset, .unset] []))
              refine Go.via (fun t_ k_ => XS.iloadN H0.here hx rfl (hb hby d1_101) rfl k_) ?_
              show Go _ _ _ _ (T0.setTop (mkF m 102 #[.val (.ref a), .val (.int p1), .val (.int p2), .val (.int ((B i) &&& (255 : Int32))), .val (.int (4 : Int32)), .unset, .unset, .unset, .unset] [(.int ((B i) &&& (255 : Int32)))]))
              refine Go.via (fun t_ k_ => XS.bipush H0.here hx rfl (hb hby d1_102) k_) ?_
              show Go _ _ _ _ (T0.setTop (mkF m 104 #[.val (.ref a), .val (.int p1), .val (.int p2), .val (.int ((B i) &&& (255 : Int32))), .val (.int (4 : Int32)), .unset, .unset, .unset, .unset] [(.int (7 : Int32)), (.int ((B i) &&& (255 : Int32)))]))
              refine Go.via (fun t_ k_ => XS.iand H0.here hx rfl (hb hby d1_104) rfl k_) ?_
              show Go _ _ _ _ (T0.setTop (mkF m 105 #[.val (.ref a), .val (.int p1), .val (.int p2), .val (.int ((B i) &&& (255 : Int32))), .val (.int (4 : Int32)), .unset, .unset, .unset, .unset] [(.int (((B i) &&& (255 : Int32)) &&& (7 : Int32)))]))
              refine Go.via (fun t_ k_ => XS.istore H0.here hx rfl (hb hby d1_105) rfl (l' := #[.val (.ref a), .val (.int p1), .val (.int p2), .val (.int ((B i) &&& (255 : Int32))), .val (.int (4 : Int32)), .val (.int (((B i) &&& (255 : Int32)) &&& (7 : Int32))), .unset, .unset, .unset]) rfl k_) ?_
              show Go _ _ _ _ (T0.setTop (mkF m 107 #[.val (.ref a), .val (.int p1), .val (.int p2), .val (.int ((B i) &&& (255 : Int32))), .val (.int (4 : Int32)), .val (.int (((B i) &&& (255 : Int32)) &&& (7 : Int32))), .unset, .unset, .unset] []))
              refine own_ldcI H0 hx hZ hown (hw _ (List.mem_of_getElem? (i := 11) rfl)) (g := (mkF m 107 #[.val (.ref a), .val (.int p1), .val (.int p2), .val (.int ((B i) &&& (255 : Int32))), .val (.int (4 : Int32)), .val (.int (((B i) &&& (255 : Int32)) &&& (7 : Int32))), .unset, .unset, .unset] [])) rfl (hb hby d1_107) ?_
              show Go _ _ _ _ (T0.setTop (mkF m 109 #[.val (.ref a), .val (.int p1), .val (.int p2), .val (.int ((B i) &&& (255 : Int32))), .val (.int (4 : Int32)), .val (.int (((B i) &&& (255 : Int32)) &&& (7 : Int32))), .unset, .unset, .unset] [(.int (65536 : Int32))]))
              refine Go.via (fun t_ k_ => XS.istore H0.here hx rfl (hb hby d1_109) rfl (l' := #[.val (.ref a), .val (.int p1), .val (.int p2), .val (.int ((B i) &&& (255 : Int32))), .val (.int (4 : Int32)), .val (.int (((B i) &&& (255 : Int32)) &&& (7 : Int32))), .val (.int (65536 : Int32)), .unset, .unset]) rfl k_) ?_
              show Go _ _ _ _ (T0.setTop (mkF m 111 #[.val (.ref a), .val (.int p1), .val (.int p2), .val (.int ((B i) &&& (255 : Int32))), .val (.int (4 : Int32)), .val (.int (((B i) &&& (255 : Int32)) &&& (7 : Int32))), .val (.int (65536 : Int32)), .unset, .unset] []))
              refine Go.via (fun t_ k_ => XS.goto H0.here hx rfl (pc0 := 111) (pc' := 116) rfl (hb hby d1_111) (by decide) (by decide) k_) ?_
              show Go _ _ _ _ (T0.setTop (mkF m 116 #[.val (.ref a), .val (.int p1), .val (.int p2), .val (.int ((B i) &&& (255 : Int32))), .val (.int (4 : Int32)), .val (.int (((B i) &&& (255 : Int32)) &&& (7 : Int32))), .val (.int (65536 : Int32)), .unset, .unset] []))
              refine Go.via (fun t_ k_ => XS.iloadN H0.here hx rfl (hb hby d1_116) rfl k_) ?_
              show Go _ _ _ _ (T0.setTop (mkF m 117 #[.val (.ref a), .val (.int p1), .val (.int p2), .val (.int ((B i) &&& (255 : Int32))), .val (.int (4 : Int32)), .val (.int (((B i) &&& (255 : Int32)) &&& (7 : Int32))), .val (.int (65536 : Int32)), .unset, .unset] [(.int p2)]))
              refine Go.via (fun t_ k_ => XS.iloadN H0.here hx rfl (hb hby d1_117) rfl k_) ?_
              show Go _ _ _ _ (T0.setTop (mkF m 118 #[.val (.ref a), .val (.int p1), .val (.int p2), .val (.int ((B i) &&& (255 : Int32))), .val (.int (4 : Int32)), .val (.int (((B i) &&& (255 : Int32)) &&& (7 : Int32))), .val (.int (65536 : Int32)), .unset, .unset] [(.int p1), (.int p2)]))
              refine Go.via (fun t_ k_ => XS.isub H0.here hx rfl (hb hby d1_118) rfl k_) ?_
              show Go _ _ _ _ (T0.setTop (mkF m 119 #[.val (.ref a), .val (.int p1), .val (.int p2), .val (.int ((B i) &&& (255 : Int32))), .val (.int (4 : Int32)), .val (.int (((B i) &&& (255 : Int32)) &&& (7 : Int32))), .val (.int (65536 : Int32)), .unset, .unset] [(.int (p2 - p1))]))
              refine Go.via (fun t_ k_ => XS.iload H0.here hx rfl (hb hby d1_119) rfl k_) ?_
              show Go _ _ _ _ (T0.setTop (mkF m 121 #[.val (.ref a), .val (.int p1), .val (.int p2), .val (.int ((B i) &&& (255 : Int32))), .val (.int (4 : Int32)), .val (.int (((B i) &&& (255 : Int32)) &&& (7 : Int32))), .val (.int (65536 : Int32)), .unset, .unset] [(.int (4 : Int32)), (.int (p2 - p1))]))
              by_cases hc121 : (p2 - p1) < (4 : Int32)
              · refine Go.via (fun t_ k_ => XS.icmpNo H0.here hx rfl (hb hby d1_121) rfl ((tlt hc121).2.1) k_) ?_
                show Go _ _ _ _ (T0.setTop (mkF m 124 #[.val (.ref a), .val (.int p1), .val (.int p2), .val (.int ((B i) &&& (255 : Int32))), .val (.int (4 : Int32)), .val (.int (((B i) &&& (255 : Int32)) &&& (7 : Int32))), .val (.int (65536 : Int32)), .unset, .unset] []))
                refine Go.via (fun t_ k_ => XS.iconst H0.here hx rfl (hb hby d1_124) k_) ?_
                show Go _ _ _ _ (T0.setTop (mkF m 125 #[.val (.ref a), .val (.int p1), .val (.int p2), .val (.int ((B i) &&& (255 : Int32))), .val (.int (4 : Int32)), .val (.int (((B i) &&& (255 : Int32)) &&& (7 : Int32))), .val (.int (65536 : Int32)), .unset, .unset] [(.int (-1 : Int32))]))
                exact own_retI H0 hx hlk hret (hb hby d1_125) ⟨_, rfl, (by rw [hadv]; rw [own_m80 e0.1 e0.2] at hc24; rw [own_mC0 e0.1 e0.2] at hc39; rw [own_mE0 e0.1 e0.2] at hc67; rw [own_mF0 e0.1 e0.2] at hc95; rw [own_lti (own_sub qt hi (by omega) (by omega)) (m := 4) (by decide)] at hc121; show (-1 : Int32).toInt = nx B i t; rw [show (-1 : Int32).toInt = -1 from by decide]; have b0 := e0.2; have b1 := e1.2; have b2 := e2.2; have b3 := e3.2; unfold nx; generalize bv B i = n0 at *; generalize bv B (i + 1) = n1 at *; generalize bv B (i + 2) = n2 at *; generalize bv B (i + 3) = n3 at *; unfold nxtI; (repeat' split) <;> omega), rfl⟩ (by decide) (by decide)
              · refine Go.via (fun t_ k_ => XS.icmpYes H0.here hx rfl (pc0 := 121) (pc' := 126) rfl (hb hby d1_121) rfl ((flt hc121).2.1) (by decide) (by decide) k_) ?_
                show Go _ _ _ _ (T0.setTop (mkF m 126 #[.val (.ref a), .val (.int p1), .val (.int p2), .val (.int ((B i) &&& (255 : Int32))), .val (.int (4 : Int32)), .val (.int (((B i) &&& (255 : Int32)) &&& (7 : Int32))), .val (.int (65536 : Int32)), .unset, .unset] []))
                have hl : ¬ (t - i < 4) := fun q => hc121 ((own_lti (own_sub qt hi (by omega) (by omega)) (m := 4) (by decide)).mpr q)
                refine Go.via (fun t_ k_ => XS.aloadN H0.here hx rfl (hb hby d1_126) rfl rfl k_) ?_
                show Go _ _ _ _ (T0.setTop (mkF m 127 #[.val (.ref a), .val (.int p1), .val (.int p2), .val (.int ((B i) &&& (255 : Int32))), .val (.int (4 : Int32)), .val (.int (((B i) &&& (255 : Int32)) &&& (7 : Int32))), .val (.int (65536 : Int32)), .unset, .unset] [(.ref a)]))
                refine Go.via (fun t_ k_ => XS.iloadN H0.here hx rfl (hb hby d1_127) rfl k_) ?_
                show Go _ _ _ _ (T0.setTop (mkF m 128 #[.val (.ref a), .val (.int p1), .val (.int p2), .val (.int ((B i) &&& (255 : Int32))), .val (.int (4 : Int32)), .val (.int (((B i) &&& (255 : Int32)) &&& (7 : Int32))), .val (.int (65536 : Int32)), .unset, .unset] [(.int p1), (.ref a)]))
                refine Go.via (fun t_ k_ => XS.iconst H0.here hx rfl (hb hby d1_128) k_) ?_
                show Go _ _ _ _ (T0.setTop (mkF m 129 #[.val (.ref a), .val (.int p1), .val (.int p2), .val (.int ((B i) &&& (255 : Int32))), .val (.int (4 : Int32)), .val (.int (((B i) &&& (255 : Int32)) &&& (7 : Int32))), .val (.int (65536 : Int32)), .unset, .unset] [(.int (1 : Int32)), (.int p1), (.ref a)]))
                refine Go.via (fun t_ k_ => XS.iadd H0.here hx rfl (hb hby d1_129) rfl k_) ?_
                show Go _ _ _ _ (T0.setTop (mkF m 130 #[.val (.ref a), .val (.int p1), .val (.int p2), .val (.int ((B i) &&& (255 : Int32))), .val (.int (4 : Int32)), .val (.int (((B i) &&& (255 : Int32)) &&& (7 : Int32))), .val (.int (65536 : Int32)), .unset, .unset] [(.int (p1 + (1 : Int32))), (.ref a)]))
                refine own_ldBA H0 hx hZ A (j := (i + 1)) (own_ix (1 : Int32) 1 hi (by decide) (by omega) (by decide)) (by omega) (g := (mkF m 130 #[.val (.ref a), .val (.int p1), .val (.int p2), .val (.int ((B i) &&& (255 : Int32))), .val (.int (4 : Int32)), .val (.int (((B i) &&& (255 : Int32)) &&& (7 : Int32))), .val (.int (65536 : Int32)), .unset, .unset] [(.int (p1 + (1 : Int32))), (.ref a)])) rfl rfl (hb hby d1_130) ?_
                show Go _ _ _ _ (T0.setTop (mkF m 131 #[.val (.ref a), .val (.int p1), .val (.int p2), .val (.int ((B i) &&& (255 : Int32))), .val (.int (4 : Int32)), .val (.int (((B i) &&& (255 : Int32)) &&& (7 : Int32))), .val (.int (65536 : Int32)), .unset, .unset] [(.int (B (i + 1)))]))
                refine Go.via (fun t_ k_ => XS.sipush H0.here hx rfl (hb hby d1_131) k_) ?_
                show Go _ _ _ _ (T0.setTop (mkF m 134 #[.val (.ref a), .val (.int p1), .val (.int p2), .val (.int ((B i) &&& (255 : Int32))), .val (.int (4 : Int32)), .val (.int (((B i) &&& (255 : Int32)) &&& (7 : Int32))), .val (.int (65536 : Int32)), .unset, .unset] [(.int (255 : Int32)), (.int (B (i + 1)))]))
                refine Go.via (fun t_ k_ => XS.iand H0.here hx rfl (hb hby d1_134) rfl k_) ?_
                show Go _ _ _ _ (T0.setTop (mkF m 135 #[.val (.ref a), .val (.int p1), .val (.int p2), .val (.int ((B i) &&& (255 : Int32))), .val (.int (4 : Int32)), .val (.int (((B i) &&& (255 : Int32)) &&& (7 : Int32))), .val (.int (65536 : Int32)), .unset, .unset] [(.int ((B (i + 1)) &&& (255 : Int32)))]))
                refine Go.via (fun t_ k_ => XS.istore H0.here hx rfl (hb hby d1_135) rfl (l' := #[.val (.ref a), .val (.int p1), .val (.int p2), .val (.int ((B i) &&& (255 : Int32))), .val (.int (4 : Int32)), .val (.int (((B i) &&& (255 : Int32)) &&& (7 : Int32))), .val (.int (65536 : Int32)), .val (.int ((B (i + 1)) &&& (255 : Int32))), .unset]) rfl k_) ?_
                show Go _ _ _ _ (T0.setTop (mkF m 137 #[.val (.ref a), .val (.int p1), .val (.int p2), .val (.int ((B i) &&& (255 : Int32))), .val (.int (4 : Int32)), .val (.int (((B i) &&& (255 : Int32)) &&& (7 : Int32))), .val (.int (65536 : Int32)), .val (.int ((B (i + 1)) &&& (255 : Int32))), .unset] []))
                refine Go.via (fun t_ k_ => XS.iload H0.here hx rfl (hb hby d1_137) rfl k_) ?_
                show Go _ _ _ _ (T0.setTop (mkF m 139 #[.val (.ref a), .val (.int p1), .val (.int p2), .val (.int ((B i) &&& (255 : Int32))), .val (.int (4 : Int32)), .val (.int (((B i) &&& (255 : Int32)) &&& (7 : Int32))), .val (.int (65536 : Int32)), .val (.int ((B (i + 1)) &&& (255 : Int32))), .unset] [(.int ((B (i + 1)) &&& (255 : Int32)))]))
                refine Go.via (fun t_ k_ => XS.sipush H0.here hx rfl (hb hby d1_139) k_) ?_
                show Go _ _ _ _ (T0.setTop (mkF m 142 #[.val (.ref a), .val (.int p1), .val (.int p2), .val (.int ((B i) &&& (255 : Int32))), .val (.int (4 : Int32)), .val (.int (((B i) &&& (255 : Int32)) &&& (7 : Int32))), .val (.int (65536 : Int32)), .val (.int ((B (i + 1)) &&& (255 : Int32))), .unset] [(.int (192 : Int32)), (.int ((B (i + 1)) &&& (255 : Int32)))]))
                refine Go.via (fun t_ k_ => XS.iand H0.here hx rfl (hb hby d1_142) rfl k_) ?_
                show Go _ _ _ _ (T0.setTop (mkF m 143 #[.val (.ref a), .val (.int p1), .val (.int p2), .val (.int ((B i) &&& (255 : Int32))), .val (.int (4 : Int32)), .val (.int (((B i) &&& (255 : Int32)) &&& (7 : Int32))), .val (.int (65536 : Int32)), .val (.int ((B (i + 1)) &&& (255 : Int32))), .unset] [(.int (((B (i + 1)) &&& (255 : Int32)) &&& (192 : Int32)))]))
                refine Go.via (fun t_ k_ => XS.sipush H0.here hx rfl (hb hby d1_143) k_) ?_
                show Go _ _ _ _ (T0.setTop (mkF m 146 #[.val (.ref a), .val (.int p1), .val (.int p2), .val (.int ((B i) &&& (255 : Int32))), .val (.int (4 : Int32)), .val (.int (((B i) &&& (255 : Int32)) &&& (7 : Int32))), .val (.int (65536 : Int32)), .val (.int ((B (i + 1)) &&& (255 : Int32))), .unset] [(.int (128 : Int32)), (.int (((B (i + 1)) &&& (255 : Int32)) &&& (192 : Int32)))]))
                by_cases hc146 : (((B (i + 1)) &&& (255 : Int32)) &&& (192 : Int32)) = (128 : Int32)
                · refine Go.via (fun t_ k_ => XS.icmpYes H0.here hx rfl (pc0 := 146) (pc' := 151) rfl (hb hby d1_146) rfl ((teq hc146).1) (by decide) (by decide) k_) ?_
                  show Go _ _ _ _ (T0.setTop (mkF m 151 #[.val (.ref a), .val (.int p1), .val (.int p2), .val (.int ((B i) &&& (255 : Int32))), .val (.int (4 : Int32)), .val (.int (((B i) &&& (255 : Int32)) &&& (7 : Int32))), .val (.int (65536 : Int32)), .val (.int ((B (i + 1)) &&& (255 : Int32))), .unset] []))
                  refine Go.via (fun t_ k_ => XS.iload H0.here hx rfl (hb hby d1_151) rfl k_) ?_
                  show Go _ _ _ _ (T0.setTop (mkF m 153 #[.val (.ref a), .val (.int p1), .val (.int p2), .val (.int ((B i) &&& (255 : Int32))), .val (.int (4 : Int32)), .val (.int (((B i) &&& (255 : Int32)) &&& (7 : Int32))), .val (.int (65536 : Int32)), .val (.int ((B (i + 1)) &&& (255 : Int32))), .unset] [(.int (((B i) &&& (255 : Int32)) &&& (7 : Int32)))]))
                  refine Go.via (fun t_ k_ => XS.bipush H0.here hx rfl (hb hby d1_153) k_) ?_
                  show Go _ _ _ _ (T0.setTop (mkF m 155 #[.val (.ref a), .val (.int p1), .val (.int p2), .val (.int ((B i) &&& (255 : Int32))), .val (.int (4 : Int32)), .val (.int (((B i) &&& (255 : Int32)) &&& (7 : Int32))), .val (.int (65536 : Int32)), .val (.int ((B (i + 1)) &&& (255 : Int32))), .unset] [(.int (6 : Int32)), (.int (((B i) &&& (255 : Int32)) &&& (7 : Int32)))]))
                  refine Go.via (fun t_ k_ => XS.ishl H0.here hx rfl (hb hby d1_155) rfl k_) ?_
                  show Go _ _ _ _ (T0.setTop (mkF m 156 #[.val (.ref a), .val (.int p1), .val (.int p2), .val (.int ((B i) &&& (255 : Int32))), .val (.int (4 : Int32)), .val (.int (((B i) &&& (255 : Int32)) &&& (7 : Int32))), .val (.int (65536 : Int32)), .val (.int ((B (i + 1)) &&& (255 : Int32))), .unset] [(.int ((((B i) &&& (255 : Int32)) &&& (7 : Int32)) <<< ((6 : Int32) &&& 31)))]))
                  refine Go.via (fun t_ k_ => XS.iload H0.here hx rfl (hb hby d1_156) rfl k_) ?_
                  show Go _ _ _ _ (T0.setTop (mkF m 158 #[.val (.ref a), .val (.int p1), .val (.int p2), .val (.int ((B i) &&& (255 : Int32))), .val (.int (4 : Int32)), .val (.int (((B i) &&& (255 : Int32)) &&& (7 : Int32))), .val (.int (65536 : Int32)), .val (.int ((B (i + 1)) &&& (255 : Int32))), .unset] [(.int ((B (i + 1)) &&& (255 : Int32))), (.int ((((B i) &&& (255 : Int32)) &&& (7 : Int32)) <<< ((6 : Int32) &&& 31)))]))
                  refine Go.via (fun t_ k_ => XS.bipush H0.here hx rfl (hb hby d1_158) k_) ?_
                  show Go _ _ _ _ (T0.setTop (mkF m 160 #[.val (.ref a), .val (.int p1), .val (.int p2), .val (.int ((B i) &&& (255 : Int32))), .val (.int (4 : Int32)), .val (.int (((B i) &&& (255 : Int32)) &&& (7 : Int32))), .val (.int (65536 : Int32)), .val (.int ((B (i + 1)) &&& (255 : Int32))), .unset] [(.int (63 : Int32)), (.int ((B (i + 1)) &&& (255 : Int32))), (.int ((((B i) &&& (255 : Int32)) &&& (7 : Int32)) <<< ((6 : Int32) &&& 31)))]))
                  refine Go.via (fun t_ k_ => XS.iand H0.here hx rfl (hb hby d1_160) rfl k_) ?_
                  show Go _ _ _ _ (T0.setTop (mkF m 161 #[.val (.ref a), .val (.int p1), .val (.int p2), .val (.int ((B i) &&& (255 : Int32))), .val (.int (4 : Int32)), .val (.int (((B i) &&& (255 : Int32)) &&& (7 : Int32))), .val (.int (65536 : Int32)), .val (.int ((B (i + 1)) &&& (255 : Int32))), .unset] [(.int (((B (i + 1)) &&& (255 : Int32)) &&& (63 : Int32))), (.int ((((B i) &&& (255 : Int32)) &&& (7 : Int32)) <<< ((6 : Int32) &&& 31)))]))
                  refine Go.via (fun t_ k_ => XS.ior H0.here hx rfl (hb hby d1_161) rfl k_) ?_
                  show Go _ _ _ _ (T0.setTop (mkF m 162 #[.val (.ref a), .val (.int p1), .val (.int p2), .val (.int ((B i) &&& (255 : Int32))), .val (.int (4 : Int32)), .val (.int (((B i) &&& (255 : Int32)) &&& (7 : Int32))), .val (.int (65536 : Int32)), .val (.int ((B (i + 1)) &&& (255 : Int32))), .unset] [(.int (((((B i) &&& (255 : Int32)) &&& (7 : Int32)) <<< ((6 : Int32) &&& 31)) ||| (((B (i + 1)) &&& (255 : Int32)) &&& (63 : Int32))))]))
                  refine Go.via (fun t_ k_ => XS.istore H0.here hx rfl (hb hby d1_162) rfl (l' := #[.val (.ref a), .val (.int p1), .val (.int p2), .val (.int ((B i) &&& (255 : Int32))), .val (.int (4 : Int32)), .val (.int (((((B i) &&& (255 : Int32)) &&& (7 : Int32)) <<< ((6 : Int32) &&& 31)) ||| (((B (i + 1)) &&& (255 : Int32)) &&& (63 : Int32)))), .val (.int (65536 : Int32)), .val (.int ((B (i + 1)) &&& (255 : Int32))), .unset]) rfl k_) ?_
                  show Go _ _ _ _ (T0.setTop (mkF m 164 #[.val (.ref a), .val (.int p1), .val (.int p2), .val (.int ((B i) &&& (255 : Int32))), .val (.int (4 : Int32)), .val (.int (((((B i) &&& (255 : Int32)) &&& (7 : Int32)) <<< ((6 : Int32) &&& 31)) ||| (((B (i + 1)) &&& (255 : Int32)) &&& (63 : Int32)))), .val (.int (65536 : Int32)), .val (.int ((B (i + 1)) &&& (255 : Int32))), .unset] []))
                  refine Go.via (fun t_ k_ => XS.iload H0.here hx rfl (hb hby d1_164) rfl k_) ?_
                  show Go _ _ _ _ (T0.setTop (mkF m 166 #[.val (.ref a), .val (.int p1), .val (.int p2), .val (.int ((B i) &&& (255 : Int32))), .val (.int (4 : Int32)), .val (.int (((((B i) &&& (255 : Int32)) &&& (7 : Int32)) <<< ((6 : Int32) &&& 31)) ||| (((B (i + 1)) &&& (255 : Int32)) &&& (63 : Int32)))), .val (.int (65536 : Int32)), .val (.int ((B (i + 1)) &&& (255 : Int32))), .unset] [(.int (4 : Int32))]))
                  refine Go.via (fun t_ k_ => XS.iconst H0.here hx rfl (hb hby d1_166) k_) ?_
                  show Go _ _ _ _ (T0.setTop (mkF m 167 #[.val (.ref a), .val (.int p1), .val (.int p2), .val (.int ((B i) &&& (255 : Int32))), .val (.int (4 : Int32)), .val (.int (((((B i) &&& (255 : Int32)) &&& (7 : Int32)) <<< ((6 : Int32) &&& 31)) ||| (((B (i + 1)) &&& (255 : Int32)) &&& (63 : Int32)))), .val (.int (65536 : Int32)), .val (.int ((B (i + 1)) &&& (255 : Int32))), .unset] [(.int (3 : Int32)), (.int (4 : Int32))]))
                  refine Go.via (fun t_ k_ => XS.icmpNo H0.here hx rfl (hb hby d1_167) rfl ((flt (show ¬ ((4 : Int32) < (3 : Int32)) from (by decide))).1) k_) ?_
                  show Go _ _ _ _ (T0.setTop (mkF m 170 #[.val (.ref a), .val (.int p1), .val (.int p2), .val (.int ((B i) &&& (255 : Int32))), .val (.int (4 : Int32)), .val (.int (((((B i) &&& (255 : Int32)) &&& (7 : Int32)) <<< ((6 : Int32) &&& 31)) ||| (((B (i + 1)) &&& (255 : Int32)) &&& (63 : Int32)))), .val (.int (65536 : Int32)), .val (.int ((B (i + 1)) &&& (255 : Int32))), .unset] []))
                  refine Go.via (fun t_ k_ => XS.aloadN H0.here hx rfl (hb hby d1_170) rfl rfl k_) ?_
                  show Go _ _ _ _ (T0.setTop (mkF m 171 #[.val (.ref a), .val (.int p1), .val (.int p2), .val (.int ((B i) &&& (255 : Int32))), .val (.int (4 : Int32)), .val (.int (((((B i) &&& (255 : Int32)) &&& (7 : Int32)) <<< ((6 : Int32) &&& 31)) ||| (((B (i + 1)) &&& (255 : Int32)) &&& (63 : Int32)))), .val (.int (65536 : Int32)), .val (.int ((B (i + 1)) &&& (255 : Int32))), .unset] [(.ref a)]))
                  refine Go.via (fun t_ k_ => XS.iloadN H0.here hx rfl (hb hby d1_171) rfl k_) ?_
                  show Go _ _ _ _ (T0.setTop (mkF m 172 #[.val (.ref a), .val (.int p1), .val (.int p2), .val (.int ((B i) &&& (255 : Int32))), .val (.int (4 : Int32)), .val (.int (((((B i) &&& (255 : Int32)) &&& (7 : Int32)) <<< ((6 : Int32) &&& 31)) ||| (((B (i + 1)) &&& (255 : Int32)) &&& (63 : Int32)))), .val (.int (65536 : Int32)), .val (.int ((B (i + 1)) &&& (255 : Int32))), .unset] [(.int p1), (.ref a)]))
                  refine Go.via (fun t_ k_ => XS.iconst H0.here hx rfl (hb hby d1_172) k_) ?_
                  show Go _ _ _ _ (T0.setTop (mkF m 173 #[.val (.ref a), .val (.int p1), .val (.int p2), .val (.int ((B i) &&& (255 : Int32))), .val (.int (4 : Int32)), .val (.int (((((B i) &&& (255 : Int32)) &&& (7 : Int32)) <<< ((6 : Int32) &&& 31)) ||| (((B (i + 1)) &&& (255 : Int32)) &&& (63 : Int32)))), .val (.int (65536 : Int32)), .val (.int ((B (i + 1)) &&& (255 : Int32))), .unset] [(.int (2 : Int32)), (.int p1), (.ref a)]))
                  refine Go.via (fun t_ k_ => XS.iadd H0.here hx rfl (hb hby d1_173) rfl k_) ?_
                  show Go _ _ _ _ (T0.setTop (mkF m 174 #[.val (.ref a), .val (.int p1), .val (.int p2), .val (.int ((B i) &&& (255 : Int32))), .val (.int (4 : Int32)), .val (.int (((((B i) &&& (255 : Int32)) &&& (7 : Int32)) <<< ((6 : Int32) &&& 31)) ||| (((B (i + 1)) &&& (255 : Int32)) &&& (63 : Int32)))), .val (.int (65536 : Int32)), .val (.int ((B (i + 1)) &&& (255 : Int32))), .unset] [(.int (p1 + (2 : Int32))), (.ref a)]))
                  refine own_ldBA H0 hx hZ A (j := (i + 2)) (own_ix (2 : Int32) 2 hi (by decide) (by omega) (by decide)) (by omega) (g := (mkF m 174 #[.val (.ref a), .val (.int p1), .val (.int p2), .val (.int ((B i) &&& (255 : Int32))), .val (.int (4 : Int32)), .val (.int (((((B i) &&& (255 : Int32)) &&& (7 : Int32)) <<< ((6 : Int32) &&& 31)) ||| (((B (i + 1)) &&& (255 : Int32)) &&& (63 : Int32)))), .val (.int (65536 : Int32)), .val (.int ((B (i + 1)) &&& (255 : Int32))), .unset] [(.int (p1 + (2 : Int32))), (.ref a)])) rfl rfl (hb hby d1_174) ?_
                  show Go _ _ _ _ (T0.setTop (mkF m 175 #[.val (.ref a), .val (.int p1), .val (.int p2), .val (.int ((B i) &&& (255 : Int32))), .val (.int (4 : Int32)), .val (.int (((((B i) &&& (255 : Int32)) &&& (7 : Int32)) <<< ((6 : Int32) &&& 31)) ||| (((B (i + 1)) &&& (255 : Int32)) &&& (63 : Int32)))), .val (.int (65536 : Int32)), .val (.int ((B (i + 1)) &&& (255 : Int32))), .unset] [(.int (B (i + 2)))]))
                  refine Go.via (fun t_ k_ => XS.sipush H0.here hx rfl (hb hby d1_175) k_) ?_
                  show Go _ _ _ _ (T0.setTop (mkF m 178 #[.val (.ref a), .val (.int p1), .val (.int p2), .val (.int ((B i) &&& (255 : Int32))), .val (.int (4 : Int32)), .val (.int (((((B i) &&& (255 : Int32)) &&& (7 : Int32)) <<< ((6 : Int32) &&& 31)) ||| (((B (i + 1)) &&& (255 : Int32)) &&& (63 : Int32)))), .val (.int (65536 : Int32)), .val (.int ((B (i + 1)) &&& (255 : Int32))), .unset] [(.int (255 : Int32)), (.int (B (i + 2)))]))
                  refine Go.via (fun t_ k_ => XS.iand H0.here hx rfl (hb hby d1_178) rfl k_) ?_
                  show Go _ _ _ _ (T0.setTop (mkF m 179 #[.val (.ref a), .val (.int p1), .val (.int p2), .val (.int ((B i) &&& (255 : Int32))), .val (.int (4 : Int32)), .val (.int (((((B i) &&& (255 : Int32)) &&& (7 : Int32)) <<< ((6 : Int32) &&& 31)) ||| (((B (i + 1)) &&& (255 : Int32)) &&& (63 : Int32)))), .val (.int (65536 : Int32)), .val (.int ((B (i + 1)) &&& (255 : Int32))), .unset] [(.int ((B (i + 2)) &&& (255 : Int32)))]))
                  refine Go.via (fun t_ k_ => XS.istore H0.here hx rfl (hb hby d1_179) rfl (l' := #[.val (.ref a), .val (.int p1), .val (.int p2), .val (.int ((B i) &&& (255 : Int32))), .val (.int (4 : Int32)), .val (.int (((((B i) &&& (255 : Int32)) &&& (7 : Int32)) <<< ((6 : Int32) &&& 31)) ||| (((B (i + 1)) &&& (255 : Int32)) &&& (63 : Int32)))), .val (.int (65536 : Int32)), .val (.int ((B (i + 1)) &&& (255 : Int32))), .val (.int ((B (i + 2)) &&& (255 : Int32)))]) rfl k_) ?_
                  show Go _ _ _ _ (T0.setTop (mkF m 181 #[.val (.ref a), .val (.int p1), .val (.int p2), .val (.int ((B i) &&& (255 : Int32))), .val (.int (4 : Int32)), .val (.int (((((B i) &&& (255 : Int32)) &&& (7 : Int32)) <<< ((6 : Int32) &&& 31)) ||| (((B (i + 1)) &&& (255 : Int32)) &&& (63 : Int32)))), .val (.int (65536 : Int32)), .val (.int ((B (i + 1)) &&& (255 : Int32))), .val (.int ((B (i + 2)) &&& (255 : Int32)))] []))
                  refine Go.via (fun t_ k_ => XS.iload H0.here hx rfl (hb hby d1_181) rfl k_) ?_
                  show Go _ _ _ _ (T0.setTop (mkF m 183 #[.val (.ref a), .val (.int p1), .val (.int p2), .val (.int ((B i) &&& (255 : Int32))), .val (.int (4 : Int32)), .val (.int (((((B i) &&& (255 : Int32)) &&& (7 : Int32)) <<< ((6 : Int32) &&& 31)) ||| (((B (i + 1)) &&& (255 : Int32)) &&& (63 : Int32)))), .val (.int (65536 : Int32)), .val (.int ((B (i + 1)) &&& (255 : Int32))), .val (.int ((B (i + 2)) &&& (255 : Int32)))] [(.int ((B (i + 2)) &&& (255 : Int32)))]))
                  refine Go.via (fun t_ k_ => XS.sipush H0.here hx rfl (hb hby d1_183) k_) ?_
                  show Go _ _ _ _ (T0.setTop (mkF m 186 #[.val (.ref a), .val (.int p1), .val (.int p2), .val (.int ((B i) &&& (255 : Int32))), .val (.int (4 : Int32)), .val (.int (((((B i) &&& (255 : Int32)) &&& (7 : Int32)) <<< ((6 : Int32) &&& 31)) ||| (((B (i + 1)) &&& (255 : Int32)) &&& (63 : Int32)))), .val (.int (65536 : Int32)), .val (.int ((B (i + 1)) &&& (255 : Int32))), .val (.int ((B (i + 2)) &&& (255 : Int32)))] [(.int (192 : Int32)), (.int ((B (i + 2)) &&& (255 : Int32)))]))
                  refine Go.via (fun t_ k_ => XS.iand H0.here hx rfl (hb hby d1_186) rfl k_) ?_
                  show Go _ _ _ _ (T0.setTop (mkF m 187 #[.val (.ref a), .val (.int p1), .val (.int p2), .val (.int ((B i) &&& (255 : Int32))), .val (.int (4 : Int32)), .val (.int (((((B i) &&& (255 : Int32)) &&& (7 : Int32)) <<< ((6 : Int32) &&& 31)) ||| (((B (i + 1)) &&& (255 : Int32)) &&& (63 : Int32)))), .val (.int (65536 : Int32)), .val (.int ((B (i + 1)) &&& (255 : Int32))), .val (.int ((B (i + 2)) &&& (255 : Int32)))] [(.int (((B (i + 2)) &&& (255 : Int32)) &&& (192 : Int32)))]))
                  refine Go.via (fun t_ k_ => XS.sipush H0.here hx rfl (hb hby d1_187) k_) ?_
                  show Go _ _ _ _ (T0.setTop (mkF m 190 #[.val (.ref a), .val (.int p1), .val (.int p2), .val (.int ((B i) &&& (255 : Int32))), .val (.int (4 : Int32)), .val (.int (((((B i) &&& (255 : Int32)) &&& (7 : Int32)) <<< ((6 : Int32) &&& 31)) ||| (((B (i + 1)) &&& (255 : Int32)) &&& (63 : Int32)))), .val (.int (65536 : Int32)), .val (.int ((B (i + 1)) &&& (255 : Int32))), .val (.int ((B (i + 2)) &&& (255 : Int32)))] [(.int (128 : Int32)), (.int (((B (i + 2)) &&& (255 : Int32)) &&& (192 : Int32)))]))
                  by_cases hc190 : (((B (i + 2)) &&& (255 : Int32)) &&& (192 : Int32)) = (128 : Int32)
                  · refine Go.via (fun t_ k_ => XS.icmpYes H0.here hx rfl (pc0 := 190) (pc' := 195) rfl (hb hby d1_190) rfl ((teq hc190).1) (by decide) (by decide) k_) ?_
                    show Go _ _ _ _ (T0.setTop (mkF m 195 #[.val (.ref a), .val (.int p1), .val (.int p2), .val (.int ((B i) &&& (255 : Int32))), .val (.int (4 : Int32)), .val (.int (((((B i) &&& (255 : Int32)) &&& (7 : Int32)) <<< ((6 : Int32) &&& 31)) ||| (((B (i + 1)) &&& (255 : Int32)) &&& (63 : Int32)))), .val (.int (65536 : Int32)), .val (.int ((B (i + 1)) &&& (255 : Int32))), .val (.int ((B (i + 2)) &&& (255 : Int32)))] []))
                    refine Go.via (fun t_ k_ => XS.iload H0.here hx rfl (hb hby d1_195) rfl k_) ?_
                    show Go _ _ _ _ (T0.setTop (mkF m 197 #[.val (.ref a), .val (.int p1), .val (.int p2), .val (.int ((B i) &&& (255 : Int32))), .val (.int (4 : Int32)), .val (.int (((((B i) &&& (255 : Int32)) &&& (7 : Int32)) <<< ((6 : Int32) &&& 31)) ||| (((B (i + 1)) &&& (255 : Int32)) &&& (63 : Int32)))), .val (.int (65536 : Int32)), .val (.int ((B (i + 1)) &&& (255 : Int32))), .val (.int ((B (i + 2)) &&& (255 : Int32)))] [(.int (((((B i) &&& (255 : Int32)) &&& (7 : Int32)) <<< ((6 : Int32) &&& 31)) ||| (((B (i + 1)) &&& (255 : Int32)) &&& (63 : Int32))))]))
                    refine Go.via (fun t_ k_ => XS.bipush H0.here hx rfl (hb hby d1_197) k_) ?_
                    show Go _ _ _ _ (T0.setTop (mkF m 199 #[.val (.ref a), .val (.int p1), .val (.int p2), .val (.int ((B i) &&& (255 : Int32))), .val (.int (4 : Int32)), .val (.int (((((B i) &&& (255 : Int32)) &&& (7 : Int32)) <<< ((6 : Int32) &&& 31)) ||| (((B (i + 1)) &&& (255 : Int32)) &&& (63 : Int32)))), .val (.int (65536 : Int32)), .val (.int ((B (i + 1)) &&& (255 : Int32))), .val (.int ((B (i + 2)) &&& (255 : Int32)))] [(.int (6 : Int32)), (.int (((((B i) &&& (255 : Int32)) &&& (7 : Int32)) <<< ((6 : Int32) &&& 31)) ||| (((B (i + 1)) &&& (255 : Int32)) &&& (63 : Int32))))]))
                    refine Go.via (fun t_ k_ => XS.ishl H0.here hx rfl (hb hby d1_199) rfl k_) ?_
                    show Go _ _ _ _ (T0.setTop (mkF m 200 #[.val (.ref a), .val (.int p1), .val (.int p2), .val (.int ((B i) &&& (255 : Int32))), .val (.int (4 : Int32)), .val (.int (((((B i) &&& (255 : Int32)) &&& (7 : Int32)) <<< ((6 : Int32) &&& 31)) ||| (((B (i + 1)) &&& (255 : Int32)) &&& (63 : Int32)))), .val (.int (65536 : Int32)), .val (.int ((B (i + 1)) &&& (255 : Int32))), .val (.int ((B (i + 2)) &&& (255 : Int32)))] [(.int ((((((B i) &&& (255 : Int32)) &&& (7 : Int32)) <<< ((6 : Int32) &&& 31)) ||| (((B (i + 1)) &&& (255 : Int32)) &&& (63 : Int32))) <<< ((6 : Int32) &&& 31)))]))
                    refine Go.via (fun t_ k_ => XS.iload H0.here hx rfl (hb hby d1_200) rfl k_) ?_
                    show Go _ _ _ _ (T0.setTop (mkF m 202 #[.val (.ref a), .val (.int p1), .val (.int p2), .val (.int ((B i) &&& (255 : Int32))), .val (.int (4 : Int32)), .val (.int (((((B i) &&& (255 : Int32)) &&& (7 : Int32)) <<< ((6 : Int32) &&& 31)) ||| (((B (i + 1)) &&& (255 : Int32)) &&& (63 : Int32)))), .val (.int (65536 : Int32)), .val (.int ((B (i + 1)) &&& (255 : Int32))), .val (.int ((B (i + 2)) &&& (255 : Int32)))] [(.int ((B (i + 2)) &&& (255 : Int32))), (.int ((((((B i) &&& (255 : Int32)) &&& (7 : Int32)) <<< ((6 : Int32) &&& 31)) ||| (((B (i + 1)) &&& (255 : Int32)) &&& (63 : Int32))) <<< ((6 : Int32) &&& 31)))]))
                    refine Go.via (fun t_ k_ => XS.bipush H0.here hx rfl (hb hby d1_202) k_) ?_
                    show Go _ _ _ _ (T0.setTop (mkF m 204 #[.val (.ref a), .val (.int p1), .val (.int p2), .val (.int ((B i) &&& (255 : Int32))), .val (.int (4 : Int32)), .val (.int (((((B i) &&& (255 : Int32)) &&& (7 : Int32)) <<< ((6 : Int32) &&& 31)) ||| (((B (i + 1)) &&& (255 : Int32)) &&& (63 : Int32)))), .val (.int (65536 : Int32)), .val (.int ((B (i + 1)) &&& (255 : Int32))), .val (.int ((B (i + 2)) &&& (255 : Int32)))] [(.int (63 : Int32)), (.int ((B (i + 2)) &&& (255 : Int32))), (.int ((((((B i) &&& (255 : Int32)) &&& (7 : Int32)) <<< ((6 : Int32) &&& 31)) ||| (((B (i + 1)) &&& (255 : Int32)) &&& (63 : Int32))) <<< ((6 : Int32) &&& 31)))]))
                    refine Go.via (fun t_ k_ => XS.iand H0.here hx rfl (hb hby d1_204) rfl k_) ?_
                    show Go _ _ _ _ (T0.setTop (mkF m 205 #[.val (.ref a), .val (.int p1), .val (.int p2), .val (.int ((B i) &&& (255 : Int32))), .val (.int (4 : Int32)), .val (.int (((((B i) &&& (255 : Int32)) &&& (7 : Int32)) <<< ((6 : Int32) &&& 31)) ||| (((B (i + 1)) &&& (255 : Int32)) &&& (63 : Int32)))), .val (.int (65536 : Int32)), .val (.int ((B (i + 1)) &&& (255 : Int32))), .val (.int ((B (i + 2)) &&& (255 : Int32)))] [(.int (((B (i + 2)) &&& (255 : Int32)) &&& (63 : Int32))), (.int ((((((B i) &&& (255 : Int32)) &&& (7 : Int32)) <<< ((6 : Int32) &&& 31)) ||| (((B (i + 1)) &&& (255 : Int32)) &&& (63 : Int32))) <<< ((6 : Int32) &&& 31)))]))
                    refine Go.via (fun t_ k_ => XS.ior H0.here hx rfl (hb hby d1_205) rfl k_) ?_
                    show Go _ _ _ _ (T0.setTop (mkF m 206 #[.val (.ref a), .val (.int p1), .val (.int p2), .val (.int ((B i) &&& (255 : Int32))), .val (.int (4 : Int32)), .val (.int (((((B i) &&& (255 : Int32)) &&& (7 : Int32)) <<< ((6 : Int32) &&& 31)) ||| (((B (i + 1)) &&& (255 : Int32)) &&& (63 : Int32)))), .val (.int (65536 : Int32)), .val (.int ((B (i + 1)) &&& (255 : Int32))), .val (.int ((B (i + 2)) &&& (255 : Int32)))] [(.int (((((((B i) &&& (255 : Int32)) &&& (7 : Int32)) <<< ((6 : Int32) &&& 31)) ||| (((B (i + 1)) &&& (255 : Int32)) &&& (63 : Int32))) <<< ((6 : Int32) &&& 31)) ||| (((B (i + 2)) &&& (255 : Int32)) &&& (63 : Int32))))]))
                    refine Go.via (fun t_ k_ => XS.istore H0.here hx rfl (hb hby d1_206) rfl (l' := #[.val (.ref a), .val (.int p1), .val (.int p2), .val (.int ((B i) &&& (255 : Int32))), .val (.int (4 : Int32)), .val (.int (((((((B i) &&& (255 : Int32)) &&& (7 : Int32)) <<< ((6 : Int32) &&& 31)) ||| (((B (i + 1)) &&& (255 : Int32)) &&& (63 : Int32))) <<< ((6 : Int32) &&& 31)) ||| (((B (i + 2)) &&& (255 : Int32)) &&& (63 : Int32)))), .val (.int (65536 : Int32)), .val (.int ((B (i + 1)) &&& (255 : Int32))), .val (.int ((B (i + 2)) &&& (255 : Int32)))]) rfl k_) ?_
                    show Go _ _ _ _ (T0.setTop (mkF m 208 #[.val (.ref a), .val (.int p1), .val (.int p2), .val (.int ((B i) &&& (255 : Int32))), .val (.int (4 : Int32)), .val (.int (((((((B i) &&& (255 : Int32)) &&& (7 : Int32)) <<< ((6 : Int32) &&& 31)) ||| (((B (i + 1)) &&& (255 : Int32)) &&& (63 : Int32))) <<< ((6 : Int32) &&& 31)) ||| (((B (i + 2)) &&& (255 : Int32)) &&& (63 : Int32)))), .val (.int (65536 : Int32)), .val (.int ((B (i + 1)) &&& (255 : Int32))), .val (.int ((B (i + 2)) &&& (255 : Int32)))] []))
                    refine Go.via (fun t_ k_ => XS.iload H0.here hx rfl (hb hby d1_208) rfl k_) ?_
                    show Go _ _ _ _ (T0.setTop (mkF m 210 #[.val (.ref a), .val (.int p1), .val (.int p2), .val (.int ((B i) &&& (255 : Int32))), .val (.int (4 : Int32)), .val (.int (((((((B i) &&& (255 : Int32)) &&& (7 : Int32)) <<< ((6 : Int32) &&& 31)) ||| (((B (i + 1)) &&& (255 : Int32)) &&& (63 : Int32))) <<< ((6 : Int32) &&& 31)) ||| (((B (i + 2)) &&& (255 : Int32)) &&& (63 : Int32)))), .val (.int (65536 : Int32)), .val (.int ((B (i + 1)) &&& (255 : Int32))), .val (.int ((B (i + 2)) &&& (255 : Int32)))] [(.int (4 : Int32))]))
                    refine Go.via (fun t_ k_ => XS.iconst H0.here hx rfl (hb hby d1_210) k_) ?_
                    show Go _ _ _ _ (T0.setTop (mkF m 211 #[.val (.ref a), .val (.int p1), .val (.int p2), .val (.int ((B i) &&& (255 : Int32))), .val (.int (4 : Int32)), .val (.int (((((((B i) &&& (255 : Int32)) &&& (7 : Int32)) <<< ((6 : Int32) &&& 31)) ||| (((B (i + 1)) &&& (255 : Int32)) &&& (63 : Int32))) <<< ((6 : Int32) &&& 31)) ||| (((B (i + 2)) &&& (255 : Int32)) &&& (63 : Int32)))), .val (.int (65536 : Int32)), .val (.int ((B (i + 1)) &&& (255 : Int32))), .val (.int ((B (i + 2)) &&& (255 : Int32)))] [(.int (4 : Int32)), (.int (4 : Int32))]))
                    refine Go.via (fun t_ k_ => XS.icmpNo H0.here hx rfl (hb hby d1_211) rfl ((teq (show (4 : Int32) = (4 : Int32) from (by decide))).2) k_) ?_
                    show Go _ _ _ _ (T0.setTop (mkF m 214 #[.val (.ref a), .val (.int p1), .val (.int p2), .val (.int ((B i) &&& (255 : Int32))), .val (.int (4 : Int32)), .val (.int (((((((B i) &&& (255 : Int32)) &&& (7 : Int32)) <<< ((6 : Int32) &&& 31)) ||| (((B (i + 1)) &&& (255 : Int32)) &&& (63 : Int32))) <<< ((6 : Int32) &&& 31)) ||| (((B (i + 2)) &&& (255 : Int32)) &&& (63 : Int32)))), .val (.int (65536 : Int32)), .val (.int ((B (i + 1)) &&& (255 : Int32))), .val (.int ((B (i + 2)) &&& (255 : Int32)))] []))
                    refine Go.via (fun t_ k_ => XS.aloadN H0.here hx rfl (hb hby d1_214) rfl rfl k_) ?_
                    show Go _ _ _ _ (T0.setTop (mkF m 215 #[.val (.ref a), .val (.int p1), .val (.int p2), .val (.int ((B i) &&& (255 : Int32))), .val (.int (4 : Int32)), .val (.int (((((((B i) &&& (255 : Int32)) &&& (7 : Int32)) <<< ((6 : Int32) &&& 31)) ||| (((B (i + 1)) &&& (255 : Int32)) &&& (63 : Int32))) <<< ((6 : Int32) &&& 31)) ||| (((B (i + 2)) &&& (255 : Int32)) &&& (63 : Int32)))), .val (.int (65536 : Int32)), .val (.int ((B (i + 1)) &&& (255 : Int32))), .val (.int ((B (i + 2)) &&& (255 : Int32)))] [(.ref a)]))
                    refine Go.via (fun t_ k_ => XS.iloadN H0.here hx rfl (hb hby d1_215) rfl k_) ?_
                    show Go _ _ _ _ (T0.setTop (mkF m 216 #[.val (.ref a), .val (.int p1), .val (.int p2), .val (.int ((B i) &&& (255 : Int32))), .val (.int (4 : Int32)), .val (.int (((((((B i) &&& (255 : Int32)) &&& (7 : Int32)) <<< ((6 : Int32) &&& 31)) ||| (((B (i + 1)) &&& (255 : Int32)) &&& (63 : Int32))) <<< ((6 : Int32) &&& 31)) ||| (((B (i + 2)) &&& (255 : Int32)) &&& (63 : Int32)))), .val (.int (65536 : Int32)), .val (.int ((B (i + 1)) &&& (255 : Int32))), .val (.int ((B (i + 2)) &&& (255 : Int32)))] [(.int p1), (.ref a)]))
                    refine Go.via (fun t_ k_ => XS.iconst H0.here hx rfl (hb hby d1_216) k_) ?_
                    show Go _ _ _ _ (T0.setTop (mkF m 217 #[.val (.ref a), .val (.int p1), .val (.int p2), .val (.int ((B i) &&& (255 : Int32))), .val (.int (4 : Int32)), .val (.int (((((((B i) &&& (255 : Int32)) &&& (7 : Int32)) <<< ((6 : Int32) &&& 31)) ||| (((B (i + 1)) &&& (255 : Int32)) &&& (63 : Int32))) <<< ((6 : Int32) &&& 31)) ||| (((B (i + 2)) &&& (255 : Int32)) &&& (63 : Int32)))), .val (.int (65536 : Int32)), .val (.int ((B (i + 1)) &&& (255 : Int32))), .val (.int ((B (i + 2)) &&& (255 : Int32)))] [(.int (3 : Int32)), (.int p1), (.ref a)]))
                    refine Go.via (fun t_ k_ => XS.iadd H0.here hx rfl (hb hby d1_217) rfl k_) ?_
                    show Go _ _ _ _ (T0.setTop (mkF m 218 #[.val (.ref a), .val (.int p1), .val (.int p2), .val (.int ((B i) &&& (255 : Int32))), .val (.int (4 : Int32)), .val (.int (((((((B i) &&& (255 : Int32)) &&& (7 : Int32)) <<< ((6 : Int32) &&& 31)) ||| (((B (i + 1)) &&& (255 : Int32)) &&& (63 : Int32))) <<< ((6 : Int32) &&& 31)) ||| (((B (i + 2)) &&& (255 : Int32)) &&& (63 : Int32)))), .val (.int (65536 : Int32)), .val (.int ((B (i + 1)) &&& (255 : Int32))), .val (.int ((B (i + 2)) &&& (255 : Int32)))] [(.int (p1 + (3 : Int32))), (.ref a)]))
                    refine own_ldBA H0 hx hZ A (j := (i + 3)) (own_ix (3 : Int32) 3 hi (by decide) (by omega) (by decide)) (by omega) (g := (mkF m 218 #[.val (.ref a), .val (.int p1), .val (.int p2), .val (.int ((B i) &&& (255 : Int32))), .val (.int (4 : Int32)), .val (.int (((((((B i) &&& (255 : Int32)) &&& (7 : Int32)) <<< ((6 : Int32) &&& 31)) ||| (((B (i + 1)) &&& (255 : Int32)) &&& (63 : Int32))) <<< ((6 : Int32) &&& 31)) ||| (((B (i + 2)) &&& (255 : Int32)) &&& (63 : Int32)))), .val (.int (65536 : Int32)), .val (.int ((B (i + 1)) &&& (255 : Int32))), .val (.int ((B (i + 2)) &&& (255 : Int32)))] [(.int (p1 + (3 : Int32))), (.ref a)])) rfl rfl (hb hby d1_218) ?_
                    show Go _ _ _ _ (T0.setTop (mkF m 219 #[.val (.ref a), .val (.int p1), .val (.int p2), .val (.int ((B i) &&& (255 : Int32))), .val (.int (4 : Int32)), .val (.int (((((((B i) &&& (255 : Int32)) &&& (7 : Int32)) <<< ((6 : Int32) &&& 31)) ||| (((B (i + 1)) &&& (255 : Int32)) &&& (63 : Int32))) <<< ((6 : Int32) &&& 31)) ||| (((B (i + 2)) &&& (255 : Int32)) &&& (63 : Int32)))), .val (.int (65536 : Int32)), .val (.int ((B (i + 1)) &&& (255 : Int32))), .val (.int ((B (i + 2)) &&& (255 : Int32)))] [(.int (B (i + 3)))]))
                    refine Go.via (fun t_ k_ => XS.sipush H0.here hx rfl (hb hby d1_219) k_) ?_
                    show Go _ _ _ _ (T0.setTop (mkF m 222 #[.val (.ref a), .val (.int p1), .val (.int p2), .val (.int ((B i) &&& (255 : Int32))), .val (.int (4 : Int32)), .val (.int (((((((B i) &&& (255 : Int32)) &&& (7 : Int32)) <<< ((6 : Int32) &&& 31)) ||| (((B (i + 1)) &&& (255 : Int32)) &&& (63 : Int32))) <<< ((6 : Int32) &&& 31)) ||| (((B (i + 2)) &&& (255 : Int32)) &&& (63 : Int32)))), .val (.int (65536 : Int32)), .val (.int ((B (i + 1)) &&& (255 : Int32))), .val (.int ((B (i + 2)) &&& (255 : Int32)))] [(.int (255 : Int32)), (.int (B (i + 3)))]))
                    refine Go.via (fun t_ k_ => XS.iand H0.here hx rfl (hb hby d1_222) rfl k_) ?_
                    show Go _ _ _ _ (T0.setTop (mkF m 223 #[.val (.ref a), .val (.int p1), .val (.int p2), .val (.int ((B i) &&& (255 : Int32))), .val (.int (4 : Int32)), .val (.int (((((((B i) &&& (255 : Int32)) &&& (7 : Int32)) <<< ((6 : Int32) &&& 31)) ||| (((B (i + 1)) &&& (255 : Int32)) &&& (63 : Int32))) <<< ((6 : Int32) &&& 31)) ||| (((B (i + 2)) &&& (255 : Int32)) &&& (63 : Int32)))), .val (.int (65536 : Int32)), .val (.int ((B (i + 1)) &&& (255 : Int32))), .val (.int ((B (i + 2)) &&& (255 : Int32)))] [(.int ((B (i + 3)) &&& (255 : Int32)))]))
                    refine Go.via (fun t_ k_ => XS.istore H0.here hx rfl (hb hby d1_223) rfl (l' := #[.val (.ref a), .val (.int p1), .val (.int p2), .val (.int ((B i) &&& (255 : Int32))), .val (.int (4 : Int32)), .val (.int (((((((B i) &&& (255 : Int32)) &&& (7 : Int32)) <<< ((6 : Int32) &&& 31)) ||| (((B (i + 1)) &&& (255 : Int32)) &&& (63 : Int32))) <<< ((6 : Int32) &&& 31)) ||| (((B (i + 2)) &&& (255 : Int32)) &&& (63 : Int32)))), .val (.int (65536 : Int32)), .val (.int ((B (i + 1)) &&& (255 : Int32))), .val (.int ((B (i + 3)) &&& (255 : Int32)))]) rfl k_) ?_
                    show Go _ _ _ _ (T0.setTop (mkF m 225 #[.val (.ref a), .val (.int p1), .val (.int p2), .val (.int ((B i) &&& (255 : Int32))), .val (.int (4 : Int32)), .val (.int (((((((B i) &&& (255 : Int32)) &&& (7 : Int32)) <<< ((6 : Int32) &&& 31)) ||| (((B (i + 1)) &&& (255 : Int32)) &&& (63 : Int32))) <<< ((6 : Int32) &&& 31)) ||| (((B (i + 2)) &&& (255 : Int32)) &&& (63 : Int32)))), .val (.int (65536 : Int32)), .val (.int ((B (i + 1)) &&& (255 : Int32))), .val (.int ((B (i + 3)) &&& (255 : Int32)))] []))
                    refine Go.via (fun t_ k_ => XS.iload H0.here hx rfl (hb hby d1_225) rfl k_) ?_
                    show Go _ _ _ _ (T0.setTop (mkF m 227 #[.val (.ref a), .val (.int p1), .val (.int p2), .val (.int ((B i) &&& (255 : Int32))), .val (.int (4 : Int32)), .val (.int (((((((B i) &&& (255 : Int32)) &&& (7 : Int32)) <<< ((6 : Int32) &&& 31)) ||| (((B (i + 1)) &&& (255 : Int32)) &&& (63 : Int32))) <<< ((6 : Int32) &&& 31)) ||| (((B (i + 2)) &&& (255 : Int32)) &&& (63 : Int32)))), .val (.int (65536 : Int32)), .val (.int ((B (i + 1)) &&& (255 : Int32))), .val (.int ((B (i + 3)) &&& (255 : Int32)))] [(.int ((B (i + 3)) &&& (255 : Int32)))]))
                    refine Go.via (fun t_ k_ => XS.sipush H0.here hx rfl (hb hby d1_227) k_) ?_
                    show Go _ _ _ _ (T0.setTop (mkF m 230 #[.val (.ref a), .val (.int p1), .val (.int p2), .val (.int ((B i) &&& (255 : Int32))), .val (.int (4 : Int32)), .val (.int (((((((B i) &&& (255 : Int32)) &&& (7 : Int32)) <<< ((6 : Int32) &&& 31)) ||| (((B (i + 1)) &&& (255 : Int32)) &&& (63 : Int32))) <<< ((6 : Int32) &&& 31)) ||| (((B (i + 2)) &&& (255 : Int32)) &&& (63 : Int32)))), .val (.int (65536 : Int32)), .val (.int ((B (i + 1)) &&& (255 : Int32))), .val (.int ((B (i + 3)) &&& (255 : Int32)))] [(.int (192 : Int32)), (.int ((B (i + 3)) &&& (255 : Int32)))]))
                    refine Go.via (fun t_ k_ => XS.iand H0.here hx rfl (hb hby d1_230) rfl k_) ?_
                    show Go _ _ _ _ (T0.setTop (mkF m 231 #[.val (.ref a), .val (.int p1), .val (.int p2), .val (.int ((B i) &&& (255 : Int32))), .val (.int (4 : Int32)), .val (.int (((((((B i) &&& (255 : Int32)) &&& (7 : Int32)) <<< ((6 : Int32) &&& 31)) ||| (((B (i + 1)) &&& (255 : Int32)) &&& (63 : Int32))) <<< ((6 : Int32) &&& 31)) ||| (((B (i + 2)) &&& (255 : Int32)) &&& (63 : Int32)))), .val (.int (65536 : Int32)), .val (.int ((B (i + 1)) &&& (255 : Int32))), .val (.int ((B (i + 3)) &&& (255 : Int32)))] [(.int (((B (i + 3)) &&& (255 : Int32)) &&& (192 : Int32)))]))
                    refine Go.via (fun t_ k_ => XS.sipush H0.here hx rfl (hb hby d1_231) k_) ?_
                    show Go _ _ _ _ (T0.setTop (mkF m 234 #[.val (.ref a), .val (.int p1), .val (.int p2), .val (.int ((B i) &&& (255 : Int32))), .val (.int (4 : Int32)), .val (.int (((((((B i) &&& (255 : Int32)) &&& (7 : Int32)) <<< ((6 : Int32) &&& 31)) ||| (((B (i + 1)) &&& (255 : Int32)) &&& (63 : Int32))) <<< ((6 : Int32) &&& 31)) ||| (((B (i + 2)) &&& (255 : Int32)) &&& (63 : Int32)))), .val (.int (65536 : Int32)), .val (.int ((B (i + 1)) &&& (255 : Int32))), .val (.int ((B (i + 3)) &&& (255 : Int32)))] [(.int (128 : Int32)), (.int (((B (i + 3)) &&& (255 : Int32)) &&& (192 : Int32)))]))
                    by_cases hc234 : (((B (i + 3)) &&& (255 : Int32)) &&& (192 : Int32)) = (128 : Int32)
                    · refine Go.via (fun t_ k_ => XS.icmpYes H0.here hx rfl (pc0 := 234) (pc' := 239) rfl (hb hby d1_234) rfl ((teq hc234).1) (by decide) (by decide) k_) ?_
                      show Go _ _ _ _ (T0.setTop (mkF m 239 #[.val (.ref a), .val (.int p1), .val (.int p2), .val (.int ((B i) &&& (255 : Int32))), .val (.int (4 : Int32)), .val (.int (((((((B i) &&& (255 : Int32)) &&& (7 : Int32)) <<< ((6 : Int32) &&& 31)) ||| (((B (i + 1)) &&& (255 : Int32)) &&& (63 : Int32))) <<< ((6 : Int32) &&& 31)) ||| (((B (i + 2)) &&& (255 : Int32)) &&& (63 : Int32)))), .val (.int (65536 : Int32)), .val (.int ((B (i + 1)) &&& (255 : Int32))), .val (.int ((B (i + 3)) &&& (255 : Int32)))] []))
                      refine Go.via (fun t_ k_ => XS.iload H0.here hx rfl (hb hby d1_239) rfl k_) ?_
                      show Go _ _ _ _ (T0.setTop (mkF m 241 #[.val (.ref a), .val (.int p1), .val (.int p2), .val (.int ((B i) &&& (255 : Int32))), .val (.int (4 : Int32)), .val (.int (((((((B i) &&& (255 : Int32)) &&& (7 : Int32)) <<< ((6 : Int32) &&& 31)) ||| (((B (i + 1)) &&& (255 : Int32)) &&& (63 : Int32))) <<< ((6 : Int32) &&& 31)) ||| (((B (i + 2)) &&& (255 : Int32)) &&& (63 : Int32)))), .val (.int (65536 : Int32)), .val (.int ((B (i + 1)) &&& (255 : Int32))), .val (.int ((B (i + 3)) &&& (255 : Int32)))] [(.int (((((((B i) &&& (255 : Int32)) &&& (7 : Int32)) <<< ((6 : Int32) &&& 31)) ||| (((B (i + 1)) &&& (255 : Int32)) &&& (63 : Int32))) <<< ((6 : Int32) &&& 31)) ||| (((B (i + 2)) &&& (255 : Int32)) &&& (63 : Int32))))]))
                      refine Go.via (fun t_ k_ => XS.bipush H0.here hx rfl (hb hby d1_241) k_) ?_
                      show Go _ _ _ _ (T0.setTop (mkF m 243 #[.val (.ref a), .val (.int p1), .val (.int p2), .val (.int ((B i) &&& (255 : Int32))), .val (.int (4 : Int32)), .val (.int (((((((B i) &&& (255 : Int32)) &&& (7 : Int32)) <<< ((6 : Int32) &&& 31)) ||| (((B (i + 1)) &&& (255 : Int32)) &&& (63 : Int32))) <<< ((6 : Int32) &&& 31)) ||| (((B (i + 2)) &&& (255 : Int32)) &&& (63 : Int32)))), .val (.int (65536 : Int32)), .val (.int ((B (i + 1)) &&& (255 : Int32))), .val (.int ((B (i + 3)) &&& (255 : Int32)))] [(.int (6 : Int32)), (.int (((((((B i) &&& (255 : Int32)) &&& (7 : Int32)) <<< ((6 : Int32) &&& 31)) ||| (((B (i + 1)) &&& (255 : Int32)) &&& (63 : Int32))) <<< ((6 : Int32) &&& 31)) ||| (((B (i + 2)) &&& (255 : Int32)) &&& (63 : Int32))))]))
                      refine Go.via (fun t_ k_ => XS.ishl H0.here hx rfl (hb hby d1_243) rfl k_) ?_
                      show Go _ _ _ _ (T0.setTop (mkF m 244 #[.val (.ref a), .val (.int p1), .val (.int p2), .val (.int ((B i) &&& (255 : Int32))), .val (.int (4 : Int32)), .val (.int (((((((B i) &&& (255 : Int32)) &&& (7 : Int32)) <<< ((6 : Int32) &&& 31)) ||| (((B (i + 1)) &&& (255 : Int32)) &&& (63 : Int32))) <<< ((6 : Int32) &&& 31)) ||| (((B (i + 2)) &&& (255 : Int32)) &&& (63 : Int32)))), .val (.int (65536 : Int32)), .val (.int ((B (i + 1)) &&& (255 : Int32))), .val (.int ((B (i + 3)) &&& (255 : Int32)))] [(.int ((((((((B i) &&& (255 : Int32)) &&& (7 : Int32)) <<< ((6 : Int32) &&& 31)) ||| (((B (i + 1)) &&& (255 : Int32)) &&& (63 : Int32))) <<< ((6 : Int32) &&& 31)) ||| (((B (i + 2)) &&& (255 : Int32)) &&& (63 : Int32))) <<< ((6 : Int32) &&& 31)))]))
                      refine Go.via (fun t_ k_ => XS.iload H0.here hx rfl (hb hby d1_244) rfl k_) ?_
                      show Go _ _ _ _ (T0.setTop (mkF m 246 #[.val (.ref a), .val (.int p1), .val (.int p2), .val (.int ((B i) &&& (255 : Int32))), .val (.int (4 : Int32)), .val (.int (((((((B i) &&& (255 : Int32)) &&& (7 : Int32)) <<< ((6 : Int32) &&& 31)) ||| (((B (i + 1)) &&& (255 : Int32)) &&& (63 : Int32))) <<< ((6 : Int32) &&& 31)) ||| (((B (i + 2)) &&& (255 : Int32)) &&& (63 : Int32)))), .val (.int (65536 : Int32)), .val (.int ((B (i + 1)) &&& (255 : Int32))), .val (.int ((B (i + 3)) &&& (255 : Int32)))] [(.int ((B (i + 3)) &&& (255 : Int32))), (.int ((((((((B i) &&& (255 : Int32)) &&& (7 : Int32)) <<< ((6 : Int32) &&& 31)) ||| (((B (i + 1)) &&& (255 : Int32)) &&& (63 : Int32))) <<< ((6 : Int32) &&& 31)) ||| (((B (i + 2)) &&& (255 : Int32)) &&& (63 : Int32))) <<< ((6 : Int32) &&& 31)))]))
                      refine Go.via (fun t_ k_ => XS.bipush H0.here hx rfl (hb hby d1_246) k_) ?_
                      show Go _ _ _ _ (T0.setTop (mkF m 248 #[.val (.ref a), .val (.int p1), .val (.int p2), .val (.int ((B i) &&& (255 : Int32))), .val (.int (4 : Int32)), .val (.int (((((((B i) &&& (255 : Int32)) &&& (7 : Int32)) <<< ((6 : Int32) &&& 31)) ||| (((B (i + 1)) &&& (255 : Int32)) &&& (63 : Int32))) <<< ((6 : Int32) &&& 31)) ||| (((B (i + 2)) &&& (255 : Int32)) &&& (63 : Int32)))), .val (.int (65536 : Int32)), .val (.int ((B (i + 1)) &&& (255 : Int32))), .val (.int ((B (i + 3)) &&& (255 : Int32)))] [(.int (63 : Int32)), (.int ((B (i + 3)) &&& (255 : Int32))), (.int ((((((((B i) &&& (255 : Int32)) &&& (7 : Int32)) <<< ((6 : Int32) &&& 31)) ||| (((B (i + 1)) &&& (255 : Int32)) &&& (63 : Int32))) <<< ((6 : Int32) &&& 31)) ||| (((B (i + 2)) &&& (255 : Int32)) &&& (63 : Int32))) <<< ((6 : Int32) &&& 31)))]))
                      refine Go.via (fun t_ k_ => XS.iand H0.here hx rfl (hb hby d1_248) rfl k_) ?_
                      show Go _ _ _ _ (T0.setTop (mkF m 249 #[.val (.ref a), .val (.int p1), .val (.int p2), .val (.int ((B i) &&& (255 : Int32))), .val (.int (4 : Int32)), .val (.int (((((((B i) &&& (255 : Int32)) &&& (7 : Int32)) <<< ((6 : Int32) &&& 31)) ||| (((B (i + 1)) &&& (255 : Int32)) &&& (63 : Int32))) <<< ((6 : Int32) &&& 31)) ||| (((B (i + 2)) &&& (255 : Int32)) &&& (63 : Int32)))), .val (.int (65536 : Int32)), .val (.int ((B (i + 1)) &&& (255 : Int32))), .val (.int ((B (i + 3)) &&& (255 : Int32)))] [(.int (((B (i + 3)) &&& (255 : Int32)) &&& (63 : Int32))), (.int ((((((((B i) &&& (255 : Int32)) &&& (7 : Int32)) <<< ((6 : Int32) &&& 31)) ||| (((B (i + 1)) &&& (255 : Int32)) &&& (63 : Int32))) <<< ((6 : Int32) &&& 31)) ||| (((B (i + 2)) &&& (255 : Int32)) &&& (63 : Int32))) <<< ((6 : Int32) &&& 31)))]))
                      refine Go.via (fun t_ k_ => XS.ior H0.here hx rfl (hb hby d1_249) rfl k_) ?_
                      show Go _ _ _ _ (T0.setTop (mkF m 250 #[.val (.ref a), .val (.int p1), .val (.int p2), .val (.int ((B i) &&& (255 : Int32))), .val (.int (4 : Int32)), .val (.int (((((((B i) &&& (255 : Int32)) &&& (7 : Int32)) <<< ((6 : Int32) &&& 31)) ||| (((B (i + 1)) &&& (255 : Int32)) &&& (63 : Int32))) <<< ((6 : Int32) &&& 31)) ||| (((B (i + 2)) &&& (255 : Int32)) &&& (63 : Int32)))), .val (.int (65536 : Int32)), .val (.int ((B (i + 1)) &&& (255 : Int32))), .val (.int ((B (i + 3)) &&& (255 : Int32)))] [(.int (((((((((B i) &&& (255 : Int32)) &&& (7 : Int32)) <<< ((6 : Int32) &&& 31)) ||| (((B (i + 1)) &&& (255 : Int32)) &&& (63 : Int32))) <<< ((6 : Int32) &&& 31)) ||| (((B (i + 2)) &&& (255 : Int32)) &&& (63 : Int32))) <<< ((6 : Int32) &&& 31)) ||| (((B (i + 3)) &&& (255 : Int32)) &&& (63 : Int32))))]))
                      refine Go.via (fun t_ k_ => XS.istore H0.here hx rfl (hb hby d1_250) rfl (l' := #[.val (.ref a), .val (.int p1), .val (.int p2), .val (.int ((B i) &&& (255 : Int32))), .val (.int (4 : Int32)), .val (.int (((((((((B i) &&& (255 : Int32)) &&& (7 : Int32)) <<< ((6 : Int32) &&& 31)) ||| (((B (i + 1)) &&& (255 : Int32)) &&& (63 : Int32))) <<< ((6 : Int32) &&& 31)) ||| (((B (i + 2)) &&& (255 : Int32)) &&& (63 : Int32))) <<< ((6 : Int32) &&& 31)) ||| (((B (i + 3)) &&& (255 : Int32)) &&& (63 : Int32)))), .val (.int (65536 : Int32)), .val (.int ((B (i + 1)) &&& (255 : Int32))), .val (.int ((B (i + 3)) &&& (255 : Int32)))]) rfl k_) ?_
                      show Go _ _ _ _ (T0.setTop (mkF m 252 #[.val (.ref a), .val (.int p1), .val (.int p2), .val (.int ((B i) &&& (255 : Int32))), .val (.int (4 : Int32)), .val (.int (((((((((B i) &&& (255 : Int32)) &&& (7 : Int32)) <<< ((6 : Int32) &&& 31)) ||| (((B (i + 1)) &&& (255 : Int32)) &&& (63 : Int32))) <<< ((6 : Int32) &&& 31)) ||| (((B (i + 2)) &&& (255 : Int32)) &&& (63 : Int32))) <<< ((6 : Int32) &&& 31)) ||| (((B (i + 3)) &&& (255 : Int32)) &&& (63 : Int32)))), .val (.int (65536 : Int32)), .val (.int ((B (i + 1)) &&& (255 : Int32))), .val (.int ((B (i + 3)) &&& (255 : Int32)))] []))
                      have hcp : (((((((((B i) &&& (255 : Int32)) &&& (7 : Int32)) <<< ((6 : Int32) &&& 31)) ||| (((B (i + 1)) &&& (255 : Int32)) &&& (63 : Int32))) <<< ((6 : Int32) &&& 31)) ||| (((B (i + 2)) &&& (255 : Int32)) &&& (63 : Int32))) <<< ((6 : Int32) &&& 31)) ||| (((B (i + 3)) &&& (255 : Int32)) &&& (63 : Int32))).toInt = ((((((bv B i % 2 ^ 3) * 64 + bv B (i + 1) % 2 ^ 6) * 64 + bv B (i + 2) % 2 ^ 6) * 64 + bv B (i + 3) % 2 ^ 6) : Nat) : Int) := (own_cp (own_cp (own_cp (own_mk (7 : Int32) 3 (by decide) (by decide) e0.1) (by omega) (own_mk (63 : Int32) 6 (by decide) (by decide) e1.1) (by omega)) (by omega) (own_mk (63 : Int32) 6 (by decide) (by decide) e2.1) (by omega)) (by omega) (own_mk (63 : Int32) 6 (by decide) (by decide) e3.1) (by omega))
                      refine Go.via (fun t_ k_ => XS.iload H0.here hx rfl (hb hby d1_252) rfl k_) ?_
                      show Go _ _ _ _ (T0.setTop (mkF m 254 #[.val (.ref a), .val (.int p1), .val (.int p2), .val (.int ((B i) &&& (255 : Int32))), .val (.int (4 : Int32)), .val (.int (((((((((B i) &&& (255 : Int32)) &&& (7 : Int32)) <<< ((6 : Int32) &&& 31)) ||| (((B (i + 1)) &&& (255 : Int32)) &&& (63 : Int32))) <<< ((6 : Int32) &&& 31)) ||| (((B (i + 2)) &&& (255 : Int32)) &&& (63 : Int32))) <<< ((6 : Int32) &&& 31)) ||| (((B (i + 3)) &&& (255 : Int32)) &&& (63 : Int32)))), .val (.int (65536 : Int32)), .val (.int ((B (i + 1)) &&& (255 : Int32))), .val (.int ((B (i + 3)) &&& (255 : Int32)))] [(.int (((((((((B i) &&& (255 : Int32)) &&& (7 : Int32)) <<< ((6 : Int32) &&& 31)) ||| (((B (i + 1)) &&& (255 : Int32)) &&& (63 : Int32))) <<< ((6 : Int32) &&& 31)) ||| (((B (i + 2)) &&& (255 : Int32)) &&& (63 : Int32))) <<< ((6 : Int32) &&& 31)) ||| (((B (i + 3)) &&& (255 : Int32)) &&& (63 : Int32))))]))
                      refine Go.via (fun t_ k_ => XS.iload H0.here hx rfl (hb hby d1_254) rfl k_) ?_
                      show Go _ _ _ _ (T0.setTop (mkF m 256 #[.val (.ref a), .val (.int p1), .val (.int p2), .val (.int ((B i) &&& (255 : Int32))), .val (.int (4 : Int32)), .val (.int (((((((((B i) &&& (255 : Int32)) &&& (7 : Int32)) <<< ((6 : Int32) &&& 31)) ||| (((B (i + 1)) &&& (255 : Int32)) &&& (63 : Int32))) <<< ((6 : Int32) &&& 31)) ||| (((B (i + 2)) &&& (255 : Int32)) &&& (63 : Int32))) <<< ((6 : Int32) &&& 31)) ||| (((B (i + 3)) &&& (255 : Int32)) &&& (63 : Int32)))), .val (.int (65536 : Int32)), .val (.int ((B (i + 1)) &&& (255 : Int32))), .val (.int ((B (i + 3)) &&& (255 : Int32)))] [(.int (65536 : Int32)), (.int (((((((((B i) &&& (255 : Int32)) &&& (7 : Int32)) <<< ((6 : Int32) &&& 31)) ||| (((B (i + 1)) &&& (255 : Int32)) &&& (63 : Int32))) <<< ((6 : Int32) &&& 31)) ||| (((B (i + 2)) &&& (255 : Int32)) &&& (63 : Int32))) <<< ((6 : Int32) &&& 31)) ||| (((B (i + 3)) &&& (255 : Int32)) &&& (63 : Int32))))]))
                      by_cases hc256 : (((((((((B i) &&& (255 : Int32)) &&& (7 : Int32)) <<< ((6 : Int32) &&& 31)) ||| (((B (i + 1)) &&& (255 : Int32)) &&& (63 : Int32))) <<< ((6 : Int32) &&& 31)) ||| (((B (i + 2)) &&& (255 : Int32)) &&& (63 : Int32))) <<< ((6 : Int32) &&& 31)) ||| (((B (i + 3)) &&& (255 : Int32)) &&& (63 : Int32))) < (65536 : Int32)
                      · refine Go.via (fun t_ k_ => XS.icmpYes H0.here hx rfl (pc0 := 256) (pc' := 280) rfl (hb hby d1_256) rfl ((tlt hc256).1) (by decide) (by decide) k_) ?_
                        show Go _ _ _ _ (T0.setTop (mkF m 280 #[.val (.ref a), .val (.int p1), .val (.int p2), .val (.int ((B i) &&& (255 : Int32))), .val (.int (4 : Int32)), .val (.int (((((((((B i) &&& (255 : Int32)) &&& (7 : Int32)) <<< ((6 : Int32) &&& 31)) ||| (((B (i + 1)) &&& (255 : Int32)) &&& (63 : Int32))) <<< ((6 : Int32) &&& 31)) ||| (((B (i + 2)) &&& (255 : Int32)) &&& (63 : Int32))) <<< ((6 : Int32) &&& 31)) ||| (((B (i + 3)) &&& (255 : Int32)) &&& (63 : Int32)))), .val (.int (65536 : Int32)), .val (.int ((B (i + 1)) &&& (255 : Int32))), .val (.int ((B (i + 3)) &&& (255 : Int32)))] []))
                        refine Go.via (fun t_ k_ => XS.iconst H0.here hx rfl (hb hby d1_280) k_) ?_
                        show Go _ _ _ _ (T0.setTop (mkF m 281 #[.val (.ref a), .val (.int p1), .val (.int p2), .val (.int ((B i) &&& (255 : Int32))), .val (.int (4 : Int32)), .val (.int (((((((((B i) &&& (255 : Int32)) &&& (7 : Int32)) <<< ((6 : Int32) &&& 31)) ||| (((B (i + 1)) &&& (255 : Int32)) &&& (63 : Int32))) <<< ((6 : Int32) &&& 31)) ||| (((B (i + 2)) &&& (255 : Int32)) &&& (63 : Int32))) <<< ((6 : Int32) &&& 31)) ||| (((B (i + 3)) &&& (255 : Int32)) &&& (63 : Int32)))), .val (.int (65536 : Int32)), .val (.int ((B (i + 1)) &&& (255 : Int32))), .val (.int ((B (i + 3)) &&& (255 : Int32)))] [(.int (-1 : Int32))]))
                        exact own_retI H0 hx hlk hret (hb hby d1_281) ⟨_, rfl, (by rw [hadv]; rw [own_m80 e0.1 e0.2] at hc24; rw [own_mC0 e0.1 e0.2] at hc39; rw [own_mE0 e0.1 e0.2] at hc67; rw [own_mF0 e0.1 e0.2] at hc95; rw [own_mT e1.1 e1.2] at hc146; rw [own_mT e2.1 e2.2] at hc190; rw [own_mT e3.1 e3.2] at hc234; rw [own_lti (own_sub qt hi (by omega) (by omega)) (m := 4) (by decide)] at hc121; rw [own_lti hcp (m := 65536) (by decide)] at hc256; show (-1 : Int32).toInt = nx B i t; rw [show (-1 : Int32).toInt = -1 from by decide]; have b0 := e0.2; have b1 := e1.2; have b2 := e2.2; have b3 := e3.2; unfold nx; generalize bv B i = n0 at *; generalize bv B (i + 1) = n1 at *; generalize bv B (i + 2) = n2 at *; generalize bv B (i + 3) = n3 at *; unfold nxtI; (repeat' split) <;> omega), rfl⟩ (by decide) (by decide)
                      · refine Go.via (fun t_ k_ => XS.icmpNo H0.here hx rfl (hb hby d1_256) rfl ((flt hc256).1) k_) ?_
                        show Go _ _ _ _ (T0.setTop (mkF m 259 #[.val (.ref a), .val (.int p1), .val (.int p2), .val (.int ((B i) &&& (255 : Int32))), .val (.int (4 : Int32)), .val (.int (((((((((B i) &&& (255 : Int32)) &&& (7 : Int32)) <<< ((6 : Int32) &&& 31)) ||| (((B (i + 1)) &&& (255 : Int32)) &&& (63 : Int32))) <<< ((6 : Int32) &&& 31)) ||| (((B (i + 2)) &&& (255 : Int32)) &&& (63 : Int32))) <<< ((6 : Int32) &&& 31)) ||| (((B (i + 3)) &&& (255 : Int32)) &&& (63 : Int32)))), .val (.int (65536 : Int32)), .val (.int ((B (i + 1)) &&& (255 : Int32))), .val (.int ((B (i + 3)) &&& (255 : Int32)))] []))
                        refine Go.via (fun t_ k_ => XS.iload H0.here hx rfl (hb hby d1_259) rfl k_) ?_
                        show Go _ _ _ _ (T0.setTop (mkF m 261 #[.val (.ref a), .val (.int p1), .val (.int p2), .val (.int ((B i) &&& (255 : Int32))), .val (.int (4 : Int32)), .val (.int (((((((((B i) &&& (255 : Int32)) &&& (7 : Int32)) <<< ((6 : Int32) &&& 31)) ||| (((B (i + 1)) &&& (255 : Int32)) &&& (63 : Int32))) <<< ((6 : Int32) &&& 31)) ||| (((B (i + 2)) &&& (255 : Int32)) &&& (63 : Int32))) <<< ((6 : Int32) &&& 31)) ||| (((B (i + 3)) &&& (255 : Int32)) &&& (63 : Int32)))), .val (.int (65536 : Int32)), .val (.int ((B (i + 1)) &&& (255 : Int32))), .val (.int ((B (i + 3)) &&& (255 : Int32)))] [(.int (((((((((B i) &&& (255 : Int32)) &&& (7 : Int32)) <<< ((6 : Int32) &&& 31)) ||| (((B (i + 1)) &&& (255 : Int32)) &&& (63 : Int32))) <<< ((6 : Int32) &&& 31)) ||| (((B (i + 2)) &&& (255 : Int32)) &&& (63 : Int32))) <<< ((6 : Int32) &&& 31)) ||| (((B (i + 3)) &&& (255 : Int32)) &&& (63 : Int32))))]))
                        refine own_ldcI H0 hx hZ hown (hw _ (List.mem_of_getElem? (i := 9) rfl)) (g := (mkF m 261 #[.val (.ref a), .val (.int p1), .val (.int p2), .val (.int ((B i) &&& (255 : Int32))), .val (.int (4 : Int32)), .val (.int (((((((((B i) &&& (255 : Int32)) &&& (7 : Int32)) <<< ((6 : Int32) &&& 31)) ||| (((B (i + 1)) &&& (255 : Int32)) &&& (63 : Int32))) <<< ((6 : Int32) &&& 31)) ||| (((B (i + 2)) &&& (255 : Int32)) &&& (63 : Int32))) <<< ((6 : Int32) &&& 31)) ||| (((B (i + 3)) &&& (255 : Int32)) &&& (63 : Int32)))), .val (.int (65536 : Int32)), .val (.int ((B (i + 1)) &&& (255 : Int32))), .val (.int ((B (i + 3)) &&& (255 : Int32)))] [(.int (((((((((B i) &&& (255 : Int32)) &&& (7 : Int32)) <<< ((6 : Int32) &&& 31)) ||| (((B (i + 1)) &&& (255 : Int32)) &&& (63 : Int32))) <<< ((6 : Int32) &&& 31)) ||| (((B (i + 2)) &&& (255 : Int32)) &&& (63 : Int32))) <<< ((6 : Int32) &&& 31)) ||| (((B (i + 3)) &&& (255 : Int32)) &&& (63 : Int32))))])) rfl (hb hby d1_261) ?_
                        show Go _ _ _ _ (T0.setTop (mkF m 263 #[.val (.ref a), .val (.int p1), .val (.int p2), .val (.int ((B i) &&& (255 : Int32))), .val (.int (4 : Int32)), .val (.int (((((((((B i) &&& (255 : Int32)) &&& (7 : Int32)) <<< ((6 : Int32) &&& 31)) ||| (((B (i + 1)) &&& (255 : Int32)) &&& (63 : Int32))) <<< ((6 : Int32) &&& 31)) ||| (((B (i + 2)) &&& (255 : Int32)) &&& (63 : Int32))) <<< ((6 : Int32) &&& 31)) ||| (((B (i + 3)) &&& (255 : Int32)) &&& (63 : Int32)))), .val (.int (65536 : Int32)), .val (.int ((B (i + 1)) &&& (255 : Int32))), .val (.int ((B (i + 3)) &&& (255 : Int32)))] [(.int (1114111 : Int32)), (.int (((((((((B i) &&& (255 : Int32)) &&& (7 : Int32)) <<< ((6 : Int32) &&& 31)) ||| (((B (i + 1)) &&& (255 : Int32)) &&& (63 : Int32))) <<< ((6 : Int32) &&& 31)) ||| (((B (i + 2)) &&& (255 : Int32)) &&& (63 : Int32))) <<< ((6 : Int32) &&& 31)) ||| (((B (i + 3)) &&& (255 : Int32)) &&& (63 : Int32))))]))
                        by_cases hc263 : (1114111 : Int32) < (((((((((B i) &&& (255 : Int32)) &&& (7 : Int32)) <<< ((6 : Int32) &&& 31)) ||| (((B (i + 1)) &&& (255 : Int32)) &&& (63 : Int32))) <<< ((6 : Int32) &&& 31)) ||| (((B (i + 2)) &&& (255 : Int32)) &&& (63 : Int32))) <<< ((6 : Int32) &&& 31)) ||| (((B (i + 3)) &&& (255 : Int32)) &&& (63 : Int32)))
                        · refine Go.via (fun t_ k_ => XS.icmpYes H0.here hx rfl (pc0 := 263) (pc' := 280) rfl (hb hby d1_263) rfl ((tlt hc263).2.2.1) (by decide) (by decide) k_) ?_
                          show Go _ _ _ _ (T0.setTop (mkF m 280 #[.val (.ref a), .val (.int p1), .val (.int p2), .val (.int ((B i) &&& (255 : Int32))), .val (.int (4 : Int32)), .val (.int (((((((((B i) &&& (255 : Int32)) &&& (7 : Int32)) <<< ((6 : Int32) &&& 31)) ||| (((B (i + 1)) &&& (255 : Int32)) &&& (63 : Int32))) <<< ((6 : Int32) &&& 31)) ||| (((B (i + 2)) &&& (255 : Int32)) &&& (63 : Int32))) <<< ((6 : Int32) &&& 31)) ||| (((B (i + 3)) &&& (255 : Int32)) &&& (63 : Int32)))), .val (.int (65536 : Int32)), .val (.int ((B (i + 1)) &&& (255 : Int32))), .val (.int ((B (i + 3)) &&& (255 : Int32)))] []))
                          refine Go.via (fun t_ k_ => XS.iconst H0.here hx rfl (hb hby d1_280) k_) ?_
                          show Go _ _ _ _ (T0.setTop (mkF m 281 #[.val (.ref a), .val (.int p1), .val (.int p2), .val (.int ((B i) &&& (255 : Int32))), .val (.int (4 : Int32)), .val (.int (((((((((B i) &&& (255 : Int32)) &&& (7 : Int32)) <<< ((6 : Int32) &&& 31)) ||| (((B (i + 1)) &&& (255 : Int32)) &&& (63 : Int32))) <<< ((6 : Int32) &&& 31)) ||| (((B (i + 2)) &&& (255 : Int32)) &&& (63 : Int32))) <<< ((6 : Int32) &&& 31)) ||| (((B (i + 3)) &&& (255 : Int32)) &&& (63 : Int32)))), .val (.int (65536 : Int32)), .val (.int ((B (i + 1)) &&& (255 : Int32))), .val (.int ((B (i + 3)) &&& (255 : Int32)))] [(.int (-1 : Int32))]))
                          exact own_retI H0 hx hlk hret (hb hby d1_281) ⟨_, rfl, (by rw [hadv]; rw [own_m80 e0.1 e0.2] at hc24; rw [own_mC0 e0.1 e0.2] at hc39; rw [own_mE0 e0.1 e0.2] at hc67; rw [own_mF0 e0.1 e0.2] at hc95; rw [own_mT e1.1 e1.2] at hc146; rw [own_mT e2.1 e2.2] at hc190; rw [own_mT e3.1 e3.2] at hc234; rw [own_lti (own_sub qt hi (by omega) (by omega)) (m := 4) (by decide)] at hc121; rw [own_lti hcp (m := 65536) (by decide)] at hc256; rw [own_lti (n := 1114111) (by decide) hcp] at hc263; show (-1 : Int32).toInt = nx B i t; rw [show (-1 : Int32).toInt = -1 from by decide]; have b0 := e0.2; have b1 := e1.2; have b2 := e2.2; have b3 := e3.2; unfold nx; generalize bv B i = n0 at *; generalize bv B (i + 1) = n1 at *; generalize bv B (i + 2) = n2 at *; generalize bv B (i + 3) = n3 at *; unfold nxtI; (repeat' split) <;> omega), rfl⟩ (by decide) (by decide)
                        · refine Go.via (fun t_ k_ => XS.icmpNo H0.here hx rfl (hb hby d1_263) rfl ((flt hc263).2.2.1) k_) ?_
                          show Go _ _ _ _ (T0.setTop (mkF m 266 #[.val (.ref a), .val (.int p1), .val (.int p2), .val (.int ((B i) &&& (255 : Int32))), .val (.int (4 : Int32)), .val (.int (((((((((B i) &&& (255 : Int32)) &&& (7 : Int32)) <<< ((6 : Int32) &&& 31)) ||| (((B (i + 1)) &&& (255 : Int32)) &&& (63 : Int32))) <<< ((6 : Int32) &&& 31)) ||| (((B (i + 2)) &&& (255 : Int32)) &&& (63 : Int32))) <<< ((6 : Int32) &&& 31)) ||| (((B (i + 3)) &&& (255 : Int32)) &&& (63 : Int32)))), .val (.int (65536 : Int32)), .val (.int ((B (i + 1)) &&& (255 : Int32))), .val (.int ((B (i + 3)) &&& (255 : Int32)))] []))
                          refine Go.via (fun t_ k_ => XS.iload H0.here hx rfl (hb hby d1_266) rfl k_) ?_
                          show Go _ _ _ _ (T0.setTop (mkF m 268 #[.val (.ref a), .val (.int p1), .val (.int p2), .val (.int ((B i) &&& (255 : Int32))), .val (.int (4 : Int32)), .val (.int (((((((((B i) &&& (255 : Int32)) &&& (7 : Int32)) <<< ((6 : Int32) &&& 31)) ||| (((B (i + 1)) &&& (255 : Int32)) &&& (63 : Int32))) <<< ((6 : Int32) &&& 31)) ||| (((B (i + 2)) &&& (255 : Int32)) &&& (63 : Int32))) <<< ((6 : Int32) &&& 31)) ||| (((B (i + 3)) &&& (255 : Int32)) &&& (63 : Int32)))), .val (.int (65536 : Int32)), .val (.int ((B (i + 1)) &&& (255 : Int32))), .val (.int ((B (i + 3)) &&& (255 : Int32)))] [(.int (((((((((B i) &&& (255 : Int32)) &&& (7 : Int32)) <<< ((6 : Int32) &&& 31)) ||| (((B (i + 1)) &&& (255 : Int32)) &&& (63 : Int32))) <<< ((6 : Int32) &&& 31)) ||| (((B (i + 2)) &&& (255 : Int32)) &&& (63 : Int32))) <<< ((6 : Int32) &&& 31)) ||| (((B (i + 3)) &&& (255 : Int32)) &&& (63 : Int32))))]))
                          refine own_ldcI H0 hx hZ hown (hw _ (List.mem_of_getElem? (i := 10) rfl)) (g := (mkF m 268 #[.val (.ref a), .val (.int p1), .val (.int p2), .val (.int ((B i) &&& (255 : Int32))), .val (.int (4 : Int32)), .val (.int (((((((((B i) &&& (255 : Int32)) &&& (7 : Int32)) <<< ((6 : Int32) &&& 31)) ||| (((B (i + 1)) &&& (255 : Int32)) &&& (63 : Int32))) <<< ((6 : Int32) &&& 31)) ||| (((B (i + 2)) &&& (255 : Int32)) &&& (63 : Int32))) <<< ((6 : Int32) &&& 31)) ||| (((B (i + 3)) &&& (255 : Int32)) &&& (63 : Int32)))), .val (.int (65536 : Int32)), .val (.int ((B (i + 1)) &&& (255 : Int32))), .val (.int ((B (i + 3)) &&& (255 : Int32)))] [(.int (((((((((B i) &&& (255 : Int32)) &&& (7 : Int32)) <<< ((6 : Int32) &&& 31)) ||| (((B (i + 1)) &&& (255 : Int32)) &&& (63 : Int32))) <<< ((6 : Int32) &&& 31)) ||| (((B (i + 2)) &&& (255 : Int32)) &&& (63 : Int32))) <<< ((6 : Int32) &&& 31)) ||| (((B (i + 3)) &&& (255 : Int32)) &&& (63 : Int32))))])) rfl (hb hby d1_268) ?_
                          show Go _ _ _ _ (T0.setTop (mkF m 270 #[.val (.ref a), .val (.int p1), .val (.int p2), .val (.int ((B i) &&& (255 : Int32))), .val (.int (4 : Int32)), .val (.int (((((((((B i) &&& (255 : Int32)) &&& (7 : Int32)) <<< ((6 : Int32) &&& 31)) ||| (((B (i + 1)) &&& (255 : Int32)) &&& (63 : Int32))) <<< ((6 : Int32) &&& 31)) ||| (((B (i + 2)) &&& (255 : Int32)) &&& (63 : Int32))) <<< ((6 : Int32) &&& 31)) ||| (((B (i + 3)) &&& (255 : Int32)) &&& (63 : Int32)))), .val (.int (65536 : Int32)), .val (.int ((B (i + 1)) &&& (255 : Int32))), .val (.int ((B (i + 3)) &&& (255 : Int32)))] [(.int (55296 : Int32)), (.int (((((((((B i) &&& (255 : Int32)) &&& (7 : Int32)) <<< ((6 : Int32) &&& 31)) ||| (((B (i + 1)) &&& (255 : Int32)) &&& (63 : Int32))) <<< ((6 : Int32) &&& 31)) ||| (((B (i + 2)) &&& (255 : Int32)) &&& (63 : Int32))) <<< ((6 : Int32) &&& 31)) ||| (((B (i + 3)) &&& (255 : Int32)) &&& (63 : Int32))))]))
                          by_cases hc270 : (((((((((B i) &&& (255 : Int32)) &&& (7 : Int32)) <<< ((6 : Int32) &&& 31)) ||| (((B (i + 1)) &&& (255 : Int32)) &&& (63 : Int32))) <<< ((6 : Int32) &&& 31)) ||| (((B (i + 2)) &&& (255 : Int32)) &&& (63 : Int32))) <<< ((6 : Int32) &&& 31)) ||| (((B (i + 3)) &&& (255 : Int32)) &&& (63 : Int32))) < (55296 : Int32)
                          · refine Go.via (fun t_ k_ => XS.icmpYes H0.here hx rfl (pc0 := 270) (pc' := 282) rfl (hb hby d1_270) rfl ((tlt hc270).1) (by decide) (by decide) k_) ?_
                            show Go _ _ _ _ (T0.setTop (mkF m 282 #[.val (.ref a), .val (.int p1), .val (.int p2), .val (.int ((B i) &&& (255 : Int32))), .val (.int (4 : Int32)), .val (.int (((((((((B i) &&& (255 : Int32)) &&& (7 : Int32)) <<< ((6 : Int32) &&& 31)) ||| (((B (i + 1)) &&& (255 : Int32)) &&& (63 : Int32))) <<< ((6 : Int32) &&& 31)) ||| (((B (i + 2)) &&& (255 : Int32)) &&& (63 : Int32))) <<< ((6 : Int32) &&& 31)) ||| (((B (i + 3)) &&& (255 : Int32)) &&& (63 : Int32)))), .val (.int (65536 : Int32)), .val (.int ((B (i + 1)) &&& (255 : Int32))), .val (.int ((B (i + 3)) &&& (255 : Int32)))] []))
                            refine Go.via (fun t_ k_ => XS.iloadN H0.here hx rfl (hb hby d1_282) rfl k_) ?_
                            show Go _ _ _ _ (T0.setTop (mkF m 283 #[.val (.ref a), .val (.int p1), .val (.int p2), .val (.int ((B i) &&& (255 : Int32))), .val (.int (4 : Int32)), .val (.int (((((((((B i) &&& (255 : Int32)) &&& (7 : Int32)) <<< ((6 : Int32) &&& 31)) ||| (((B (i + 1)) &&& (255 : Int32)) &&& (63 : Int32))) <<< ((6 : Int32) &&& 31)) ||| (((B (i + 2)) &&& (255 : Int32)) &&& (63 : Int32))) <<< ((6 : Int32) &&& 31)) ||| (((B (i + 3)) &&& (255 : Int32)) &&& (63 : Int32)))), .val (.int (65536 : Int32)), .val (.int ((B (i + 1)) &&& (255 : Int32))), .val (.int ((B (i + 3)) &&& (255 : Int32)))] [(.int p1)]))
                            refine Go.via (fun t_ k_ => XS.iload H0.here hx rfl (hb hby d1_283) rfl k_) ?_
                            show Go _ _ _ _ (T0.setTop (mkF m 285 #[.val (.ref a), .val (.int p1), .val (.int p2), .val (.int ((B i) &&& (255 : Int32))), .val (.int (4 : Int32)), .val (.int (((((((((B i) &&& (255 : Int32)) &&& (7 : Int32)) <<< ((6 : Int32) &&& 31)) ||| (((B (i + 1)) &&& (255 : Int32)) &&& (63 : Int32))) <<< ((6 : Int32) &&& 31)) ||| (((B (i + 2)) &&& (255 : Int32)) &&& (63 : Int32))) <<< ((6 : Int32) &&& 31)) ||| (((B (i + 3)) &&& (255 : Int32)) &&& (63 : Int32)))), .val (.int (65536 : Int32)), .val (.int ((B (i + 1)) &&& (255 : Int32))), .val (.int ((B (i + 3)) &&& (255 : Int32)))] [(.int (4 : Int32)), (.int p1)]))
                            refine Go.via (fun t_ k_ => XS.iadd H0.here hx rfl (hb hby d1_285) rfl k_) ?_
                            show Go _ _ _ _ (T0.setTop (mkF m 286 #[.val (.ref a), .val (.int p1), .val (.int p2), .val (.int ((B i) &&& (255 : Int32))), .val (.int (4 : Int32)), .val (.int (((((((((B i) &&& (255 : Int32)) &&& (7 : Int32)) <<< ((6 : Int32) &&& 31)) ||| (((B (i + 1)) &&& (255 : Int32)) &&& (63 : Int32))) <<< ((6 : Int32) &&& 31)) ||| (((B (i + 2)) &&& (255 : Int32)) &&& (63 : Int32))) <<< ((6 : Int32) &&& 31)) ||| (((B (i + 3)) &&& (255 : Int32)) &&& (63 : Int32)))), .val (.int (65536 : Int32)), .val (.int ((B (i + 1)) &&& (255 : Int32))), .val (.int ((B (i + 3)) &&& (255 : Int32)))] [(.int (p1 + (4 : Int32)))]))
                            exact own_retI H0 hx hlk hret (hb hby d1_286) ⟨_, rfl, (by rw [hadv]; rw [own_m80 e0.1 e0.2] at hc24; rw [own_mC0 e0.1 e0.2] at hc39; rw [own_mE0 e0.1 e0.2] at hc67; rw [own_mF0 e0.1 e0.2] at hc95; rw [own_mT e1.1 e1.2] at hc146; rw [own_mT e2.1 e2.2] at hc190; rw [own_mT e3.1 e3.2] at hc234; rw [own_lti (own_sub qt hi (by omega) (by omega)) (m := 4) (by decide)] at hc121; rw [own_lti hcp (m := 65536) (by decide)] at hc256; rw [own_lti (n := 1114111) (by decide) hcp] at hc263; rw [own_lti hcp (m := 55296) (by decide)] at hc270; rw [own_ix (4 : Int32) 4 hi (by decide) (by omega) (by decide)]; have b0 := e0.2; have b1 := e1.2; have b2 := e2.2; have b3 := e3.2; unfold nx; generalize bv B i = n0 at *; generalize bv B (i + 1) = n1 at *; generalize bv B (i + 2) = n2 at *; generalize bv B (i + 3) = n3 at *; unfold nxtI; (repeat' split) <;> omega), rfl⟩ (by decide) (by decide)
                          · refine Go.via (fun t_ k_ => XS.icmpNo H0.here hx rfl (hb hby d1_270) rfl ((flt hc270).1) k_) ?_
                            show Go _ _ _ _ (T0.setTop (mkF m 273 #[.val (.ref a), .val (.int p1), .val (.int p2), .val (.int ((B i) &&& (255 : Int32))), .val (.int (4 : Int32)), .val (.int (((((((((B i) &&& (255 : Int32)) &&& (7 : Int32)) <<< ((6 : Int32) &&& 31)) ||| (((B (i + 1)) &&& (255 : Int32)) &&& (63 : Int32))) <<< ((6 : Int32) &&& 31)) ||| (((B (i + 2)) &&& (255 : Int32)) &&& (63 : Int32))) <<< ((6 : Int32) &&& 31)) ||| (((B (i + 3)) &&& (255 : Int32)) &&& (63 : Int32)))), .val (.int (65536 : Int32)), .val (.int ((B (i + 1)) &&& (255 : Int32))), .val (.int ((B (i + 3)) &&& (255 : Int32)))] []))
                            refine Go.via (fun t_ k_ => XS.iload H0.here hx rfl (hb hby d1_273) rfl k_) ?_
                            show Go _ _ _ _ (T0.setTop (mkF m 275 #[.val (.ref a), .val (.int p1), .val (.int p2), .val (.int ((B i) &&& (255 : Int32))), .val (.int (4 : Int32)), .val (.int (((((((((B i) &&& (255 : Int32)) &&& (7 : Int32)) <<< ((6 : Int32) &&& 31)) ||| (((B (i + 1)) &&& (255 : Int32)) &&& (63 : Int32))) <<< ((6 : Int32) &&& 31)) ||| (((B (i + 2)) &&& (255 : Int32)) &&& (63 : Int32))) <<< ((6 : Int32) &&& 31)) ||| (((B (i + 3)) &&& (255 : Int32)) &&& (63 : Int32)))), .val (.int (65536 : Int32)), .val (.int ((B (i + 1)) &&& (255 : Int32))), .val (.int ((B (i + 3)) &&& (255 : Int32)))] [(.int (((((((((B i) &&& (255 : Int32)) &&& (7 : Int32)) <<< ((6 : Int32) &&& 31)) ||| (((B (i + 1)) &&& (255 : Int32)) &&& (63 : Int32))) <<< ((6 : Int32) &&& 31)) ||| (((B (i + 2)) &&& (255 : Int32)) &&& (63 : Int32))) <<< ((6 : Int32) &&& 31)) ||| (((B (i + 3)) &&& (255 : Int32)) &&& (63 : Int32))))]))
                            refine own_ldcI H0 hx hZ hown (hw _ (List.mem_of_getElem? (i := 12) rfl)) (g := (mkF m 275 #[.val (.ref a), .val (.int p1), .val (.int p2), .val (.int ((B i) &&& (255 : Int32))), .val (.int (4 : Int32)), .val (.int (((((((((B i) &&& (255 : Int32)) &&& (7 : Int32)) <<< ((6 : Int32) &&& 31)) ||| (((B (i + 1)) &&& (255 : Int32)) &&& (63 : Int32))) <<< ((6 : Int32) &&& 31)) ||| (((B (i + 2)) &&& (255 : Int32)) &&& (63 : Int32))) <<< ((6 : Int32) &&& 31)) ||| (((B (i + 3)) &&& (255 : Int32)) &&& (63 : Int32)))), .val (.int (65536 : Int32)), .val (.int ((B (i + 1)) &&& (255 : Int32))), .val (.int ((B (i + 3)) &&& (255 : Int32)))] [(.int (((((((((B i) &&& (255 : Int32)) &&& (7 : Int32)) <<< ((6 : Int32) &&& 31)) ||| (((B (i + 1)) &&& (255 : Int32)) &&& (63 : Int32))) <<< ((6 : Int32) &&& 31)) ||| (((B (i + 2)) &&& (255 : Int32)) &&& (63 : Int32))) <<< ((6 : Int32) &&& 31)) ||| (((B (i + 3)) &&& (255 : Int32)) &&& (63 : Int32))))])) rfl (hb hby d1_275) ?_
                            show Go _ _ _ _ (T0.setTop (mkF m 277 #[.val (.ref a), .val (.int p1), .val (.int p2), .val (.int ((B i) &&& (255 : Int32))), .val (.int (4 : Int32)), .val (.int (((((((((B i) &&& (255 : Int32)) &&& (7 : Int32)) <<< ((6 : Int32) &&& 31)) ||| (((B (i + 1)) &&& (255 : Int32)) &&& (63 : Int32))) <<< ((6 : Int32) &&& 31)) ||| (((B (i + 2)) &&& (255 : Int32)) &&& (63 : Int32))) <<< ((6 : Int32) &&& 31)) ||| (((B (i + 3)) &&& (255 : Int32)) &&& (63 : Int32)))), .val (.int (65536 : Int32)), .val (.int ((B (i + 1)) &&& (255 : Int32))), .val (.int ((B (i + 3)) &&& (255 : Int32)))] [(.int (57343 : Int32)), (.int (((((((((B i) &&& (255 : Int32)) &&& (7 : Int32)) <<< ((6 : Int32) &&& 31)) ||| (((B (i + 1)) &&& (255 : Int32)) &&& (63 : Int32))) <<< ((6 : Int32) &&& 31)) ||| (((B (i + 2)) &&& (255 : Int32)) &&& (63 : Int32))) <<< ((6 : Int32) &&& 31)) ||| (((B (i + 3)) &&& (255 : Int32)) &&& (63 : Int32))))]))
                            by_cases hc277 : (57343 : Int32) < (((((((((B i) &&& (255 : Int32)) &&& (7 : Int32)) <<< ((6 : Int32) &&& 31)) ||| (((B (i + 1)) &&& (255 : Int32)) &&& (63 : Int32))) <<< ((6 : Int32) &&& 31)) ||| (((B (i + 2)) &&& (255 : Int32)) &&& (63 : Int32))) <<< ((6 : Int32) &&& 31)) ||| (((B (i + 3)) &&& (255 : Int32)) &&& (63 : Int32)))
                            · refine Go.via (fun t_ k_ => XS.icmpYes H0.here hx rfl (pc0 := 277) (pc' := 282) rfl (hb hby d1_277) rfl ((tlt hc277).2.2.1) (by decide) (by decide) k_) ?_
                              show Go _ _ _ _ (T0.setTop (mkF m 282 #[.val (.ref a), .val (.int p1), .val (.int p2), .val (.int ((B i) &&& (255 : Int32))), .val (.int (4 : Int32)), .val (.int (((((((((B i) &&& (255 : Int32)) &&& (7 : Int32)) <<< ((6 : Int32) &&& 31)) ||| (((B (i + 1)) &&& (255 : Int32)) &&& (63 : Int32))) <<< ((6 : Int32) &&& 31)) ||| (((B (i + 2)) &&& (255 : Int32)) &&& (63 : Int32))) <<< ((6 : Int32) &&& 31)) ||| (((B (i + 3)) &&& (255 : Int32)) &&& (63 : Int32)))), .val (.int (65536 : Int32)), .val (.int ((B (i + 1)) &&& (255 : Int32))), .val (.int ((B (i + 3)) &&& (255 : Int32)))] []))
                              refine Go.via (fun t_ k_ => XS.iloadN H0.here hx rfl (hb hby d1_282) rfl k_) ?_
                              show Go _ _ _ _ (T0.setTop (mkF m 283 #[.val (.ref a), .val (.int p1), .val (.int p2), .val (.int ((B i) &&& (255 : Int32))), .val (.int (4 : Int32)), .val (.int (((((((((B i) &&& (255 : Int32)) &&& (7 : Int32)) <<< ((6 : Int32) &&& 31)) ||| (((B (i + 1)) &&& (255 : Int32)) &&& (63 : Int32))) <<< ((6 : Int32) &&& 31)) ||| (((B (i + 2)) &&& (255 : Int32)) &&& (63 : Int32))) <<< ((6 : Int32) &&& 31)) ||| (((B (i + 3)) &&& (255 : Int32)) &&& (63 : Int32)))), .val (.int (65536 : Int32)), .val (.int ((B (i + 1)) &&& (255 : Int32))), .val (.int ((B (i + 3)) &&& (255 : Int32)))] [(.int p1)]))
                              refine Go.via (fun t_ k_ => XS.iload H0.here hx rfl (hb hby d1_283) rfl k_) ?_
                              show Go _ _ _ _ (T0.setTop (mkF m 285 #[.val (.ref a), .val (.int p1), .val (.int p2), .val (.int ((B i) &&& (255 : Int32))), .val (.int (4 : Int32)), .val (.int (((((((((B i) &&& (255 : Int32)) &&& (7 : Int32)) <<< ((6 : Int32) &&& 31)) ||| (((B (i + 1)) &&& (255 : Int32)) &&& (63 : Int32))) <<< ((6 : Int32) &&& 31)) ||| (((B (i + 2)) &&& (255 : Int32)) &&& (63 : Int32))) <<< ((6 : Int32) &&& 31)) ||| (((B (i + 3)) &&& (255 : Int32)) &&& (63 : Int32)))), .val (.int (65536 : Int32)), .val (.int ((B (i + 1)) &&& (255 : Int32))), .val (.int ((B (i + 3)) &&& (255 : Int32)))] [(.int (4 : Int32)), (.int p1)]))
                              refine Go.via (fun t_ k_ => XS.iadd H0.here hx rfl (hb hby d1_285) rfl k_) ?_
                              show Go _ _ _ _ (T0.setTop (mkF m 286 #[.val (.ref a), .val (.int p1), .val (.int p2), .val (.int ((B i) &&& (255 : Int32))), .val (.int (4 : Int32)), .val (.int (((((((((B i) &&& (255 : Int32)) &&& (7 : Int32)) <<< ((6 : Int32) &&& 31)) ||| (((B (i + 1)) &&& (255 : Int32)) &&& (63 : Int32))) <<< ((6 : Int32) &&& 31)) ||| (((B (i + 2)) &&& (255 : Int32)) &&& (63 : Int32))) <<< ((6 : Int32) &&& 31)) ||| (((B (i + 3)) &&& (255 : Int32)) &&& (63 : Int32)))), .val (.int (65536 : Int32)), .val (.int ((B (i + 1)) &&& (255 : Int32))), .val (.int ((B (i + 3)) &&& (255 : Int32)))] [(.int (p1 + (4 : Int32)))]))
                              exact own_retI H0 hx hlk hret (hb hby d1_286) ⟨_, rfl, (by rw [hadv]; rw [own_m80 e0.1 e0.2] at hc24; rw [own_mC0 e0.1 e0.2] at hc39; rw [own_mE0 e0.1 e0.2] at hc67; rw [own_mF0 e0.1 e0.2] at hc95; rw [own_mT e1.1 e1.2] at hc146; rw [own_mT e2.1 e2.2] at hc190; rw [own_mT e3.1 e3.2] at hc234; rw [own_lti (own_sub qt hi (by omega) (by omega)) (m := 4) (by decide)] at hc121; rw [own_lti hcp (m := 65536) (by decide)] at hc256; rw [own_lti (n := 1114111) (by decide) hcp] at hc263; rw [own_lti hcp (m := 55296) (by decide)] at hc270; rw [own_lti (n := 57343) (by decide) hcp] at hc277; rw [own_ix (4 : Int32) 4 hi (by decide) (by omega) (by decide)]; have b0 := e0.2; have b1 := e1.2; have b2 := e2.2; have b3 := e3.2; unfold nx; generalize bv B i = n0 at *; generalize bv B (i + 1) = n1 at *; generalize bv B (i + 2) = n2 at *; generalize bv B (i + 3) = n3 at *; unfold nxtI; (repeat' split) <;> omega), rfl⟩ (by decide) (by decide)
                            · refine Go.via (fun t_ k_ => XS.icmpNo H0.here hx rfl (hb hby d1_277) rfl ((flt hc277).2.2.1) k_) ?_
                              show Go _ _ _ _ (T0.setTop (mkF m 280 #[.val (.ref a), .val (.int p1), .val (.int p2), .val (.int ((B i) &&& (255 : Int32))), .val (.int (4 : Int32)), .val (.int (((((((((B i) &&& (255 : Int32)) &&& (7 : Int32)) <<< ((6 : Int32) &&& 31)) ||| (((B (i + 1)) &&& (255 : Int32)) &&& (63 : Int32))) <<< ((6 : Int32) &&& 31)) ||| (((B (i + 2)) &&& (255 : Int32)) &&& (63 : Int32))) <<< ((6 : Int32) &&& 31)) ||| (((B (i + 3)) &&& (255 : Int32)) &&& (63 : Int32)))), .val (.int (65536 : Int32)), .val (.int ((B (i + 1)) &&& (255 : Int32))), .val (.int ((B (i + 3)) &&& (255 : Int32)))] []))
                              refine Go.via (fun t_ k_ => XS.iconst H0.here hx rfl (hb hby d1_280) k_) ?_
                              show Go _ _ _ _ (T0.setTop (mkF m 281 #[.val (.ref a), .val (.int p1), .val (.int p2), .val (.int ((B i) &&& (255 : Int32))), .val (.int (4 : Int32)), .val (.int (((((((((B i) &&& (255 : Int32)) &&& (7 : Int32)) <<< ((6 : Int32) &&& 31)) ||| (((B (i + 1)) &&& (255 : Int32)) &&& (63 : Int32))) <<< ((6 : Int32) &&& 31)) ||| (((B (i + 2)) &&& (255 : Int32)) &&& (63 : Int32))) <<< ((6 : Int32) &&& 31)) ||| (((B (i + 3)) &&& (255 : Int32)) &&& (63 : Int32)))), .val (.int (65536 : Int32)), .val (.int ((B (i + 1)) &&& (255 : Int32))), .val (.int ((B (i + 3)) &&& (255 : Int32)))] [(.int (-1 : Int32))]))
                              exact own_retI H0 hx hlk hret (hb hby d1_281) ⟨_, rfl, (by rw [hadv]; rw [own_m80 e0.1 e0.2] at hc24; rw [own_mC0 e0.1 e0.2] at hc39; rw [own_mE0 e0.1 e0.2] at hc67; rw [own_mF0 e0.1 e0.2] at hc95; rw [own_mT e1.1 e1.2] at hc146; rw [own_mT e2.1 e2.2] at hc190; rw [own_mT e3.1 e3.2] at hc234; rw [own_lti (own_sub qt hi (by omega) (by omega)) (m := 4) (by decide)] at hc121; rw [own_lti hcp (m := 65536) (by decide)] at hc256; rw [own_lti (n := 1114111) (by decide) hcp] at hc263; rw [own_lti hcp (m := 55296) (by decide)] at hc270; rw [own_lti (n := 57343) (by decide) hcp] at hc277; show (-1 : Int32).toInt = nx B i t; rw [show (-1 : Int32).toInt = -1 from by decide]; have b0 := e0.2; have b1 := e1.2; have b2 := e2.2; have b3 := e3.2; unfold nx; generalize bv B i = n0 at *; generalize bv B (i + 1) = n1 at *; generalize bv B (i + 2) = n2 at *; generalize bv B (i + 3) = n3 at *; unfold nxtI; (repeat' split) <;> omega), rfl⟩ (by decide) (by decide)
                    · refine Go.via (fun t_ k_ => XS.icmpNo H0.here hx rfl (hb hby d1_234) rfl ((feq hc234).1) k_) ?_
                      show Go _ _ _ _ (T0.setTop (mkF m 237 #[.val (.ref a), .val (.int p1), .val (.int p2), .val (.int ((B i) &&& (255 : Int32))), .val (.int (4 : Int32)), .val (.int (((((((B i) &&& (255 : Int32)) &&& (7 : Int32)) <<< ((6 : Int32) &&& 31)) ||| (((B (i + 1)) &&& (255 : Int32)) &&& (63 : Int32))) <<< ((6 : Int32) &&& 31)) ||| (((B (i + 2)) &&& (255 : Int32)) &&& (63 : Int32)))), .val (.int (65536 : Int32)), .val (.int ((B (i + 1)) &&& (255 : Int32))), .val (.int ((B (i + 3)) &&& (255 : Int32)))] []))
                      refine Go.via (fun t_ k_ => XS.iconst H0.here hx rfl (hb hby d1_237) k_) ?_
                      show Go _ _ _ _ (T0.setTop (mkF m 238 #[.val (.ref a), .val (.int p1), .val (.int p2), .val (.int ((B i) &&& (255 : Int32))), .val (.int (4 : Int32)), .val (.int (((((((B i) &&& (255 : Int32)) &&& (7 : Int32)) <<< ((6 : Int32) &&& 31)) ||| (((B (i + 1)) &&& (255 : Int32)) &&& (63 : Int32))) <<< ((6 : Int32) &&& 31)) ||| (((B (i + 2)) &&& (255 : Int32)) &&& (63 : Int32)))), .val (.int (65536 : Int32)), .val (.int ((B (i + 1)) &&& (255 : Int32))), .val (.int ((B (i + 3)) &&& (255 : Int32)))] [(.int (-1 : Int32))]))
                      exact own_retI H0 hx hlk hret (hb hby d1_238) ⟨_, rfl, (by rw [hadv]; rw [own_m80 e0.1 e0.2] at hc24; rw [own_mC0 e0.1 e0.2] at hc39; rw [own_mE0 e0.1 e0.2] at hc67; rw [own_mF0 e0.1 e0.2] at hc95; rw [own_mT e1.1 e1.2] at hc146; rw [own_mT e2.1 e2.2] at hc190; rw [own_mT e3.1 e3.2] at hc234; rw [own_lti (own_sub qt hi (by omega) (by omega)) (m := 4) (by decide)] at hc121; show (-1 : Int32).toInt = nx B i t; rw [show (-1 : Int32).toInt = -1 from by decide]; have b0 := e0.2; have b1 := e1.2; have b2 := e2.2; have b3 := e3.2; unfold nx; generalize bv B i = n0 at *; generalize bv B (i + 1) = n1 at *; generalize bv B (i + 2) = n2 at *; generalize bv B (i + 3) = n3 at *; unfold nxtI; (repeat' split) <;> omega), rfl⟩ (by decide) (by decide)
                  · refine Go.via (fun t_ k_ => XS.icmpNo H0.here hx rfl (hb hby d1_190) rfl ((feq hc190).1) k_) ?_
                    show Go _ _ _ _ (T0.setTop (mkF m 193 #[.val (.ref a), .val (.int p1), .val (.int p2), .val (.int ((B i) &&& (255 : Int32))), .val (.int (4 : Int32)), .val (.int (((((B i) &&& (255 : Int32)) &&& (7 : Int32)) <<< ((6 : Int32) &&& 31)) ||| (((B (i + 1)) &&& (255 : Int32)) &&& (63 : Int32)))), .val (.int (65536 : Int32)), .val (.int ((B (i + 1)) &&& (255 : Int32))), .val (.int ((B (i + 2)) &&& (255 : Int32)))] []))
                    refine Go.via (fun t_ k_ => XS.iconst H0.here hx rfl (hb hby d1_193) k_) ?_
                    show Go _ _ _ _ (T0.setTop (mkF m 194 #[.val (.ref a), .val (.int p1), .val (.int p2), .val (.int ((B i) &&& (255 : Int32))), .val (.int (4 : Int32)), .val (.int (((((B i) &&& (255 : Int32)) &&& (7 : Int32)) <<< ((6 : Int32) &&& 31)) ||| (((B (i + 1)) &&& (255 : Int32)) &&& (63 : Int32)))), .val (.int (65536 : Int32)), .val (.int ((B (i + 1)) &&& (255 : Int32))), .val (.int ((B (i + 2)) &&& (255 : Int32)))] [(.int (-1 : Int32))]))
                    exact own_retI H0 hx hlk hret (hb hby d1_194) ⟨_, rfl, (by rw [hadv]; rw [own_m80 e0.1 e0.2] at hc24; rw [own_mC0 e0.1 e0.2] at hc39; rw [own_mE0 e0.1 e0.2] at hc67; rw [own_mF0 e0.1 e0.2] at hc95; rw [own_mT e1.1 e1.2] at hc146; rw [own_mT e2.1 e2.2] at hc190; rw [own_lti (own_sub qt hi (by omega) (by omega)) (m := 4) (by decide)] at hc121; show (-1 : Int32).toInt = nx B i t; rw [show (-1 : Int32).toInt = -1 from by decide]; have b0 := e0.2; have b1 := e1.2; have b2 := e2.2; have b3 := e3.2; unfold nx; generalize bv B i = n0 at *; generalize bv B (i + 1) = n1 at *; generalize bv B (i + 2) = n2 at *; generalize bv B (i + 3) = n3 at *; unfold nxtI; (repeat' split) <;> omega), rfl⟩ (by decide) (by decide)
                · refine Go.via (fun t_ k_ => XS.icmpNo H0.here hx rfl (hb hby d1_146) rfl ((feq hc146).1) k_) ?_
                  show Go _ _ _ _ (T0.setTop (mkF m 149 #[.val (.ref a), .val (.int p1), .val (.int p2), .val (.int ((B i) &&& (255 : Int32))), .val (.int (4 : Int32)), .val (.int (((B i) &&& (255 : Int32)) &&& (7 : Int32))), .val (.int (65536 : Int32)), .val (.int ((B (i + 1)) &&& (255 : Int32))), .unset] []))
                  refine Go.via (fun t_ k_ => XS.iconst H0.here hx rfl (hb hby d1_149) k_) ?_
                  show Go _ _ _ _ (T0.setTop (mkF m 150 #[.val (.ref a), .val (.int p1), .val (.int p2), .val (.int ((B i) &&& (255 : Int32))), .val (.int (4 : Int32)), .val (.int (((B i) &&& (255 : Int32)) &&& (7 : Int32))), .val (.int (65536 : Int32)), .val (.int ((B (i + 1)) &&& (255 : Int32))), .unset] [(.int (-1 : Int32))]))
                  exact own_retI H0 hx hlk hret (hb hby d1_150) ⟨_, rfl, (by rw [hadv]; rw [own_m80 e0.1 e0.2] at hc24; rw [own_mC0 e0.1 e0.2] at hc39; rw [own_mE0 e0.1 e0.2] at hc67; rw [own_mF0 e0.1 e0.2] at hc95; rw [own_mT e1.1 e1.2] at hc146; rw [own_lti (own_sub qt hi (by omega) (by omega)) (m := 4) (by decide)] at hc121; show (-1 : Int32).toInt = nx B i t; rw [show (-1 : Int32).toInt = -1 from by decide]; have b0 := e0.2; have b1 := e1.2; have b2 := e2.2; have b3 := e3.2; unfold nx; generalize bv B i = n0 at *; generalize bv B (i + 1) = n1 at *; generalize bv B (i + 2) = n2 at *; generalize bv B (i + 3) = n3 at *; unfold nxtI; (repeat' split) <;> omega), rfl⟩ (by decide) (by decide)
            · refine Go.via (fun t_ k_ => XS.icmpYes H0.here hx rfl (pc0 := 95) (pc' := 114) rfl (hb hby d1_95) rfl ((feq hc95).2) (by decide) (by decide) k_) ?_
              show Go _ _ _ _ (T0.setTop (mkF m 114 #[.val (.ref a), .val (.int p1), .val (.int p2), .val (.int ((B i) &&& (255 : Int32))), .unset, .unset, .unset, .unset, .unset] []))
              refine Go.via (fun t_ k_ => XS.iconst H0.here hx rfl (hb hby d1_114) k_) ?_
              show Go _ _ _ _ (T0.setTop (mkF m 115 #[.val (.ref a), .val (.int p1), .val (.int p2), .val (.int ((B i) &&& (255 : Int32))), .unset, .unset, .unset, .unset, .unset] [(.int (-1 : Int32))]))
              exact own_retI H0 hx hlk hret (hb hby d1_115) ⟨_, rfl, (by rw [hadv]; rw [own_m80 e0.1 e0.2] at hc24; rw [own_mC0 e0.1 e0.2] at hc39; rw [own_mE0 e0.1 e0.2] at hc67; rw [own_mF0 e0.1 e0.2] at hc95; show (-1 : Int32).toInt = nx B i t; rw [show (-1 : Int32).toInt = -1 from by decide]; have b0 := e0.2; have b1 := e1.2; have b2 := e2.2; have b3 := e3.2; unfold nx; generalize bv B i = n0 at *; generalize bv B (i + 1) = n1 at *; generalize bv B (i + 2) = n2 at *; generalize bv B (i + 3) = n3 at *; unfold nxtI; (repeat' split) <;> omega), rfl⟩ (by decide) (by decide)
    · refine Go.via (fun t_ k_ => XS.icmpNo H0.here hx rfl (hb hby d1_6) rfl ((flt hc6).1) k_) ?_
      show Go _ _ _ _ (T0.setTop (mkF m 9 #[.val (.ref a), .val (.int p1), .val (.int p2), .unset, .unset, .unset, .unset, .unset, .unset] []))
      refine Go.via (fun t_ k_ => XS.iloadN H0.here hx rfl (hb hby d1_9) rfl k_) ?_
      show Go _ _ _ _ (T0.setTop (mkF m 10 #[.val (.ref a), .val (.int p1), .val (.int p2), .unset, .unset, .unset, .unset, .unset, .unset] [(.int p1)]))
      exact own_retI H0 hx hlk hret (hb hby d1_10) ⟨p1, rfl, (by unfold advI; rw [Int32.lt_iff_toInt_lt] at *; have z0 : (0 : Int32).toInt = 0 := rfl; rw [if_pos (by omega)]), rfl⟩ (by decide) (by decide)
theorem d2_0 : decode prog_212_method_16_code 0 = .ok (.iload_n 1, 1) := by decide +kernel
theorem d2_1 : decode prog_212_method_16_code 1 = .ok (.istore_n 3, 1) := by decide +kernel
theorem d2_2 : decode prog_212_method_16_code 2 = .ok (.iload_n 3, 1) := by decide +kernel
theorem d2_3 : decode prog_212_method_16_code 3 = .ok (.iload_n 2, 1) := by decide +kernel
theorem d2_4 : decode prog_212_method_16_code 4 = .ok (.if_icmp .ge 259, 3) := by decide +kernel
theorem d2_7 : decode prog_212_method_16_code 7 = .ok (.aload_n 0, 1) := by decide +kernel
theorem d2_8 : decode prog_212_method_16_code 8 = .ok (.iload_n 3, 1) := by decide +kernel
theorem d2_9 : decode prog_212_method_16_code 9 = .ok (.baload, 1) := by decide +kernel
theorem d2_10 : decode prog_212_method_16_code 10 = .ok (.sipush 255, 3) := by decide +kernel
theorem d2_13 : decode prog_212_method_16_code 13 = .ok (.iand, 1) := by decide +kernel
theorem d2_14 : decode prog_212_method_16_code 14 = .ok (.istore 4, 2) := by decide +kernel
theorem d2_16 : decode prog_212_method_16_code 16 = .ok (.iload 4, 2) := by decide +kernel
theorem d2_18 : decode prog_212_method_16_code 18 = .ok (.sipush 128, 3) := by decide +kernel
theorem d2_21 : decode prog_212_method_16_code 21 = .ok (.if_icmp .ge 9, 3) := by decide +kernel
theorem d2_24 : decode prog_212_method_16_code 24 = .ok (.iinc 3 1, 3) := by decide +kernel
theorem d2_27 : decode prog_212_method_16_code 27 = .ok (.goto (-25), 3) := by decide +kernel
theorem d2_30 : decode prog_212_method_16_code 30 = .ok (.sipush 128, 3) := by decide +kernel
theorem d2_33 : decode prog_212_method_16_code 33 = .ok (.istore 6, 2) := by decide +kernel
theorem d2_35 : decode prog_212_method_16_code 35 = .ok (.sipush 191, 3) := by decide +kernel
theorem d2_38 : decode prog_212_method_16_code 38 = .ok (.istore 7, 2) := by decide +kernel
theorem d2_40 : decode prog_212_method_16_code 40 = .ok (.iload 4, 2) := by decide +kernel
theorem d2_42 : decode prog_212_method_16_code 42 = .ok (.sipush 194, 3) := by decide +kernel
theorem d2_45 : decode prog_212_method_16_code 45 = .ok (.if_icmp .lt 17, 3) := by decide +kernel
theorem d2_48 : decode prog_212_method_16_code 48 = .ok (.iload 4, 2) := by decide +kernel
theorem d2_50 : decode prog_212_method_16_code 50 = .ok (.sipush 223, 3) := by decide +kernel
theorem d2_53 : decode prog_212_method_16_code 53 = .ok (.if_icmp .gt 9, 3) := by decide +kernel
theorem d2_56 : decode prog_212_method_16_code 56 = .ok (.iconst 2, 1) := by decide +kernel
theorem d2_57 : decode prog_212_method_16_code 57 = .ok (.istore 5, 2) := by decide +kernel
theorem d2_59 : decode prog_212_method_16_code 59 = .ok (.goto 125, 3) := by decide +kernel
theorem d2_62 : decode prog_212_method_16_code 62 = .ok (.iload 4, 2) := by decide +kernel
theorem d2_64 : decode prog_212_method_16_code 64 = .ok (.sipush 224, 3) := by decide +kernel
theorem d2_67 : decode prog_212_method_16_code 67 = .ok (.if_icmp .lt 55, 3) := by decide +kernel
theorem d2_70 : decode prog_212_method_16_code 70 = .ok (.iload 4, 2) := by decide +kernel
theorem d2_72 : decode prog_212_method_16_code 72 = .ok (.sipush 239, 3) := by decide +kernel
theorem d2_75 : decode prog_212_method_16_code 75 = .ok (.if_icmp .gt 47, 3) := by decide +kernel
theorem d2_78 : decode prog_212_method_16_code 78 = .ok (.iconst 3, 1) := by decide +kernel
theorem d2_79 : decode prog_212_method_16_code 79 = .ok (.istore 5, 2) := by decide +kernel
theorem d2_81 : decode prog_212_method_16_code 81 = .ok (.iload 4, 2) := by decide +kernel
theorem d2_83 : decode prog_212_method_16_code 83 = .ok (.sipush 224, 3) := by decide +kernel
theorem d2_86 : decode prog_212_method_16_code 86 = .ok (.if_icmp .ne 9, 3) := by decide +kernel
theorem d2_89 : decode prog_212_method_16_code 89 = .ok (.sipush 160, 3) := by decide +kernel
theorem d2_92 : decode prog_212_method_16_code 92 = .ok (.goto 6, 3) := by decide +kernel
theorem d2_95 : decode prog_212_method_16_code 95 = .ok (.sipush 128, 3) := by decide +kernel
theorem d2_98 : decode prog_212_method_16_code 98 = .ok (.istore 6, 2) := by decide +kernel
theorem d2_100 : decode prog_212_method_16_code 100 = .ok (.iload 4, 2) := by decide +kernel
theorem d2_102 : decode prog_212_method_16_code 102 = .ok (.sipush 237, 3) := by decide +kernel
theorem d2_105 : decode prog_212_method_16_code 105 = .ok (.if_icmp .ne 9, 3) := by decide +kernel
theorem d2_108 : decode prog_212_method_16_code 108 = .ok (.sipush 159, 3) := by decide +kernel
theorem d2_111 : decode prog_212_method_16_code 111 = .ok (.goto 6, 3) := by decide +kernel
theorem d2_114 : decode prog_212_method_16_code 114 = .ok (.sipush 191, 3) := by decide +kernel
theorem d2_117 : decode prog_212_method_16_code 117 = .ok (.istore 7, 2) := by decide +kernel
theorem d2_119 : decode prog_212_method_16_code 119 = .ok (.goto 65, 3) := by decide +kernel
theorem d2_122 : decode prog_212_method_16_code 122 = .ok (.iload 4, 2) := by decide +kernel
theorem d2_124 : decode prog_212_method_16_code 124 = .ok (.sipush 240, 3) := by decide +kernel
theorem d2_127 : decode prog_212_method_16_code 127 = .ok (.if_icmp .lt 55, 3) := by decide +kernel
theorem d2_130 : decode prog_212_method_16_code 130 = .ok (.iload 4, 2) := by decide +kernel
theorem d2_132 : decode prog_212_method_16_code 132 = .ok (.sipush 244, 3) := by decide +kernel
theorem d2_135 : decode prog_212_method_16_code 135 = .ok (.if_icmp .gt 47, 3) := by decide +kernel
theorem d2_138 : decode prog_212_method_16_code 138 = .ok (.iconst 4, 1) := by decide +kernel
theorem d2_139 : decode prog_212_method_16_code 139 = .ok (.istore 5, 2) := by decide +kernel
theorem d2_141 : decode prog_212_method_16_code 141 = .ok (.iload 4, 2) := by decide +kernel
theorem d2_143 : decode prog_212_method_16_code 143 = .ok (.sipush 240, 3) := by decide +kernel
theorem d2_146 : decode prog_212_method_16_code 146 = .ok (.if_icmp .ne 9, 3) := by decide +kernel
theorem d2_149 : decode prog_212_method_16_code 149 = .ok (.sipush 144, 3) := by decide +kernel
theorem d2_152 : decode prog_212_method_16_code 152 = .ok (.goto 6, 3) := by decide +kernel
theorem d2_155 : decode prog_212_method_16_code 155 = .ok (.sipush 128, 3) := by decide +kernel
theorem d2_158 : decode prog_212_method_16_code 158 = .ok (.istore 6, 2) := by decide +kernel
theorem d2_160 : decode prog_212_method_16_code 160 = .ok (.iload 4, 2) := by decide +kernel
theorem d2_162 : decode prog_212_method_16_code 162 = .ok (.sipush 244, 3) := by decide +kernel
theorem d2_165 : decode prog_212_method_16_code 165 = .ok (.if_icmp .ne 9, 3) := by decide +kernel
theorem d2_168 : decode prog_212_method_16_code 168 = .ok (.sipush 143, 3) := by decide +kernel
theorem d2_171 : decode prog_212_method_16_code 171 = .ok (.goto 6, 3) := by decide +kernel
theorem d2_174 : decode prog_212_method_16_code 174 = .ok (.sipush 191, 3) := by decide +kernel
theorem d2_177 : decode prog_212_method_16_code 177 = .ok (.istore 7, 2) := by decide +kernel
theorem d2_179 : decode prog_212_method_16_code 179 = .ok (.goto 5, 3) := by decide +kernel
theorem d2_182 : decode prog_212_method_16_code 182 = .ok (.iconst 0, 1) := by decide +kernel
theorem d2_183 : decode prog_212_method_16_code 183 = .ok (.ireturn, 1) := by decide +kernel
theorem d2_184 : decode prog_212_method_16_code 184 = .ok (.iload_n 2, 1) := by decide +kernel
theorem d2_185 : decode prog_212_method_16_code 185 = .ok (.iload_n 3, 1) := by decide +kernel
theorem d2_186 : decode prog_212_method_16_code 186 = .ok (.isub, 1) := by decide +kernel
theorem d2_187 : decode prog_212_method_16_code 187 = .ok (.iload 5, 2) := by decide +kernel
theorem d2_189 : decode prog_212_method_16_code 189 = .ok (.if_icmp .ge 5, 3) := by decide +kernel
theorem d2_192 : decode prog_212_method_16_code 192 = .ok (.iconst 0, 1) := by decide +kernel
theorem d2_193 : decode prog_212_method_16_code 193 = .ok (.ireturn, 1) := by decide +kernel
theorem d2_194 : decode prog_212_method_16_code 194 = .ok (.aload_n 0, 1) := by decide +kernel
theorem d2_195 : decode prog_212_method_16_code 195 = .ok (.iload_n 3, 1) := by decide +kernel
theorem d2_196 : decode prog_212_method_16_code 196 = .ok (.iconst 1, 1) := by decide +kernel
theorem d2_197 : decode prog_212_method_16_code 197 = .ok (.iadd, 1) := by decide +kernel
theorem d2_198 : decode prog_212_method_16_code 198 = .ok (.baload, 1) := by decide +kernel
theorem d2_199 : decode prog_212_method_16_code 199 = .ok (.sipush 255, 3) := by decide +kernel
theorem d2_202 : decode prog_212_method_16_code 202 = .ok (.iand, 1) := by decide +kernel
theorem d2_203 : decode prog_212_method_16_code 203 = .ok (.istore 8, 2) := by decide +kernel
theorem d2_205 : decode prog_212_method_16_code 205 = .ok (.iload 8, 2) := by decide +kernel
theorem d2_207 : decode prog_212_method_16_code 207 = .ok (.iload 6, 2) := by decide +kernel
theorem d2_209 : decode prog_212_method_16_code 209 = .ok (.if_icmp .lt 10, 3) := by decide +kernel
theorem d2_212 : decode prog_212_method_16_code 212 = .ok (.iload 8, 2) := by decide +kernel
theorem d2_214 : decode prog_212_method_16_code 214 = .ok (.iload 7, 2) := by decide +kernel
theorem d2_216 : decode prog_212_method_16_code 216 = .ok (.if_icmp .le 5, 3) := by decide +kernel
theorem d2_219 : decode prog_212_method_16_code 219 = .ok (.iconst 0, 1) := by decide +kernel
theorem d2_220 : decode prog_212_method_16_code 220 = .ok (.ireturn, 1) := by decide +kernel
theorem d2_221 : decode prog_212_method_16_code 221 = .ok (.iconst 2, 1) := by decide +kernel
theorem d2_222 : decode prog_212_method_16_code 222 = .ok (.istore 9, 2) := by decide +kernel
theorem d2_224 : decode prog_212_method_16_code 224 = .ok (.iload 9, 2) := by decide +kernel
theorem d2_226 : decode prog_212_method_16_code 226 = .ok (.iload 5, 2) := by decide +kernel
theorem d2_228 : decode prog_212_method_16_code 228 = .ok (.if_icmp .ge 27, 3) := by decide +kernel
theorem d2_231 : decode prog_212_method_16_code 231 = .ok (.aload_n 0, 1) := by decide +kernel
theorem d2_232 : decode prog_212_method_16_code 232 = .ok (.iload_n 3, 1) := by decide +kernel
theorem d2_233 : decode prog_212_method_16_code 233 = .ok (.iload 9, 2) := by decide +kernel
theorem d2_235 : decode prog_212_method_16_code 235 = .ok (.iadd, 1) := by decide +kernel
theorem d2_236 : decode prog_212_method_16_code 236 = .ok (.baload, 1) := by decide +kernel
theorem d2_237 : decode prog_212_method_16_code 237 = .ok (.sipush 192, 3) := by decide +kernel
theorem d2_240 : decode prog_212_method_16_code 240 = .ok (.iand, 1) := by decide +kernel
theorem d2_241 : decode prog_212_method_16_code 241 = .ok (.sipush 128, 3) := by decide +kernel
theorem d2_244 : decode prog_212_method_16_code 244 = .ok (.if_icmp .eq 5, 3) := by decide +kernel
theorem d2_247 : decode prog_212_method_16_code 247 = .ok (.iconst 0, 1) := by decide +kernel
theorem d2_248 : decode prog_212_method_16_code 248 = .ok (.ireturn, 1) := by decide +kernel
theorem d2_249 : decode prog_212_method_16_code 249 = .ok (.iinc 9 1, 3) := by decide +kernel
theorem d2_252 : decode prog_212_method_16_code 252 = .ok (.goto (-28), 3) := by decide +kernel
theorem d2_255 : decode prog_212_method_16_code 255 = .ok (.iload_n 3, 1) := by decide +kernel
theorem d2_256 : decode prog_212_method_16_code 256 = .ok (.iload 5, 2) := by decide +kernel
theorem d2_258 : decode prog_212_method_16_code 258 = .ok (.iadd, 1) := by decide +kernel
theorem d2_259 : decode prog_212_method_16_code 259 = .ok (.istore_n 3, 1) := by decide +kernel
theorem d2_260 : decode prog_212_method_16_code 260 = .ok (.goto (-258), 3) := by decide +kernel
theorem d2_263 : decode prog_212_method_16_code 263 = .ok (.iconst 1, 1) := by decide +kernel
theorem d2_264 : decode prog_212_method_16_code 264 = .ok (.ireturn, 1) := by decide +kernel
theorem ef_rmUtf (m : MethodId) (x0 : Addr) (x1 : Int32) (x2 : Int32) : entryFrame m #[(.ref x0), (.int x1), (.int x2)] 10 = mkF m 0 #[.val (.ref x0), .val (.int x1), .val (.int x2), .unset, .unset, .unset, .unset, .unset, .unset, .unset] [] := by first | (simp [entryFrame, mkF, argsToLocals, Value.category]; done) | rfl
set_option maxRecDepth 65536 in
set_option maxHeartbeats 40000000 in
theorem rmUtf (l : Launch) (Z : State) (a0 : Array Value) (hw : ∀ d ∈ tables_1, d.before a0 Z = true) (a : Addr) (B : Nat → Int32) (F G : Int32) (f t : Nat) (h0 : Heap) (n0 : Nat) (A : Ab Z h0 a .byte 8 B) (qf : F.toInt = (f : Int)) (qt : G.toInt = (t : Int)) (hft : f ≤ t) (ht : t ≤ 8) :
    CM l Z (⟨"com/example/perekaz/perekaz/TextLines", "isUtf8", "([BII)Z"⟩ : MethodName) prog_212_method_16_code 10 (some .boolean) ({ frames := 0, cells := 0, slots := 0, locals := 0 } : Room) #[(.ref a), (.int F), (.int G)] h0 n0 (fun v h => v = some (.int (if okk B t (t - f) f = true then 1 else 0)) ∧ h0 = h) := by
  refine own_enter (by decide +kernel) ?_
  intro p e s m below meth c T0 hx hby hml hown hnm hZ hret hlk H0
  replace hown : s.vm.findClass "com/example/perekaz/perekaz/TextLines" = some m.cls := hown
  replace hret : meth.sig.returnType = some .boolean := hret
  refine Go.via (fun t_ k_ => castTop (ef_rmUtf m a F G) k_) ?_
  have loop : ∀ (k i : Nat) (I : Int32) (s4 s5 s6 s7 s8 s9 : Slot) (Tj : State), I.toInt = (i : Int) → i ≤ t → t - i ≤ k → okk B t k i = okk B t (t - f) f → One s4 → One s5 → One s6 → One s7 → One s8 → One s9 → Here p l e ({ frames := 0, cells := 0, slots := 0, locals := 0 } : Room) s m #[(.ref a), (.int F), (.int G)] below meth c n0 Tj h0 0 0 → Go p e below (Fini below s n0 (fun v h => v = some (.int (if okk B t (t - f) f = true then 1 else 0)) ∧ h0 = h) ({ frames := 0, cells := 0, slots := 0, locals := 0 } : Room).cells ({ frames := 0, cells := 0, slots := 0, locals := 0 } : Room).slots) (Tj.setTop (mkF m 2 #[.val (.ref a), .val (.int F), .val (.int G), .val (.int I), s4, s5, s6, s7, s8, s9] [])) := by
    intro k
    induction k with
    | zero =>
      intro i I s4 s5 s6 s7 s8 s9 Tj hI hi hk hok o4 o5 o6 o7 o8 o9 Hj
      refine Go.via (fun t_ k_ => XS.iloadN Hj.here hx rfl (hb hby d2_2) rfl k_) ?_
      show Go _ _ _ _ (Tj.setTop (mkF m 3 #[.val (.ref a), .val (.int F), .val (.int G), .val (.int I), s4, s5, s6, s7, s8, s9] [(.int I)]))
      refine Go.via (fun t_ k_ => XS.iloadN Hj.here hx rfl (hb hby d2_3) rfl k_) ?_
      show Go _ _ _ _ (Tj.setTop (mkF m 4 #[.val (.ref a), .val (.int F), .val (.int G), .val (.int I), s4, s5, s6, s7, s8, s9] [(.int G), (.int I)]))
      refine Go.via (fun t_ k_ => XS.icmpYes Hj.here hx rfl (pc0 := 4) (pc' := 263) rfl (hb hby d2_4) rfl ((flt (show ¬ (I < G) from (fun q => absurd ((own_lti hI qt).mp q) (by omega)))).2.1) (by decide) (by decide) k_) ?_
      show Go _ _ _ _ (Tj.setTop (mkF m 263 #[.val (.ref a), .val (.int F), .val (.int G), .val (.int I), s4, s5, s6, s7, s8, s9] []))
      refine Go.via (fun t_ k_ => XS.iconst Hj.here hx rfl (hb hby d2_263) k_) ?_
      show Go _ _ _ _ (Tj.setTop (mkF m 264 #[.val (.ref a), .val (.int F), .val (.int G), .val (.int I), s4, s5, s6, s7, s8, s9] [(.int (1 : Int32))]))
      exact own_retN Hj hx hlk (by simp) hret (hb hby d2_264) ⟨by rw [← hok]; rfl, rfl⟩ (by decide) (by decide)
    | succ k ih =>
      intro i I s4 s5 s6 s7 s8 s9 Tj hI hi hk hok o4 o5 o6 o7 o8 o9 Hj
      by_cases hit : i < t
      · have e0 := own_bv B i
        have e1 := own_bv B (i + 1)
        have e2 := own_bv B (i + 2)
        have e3 := own_bv B (i + 3)
        have J184_2 : ∀ (Tl : State) (lo hi' : Int32) (l' h' : Nat), Here p l e ({ frames := 0, cells := 0, slots := 0, locals := 0 } : Room) s m #[(.ref a), (.int F), (.int G)] below meth c n0 Tl h0 0 0 → (lo.toInt = (l' : Int)) → (hi'.toInt = (h' : Int)) → (nx B i t = if i + 2 ≤ t ∧ l' ≤ bv B (i + 1) ∧ bv B (i + 1) ≤ h' then ((i + 2 : Nat) : Int) else -1) → Go p e below (Fini below s n0 (fun v h => v = some (.int (if okk B t (t - f) f = true then 1 else 0)) ∧ h0 = h) ({ frames := 0, cells := 0, slots := 0, locals := 0 } : Room).cells ({ frames := 0, cells := 0, slots := 0, locals := 0 } : Room).slots) (Tl.setTop (mkF m 184 #[.val (.ref a), .val (.int F), .val (.int G), .val (.int I), .val (.int ((B i) &&& (255 : Int32))), .val (.int (2 : Int32)), .val (.int lo), .val (.int hi'), s8, s9] [])) := by
          intro Tl lo hi' l' h' Hj ql qh hnx
          show Go _ _ _ _ (Tl.setTop (mkF m 184 #[.val (.ref a), .val (.int F), .val (.int G), .val (.int I), .val (.int ((B i) &&& (255 : Int32))), .val (.int (2 : Int32)), .val (.int lo), .val (.int hi'), s8, s9] []))
          refine Go.via (fun t_ k_ => XS.iloadN Hj.here hx rfl (hb hby d2_184) rfl k_) ?_
          show Go _ _ _ _ (Tl.setTop (mkF m 185 #[.val (.ref a), .val (.int F), .val (.int G), .val (.int I), .val (.int ((B i) &&& (255 : Int32))), .val (.int (2 : Int32)), .val (.int lo), .val (.int hi'), s8, s9] [(.int G)]))
          refine Go.via (fun t_ k_ => XS.iloadN Hj.here hx rfl (hb hby d2_185) rfl k_) ?_
          show Go _ _ _ _ (Tl.setTop (mkF m 186 #[.val (.ref a), .val (.int F), .val (.int G), .val (.int I), .val (.int ((B i) &&& (255 : Int32))), .val (.int (2 : Int32)), .val (.int lo), .val (.int hi'), s8, s9] [(.int I), (.int G)]))
          refine Go.via (fun t_ k_ => XS.isub Hj.here hx rfl (hb hby d2_186) rfl k_) ?_
          show Go _ _ _ _ (Tl.setTop (mkF m 187 #[.val (.ref a), .val (.int F), .val (.int G), .val (.int I), .val (.int ((B i) &&& (255 : Int32))), .val (.int (2 : Int32)), .val (.int lo), .val (.int hi'), s8, s9] [(.int (G - I))]))
          refine Go.via (fun t_ k_ => XS.iload Hj.here hx rfl (hb hby d2_187) rfl k_) ?_
          show Go _ _ _ _ (Tl.setTop (mkF m 189 #[.val (.ref a), .val (.int F), .val (.int G), .val (.int I), .val (.int ((B i) &&& (255 : Int32))), .val (.int (2 : Int32)), .val (.int lo), .val (.int hi'), s8, s9] [(.int (2 : Int32)), (.int (G - I))]))
          by_cases hc189 : (G - I) < (2 : Int32)
          · refine Go.via (fun t_ k_ => XS.icmpNo Hj.here hx rfl (hb hby d2_189) rfl ((tlt hc189).2.1) k_) ?_
            show Go _ _ _ _ (Tl.setTop (mkF m 192 #[.val (.ref a), .val (.int F), .val (.int G), .val (.int I), .val (.int ((B i) &&& (255 : Int32))), .val (.int (2 : Int32)), .val (.int lo), .val (.int hi'), s8, s9] []))
            refine Go.via (fun t_ k_ => XS.iconst Hj.here hx rfl (hb hby d2_192) k_) ?_
            show Go _ _ _ _ (Tl.setTop (mkF m 193 #[.val (.ref a), .val (.int F), .val (.int G), .val (.int I), .val (.int ((B i) &&& (255 : Int32))), .val (.int (2 : Int32)), .val (.int lo), .val (.int hi'), s8, s9] [(.int (0 : Int32))]))
            exact own_retN Hj hx hlk (by simp) hret (hb hby d2_193) ⟨by rw [← hok, own_okN hit (by rw [hnx]; rw [own_lti (own_sub qt hI (by omega) (by omega)) (m := 2) (by decide)] at hc189; rw [if_neg (by omega)])]; rfl, rfl⟩ (by decide) (by decide)
          · refine Go.via (fun t_ k_ => XS.icmpYes Hj.here hx rfl (pc0 := 189) (pc' := 194) rfl (hb hby d2_189) rfl ((flt hc189).2.1) (by decide) (by decide) k_) ?_
            show Go _ _ _ _ (Tl.setTop (mkF m 194 #[.val (.ref a), .val (.int F), .val (.int G), .val (.int I), .val (.int ((B i) &&& (255 : Int32))), .val (.int (2 : Int32)), .val (.int lo), .val (.int hi'), s8, s9] []))
            have hl : ¬ (t - i < 2) := fun q => hc189 ((own_lti (own_sub qt hI (by omega) (by omega)) (m := 2) (by decide)).mpr q)
            refine Go.via (fun t_ k_ => XS.aloadN Hj.here hx rfl (hb hby d2_194) rfl rfl k_) ?_
            show Go _ _ _ _ (Tl.setTop (mkF m 195 #[.val (.ref a), .val (.int F), .val (.int G), .val (.int I), .val (.int ((B i) &&& (255 : Int32))), .val (.int (2 : Int32)), .val (.int lo), .val (.int hi'), s8, s9] [(.ref a)]))
            refine Go.via (fun t_ k_ => XS.iloadN Hj.here hx rfl (hb hby d2_195) rfl k_) ?_
            show Go _ _ _ _ (Tl.setTop (mkF m 196 #[.val (.ref a), .val (.int F), .val (.int G), .val (.int I), .val (.int ((B i) &&& (255 : Int32))), .val (.int (2 : Int32)), .val (.int lo), .val (.int hi'), s8, s9] [(.int I), (.ref a)]))
            refine Go.via (fun t_ k_ => XS.iconst Hj.here hx rfl (hb hby d2_196) k_) ?_
            show Go _ _ _ _ (Tl.setTop (mkF m 197 #[.val (.ref a), .val (.int F), .val (.int G), .val (.int I), .val (.int ((B i) &&& (255 : Int32))), .val (.int (2 : Int32)), .val (.int lo), .val (.int hi'), s8, s9] [(.int (1 : Int32)), (.int I), (.ref a)]))
            refine Go.via (fun t_ k_ => XS.iadd Hj.here hx rfl (hb hby d2_197) rfl k_) ?_
            show Go _ _ _ _ (Tl.setTop (mkF m 198 #[.val (.ref a), .val (.int F), .val (.int G), .val (.int I), .val (.int ((B i) &&& (255 : Int32))), .val (.int (2 : Int32)), .val (.int lo), .val (.int hi'), s8, s9] [(.int (I + (1 : Int32))), (.ref a)]))
            refine own_ldBA Hj hx hZ A (j := (i + 1)) (own_ix (1 : Int32) 1 hI (by decide) (by omega) (by decide)) (by omega) (g := (mkF m 198 #[.val (.ref a), .val (.int F), .val (.int G), .val (.int I), .val (.int ((B i) &&& (255 : Int32))), .val (.int (2 : Int32)), .val (.int lo), .val (.int hi'), s8, s9] [(.int (I + (1 : Int32))), (.ref a)])) rfl rfl (hb hby d2_198) ?_
            show Go _ _ _ _ (Tl.setTop (mkF m 199 #[.val (.ref a), .val (.int F), .val (.int G), .val (.int I), .val (.int ((B i) &&& (255 : Int32))), .val (.int (2 : Int32)), .val (.int lo), .val (.int hi'), s8, s9] [(.int (B (i + 1)))]))
            refine Go.via (fun t_ k_ => XS.sipush Hj.here hx rfl (hb hby d2_199) k_) ?_
            show Go _ _ _ _ (Tl.setTop (mkF m 202 #[.val (.ref a), .val (.int F), .val (.int G), .val (.int I), .val (.int ((B i) &&& (255 : Int32))), .val (.int (2 : Int32)), .val (.int lo), .val (.int hi'), s8, s9] [(.int (255 : Int32)), (.int (B (i + 1)))]))
            refine Go.via (fun t_ k_ => XS.iand Hj.here hx rfl (hb hby d2_202) rfl k_) ?_
            show Go _ _ _ _ (Tl.setTop (mkF m 203 #[.val (.ref a), .val (.int F), .val (.int G), .val (.int I), .val (.int ((B i) &&& (255 : Int32))), .val (.int (2 : Int32)), .val (.int lo), .val (.int hi'), s8, s9] [(.int ((B (i + 1)) &&& (255 : Int32)))]))
            refine Go.via (fun t_ k_ => XS.istore Hj.here hx rfl (hb hby d2_203) rfl (l' := #[.val (.ref a), .val (.int F), .val (.int G), .val (.int I), .val (.int ((B i) &&& (255 : Int32))), .val (.int (2 : Int32)), .val (.int lo), .val (.int hi'), .val (.int ((B (i + 1)) &&& (255 : Int32))), s9]) (Jvm.Free.XS.store1 rfl o8 rfl) k_) ?_
            show Go _ _ _ _ (Tl.setTop (mkF m 205 #[.val (.ref a), .val (.int F), .val (.int G), .val (.int I), .val (.int ((B i) &&& (255 : Int32))), .val (.int (2 : Int32)), .val (.int lo), .val (.int hi'), .val (.int ((B (i + 1)) &&& (255 : Int32))), s9] []))
            refine Go.via (fun t_ k_ => XS.iload Hj.here hx rfl (hb hby d2_205) rfl k_) ?_
            show Go _ _ _ _ (Tl.setTop (mkF m 207 #[.val (.ref a), .val (.int F), .val (.int G), .val (.int I), .val (.int ((B i) &&& (255 : Int32))), .val (.int (2 : Int32)), .val (.int lo), .val (.int hi'), .val (.int ((B (i + 1)) &&& (255 : Int32))), s9] [(.int ((B (i + 1)) &&& (255 : Int32)))]))
            refine Go.via (fun t_ k_ => XS.iload Hj.here hx rfl (hb hby d2_207) rfl k_) ?_
            show Go _ _ _ _ (Tl.setTop (mkF m 209 #[.val (.ref a), .val (.int F), .val (.int G), .val (.int I), .val (.int ((B i) &&& (255 : Int32))), .val (.int (2 : Int32)), .val (.int lo), .val (.int hi'), .val (.int ((B (i + 1)) &&& (255 : Int32))), s9] [(.int lo), (.int ((B (i + 1)) &&& (255 : Int32)))]))
            by_cases hc209 : ((B (i + 1)) &&& (255 : Int32)) < lo
            · refine Go.via (fun t_ k_ => XS.icmpYes Hj.here hx rfl (pc0 := 209) (pc' := 219) rfl (hb hby d2_209) rfl ((tlt hc209).1) (by decide) (by decide) k_) ?_
              show Go _ _ _ _ (Tl.setTop (mkF m 219 #[.val (.ref a), .val (.int F), .val (.int G), .val (.int I), .val (.int ((B i) &&& (255 : Int32))), .val (.int (2 : Int32)), .val (.int lo), .val (.int hi'), .val (.int ((B (i + 1)) &&& (255 : Int32))), s9] []))
              refine Go.via (fun t_ k_ => XS.iconst Hj.here hx rfl (hb hby d2_219) k_) ?_
              show Go _ _ _ _ (Tl.setTop (mkF m 220 #[.val (.ref a), .val (.int F), .val (.int G), .val (.int I), .val (.int ((B i) &&& (255 : Int32))), .val (.int (2 : Int32)), .val (.int lo), .val (.int hi'), .val (.int ((B (i + 1)) &&& (255 : Int32))), s9] [(.int (0 : Int32))]))
              exact own_retN Hj hx hlk (by simp) hret (hb hby d2_220) ⟨by rw [← hok, own_okN hit (by rw [hnx]; rw [own_lti (own_sub qt hI (by omega) (by omega)) (m := 2) (by decide)] at hc189; rw [own_lti e1.1 ql] at hc209; rw [if_neg (by omega)])]; rfl, rfl⟩ (by decide) (by decide)
            · refine Go.via (fun t_ k_ => XS.icmpNo Hj.here hx rfl (hb hby d2_209) rfl ((flt hc209).1) k_) ?_
              show Go _ _ _ _ (Tl.setTop (mkF m 212 #[.val (.ref a), .val (.int F), .val (.int G), .val (.int I), .val (.int ((B i) &&& (255 : Int32))), .val (.int (2 : Int32)), .val (.int lo), .val (.int hi'), .val (.int ((B (i + 1)) &&& (255 : Int32))), s9] []))
              refine Go.via (fun t_ k_ => XS.iload Hj.here hx rfl (hb hby d2_212) rfl k_) ?_
              show Go _ _ _ _ (Tl.setTop (mkF m 214 #[.val (.ref a), .val (.int F), .val (.int G), .val (.int I), .val (.int ((B i) &&& (255 : Int32))), .val (.int (2 : Int32)), .val (.int lo), .val (.int hi'), .val (.int ((B (i + 1)) &&& (255 : Int32))), s9] [(.int ((B (i + 1)) &&& (255 : Int32)))]))
              refine Go.via (fun t_ k_ => XS.iload Hj.here hx rfl (hb hby d2_214) rfl k_) ?_
              show Go _ _ _ _ (Tl.setTop (mkF m 216 #[.val (.ref a), .val (.int F), .val (.int G), .val (.int I), .val (.int ((B i) &&& (255 : Int32))), .val (.int (2 : Int32)), .val (.int lo), .val (.int hi'), .val (.int ((B (i + 1)) &&& (255 : Int32))), s9] [(.int hi'), (.int ((B (i + 1)) &&& (255 : Int32)))]))
              by_cases hc216 : hi' < ((B (i + 1)) &&& (255 : Int32))
              · refine Go.via (fun t_ k_ => XS.icmpNo Hj.here hx rfl (hb hby d2_216) rfl ((tlt hc216).2.2.2) k_) ?_
                show Go _ _ _ _ (Tl.setTop (mkF m 219 #[.val (.ref a), .val (.int F), .val (.int G), .val (.int I), .val (.int ((B i) &&& (255 : Int32))), .val (.int (2 : Int32)), .val (.int lo), .val (.int hi'), .val (.int ((B (i + 1)) &&& (255 : Int32))), s9] []))
                refine Go.via (fun t_ k_ => XS.iconst Hj.here hx rfl (hb hby d2_219) k_) ?_
                show Go _ _ _ _ (Tl.setTop (mkF m 220 #[.val (.ref a), .val (.int F), .val (.int G), .val (.int I), .val (.int ((B i) &&& (255 : Int32))), .val (.int (2 : Int32)), .val (.int lo), .val (.int hi'), .val (.int ((B (i + 1)) &&& (255 : Int32))), s9] [(.int (0 : Int32))]))
                exact own_retN Hj hx hlk (by simp) hret (hb hby d2_220) ⟨by rw [← hok, own_okN hit (by rw [hnx]; rw [own_lti (own_sub qt hI (by omega) (by omega)) (m := 2) (by decide)] at hc189; rw [own_lti e1.1 ql] at hc209; rw [own_lti qh e1.1] at hc216; rw [if_neg (by omega)])]; rfl, rfl⟩ (by decide) (by decide)
              · refine Go.via (fun t_ k_ => XS.icmpYes Hj.here hx rfl (pc0 := 216) (pc' := 221) rfl (hb hby d2_216) rfl ((flt hc216).2.2.2) (by decide) (by decide) k_) ?_
                show Go _ _ _ _ (Tl.setTop (mkF m 221 #[.val (.ref a), .val (.int F), .val (.int G), .val (.int I), .val (.int ((B i) &&& (255 : Int32))), .val (.int (2 : Int32)), .val (.int lo), .val (.int hi'), .val (.int ((B (i + 1)) &&& (255 : Int32))), s9] []))
                refine Go.via (fun t_ k_ => XS.iconst Hj.here hx rfl (hb hby d2_221) k_) ?_
                show Go _ _ _ _ (Tl.setTop (mkF m 222 #[.val (.ref a), .val (.int F), .val (.int G), .val (.int I), .val (.int ((B i) &&& (255 : Int32))), .val (.int (2 : Int32)), .val (.int lo), .val (.int hi'), .val (.int ((B (i + 1)) &&& (255 : Int32))), s9] [(.int (2 : Int32))]))
                refine Go.via (fun t_ k_ => XS.istore Hj.here hx rfl (hb hby d2_222) rfl (l' := #[.val (.ref a), .val (.int F), .val (.int G), .val (.int I), .val (.int ((B i) &&& (255 : Int32))), .val (.int (2 : Int32)), .val (.int lo), .val (.int hi'), .val (.int ((B (i + 1)) &&& (255 : Int32))), .val (.int (2 : Int32))]) (Jvm.Free.XS.store1 rfl o9 rfl) k_) ?_
                show Go _ _ _ _ (Tl.setTop (mkF m 224 #[.val (.ref a), .val (.int F), .val (.int G), .val (.int I), .val (.int ((B i) &&& (255 : Int32))), .val (.int (2 : Int32)), .val (.int lo), .val (.int hi'), .val (.int ((B (i + 1)) &&& (255 : Int32))), .val (.int (2 : Int32))] []))
                refine Go.via (fun t_ k_ => XS.iload Hj.here hx rfl (hb hby d2_224) rfl k_) ?_
                show Go _ _ _ _ (Tl.setTop (mkF m 226 #[.val (.ref a), .val (.int F), .val (.int G), .val (.int I), .val (.int ((B i) &&& (255 : Int32))), .val (.int (2 : Int32)), .val (.int lo), .val (.int hi'), .val (.int ((B (i + 1)) &&& (255 : Int32))), .val (.int (2 : Int32))] [(.int (2 : Int32))]))
                refine Go.via (fun t_ k_ => XS.iload Hj.here hx rfl (hb hby d2_226) rfl k_) ?_
                show Go _ _ _ _ (Tl.setTop (mkF m 228 #[.val (.ref a), .val (.int F), .val (.int G), .val (.int I), .val (.int ((B i) &&& (255 : Int32))), .val (.int (2 : Int32)), .val (.int lo), .val (.int hi'), .val (.int ((B (i + 1)) &&& (255 : Int32))), .val (.int (2 : Int32))] [(.int (2 : Int32)), (.int (2 : Int32))]))
                refine Go.via (fun t_ k_ => XS.icmpYes Hj.here hx rfl (pc0 := 228) (pc' := 255) rfl (hb hby d2_228) rfl ((flt (show ¬ ((2 : Int32) < (2 : Int32)) from (by decide))).2.1) (by decide) (by decide) k_) ?_
                show Go _ _ _ _ (Tl.setTop (mkF m 255 #[.val (.ref a), .val (.int F), .val (.int G), .val (.int I), .val (.int ((B i) &&& (255 : Int32))), .val (.int (2 : Int32)), .val (.int lo), .val (.int hi'), .val (.int ((B (i + 1)) &&& (255 : Int32))), .val (.int (2 : Int32))] []))
                refine Go.via (fun t_ k_ => XS.iloadN Hj.here hx rfl (hb hby d2_255) rfl k_) ?_
                show Go _ _ _ _ (Tl.setTop (mkF m 256 #[.val (.ref a), .val (.int F), .val (.int G), .val (.int I), .val (.int ((B i) &&& (255 : Int32))), .val (.int (2 : Int32)), .val (.int lo), .val (.int hi'), .val (.int ((B (i + 1)) &&& (255 : Int32))), .val (.int (2 : Int32))] [(.int I)]))
                refine Go.via (fun t_ k_ => XS.iload Hj.here hx rfl (hb hby d2_256) rfl k_) ?_
                show Go _ _ _ _ (Tl.setTop (mkF m 258 #[.val (.ref a), .val (.int F), .val (.int G), .val (.int I), .val (.int ((B i) &&& (255 : Int32))), .val (.int (2 : Int32)), .val (.int lo), .val (.int hi'), .val (.int ((B (i + 1)) &&& (255 : Int32))), .val (.int (2 : Int32))] [(.int (2 : Int32)), (.int I)]))
                refine Go.via (fun t_ k_ => XS.iadd Hj.here hx rfl (hb hby d2_258) rfl k_) ?_
                show Go _ _ _ _ (Tl.setTop (mkF m 259 #[.val (.ref a), .val (.int F), .val (.int G), .val (.int I), .val (.int ((B i) &&& (255 : Int32))), .val (.int (2 : Int32)), .val (.int lo), .val (.int hi'), .val (.int ((B (i + 1)) &&& (255 : Int32))), .val (.int (2 : Int32))] [(.int (I + (2 : Int32)))]))
                refine Go.via (fun t_ k_ => XS.istoreN Hj.here hx rfl (hb hby d2_259) rfl (l' := #[.val (.ref a), .val (.int F), .val (.int G), .val (.int (I + (2 : Int32))), .val (.int ((B i) &&& (255 : Int32))), .val (.int (2 : Int32)), .val (.int lo), .val (.int hi'), .val (.int ((B (i + 1)) &&& (255 : Int32))), .val (.int (2 : Int32))]) rfl k_) ?_
                show Go _ _ _ _ (Tl.setTop (mkF m 260 #[.val (.ref a), .val (.int F), .val (.int G), .val (.int (I + (2 : Int32))), .val (.int ((B i) &&& (255 : Int32))), .val (.int (2 : Int32)), .val (.int lo), .val (.int hi'), .val (.int ((B (i + 1)) &&& (255 : Int32))), .val (.int (2 : Int32))] []))
                refine Go.via (fun t_ k_ => XS.goto Hj.here hx rfl (pc0 := 260) (pc' := 2) rfl (hb hby d2_260) (by decide) (by decide) k_) ?_
                show Go _ _ _ _ (Tl.setTop (mkF m 2 #[.val (.ref a), .val (.int F), .val (.int G), .val (.int (I + (2 : Int32))), .val (.int ((B i) &&& (255 : Int32))), .val (.int (2 : Int32)), .val (.int lo), .val (.int hi'), .val (.int ((B (i + 1)) &&& (255 : Int32))), .val (.int (2 : Int32))] []))
                have hj : nx B i t = ((i + 2 : Nat) : Int) := (by rw [hnx]; rw [own_lti (own_sub qt hI (by omega) (by omega)) (m := 2) (by decide)] at hc189; rw [own_lti e1.1 ql] at hc209; rw [own_lti qh e1.1] at hc216; rw [if_pos (by omega)])
                have hjt : i + 2 ≤ t := by
                  rw [own_lti (own_sub qt hI (by omega) (by omega)) (m := 2) (by decide)] at hc189
                  rw [own_lti e1.1 ql] at hc209
                  rw [own_lti qh e1.1] at hc216
                  omega
                exact ih (i + 2) _ _ _ _ _ _ _ Tl (own_ix (2 : Int32) 2 hI (by decide) (by omega) (by decide)) hjt (by omega) (by rw [← hok, own_okS hit hj]) (One.val rfl) (One.val rfl) (One.val rfl) (One.val rfl) (One.val rfl) (One.val rfl) Hj
        have J184_3 : ∀ (Tl : State) (lo hi' : Int32) (l' h' : Nat), Here p l e ({ frames := 0, cells := 0, slots := 0, locals := 0 } : Room) s m #[(.ref a), (.int F), (.int G)] below meth c n0 Tl h0 0 0 → (lo.toInt = (l' : Int)) → (hi'.toInt = (h' : Int)) → (nx B i t = if i + 3 ≤ t ∧ l' ≤ bv B (i + 1) ∧ bv B (i + 1) ≤ h' ∧ 128 ≤ bv B (i + 2) ∧ bv B (i + 2) ≤ 191 then ((i + 3 : Nat) : Int) else -1) → Go p e below (Fini below s n0 (fun v h => v = some (.int (if okk B t (t - f) f = true then 1 else 0)) ∧ h0 = h) ({ frames := 0, cells := 0, slots := 0, locals := 0 } : Room).cells ({ frames := 0, cells := 0, slots := 0, locals := 0 } : Room).slots) (Tl.setTop (mkF m 184 #[.val (.ref a), .val (.int F), .val (.int G), .val (.int I), .val (.int ((B i) &&& (255 : Int32))), .val (.int (3 : Int32)), .val (.int lo), .val (.int hi'), s8, s9] [])) := by
          intro Tl lo hi' l' h' Hj ql qh hnx
          show Go _ _ _ _ (Tl.setTop (mkF m 184 #[.val (.ref a), .val (.int F), .val (.int G), .val (.int I), .val (.int ((B i) &&& (255 : Int32))), .val (.int (3 : Int32)), .val (.int lo), .val (.int hi'), s8, s9] []))
          refine Go.via (fun t_ k_ => XS.iloadN Hj.here hx rfl (hb hby d2_184) rfl k_) ?_
          show Go _ _ _ _ (Tl.setTop (mkF m 185 #[.val (.ref a), .val (.int F), .val (.int G), .val (.int I), .val (.int ((B i) &&& (255 : Int32))), .val (.int (3 : Int32)), .val (.int lo), .val (.int hi'), s8, s9] [(.int G)]))
          refine Go.via (fun t_ k_ => XS.iloadN Hj.here hx rfl (hb hby d2_185) rfl k_) ?_
          show Go _ _ _ _ (Tl.setTop (mkF m 186 #[.val (.ref a), .val (.int F), .val (.int G), .val (.int I), .val (.int ((B i) &&& (255 : Int32))), .val (.int (3 : Int32)), .val (.int lo), .val (.int hi'), s8, s9] [(.int I), (.int G)]))
          refine Go.via (fun t_ k_ => XS.isub Hj.here hx rfl (hb hby d2_186) rfl k_) ?_
          show Go _ _ _ _ (Tl.setTop (mkF m 187 #[.val (.ref a), .val (.int F), .val (.int G), .val (.int I), .val (.int ((B i) &&& (255 : Int32))), .val (.int (3 : Int32)), .val (.int lo), .val (.int hi'), s8, s9] [(.int (G - I))]))
          refine Go.via (fun t_ k_ => XS.iload Hj.here hx rfl (hb hby d2_187) rfl k_) ?_
          show Go _ _ _ _ (Tl.setTop (mkF m 189 #[.val (.ref a), .val (.int F), .val (.int G), .val (.int I), .val (.int ((B i) &&& (255 : Int32))), .val (.int (3 : Int32)), .val (.int lo), .val (.int hi'), s8, s9] [(.int (3 : Int32)), (.int (G - I))]))
          by_cases hc189 : (G - I) < (3 : Int32)
          · refine Go.via (fun t_ k_ => XS.icmpNo Hj.here hx rfl (hb hby d2_189) rfl ((tlt hc189).2.1) k_) ?_
            show Go _ _ _ _ (Tl.setTop (mkF m 192 #[.val (.ref a), .val (.int F), .val (.int G), .val (.int I), .val (.int ((B i) &&& (255 : Int32))), .val (.int (3 : Int32)), .val (.int lo), .val (.int hi'), s8, s9] []))
            refine Go.via (fun t_ k_ => XS.iconst Hj.here hx rfl (hb hby d2_192) k_) ?_
            show Go _ _ _ _ (Tl.setTop (mkF m 193 #[.val (.ref a), .val (.int F), .val (.int G), .val (.int I), .val (.int ((B i) &&& (255 : Int32))), .val (.int (3 : Int32)), .val (.int lo), .val (.int hi'), s8, s9] [(.int (0 : Int32))]))
            exact own_retN Hj hx hlk (by simp) hret (hb hby d2_193) ⟨by rw [← hok, own_okN hit (by rw [hnx]; rw [own_lti (own_sub qt hI (by omega) (by omega)) (m := 3) (by decide)] at hc189; rw [if_neg (by omega)])]; rfl, rfl⟩ (by decide) (by decide)
          · refine Go.via (fun t_ k_ => XS.icmpYes Hj.here hx rfl (pc0 := 189) (pc' := 194) rfl (hb hby d2_189) rfl ((flt hc189).2.1) (by decide) (by decide) k_) ?_
            show Go _ _ _ _ (Tl.setTop (mkF m 194 #[.val (.ref a), .val (.int F), .val (.int G), .val (.int I), .val (.int ((B i) &&& (255 : Int32))), .val (.int (3 : Int32)), .val (.int lo), .val (.int hi'), s8, s9] []))
            have hl : ¬ (t - i < 3) := fun q => hc189 ((own_lti (own_sub qt hI (by omega) (by omega)) (m := 3) (by decide)).mpr q)
            refine Go.via (fun t_ k_ => XS.aloadN Hj.here hx rfl (hb hby d2_194) rfl rfl k_) ?_
            show Go _ _ _ _ (Tl.setTop (mkF m 195 #[.val (.ref a), .val (.int F), .val (.int G), .val (.int I), .val (.int ((B i) &&& (255 : Int32))), .val (.int (3 : Int32)), .val (.int lo), .val (.int hi'), s8, s9] [(.ref a)]))
            refine Go.via (fun t_ k_ => XS.iloadN Hj.here hx rfl (hb hby d2_195) rfl k_) ?_
            show Go _ _ _ _ (Tl.setTop (mkF m 196 #[.val (.ref a), .val (.int F), .val (.int G), .val (.int I), .val (.int ((B i) &&& (255 : Int32))), .val (.int (3 : Int32)), .val (.int lo), .val (.int hi'), s8, s9] [(.int I), (.ref a)]))
            refine Go.via (fun t_ k_ => XS.iconst Hj.here hx rfl (hb hby d2_196) k_) ?_
            show Go _ _ _ _ (Tl.setTop (mkF m 197 #[.val (.ref a), .val (.int F), .val (.int G), .val (.int I), .val (.int ((B i) &&& (255 : Int32))), .val (.int (3 : Int32)), .val (.int lo), .val (.int hi'), s8, s9] [(.int (1 : Int32)), (.int I), (.ref a)]))
            refine Go.via (fun t_ k_ => XS.iadd Hj.here hx rfl (hb hby d2_197) rfl k_) ?_
            show Go _ _ _ _ (Tl.setTop (mkF m 198 #[.val (.ref a), .val (.int F), .val (.int G), .val (.int I), .val (.int ((B i) &&& (255 : Int32))), .val (.int (3 : Int32)), .val (.int lo), .val (.int hi'), s8, s9] [(.int (I + (1 : Int32))), (.ref a)]))
            refine own_ldBA Hj hx hZ A (j := (i + 1)) (own_ix (1 : Int32) 1 hI (by decide) (by omega) (by decide)) (by omega) (g := (mkF m 198 #[.val (.ref a), .val (.int F), .val (.int G), .val (.int I), .val (.int ((B i) &&& (255 : Int32))), .val (.int (3 : Int32)), .val (.int lo), .val (.int hi'), s8, s9] [(.int (I + (1 : Int32))), (.ref a)])) rfl rfl (hb hby d2_198) ?_
            show Go _ _ _ _ (Tl.setTop (mkF m 199 #[.val (.ref a), .val (.int F), .val (.int G), .val (.int I), .val (.int ((B i) &&& (255 : Int32))), .val (.int (3 : Int32)), .val (.int lo), .val (.int hi'), s8, s9] [(.int (B (i + 1)))]))
            refine Go.via (fun t_ k_ => XS.sipush Hj.here hx rfl (hb hby d2_199) k_) ?_
            show Go _ _ _ _ (Tl.setTop (mkF m 202 #[.val (.ref a), .val (.int F), .val (.int G), .val (.int I), .val (.int ((B i) &&& (255 : Int32))), .val (.int (3 : Int32)), .val (.int lo), .val (.int hi'), s8, s9] [(.int (255 : Int32)), (.int (B (i + 1)))]))
            refine Go.via (fun t_ k_ => XS.iand Hj.here hx rfl (hb hby d2_202) rfl k_) ?_
            show Go _ _ _ _ (Tl.setTop (mkF m 203 #[.val (.ref a), .val (.int F), .val (.int G), .val (.int I), .val (.int ((B i) &&& (255 : Int32))), .val (.int (3 : Int32)), .val (.int lo), .val (.int hi'), s8, s9] [(.int ((B (i + 1)) &&& (255 : Int32)))]))
            refine Go.via (fun t_ k_ => XS.istore Hj.here hx rfl (hb hby d2_203) rfl (l' := #[.val (.ref a), .val (.int F), .val (.int G), .val (.int I), .val (.int ((B i) &&& (255 : Int32))), .val (.int (3 : Int32)), .val (.int lo), .val (.int hi'), .val (.int ((B (i + 1)) &&& (255 : Int32))), s9]) (Jvm.Free.XS.store1 rfl o8 rfl) k_) ?_
            show Go _ _ _ _ (Tl.setTop (mkF m 205 #[.val (.ref a), .val (.int F), .val (.int G), .val (.int I), .val (.int ((B i) &&& (255 : Int32))), .val (.int (3 : Int32)), .val (.int lo), .val (.int hi'), .val (.int ((B (i + 1)) &&& (255 : Int32))), s9] []))
            refine Go.via (fun t_ k_ => XS.iload Hj.here hx rfl (hb hby d2_205) rfl k_) ?_
            show Go _ _ _ _ (Tl.setTop (mkF m 207 #[.val (.ref a), .val (.int F), .val (.int G), .val (.int I), .val (.int ((B i) &&& (255 : Int32))), .val (.int (3 : Int32)), .val (.int lo), .val (.int hi'), .val (.int ((B (i + 1)) &&& (255 : Int32))), s9] [(.int ((B (i + 1)) &&& (255 : Int32)))]))
            refine Go.via (fun t_ k_ => XS.iload Hj.here hx rfl (hb hby d2_207) rfl k_) ?_
            show Go _ _ _ _ (Tl.setTop (mkF m 209 #[.val (.ref a), .val (.int F), .val (.int G), .val (.int I), .val (.int ((B i) &&& (255 : Int32))), .val (.int (3 : Int32)), .val (.int lo), .val (.int hi'), .val (.int ((B (i + 1)) &&& (255 : Int32))), s9] [(.int lo), (.int ((B (i + 1)) &&& (255 : Int32)))]))
            by_cases hc209 : ((B (i + 1)) &&& (255 : Int32)) < lo
            · refine Go.via (fun t_ k_ => XS.icmpYes Hj.here hx rfl (pc0 := 209) (pc' := 219) rfl (hb hby d2_209) rfl ((tlt hc209).1) (by decide) (by decide) k_) ?_
              show Go _ _ _ _ (Tl.setTop (mkF m 219 #[.val (.ref a), .val (.int F), .val (.int G), .val (.int I), .val (.int ((B i) &&& (255 : Int32))), .val (.int (3 : Int32)), .val (.int lo), .val (.int hi'), .val (.int ((B (i + 1)) &&& (255 : Int32))), s9] []))
              refine Go.via (fun t_ k_ => XS.iconst Hj.here hx rfl (hb hby d2_219) k_) ?_
              show Go _ _ _ _ (Tl.setTop (mkF m 220 #[.val (.ref a), .val (.int F), .val (.int G), .val (.int I), .val (.int ((B i) &&& (255 : Int32))), .val (.int (3 : Int32)), .val (.int lo), .val (.int hi'), .val (.int ((B (i + 1)) &&& (255 : Int32))), s9] [(.int (0 : Int32))]))
              exact own_retN Hj hx hlk (by simp) hret (hb hby d2_220) ⟨by rw [← hok, own_okN hit (by rw [hnx]; rw [own_lti (own_sub qt hI (by omega) (by omega)) (m := 3) (by decide)] at hc189; rw [own_lti e1.1 ql] at hc209; rw [if_neg (by omega)])]; rfl, rfl⟩ (by decide) (by decide)
            · refine Go.via (fun t_ k_ => XS.icmpNo Hj.here hx rfl (hb hby d2_209) rfl ((flt hc209).1) k_) ?_
              show Go _ _ _ _ (Tl.setTop (mkF m 212 #[.val (.ref a), .val (.int F), .val (.int G), .val (.int I), .val (.int ((B i) &&& (255 : Int32))), .val (.int (3 : Int32)), .val (.int lo), .val (.int hi'), .val (.int ((B (i + 1)) &&& (255 : Int32))), s9] []))
              refine Go.via (fun t_ k_ => XS.iload Hj.here hx rfl (hb hby d2_212) rfl k_) ?_
              show Go _ _ _ _ (Tl.setTop (mkF m 214 #[.val (.ref a), .val (.int F), .val (.int G), .val (.int I), .val (.int ((B i) &&& (255 : Int32))), .val (.int (3 : Int32)), .val (.int lo), .val (.int hi'), .val (.int ((B (i + 1)) &&& (255 : Int32))), s9] [(.int ((B (i + 1)) &&& (255 : Int32)))]))
              refine Go.via (fun t_ k_ => XS.iload Hj.here hx rfl (hb hby d2_214) rfl k_) ?_
              show Go _ _ _ _ (Tl.setTop (mkF m 216 #[.val (.ref a), .val (.int F), .val (.int G), .val (.int I), .val (.int ((B i) &&& (255 : Int32))), .val (.int (3 : Int32)), .val (.int lo), .val (.int hi'), .val (.int ((B (i + 1)) &&& (255 : Int32))), s9] [(.int hi'), (.int ((B (i + 1)) &&& (255 : Int32)))]))
              by_cases hc216 : hi' < ((B (i + 1)) &&& (255 : Int32))
              · refine Go.via (fun t_ k_ => XS.icmpNo Hj.here hx rfl (hb hby d2_216) rfl ((tlt hc216).2.2.2) k_) ?_
                show Go _ _ _ _ (Tl.setTop (mkF m 219 #[.val (.ref a), .val (.int F), .val (.int G), .val (.int I), .val (.int ((B i) &&& (255 : Int32))), .val (.int (3 : Int32)), .val (.int lo), .val (.int hi'), .val (.int ((B (i + 1)) &&& (255 : Int32))), s9] []))
                refine Go.via (fun t_ k_ => XS.iconst Hj.here hx rfl (hb hby d2_219) k_) ?_
                show Go _ _ _ _ (Tl.setTop (mkF m 220 #[.val (.ref a), .val (.int F), .val (.int G), .val (.int I), .val (.int ((B i) &&& (255 : Int32))), .val (.int (3 : Int32)), .val (.int lo), .val (.int hi'), .val (.int ((B (i + 1)) &&& (255 : Int32))), s9] [(.int (0 : Int32))]))
                exact own_retN Hj hx hlk (by simp) hret (hb hby d2_220) ⟨by rw [← hok, own_okN hit (by rw [hnx]; rw [own_lti (own_sub qt hI (by omega) (by omega)) (m := 3) (by decide)] at hc189; rw [own_lti e1.1 ql] at hc209; rw [own_lti qh e1.1] at hc216; rw [if_neg (by omega)])]; rfl, rfl⟩ (by decide) (by decide)
              · refine Go.via (fun t_ k_ => XS.icmpYes Hj.here hx rfl (pc0 := 216) (pc' := 221) rfl (hb hby d2_216) rfl ((flt hc216).2.2.2) (by decide) (by decide) k_) ?_
                show Go _ _ _ _ (Tl.setTop (mkF m 221 #[.val (.ref a), .val (.int F), .val (.int G), .val (.int I), .val (.int ((B i) &&& (255 : Int32))), .val (.int (3 : Int32)), .val (.int lo), .val (.int hi'), .val (.int ((B (i + 1)) &&& (255 : Int32))), s9] []))
                refine Go.via (fun t_ k_ => XS.iconst Hj.here hx rfl (hb hby d2_221) k_) ?_
                show Go _ _ _ _ (Tl.setTop (mkF m 222 #[.val (.ref a), .val (.int F), .val (.int G), .val (.int I), .val (.int ((B i) &&& (255 : Int32))), .val (.int (3 : Int32)), .val (.int lo), .val (.int hi'), .val (.int ((B (i + 1)) &&& (255 : Int32))), s9] [(.int (2 : Int32))]))
                refine Go.via (fun t_ k_ => XS.istore Hj.here hx rfl (hb hby d2_222) rfl (l' := #[.val (.ref a), .val (.int F), .val (.int G), .val (.int I), .val (.int ((B i) &&& (255 : Int32))), .val (.int (3 : Int32)), .val (.int lo), .val (.int hi'), .val (.int ((B (i + 1)) &&& (255 : Int32))), .val (.int (2 : Int32))]) (Jvm.Free.XS.store1 rfl o9 rfl) k_) ?_
                show Go _ _ _ _ (Tl.setTop (mkF m 224 #[.val (.ref a), .val (.int F), .val (.int G), .val (.int I), .val (.int ((B i) &&& (255 : Int32))), .val (.int (3 : Int32)), .val (.int lo), .val (.int hi'), .val (.int ((B (i + 1)) &&& (255 : Int32))), .val (.int (2 : Int32))] []))
                refine Go.via (fun t_ k_ => XS.iload Hj.here hx rfl (hb hby d2_224) rfl k_) ?_
                show Go _ _ _ _ (Tl.setTop (mkF m 226 #[.val (.ref a), .val (.int F), .val (.int G), .val (.int I), .val (.int ((B i) &&& (255 : Int32))), .val (.int (3 : Int32)), .val (.int lo), .val (.int hi'), .val (.int ((B (i + 1)) &&& (255 : Int32))), .val (.int (2 : Int32))] [(.int (2 : Int32))]))
                refine Go.via (fun t_ k_ => XS.iload Hj.here hx rfl (hb hby d2_226) rfl k_) ?_
                show Go _ _ _ _ (Tl.setTop (mkF m 228 #[.val (.ref a), .val (.int F), .val (.int G), .val (.int I), .val (.int ((B i) &&& (255 : Int32))), .val (.int (3 : Int32)), .val (.int lo), .val (.int hi'), .val (.int ((B (i + 1)) &&& (255 : Int32))), .val (.int (2 : Int32))] [(.int (3 : Int32)), (.int (2 : Int32))]))
                refine Go.via (fun t_ k_ => XS.icmpNo Hj.here hx rfl (hb hby d2_228) rfl ((tlt (show (2 : Int32) < (3 : Int32) from (by decide))).2.1) k_) ?_
                show Go _ _ _ _ (Tl.setTop (mkF m 231 #[.val (.ref a), .val (.int F), .val (.int G), .val (.int I), .val (.int ((B i) &&& (255 : Int32))), .val (.int (3 : Int32)), .val (.int lo), .val (.int hi'), .val (.int ((B (i + 1)) &&& (255 : Int32))), .val (.int (2 : Int32))] []))
                refine Go.via (fun t_ k_ => XS.aloadN Hj.here hx rfl (hb hby d2_231) rfl rfl k_) ?_
                show Go _ _ _ _ (Tl.setTop (mkF m 232 #[.val (.ref a), .val (.int F), .val (.int G), .val (.int I), .val (.int ((B i) &&& (255 : Int32))), .val (.int (3 : Int32)), .val (.int lo), .val (.int hi'), .val (.int ((B (i + 1)) &&& (255 : Int32))), .val (.int (2 : Int32))] [(.ref a)]))
                refine Go.via (fun t_ k_ => XS.iloadN Hj.here hx rfl (hb hby d2_232) rfl k_) ?_
                show Go _ _ _ _ (Tl.setTop (mkF m 233 #[.val (.ref a), .val (.int F), .val (.int G), .val (.int I), .val (.int ((B i) &&& (255 : Int32))), .val (.int (3 : Int32)), .val (.int lo), .val (.int hi'), .val (.int ((B (i + 1)) &&& (255 : Int32))), .val (.int (2 : Int32))] [(.int I), (.ref a)]))
                refine Go.via (fun t_ k_ => XS.iload Hj.here hx rfl (hb hby d2_233) rfl k_) ?_
                show Go _ _ _ _ (Tl.setTop (mkF m 235 #[.val (.ref a), .val (.int F), .val (.int G), .val (.int I), .val (.int ((B i) &&& (255 : Int32))), .val (.int (3 : Int32)), .val (.int lo), .val (.int hi'), .val (.int ((B (i + 1)) &&& (255 : Int32))), .val (.int (2 : Int32))] [(.int (2 : Int32)), (.int I), (.ref a)]))
                refine Go.via (fun t_ k_ => XS.iadd Hj.here hx rfl (hb hby d2_235) rfl k_) ?_
                show Go _ _ _ _ (Tl.setTop (mkF m 236 #[.val (.ref a), .val (.int F), .val (.int G), .val (.int I), .val (.int ((B i) &&& (255 : Int32))), .val (.int (3 : Int32)), .val (.int lo), .val (.int hi'), .val (.int ((B (i + 1)) &&& (255 : Int32))), .val (.int (2 : Int32))] [(.int (I + (2 : Int32))), (.ref a)]))
                refine own_ldBA Hj hx hZ A (j := (i + 2)) (own_ix (2 : Int32) 2 hI (by decide) (by omega) (by decide)) (by omega) (g := (mkF m 236 #[.val (.ref a), .val (.int F), .val (.int G), .val (.int I), .val (.int ((B i) &&& (255 : Int32))), .val (.int (3 : Int32)), .val (.int lo), .val (.int hi'), .val (.int ((B (i + 1)) &&& (255 : Int32))), .val (.int (2 : Int32))] [(.int (I + (2 : Int32))), (.ref a)])) rfl rfl (hb hby d2_236) ?_
                show Go _ _ _ _ (Tl.setTop (mkF m 237 #[.val (.ref a), .val (.int F), .val (.int G), .val (.int I), .val (.int ((B i) &&& (255 : Int32))), .val (.int (3 : Int32)), .val (.int lo), .val (.int hi'), .val (.int ((B (i + 1)) &&& (255 : Int32))), .val (.int (2 : Int32))] [(.int (B (i + 2)))]))
                refine Go.via (fun t_ k_ => XS.sipush Hj.here hx rfl (hb hby d2_237) k_) ?_
                show Go _ _ _ _ (Tl.setTop (mkF m 240 #[.val (.ref a), .val (.int F), .val (.int G), .val (.int I), .val (.int ((B i) &&& (255 : Int32))), .val (.int (3 : Int32)), .val (.int lo), .val (.int hi'), .val (.int ((B (i + 1)) &&& (255 : Int32))), .val (.int (2 : Int32))] [(.int (192 : Int32)), (.int (B (i + 2)))]))
                refine Go.via (fun t_ k_ => XS.iand Hj.here hx rfl (hb hby d2_240) rfl k_) ?_
                show Go _ _ _ _ (Tl.setTop (mkF m 241 #[.val (.ref a), .val (.int F), .val (.int G), .val (.int I), .val (.int ((B i) &&& (255 : Int32))), .val (.int (3 : Int32)), .val (.int lo), .val (.int hi'), .val (.int ((B (i + 1)) &&& (255 : Int32))), .val (.int (2 : Int32))] [(.int ((B (i + 2)) &&& (192 : Int32)))]))
                refine Go.via (fun t_ k_ => XS.sipush Hj.here hx rfl (hb hby d2_241) k_) ?_
                show Go _ _ _ _ (Tl.setTop (mkF m 244 #[.val (.ref a), .val (.int F), .val (.int G), .val (.int I), .val (.int ((B i) &&& (255 : Int32))), .val (.int (3 : Int32)), .val (.int lo), .val (.int hi'), .val (.int ((B (i + 1)) &&& (255 : Int32))), .val (.int (2 : Int32))] [(.int (128 : Int32)), (.int ((B (i + 2)) &&& (192 : Int32)))]))
                by_cases hc244 : ((B (i + 2)) &&& (192 : Int32)) = (128 : Int32)
                · refine Go.via (fun t_ k_ => XS.icmpYes Hj.here hx rfl (pc0 := 244) (pc' := 249) rfl (hb hby d2_244) rfl ((teq hc244).1) (by decide) (by decide) k_) ?_
                  show Go _ _ _ _ (Tl.setTop (mkF m 249 #[.val (.ref a), .val (.int F), .val (.int G), .val (.int I), .val (.int ((B i) &&& (255 : Int32))), .val (.int (3 : Int32)), .val (.int lo), .val (.int hi'), .val (.int ((B (i + 1)) &&& (255 : Int32))), .val (.int (2 : Int32))] []))
                  have ht2 := hc244
                  clear hc244
                  refine Go.via (fun t_ k_ => XS.iinc Hj.here hx rfl (hb hby d2_249) rfl (l' := #[.val (.ref a), .val (.int F), .val (.int G), .val (.int I), .val (.int ((B i) &&& (255 : Int32))), .val (.int (3 : Int32)), .val (.int lo), .val (.int hi'), .val (.int ((B (i + 1)) &&& (255 : Int32))), .val (.int (3 : Int32))]) rfl k_) ?_
                  show Go _ _ _ _ (Tl.setTop (mkF m 252 #[.val (.ref a), .val (.int F), .val (.int G), .val (.int I), .val (.int ((B i) &&& (255 : Int32))), .val (.int (3 : Int32)), .val (.int lo), .val (.int hi'), .val (.int ((B (i + 1)) &&& (255 : Int32))), .val (.int (3 : Int32))] []))
                  refine Go.via (fun t_ k_ => XS.goto Hj.here hx rfl (pc0 := 252) (pc' := 224) rfl (hb hby d2_252) (by decide) (by decide) k_) ?_
                  show Go _ _ _ _ (Tl.setTop (mkF m 224 #[.val (.ref a), .val (.int F), .val (.int G), .val (.int I), .val (.int ((B i) &&& (255 : Int32))), .val (.int (3 : Int32)), .val (.int lo), .val (.int hi'), .val (.int ((B (i + 1)) &&& (255 : Int32))), .val (.int (3 : Int32))] []))
                  refine Go.via (fun t_ k_ => XS.iload Hj.here hx rfl (hb hby d2_224) rfl k_) ?_
                  show Go _ _ _ _ (Tl.setTop (mkF m 226 #[.val (.ref a), .val (.int F), .val (.int G), .val (.int I), .val (.int ((B i) &&& (255 : Int32))), .val (.int (3 : Int32)), .val (.int lo), .val (.int hi'), .val (.int ((B (i + 1)) &&& (255 : Int32))), .val (.int (3 : Int32))] [(.int (3 : Int32))]))
                  refine Go.via (fun t_ k_ => XS.iload Hj.here hx rfl (hb hby d2_226) rfl k_) ?_
                  show Go _ _ _ _ (Tl.setTop (mkF m 228 #[.val (.ref a), .val (.int F), .val (.int G), .val (.int I), .val (.int ((B i) &&& (255 : Int32))), .val (.int (3 : Int32)), .val (.int lo), .val (.int hi'), .val (.int ((B (i + 1)) &&& (255 : Int32))), .val (.int (3 : Int32))] [(.int (3 : Int32)), (.int (3 : Int32))]))
                  refine Go.via (fun t_ k_ => XS.icmpYes Hj.here hx rfl (pc0 := 228) (pc' := 255) rfl (hb hby d2_228) rfl ((flt (show ¬ ((3 : Int32) < (3 : Int32)) from (by decide))).2.1) (by decide) (by decide) k_) ?_
                  show Go _ _ _ _ (Tl.setTop (mkF m 255 #[.val (.ref a), .val (.int F), .val (.int G), .val (.int I), .val (.int ((B i) &&& (255 : Int32))), .val (.int (3 : Int32)), .val (.int lo), .val (.int hi'), .val (.int ((B (i + 1)) &&& (255 : Int32))), .val (.int (3 : Int32))] []))
                  refine Go.via (fun t_ k_ => XS.iloadN Hj.here hx rfl (hb hby d2_255) rfl k_) ?_
                  show Go _ _ _ _ (Tl.setTop (mkF m 256 #[.val (.ref a), .val (.int F), .val (.int G), .val (.int I), .val (.int ((B i) &&& (255 : Int32))), .val (.int (3 : Int32)), .val (.int lo), .val (.int hi'), .val (.int ((B (i + 1)) &&& (255 : Int32))), .val (.int (3 : Int32))] [(.int I)]))
                  refine Go.via (fun t_ k_ => XS.iload Hj.here hx rfl (hb hby d2_256) rfl k_) ?_
                  show Go _ _ _ _ (Tl.setTop (mkF m 258 #[.val (.ref a), .val (.int F), .val (.int G), .val (.int I), .val (.int ((B i) &&& (255 : Int32))), .val (.int (3 : Int32)), .val (.int lo), .val (.int hi'), .val (.int ((B (i + 1)) &&& (255 : Int32))), .val (.int (3 : Int32))] [(.int (3 : Int32)), (.int I)]))
                  refine Go.via (fun t_ k_ => XS.iadd Hj.here hx rfl (hb hby d2_258) rfl k_) ?_
                  show Go _ _ _ _ (Tl.setTop (mkF m 259 #[.val (.ref a), .val (.int F), .val (.int G), .val (.int I), .val (.int ((B i) &&& (255 : Int32))), .val (.int (3 : Int32)), .val (.int lo), .val (.int hi'), .val (.int ((B (i + 1)) &&& (255 : Int32))), .val (.int (3 : Int32))] [(.int (I + (3 : Int32)))]))
                  refine Go.via (fun t_ k_ => XS.istoreN Hj.here hx rfl (hb hby d2_259) rfl (l' := #[.val (.ref a), .val (.int F), .val (.int G), .val (.int (I + (3 : Int32))), .val (.int ((B i) &&& (255 : Int32))), .val (.int (3 : Int32)), .val (.int lo), .val (.int hi'), .val (.int ((B (i + 1)) &&& (255 : Int32))), .val (.int (3 : Int32))]) rfl k_) ?_
                  show Go _ _ _ _ (Tl.setTop (mkF m 260 #[.val (.ref a), .val (.int F), .val (.int G), .val (.int (I + (3 : Int32))), .val (.int ((B i) &&& (255 : Int32))), .val (.int (3 : Int32)), .val (.int lo), .val (.int hi'), .val (.int ((B (i + 1)) &&& (255 : Int32))), .val (.int (3 : Int32))] []))
                  refine Go.via (fun t_ k_ => XS.goto Hj.here hx rfl (pc0 := 260) (pc' := 2) rfl (hb hby d2_260) (by decide) (by decide) k_) ?_
                  show Go _ _ _ _ (Tl.setTop (mkF m 2 #[.val (.ref a), .val (.int F), .val (.int G), .val (.int (I + (3 : Int32))), .val (.int ((B i) &&& (255 : Int32))), .val (.int (3 : Int32)), .val (.int lo), .val (.int hi'), .val (.int ((B (i + 1)) &&& (255 : Int32))), .val (.int (3 : Int32))] []))
                  have hj : nx B i t = ((i + 3 : Nat) : Int) := (by rw [hnx]; rw [own_lti (own_sub qt hI (by omega) (by omega)) (m := 3) (by decide)] at hc189; rw [own_lti e1.1 ql] at hc209; rw [own_lti qh e1.1] at hc216; rw [own_t2 e2.1 e2.2] at ht2; rw [if_pos (by omega)])
                  have hjt : i + 3 ≤ t := by
                    rw [own_lti (own_sub qt hI (by omega) (by omega)) (m := 3) (by decide)] at hc189
                    rw [own_lti e1.1 ql] at hc209
                    rw [own_lti qh e1.1] at hc216
                    rw [own_t2 e2.1 e2.2] at ht2
                    omega
                  exact ih (i + 3) _ _ _ _ _ _ _ Tl (own_ix (3 : Int32) 3 hI (by decide) (by omega) (by decide)) hjt (by omega) (by rw [← hok, own_okS hit hj]) (One.val rfl) (One.val rfl) (One.val rfl) (One.val rfl) (One.val rfl) (One.val rfl) Hj
                · refine Go.via (fun t_ k_ => XS.icmpNo Hj.here hx rfl (hb hby d2_244) rfl ((feq hc244).1) k_) ?_
                  show Go _ _ _ _ (Tl.setTop (mkF m 247 #[.val (.ref a), .val (.int F), .val (.int G), .val (.int I), .val (.int ((B i) &&& (255 : Int32))), .val (.int (3 : Int32)), .val (.int lo), .val (.int hi'), .val (.int ((B (i + 1)) &&& (255 : Int32))), .val (.int (2 : Int32))] []))
                  have ht2 := hc244
                  clear hc244
                  refine Go.via (fun t_ k_ => XS.iconst Hj.here hx rfl (hb hby d2_247) k_) ?_
                  show Go _ _ _ _ (Tl.setTop (mkF m 248 #[.val (.ref a), .val (.int F), .val (.int G), .val (.int I), .val (.int ((B i) &&& (255 : Int32))), .val (.int (3 : Int32)), .val (.int lo), .val (.int hi'), .val (.int ((B (i + 1)) &&& (255 : Int32))), .val (.int (2 : Int32))] [(.int (0 : Int32))]))
                  exact own_retN Hj hx hlk (by simp) hret (hb hby d2_248) ⟨by rw [← hok, own_okN hit (by rw [hnx]; rw [own_lti (own_sub qt hI (by omega) (by omega)) (m := 3) (by decide)] at hc189; rw [own_lti e1.1 ql] at hc209; rw [own_lti qh e1.1] at hc216; rw [own_t2 e2.1 e2.2] at ht2; rw [if_neg (by omega)])]; rfl, rfl⟩ (by decide) (by decide)
        have J184_4 : ∀ (Tl : State) (lo hi' : Int32) (l' h' : Nat), Here p l e ({ frames := 0, cells := 0, slots := 0, locals := 0 } : Room) s m #[(.ref a), (.int F), (.int G)] below meth c n0 Tl h0 0 0 → (lo.toInt = (l' : Int)) → (hi'.toInt = (h' : Int)) → (nx B i t = if i + 4 ≤ t ∧ l' ≤ bv B (i + 1) ∧ bv B (i + 1) ≤ h' ∧ 128 ≤ bv B (i + 2) ∧ bv B (i + 2) ≤ 191 ∧ 128 ≤ bv B (i + 3) ∧ bv B (i + 3) ≤ 191 then ((i + 4 : Nat) : Int) else -1) → Go p e below (Fini below s n0 (fun v h => v = some (.int (if okk B t (t - f) f = true then 1 else 0)) ∧ h0 = h) ({ frames := 0, cells := 0, slots := 0, locals := 0 } : Room).cells ({ frames := 0, cells := 0, slots := 0, locals := 0 } : Room).slots) (Tl.setTop (mkF m 184 #[.val (.ref a), .val (.int F), .val (.int G), .val (.int I), .val (.int ((B i) &&& (255 : Int32))), .val (.int (4 : Int32)), .val (.int lo), .val (.int hi'), s8, s9] [])) := by
          intro Tl lo hi' l' h' Hj ql qh hnx
          show Go _ _ _ _ (Tl.setTop (mkF m 184 #[.val (.ref a), .val (.int F), .val (.int G), .val (.int I), .val (.int ((B i) &&& (255 : Int32))), .val (.int (4 : Int32)), .val (.int lo), .val (.int hi'), s8, s9] []))
          refine Go.via (fun t_ k_ => XS.iloadN Hj.here hx rfl (hb hby d2_184) rfl k_) ?_
          show Go _ _ _ _ (Tl.setTop (mkF m 185 #[.val (.ref a), .val (.int F), .val (.int G), .val (.int I), .val (.int ((B i) &&& (255 : Int32))), .val (.int (4 : Int32)), .val (.int lo), .val (.int hi'), s8, s9] [(.int G)]))
          refine Go.via (fun t_ k_ => XS.iloadN Hj.here hx rfl (hb hby d2_185) rfl k_) ?_
          show Go _ _ _ _ (Tl.setTop (mkF m 186 #[.val (.ref a), .val (.int F), .val (.int G), .val (.int I), .val (.int ((B i) &&& (255 : Int32))), .val (.int (4 : Int32)), .val (.int lo), .val (.int hi'), s8, s9] [(.int I), (.int G)]))
          refine Go.via (fun t_ k_ => XS.isub Hj.here hx rfl (hb hby d2_186) rfl k_) ?_
          show Go _ _ _ _ (Tl.setTop (mkF m 187 #[.val (.ref a), .val (.int F), .val (.int G), .val (.int I), .val (.int ((B i) &&& (255 : Int32))), .val (.int (4 : Int32)), .val (.int lo), .val (.int hi'), s8, s9] [(.int (G - I))]))
          refine Go.via (fun t_ k_ => XS.iload Hj.here hx rfl (hb hby d2_187) rfl k_) ?_
          show Go _ _ _ _ (Tl.setTop (mkF m 189 #[.val (.ref a), .val (.int F), .val (.int G), .val (.int I), .val (.int ((B i) &&& (255 : Int32))), .val (.int (4 : Int32)), .val (.int lo), .val (.int hi'), s8, s9] [(.int (4 : Int32)), (.int (G - I))]))
          by_cases hc189 : (G - I) < (4 : Int32)
          · refine Go.via (fun t_ k_ => XS.icmpNo Hj.here hx rfl (hb hby d2_189) rfl ((tlt hc189).2.1) k_) ?_
            show Go _ _ _ _ (Tl.setTop (mkF m 192 #[.val (.ref a), .val (.int F), .val (.int G), .val (.int I), .val (.int ((B i) &&& (255 : Int32))), .val (.int (4 : Int32)), .val (.int lo), .val (.int hi'), s8, s9] []))
            refine Go.via (fun t_ k_ => XS.iconst Hj.here hx rfl (hb hby d2_192) k_) ?_
            show Go _ _ _ _ (Tl.setTop (mkF m 193 #[.val (.ref a), .val (.int F), .val (.int G), .val (.int I), .val (.int ((B i) &&& (255 : Int32))), .val (.int (4 : Int32)), .val (.int lo), .val (.int hi'), s8, s9] [(.int (0 : Int32))]))
            exact own_retN Hj hx hlk (by simp) hret (hb hby d2_193) ⟨by rw [← hok, own_okN hit (by rw [hnx]; rw [own_lti (own_sub qt hI (by omega) (by omega)) (m := 4) (by decide)] at hc189; rw [if_neg (by omega)])]; rfl, rfl⟩ (by decide) (by decide)
          · refine Go.via (fun t_ k_ => XS.icmpYes Hj.here hx rfl (pc0 := 189) (pc' := 194) rfl (hb hby d2_189) rfl ((flt hc189).2.1) (by decide) (by decide) k_) ?_
            show Go _ _ _ _ (Tl.setTop (mkF m 194 #[.val (.ref a), .val (.int F), .val (.int G), .val (.int I), .val (.int ((B i) &&& (255 : Int32))), .val (.int (4 : Int32)), .val (.int lo), .val (.int hi'), s8, s9] []))
            have hl : ¬ (t - i < 4) := fun q => hc189 ((own_lti (own_sub qt hI (by omega) (by omega)) (m := 4) (by decide)).mpr q)
            refine Go.via (fun t_ k_ => XS.aloadN Hj.here hx rfl (hb hby d2_194) rfl rfl k_) ?_
            show Go _ _ _ _ (Tl.setTop (mkF m 195 #[.val (.ref a), .val (.int F), .val (.int G), .val (.int I), .val (.int ((B i) &&& (255 : Int32))), .val (.int (4 : Int32)), .val (.int lo), .val (.int hi'), s8, s9] [(.ref a)]))
            refine Go.via (fun t_ k_ => XS.iloadN Hj.here hx rfl (hb hby d2_195) rfl k_) ?_
            show Go _ _ _ _ (Tl.setTop (mkF m 196 #[.val (.ref a), .val (.int F), .val (.int G), .val (.int I), .val (.int ((B i) &&& (255 : Int32))), .val (.int (4 : Int32)), .val (.int lo), .val (.int hi'), s8, s9] [(.int I), (.ref a)]))
            refine Go.via (fun t_ k_ => XS.iconst Hj.here hx rfl (hb hby d2_196) k_) ?_
            show Go _ _ _ _ (Tl.setTop (mkF m 197 #[.val (.ref a), .val (.int F), .val (.int G), .val (.int I), .val (.int ((B i) &&& (255 : Int32))), .val (.int (4 : Int32)), .val (.int lo), .val (.int hi'), s8, s9] [(.int (1 : Int32)), (.int I), (.ref a)]))
            refine Go.via (fun t_ k_ => XS.iadd Hj.here hx rfl (hb hby d2_197) rfl k_) ?_
            show Go _ _ _ _ (Tl.setTop (mkF m 198 #[.val (.ref a), .val (.int F), .val (.int G), .val (.int I), .val (.int ((B i) &&& (255 : Int32))), .val (.int (4 : Int32)), .val (.int lo), .val (.int hi'), s8, s9] [(.int (I + (1 : Int32))), (.ref a)]))
            refine own_ldBA Hj hx hZ A (j := (i + 1)) (own_ix (1 : Int32) 1 hI (by decide) (by omega) (by decide)) (by omega) (g := (mkF m 198 #[.val (.ref a), .val (.int F), .val (.int G), .val (.int I), .val (.int ((B i) &&& (255 : Int32))), .val (.int (4 : Int32)), .val (.int lo), .val (.int hi'), s8, s9] [(.int (I + (1 : Int32))), (.ref a)])) rfl rfl (hb hby d2_198) ?_
            show Go _ _ _ _ (Tl.setTop (mkF m 199 #[.val (.ref a), .val (.int F), .val (.int G), .val (.int I), .val (.int ((B i) &&& (255 : Int32))), .val (.int (4 : Int32)), .val (.int lo), .val (.int hi'), s8, s9] [(.int (B (i + 1)))]))
            refine Go.via (fun t_ k_ => XS.sipush Hj.here hx rfl (hb hby d2_199) k_) ?_
            show Go _ _ _ _ (Tl.setTop (mkF m 202 #[.val (.ref a), .val (.int F), .val (.int G), .val (.int I), .val (.int ((B i) &&& (255 : Int32))), .val (.int (4 : Int32)), .val (.int lo), .val (.int hi'), s8, s9] [(.int (255 : Int32)), (.int (B (i + 1)))]))
            refine Go.via (fun t_ k_ => XS.iand Hj.here hx rfl (hb hby d2_202) rfl k_) ?_
            show Go _ _ _ _ (Tl.setTop (mkF m 203 #[.val (.ref a), .val (.int F), .val (.int G), .val (.int I), .val (.int ((B i) &&& (255 : Int32))), .val (.int (4 : Int32)), .val (.int lo), .val (.int hi'), s8, s9] [(.int ((B (i + 1)) &&& (255 : Int32)))]))
            refine Go.via (fun t_ k_ => XS.istore Hj.here hx rfl (hb hby d2_203) rfl (l' := #[.val (.ref a), .val (.int F), .val (.int G), .val (.int I), .val (.int ((B i) &&& (255 : Int32))), .val (.int (4 : Int32)), .val (.int lo), .val (.int hi'), .val (.int ((B (i + 1)) &&& (255 : Int32))), s9]) (Jvm.Free.XS.store1 rfl o8 rfl) k_) ?_
            show Go _ _ _ _ (Tl.setTop (mkF m 205 #[.val (.ref a), .val (.int F), .val (.int G), .val (.int I), .val (.int ((B i) &&& (255 : Int32))), .val (.int (4 : Int32)), .val (.int lo), .val (.int hi'), .val (.int ((B (i + 1)) &&& (255 : Int32))), s9] []))
            refine Go.via (fun t_ k_ => XS.iload Hj.here hx rfl (hb hby d2_205) rfl k_) ?_
            show Go _ _ _ _ (Tl.setTop (mkF m 207 #[.val (.ref a), .val (.int F), .val (.int G), .val (.int I), .val (.int ((B i) &&& (255 : Int32))), .val (.int (4 : Int32)), .val (.int lo), .val (.int hi'), .val (.int ((B (i + 1)) &&& (255 : Int32))), s9] [(.int ((B (i + 1)) &&& (255 : Int32)))]))
            refine Go.via (fun t_ k_ => XS.iload Hj.here hx rfl (hb hby d2_207) rfl k_) ?_
            show Go _ _ _ _ (Tl.setTop (mkF m 209 #[.val (.ref a), .val (.int F), .val (.int G), .val (.int I), .val (.int ((B i) &&& (255 : Int32))), .val (.int (4 : Int32)), .val (.int lo), .val (.int hi'), .val (.int ((B (i + 1)) &&& (255 : Int32))), s9] [(.int lo), (.int ((B (i + 1)) &&& (255 : Int32)))]))
            by_cases hc209 : ((B (i + 1)) &&& (255 : Int32)) < lo
            · refine Go.via (fun t_ k_ => XS.icmpYes Hj.here hx rfl (pc0 := 209) (pc' := 219) rfl (hb hby d2_209) rfl ((tlt hc209).1) (by decide) (by decide) k_) ?_
              show Go _ _ _ _ (Tl.setTop (mkF m 219 #[.val (.ref a), .val (.int F), .val (.int G), .val (.int I), .val (.int ((B i) &&& (255 : Int32))), .val (.int (4 : Int32)), .val (.int lo), .val (.int hi'), .val (.int ((B (i + 1)) &&& (255 : Int32))), s9] []))
              refine Go.via (fun t_ k_ => XS.iconst Hj.here hx rfl (hb hby d2_219) k_) ?_
              show Go _ _ _ _ (Tl.setTop (mkF m 220 #[.val (.ref a), .val (.int F), .val (.int G), .val (.int I), .val (.int ((B i) &&& (255 : Int32))), .val (.int (4 : Int32)), .val (.int lo), .val (.int hi'), .val (.int ((B (i + 1)) &&& (255 : Int32))), s9] [(.int (0 : Int32))]))
              exact own_retN Hj hx hlk (by simp) hret (hb hby d2_220) ⟨by rw [← hok, own_okN hit (by rw [hnx]; rw [own_lti (own_sub qt hI (by omega) (by omega)) (m := 4) (by decide)] at hc189; rw [own_lti e1.1 ql] at hc209; rw [if_neg (by omega)])]; rfl, rfl⟩ (by decide) (by decide)
            · refine Go.via (fun t_ k_ => XS.icmpNo Hj.here hx rfl (hb hby d2_209) rfl ((flt hc209).1) k_) ?_
              show Go _ _ _ _ (Tl.setTop (mkF m 212 #[.val (.ref a), .val (.int F), .val (.int G), .val (.int I), .val (.int ((B i) &&& (255 : Int32))), .val (.int (4 : Int32)), .val (.int lo), .val (.int hi'), .val (.int ((B (i + 1)) &&& (255 : Int32))), s9] []))
              refine Go.via (fun t_ k_ => XS.iload Hj.here hx rfl (hb hby d2_212) rfl k_) ?_
              show Go _ _ _ _ (Tl.setTop (mkF m 214 #[.val (.ref a), .val (.int F), .val (.int G), .val (.int I), .val (.int ((B i) &&& (255 : Int32))), .val (.int (4 : Int32)), .val (.int lo), .val (.int hi'), .val (.int ((B (i + 1)) &&& (255 : Int32))), s9] [(.int ((B (i + 1)) &&& (255 : Int32)))]))
              refine Go.via (fun t_ k_ => XS.iload Hj.here hx rfl (hb hby d2_214) rfl k_) ?_
              show Go _ _ _ _ (Tl.setTop (mkF m 216 #[.val (.ref a), .val (.int F), .val (.int G), .val (.int I), .val (.int ((B i) &&& (255 : Int32))), .val (.int (4 : Int32)), .val (.int lo), .val (.int hi'), .val (.int ((B (i + 1)) &&& (255 : Int32))), s9] [(.int hi'), (.int ((B (i + 1)) &&& (255 : Int32)))]))
              by_cases hc216 : hi' < ((B (i + 1)) &&& (255 : Int32))
              · refine Go.via (fun t_ k_ => XS.icmpNo Hj.here hx rfl (hb hby d2_216) rfl ((tlt hc216).2.2.2) k_) ?_
                show Go _ _ _ _ (Tl.setTop (mkF m 219 #[.val (.ref a), .val (.int F), .val (.int G), .val (.int I), .val (.int ((B i) &&& (255 : Int32))), .val (.int (4 : Int32)), .val (.int lo), .val (.int hi'), .val (.int ((B (i + 1)) &&& (255 : Int32))), s9] []))
                refine Go.via (fun t_ k_ => XS.iconst Hj.here hx rfl (hb hby d2_219) k_) ?_
                show Go _ _ _ _ (Tl.setTop (mkF m 220 #[.val (.ref a), .val (.int F), .val (.int G), .val (.int I), .val (.int ((B i) &&& (255 : Int32))), .val (.int (4 : Int32)), .val (.int lo), .val (.int hi'), .val (.int ((B (i + 1)) &&& (255 : Int32))), s9] [(.int (0 : Int32))]))
                exact own_retN Hj hx hlk (by simp) hret (hb hby d2_220) ⟨by rw [← hok, own_okN hit (by rw [hnx]; rw [own_lti (own_sub qt hI (by omega) (by omega)) (m := 4) (by decide)] at hc189; rw [own_lti e1.1 ql] at hc209; rw [own_lti qh e1.1] at hc216; rw [if_neg (by omega)])]; rfl, rfl⟩ (by decide) (by decide)
              · refine Go.via (fun t_ k_ => XS.icmpYes Hj.here hx rfl (pc0 := 216) (pc' := 221) rfl (hb hby d2_216) rfl ((flt hc216).2.2.2) (by decide) (by decide) k_) ?_
                show Go _ _ _ _ (Tl.setTop (mkF m 221 #[.val (.ref a), .val (.int F), .val (.int G), .val (.int I), .val (.int ((B i) &&& (255 : Int32))), .val (.int (4 : Int32)), .val (.int lo), .val (.int hi'), .val (.int ((B (i + 1)) &&& (255 : Int32))), s9] []))
                refine Go.via (fun t_ k_ => XS.iconst Hj.here hx rfl (hb hby d2_221) k_) ?_
                show Go _ _ _ _ (Tl.setTop (mkF m 222 #[.val (.ref a), .val (.int F), .val (.int G), .val (.int I), .val (.int ((B i) &&& (255 : Int32))), .val (.int (4 : Int32)), .val (.int lo), .val (.int hi'), .val (.int ((B (i + 1)) &&& (255 : Int32))), s9] [(.int (2 : Int32))]))
                refine Go.via (fun t_ k_ => XS.istore Hj.here hx rfl (hb hby d2_222) rfl (l' := #[.val (.ref a), .val (.int F), .val (.int G), .val (.int I), .val (.int ((B i) &&& (255 : Int32))), .val (.int (4 : Int32)), .val (.int lo), .val (.int hi'), .val (.int ((B (i + 1)) &&& (255 : Int32))), .val (.int (2 : Int32))]) (Jvm.Free.XS.store1 rfl o9 rfl) k_) ?_
                show Go _ _ _ _ (Tl.setTop (mkF m 224 #[.val (.ref a), .val (.int F), .val (.int G), .val (.int I), .val (.int ((B i) &&& (255 : Int32))), .val (.int (4 : Int32)), .val (.int lo), .val (.int hi'), .val (.int ((B (i + 1)) &&& (255 : Int32))), .val (.int (2 : Int32))] []))
                refine Go.via (fun t_ k_ => XS.iload Hj.here hx rfl (hb hby d2_224) rfl k_) ?_
                show Go _ _ _ _ (Tl.setTop (mkF m 226 #[.val (.ref a), .val (.int F), .val (.int G), .val (.int I), .val (.int ((B i) &&& (255 : Int32))), .val (.int (4 : Int32)), .val (.int lo), .val (.int hi'), .val (.int ((B (i + 1)) &&& (255 : Int32))), .val (.int (2 : Int32))] [(.int (2 : Int32))]))
                refine Go.via (fun t_ k_ => XS.iload Hj.here hx rfl (hb hby d2_226) rfl k_) ?_
                show Go _ _ _ _ (Tl.setTop (mkF m 228 #[.val (.ref a), .val (.int F), .val (.int G), .val (.int I), .val (.int ((B i) &&& (255 : Int32))), .val (.int (4 : Int32)), .val (.int lo), .val (.int hi'), .val (.int ((B (i + 1)) &&& (255 : Int32))), .val (.int (2 : Int32))] [(.int (4 : Int32)), (.int (2 : Int32))]))
                refine Go.via (fun t_ k_ => XS.icmpNo Hj.here hx rfl (hb hby d2_228) rfl ((tlt (show (2 : Int32) < (4 : Int32) from (by decide))).2.1) k_) ?_
                show Go _ _ _ _ (Tl.setTop (mkF m 231 #[.val (.ref a), .val (.int F), .val (.int G), .val (.int I), .val (.int ((B i) &&& (255 : Int32))), .val (.int (4 : Int32)), .val (.int lo), .val (.int hi'), .val (.int ((B (i + 1)) &&& (255 : Int32))), .val (.int (2 : Int32))] []))
                refine Go.via (fun t_ k_ => XS.aloadN Hj.here hx rfl (hb hby d2_231) rfl rfl k_) ?_
                show Go _ _ _ _ (Tl.setTop (mkF m 232 #[.val (.ref a), .val (.int F), .val (.int G), .val (.int I), .val (.int ((B i) &&& (255 : Int32))), .val (.int (4 : Int32)), .val (.int lo), .val (.int hi'), .val (.int ((B (i + 1)) &&& (255 : Int32))), .val (.int (2 : Int32))] [(.ref a)]))
                refine Go.via (fun t_ k_ => XS.iloadN Hj.here hx rfl (hb hby d2_232) rfl k_) ?_
                show Go _ _ _ _ (Tl.setTop (mkF m 233 #[.val (.ref a), .val (.int F), .val (.int G), .val (.int I), .val (.int ((B i) &&& (255 : Int32))), .val (.int (4 : Int32)), .val (.int lo), .val (.int hi'), .val (.int ((B (i + 1)) &&& (255 : Int32))), .val (.int (2 : Int32))] [(.int I), (.ref a)]))
                refine Go.via (fun t_ k_ => XS.iload Hj.here hx rfl (hb hby d2_233) rfl k_) ?_
                show Go _ _ _ _ (Tl.setTop (mkF m 235 #[.val (.ref a), .val (.int F), .val (.int G), .val (.int I), .val (.int ((B i) &&& (255 : Int32))), .val (.int (4 : Int32)), .val (.int lo), .val (.int hi'), .val (.int ((B (i + 1)) &&& (255 : Int32))), .val (.int (2 : Int32))] [(.int (2 : Int32)), (.int I), (.ref a)]))
                refine Go.via (fun t_ k_ => XS.iadd Hj.here hx rfl (hb hby d2_235) rfl k_) ?_
                show Go _ _ _ _ (Tl.setTop (mkF m 236 #[.val (.ref a), .val (.int F), .val (.int G), .val (.int I), .val (.int ((B i) &&& (255 : Int32))), .val (.int (4 : Int32)), .val (.int lo), .val (.int hi'), .val (.int ((B (i + 1)) &&& (255 : Int32))), .val (.int (2 : Int32))] [(.int (I + (2 : Int32))), (.ref a)]))
                refine own_ldBA Hj hx hZ A (j := (i + 2)) (own_ix (2 : Int32) 2 hI (by decide) (by omega) (by decide)) (by omega) (g := (mkF m 236 #[.val (.ref a), .val (.int F), .val (.int G), .val (.int I), .val (.int ((B i) &&& (255 : Int32))), .val (.int (4 : Int32)), .val (.int lo), .val (.int hi'), .val (.int ((B (i + 1)) &&& (255 : Int32))), .val (.int (2 : Int32))] [(.int (I + (2 : Int32))), (.ref a)])) rfl rfl (hb hby d2_236) ?_
                show Go _ _ _ _ (Tl.setTop (mkF m 237 #[.val (.ref a), .val (.int F), .val (.int G), .val (.int I), .val (.int ((B i) &&& (255 : Int32))), .val (.int (4 : Int32)), .val (.int lo), .val (.int hi'), .val (.int ((B (i + 1)) &&& (255 : Int32))), .val (.int (2 : Int32))] [(.int (B (i + 2)))]))
                refine Go.via (fun t_ k_ => XS.sipush Hj.here hx rfl (hb hby d2_237) k_) ?_
                show Go _ _ _ _ (Tl.setTop (mkF m 240 #[.val (.ref a), .val (.int F), .val (.int G), .val (.int I), .val (.int ((B i) &&& (255 : Int32))), .val (.int (4 : Int32)), .val (.int lo), .val (.int hi'), .val (.int ((B (i + 1)) &&& (255 : Int32))), .val (.int (2 : Int32))] [(.int (192 : Int32)), (.int (B (i + 2)))]))
                refine Go.via (fun t_ k_ => XS.iand Hj.here hx rfl (hb hby d2_240) rfl k_) ?_
                show Go _ _ _ _ (Tl.setTop (mkF m 241 #[.val (.ref a), .val (.int F), .val (.int G), .val (.int I), .val (.int ((B i) &&& (255 : Int32))), .val (.int (4 : Int32)), .val (.int lo), .val (.int hi'), .val (.int ((B (i + 1)) &&& (255 : Int32))), .val (.int (2 : Int32))] [(.int ((B (i + 2)) &&& (192 : Int32)))]))
                refine Go.via (fun t_ k_ => XS.sipush Hj.here hx rfl (hb hby d2_241) k_) ?_
                show Go _ _ _ _ (Tl.setTop (mkF m 244 #[.val (.ref a), .val (.int F), .val (.int G), .val (.int I), .val (.int ((B i) &&& (255 : Int32))), .val (.int (4 : Int32)), .val (.int lo), .val (.int hi'), .val (.int ((B (i + 1)) &&& (255 : Int32))), .val (.int (2 : Int32))] [(.int (128 : Int32)), (.int ((B (i + 2)) &&& (192 : Int32)))]))
                by_cases hc244 : ((B (i + 2)) &&& (192 : Int32)) = (128 : Int32)
                · refine Go.via (fun t_ k_ => XS.icmpYes Hj.here hx rfl (pc0 := 244) (pc' := 249) rfl (hb hby d2_244) rfl ((teq hc244).1) (by decide) (by decide) k_) ?_
                  show Go _ _ _ _ (Tl.setTop (mkF m 249 #[.val (.ref a), .val (.int F), .val (.int G), .val (.int I), .val (.int ((B i) &&& (255 : Int32))), .val (.int (4 : Int32)), .val (.int lo), .val (.int hi'), .val (.int ((B (i + 1)) &&& (255 : Int32))), .val (.int (2 : Int32))] []))
                  have ht2 := hc244
                  clear hc244
                  refine Go.via (fun t_ k_ => XS.iinc Hj.here hx rfl (hb hby d2_249) rfl (l' := #[.val (.ref a), .val (.int F), .val (.int G), .val (.int I), .val (.int ((B i) &&& (255 : Int32))), .val (.int (4 : Int32)), .val (.int lo), .val (.int hi'), .val (.int ((B (i + 1)) &&& (255 : Int32))), .val (.int (3 : Int32))]) rfl k_) ?_
                  show Go _ _ _ _ (Tl.setTop (mkF m 252 #[.val (.ref a), .val (.int F), .val (.int G), .val (.int I), .val (.int ((B i) &&& (255 : Int32))), .val (.int (4 : Int32)), .val (.int lo), .val (.int hi'), .val (.int ((B (i + 1)) &&& (255 : Int32))), .val (.int (3 : Int32))] []))
                  refine Go.via (fun t_ k_ => XS.goto Hj.here hx rfl (pc0 := 252) (pc' := 224) rfl (hb hby d2_252) (by decide) (by decide) k_) ?_
                  show Go _ _ _ _ (Tl.setTop (mkF m 224 #[.val (.ref a), .val (.int F), .val (.int G), .val (.int I), .val (.int ((B i) &&& (255 : Int32))), .val (.int (4 : Int32)), .val (.int lo), .val (.int hi'), .val (.int ((B (i + 1)) &&& (255 : Int32))), .val (.int (3 : Int32))] []))
                  refine Go.via (fun t_ k_ => XS.iload Hj.here hx rfl (hb hby d2_224) rfl k_) ?_
                  show Go _ _ _ _ (Tl.setTop (mkF m 226 #[.val (.ref a), .val (.int F), .val (.int G), .val (.int I), .val (.int ((B i) &&& (255 : Int32))), .val (.int (4 : Int32)), .val (.int lo), .val (.int hi'), .val (.int ((B (i + 1)) &&& (255 : Int32))), .val (.int (3 : Int32))] [(.int (3 : Int32))]))
                  refine Go.via (fun t_ k_ => XS.iload Hj.here hx rfl (hb hby d2_226) rfl k_) ?_
                  show Go _ _ _ _ (Tl.setTop (mkF m 228 #[.val (.ref a), .val (.int F), .val (.int G), .val (.int I), .val (.int ((B i) &&& (255 : Int32))), .val (.int (4 : Int32)), .val (.int lo), .val (.int hi'), .val (.int ((B (i + 1)) &&& (255 : Int32))), .val (.int (3 : Int32))] [(.int (4 : Int32)), (.int (3 : Int32))]))
                  refine Go.via (fun t_ k_ => XS.icmpNo Hj.here hx rfl (hb hby d2_228) rfl ((tlt (show (3 : Int32) < (4 : Int32) from (by decide))).2.1) k_) ?_
                  show Go _ _ _ _ (Tl.setTop (mkF m 231 #[.val (.ref a), .val (.int F), .val (.int G), .val (.int I), .val (.int ((B i) &&& (255 : Int32))), .val (.int (4 : Int32)), .val (.int lo), .val (.int hi'), .val (.int ((B (i + 1)) &&& (255 : Int32))), .val (.int (3 : Int32))] []))
                  refine Go.via (fun t_ k_ => XS.aloadN Hj.here hx rfl (hb hby d2_231) rfl rfl k_) ?_
                  show Go _ _ _ _ (Tl.setTop (mkF m 232 #[.val (.ref a), .val (.int F), .val (.int G), .val (.int I), .val (.int ((B i) &&& (255 : Int32))), .val (.int (4 : Int32)), .val (.int lo), .val (.int hi'), .val (.int ((B (i + 1)) &&& (255 : Int32))), .val (.int (3 : Int32))] [(.ref a)]))
                  refine Go.via (fun t_ k_ => XS.iloadN Hj.here hx rfl (hb hby d2_232) rfl k_) ?_
                  show Go _ _ _ _ (Tl.setTop (mkF m 233 #[.val (.ref a), .val (.int F), .val (.int G), .val (.int I), .val (.int ((B i) &&& (255 : Int32))), .val (.int (4 : Int32)), .val (.int lo), .val (.int hi'), .val (.int ((B (i + 1)) &&& (255 : Int32))), .val (.int (3 : Int32))] [(.int I), (.ref a)]))
                  refine Go.via (fun t_ k_ => XS.iload Hj.here hx rfl (hb hby d2_233) rfl k_) ?_
                  show Go _ _ _ _ (Tl.setTop (mkF m 235 #[.val (.ref a), .val (.int F), .val (.int G), .val (.int I), .val (.int ((B i) &&& (255 : Int32))), .val (.int (4 : Int32)), .val (.int lo), .val (.int hi'), .val (.int ((B (i + 1)) &&& (255 : Int32))), .val (.int (3 : Int32))] [(.int (3 : Int32)), (.int I), (.ref a)]))
                  refine Go.via (fun t_ k_ => XS.iadd Hj.here hx rfl (hb hby d2_235) rfl k_) ?_
                  show Go _ _ _ _ (Tl.setTop (mkF m 236 #[.val (.ref a), .val (.int F), .val (.int G), .val (.int I), .val (.int ((B i) &&& (255 : Int32))), .val (.int (4 : Int32)), .val (.int lo), .val (.int hi'), .val (.int ((B (i + 1)) &&& (255 : Int32))), .val (.int (3 : Int32))] [(.int (I + (3 : Int32))), (.ref a)]))
                  refine own_ldBA Hj hx hZ A (j := (i + 3)) (own_ix (3 : Int32) 3 hI (by decide) (by omega) (by decide)) (by omega) (g := (mkF m 236 #[.val (.ref a), .val (.int F), .val (.int G), .val (.int I), .val (.int ((B i) &&& (255 : Int32))), .val (.int (4 : Int32)), .val (.int lo), .val (.int hi'), .val (.int ((B (i + 1)) &&& (255 : Int32))), .val (.int (3 : Int32))] [(.int (I + (3 : Int32))), (.ref a)])) rfl rfl (hb hby d2_236) ?_
                  show Go _ _ _ _ (Tl.setTop (mkF m 237 #[.val (.ref a), .val (.int F), .val (.int G), .val (.int I), .val (.int ((B i) &&& (255 : Int32))), .val (.int (4 : Int32)), .val (.int lo), .val (.int hi'), .val (.int ((B (i + 1)) &&& (255 : Int32))), .val (.int (3 : Int32))] [(.int (B (i + 3)))]))
                  refine Go.via (fun t_ k_ => XS.sipush Hj.here hx rfl (hb hby d2_237) k_) ?_
                  show Go _ _ _ _ (Tl.setTop (mkF m 240 #[.val (.ref a), .val (.int F), .val (.int G), .val (.int I), .val (.int ((B i) &&& (255 : Int32))), .val (.int (4 : Int32)), .val (.int lo), .val (.int hi'), .val (.int ((B (i + 1)) &&& (255 : Int32))), .val (.int (3 : Int32))] [(.int (192 : Int32)), (.int (B (i + 3)))]))
                  refine Go.via (fun t_ k_ => XS.iand Hj.here hx rfl (hb hby d2_240) rfl k_) ?_
                  show Go _ _ _ _ (Tl.setTop (mkF m 241 #[.val (.ref a), .val (.int F), .val (.int G), .val (.int I), .val (.int ((B i) &&& (255 : Int32))), .val (.int (4 : Int32)), .val (.int lo), .val (.int hi'), .val (.int ((B (i + 1)) &&& (255 : Int32))), .val (.int (3 : Int32))] [(.int ((B (i + 3)) &&& (192 : Int32)))]))
                  refine Go.via (fun t_ k_ => XS.sipush Hj.here hx rfl (hb hby d2_241) k_) ?_
                  show Go _ _ _ _ (Tl.setTop (mkF m 244 #[.val (.ref a), .val (.int F), .val (.int G), .val (.int I), .val (.int ((B i) &&& (255 : Int32))), .val (.int (4 : Int32)), .val (.int lo), .val (.int hi'), .val (.int ((B (i + 1)) &&& (255 : Int32))), .val (.int (3 : Int32))] [(.int (128 : Int32)), (.int ((B (i + 3)) &&& (192 : Int32)))]))
                  by_cases hc244 : ((B (i + 3)) &&& (192 : Int32)) = (128 : Int32)
                  · refine Go.via (fun t_ k_ => XS.icmpYes Hj.here hx rfl (pc0 := 244) (pc' := 249) rfl (hb hby d2_244) rfl ((teq hc244).1) (by decide) (by decide) k_) ?_
                    show Go _ _ _ _ (Tl.setTop (mkF m 249 #[.val (.ref a), .val (.int F), .val (.int G), .val (.int I), .val (.int ((B i) &&& (255 : Int32))), .val (.int (4 : Int32)), .val (.int lo), .val (.int hi'), .val (.int ((B (i + 1)) &&& (255 : Int32))), .val (.int (3 : Int32))] []))
                    have ht3 := hc244
                    clear hc244
                    refine Go.via (fun t_ k_ => XS.iinc Hj.here hx rfl (hb hby d2_249) rfl (l' := #[.val (.ref a), .val (.int F), .val (.int G), .val (.int I), .val (.int ((B i) &&& (255 : Int32))), .val (.int (4 : Int32)), .val (.int lo), .val (.int hi'), .val (.int ((B (i + 1)) &&& (255 : Int32))), .val (.int (4 : Int32))]) rfl k_) ?_
                    show Go _ _ _ _ (Tl.setTop (mkF m 252 #[.val (.ref a), .val (.int F), .val (.int G), .val (.int I), .val (.int ((B i) &&& (255 : Int32))), .val (.int (4 : Int32)), .val (.int lo), .val (.int hi'), .val (.int ((B (i + 1)) &&& (255 : Int32))), .val (.int (4 : Int32))] []))
                    refine Go.via (fun t_ k_ => XS.goto Hj.here hx rfl (pc0 := 252) (pc' := 224) rfl (hb hby d2_252) (by decide) (by decide) k_) ?_
                    show Go _ _ _ _ (Tl.setTop (mkF m 224 #[.val (.ref a), .val (.int F), .val (.int G), .val (.int I), .val (.int ((B i) &&& (255 : Int32))), .val (.int (4 : Int32)), .val (.int lo), .val (.int hi'), .val (.int ((B (i + 1)) &&& (255 : Int32))), .val (.int (4 : Int32))] []))
                    refine Go.via (fun t_ k_ => XS.iload Hj.here hx rfl (hb hby d2_224) rfl k_) ?_
                    show Go _ _ _ _ (Tl.setTop (mkF m 226 #[.val (.ref a), .val (.int F), .val (.int G), .val (.int I), .val (.int ((B i) &&& (255 : Int32))), .val (.int (4 : Int32)), .val (.int lo), .val (.int hi'), .val (.int ((B (i + 1)) &&& (255 : Int32))), .val (.int (4 : Int32))] [(.int (4 : Int32))]))
                    refine Go.via (fun t_ k_ => XS.iload Hj.here hx rfl (hb hby d2_226) rfl k_) ?_
                    show Go _ _ _ _ (Tl.setTop (mkF m 228 #[.val (.ref a), .val (.int F), .val (.int G), .val (.int I), .val (.int ((B i) &&& (255 : Int32))), .val (.int (4 : Int32)), .val (.int lo), .val (.int hi'), .val (.int ((B (i + 1)) &&& (255 : Int32))), .val (.int (4 : Int32))] [(.int (4 : Int32)), (.int (4 : Int32))]))
                    refine Go.via (fun t_ k_ => XS.icmpYes Hj.here hx rfl (pc0 := 228) (pc' := 255) rfl (hb hby d2_228) rfl ((flt (show ¬ ((4 : Int32) < (4 : Int32)) from (by decide))).2.1) (by decide) (by decide) k_) ?_
                    show Go _ _ _ _ (Tl.setTop (mkF m 255 #[.val (.ref a), .val (.int F), .val (.int G), .val (.int I), .val (.int ((B i) &&& (255 : Int32))), .val (.int (4 : Int32)), .val (.int lo), .val (.int hi'), .val (.int ((B (i + 1)) &&& (255 : Int32))), .val (.int (4 : Int32))] []))
                    refine Go.via (fun t_ k_ => XS.iloadN Hj.here hx rfl (hb hby d2_255) rfl k_) ?_
                    show Go _ _ _ _ (Tl.setTop (mkF m 256 #[.val (.ref a), .val (.int F), .val (.int G), .val (.int I), .val (.int ((B i) &&& (255 : Int32))), .val (.int (4 : Int32)), .val (.int lo), .val (.int hi'), .val (.int ((B (i + 1)) &&& (255 : Int32))), .val (.int (4 : Int32))] [(.int I)]))
                    refine Go.via (fun t_ k_ => XS.iload Hj.here hx rfl (hb hby d2_256) rfl k_) ?_
                    show Go _ _ _ _ (Tl.setTop (mkF m 258 #[.val (.ref a), .val (.int F), .val (.int G), .val (.int I), .val (.int ((B i) &&& (255 : Int32))), .val (.int (4 : Int32)), .val (.int lo), .val (.int hi'), .val (.int ((B (i + 1)) &&& (255 : Int32))), .val (.int (4 : Int32))] [(.int (4 : Int32)), (.int I)]))
                    refine Go.via (fun t_ k_ => XS.iadd Hj.here hx rfl (hb hby d2_258) rfl k_) ?_
                    show Go _ _ _ _ (Tl.setTop (mkF m 259 #[.val (.ref a), .val (.int F), .val (.int G), .val (.int I), .val (.int ((B i) &&& (255 : Int32))), .val (.int (4 : Int32)), .val (.int lo), .val (.int hi'), .val (.int ((B (i + 1)) &&& (255 : Int32))), .val (.int (4 : Int32))] [(.int (I + (4 : Int32)))]))
                    refine Go.via (fun t_ k_ => XS.istoreN Hj.here hx rfl (hb hby d2_259) rfl (l' := #[.val (.ref a), .val (.int F), .val (.int G), .val (.int (I + (4 : Int32))), .val (.int ((B i) &&& (255 : Int32))), .val (.int (4 : Int32)), .val (.int lo), .val (.int hi'), .val (.int ((B (i + 1)) &&& (255 : Int32))), .val (.int (4 : Int32))]) rfl k_) ?_
                    show Go _ _ _ _ (Tl.setTop (mkF m 260 #[.val (.ref a), .val (.int F), .val (.int G), .val (.int (I + (4 : Int32))), .val (.int ((B i) &&& (255 : Int32))), .val (.int (4 : Int32)), .val (.int lo), .val (.int hi'), .val (.int ((B (i + 1)) &&& (255 : Int32))), .val (.int (4 : Int32))] []))
                    refine Go.via (fun t_ k_ => XS.goto Hj.here hx rfl (pc0 := 260) (pc' := 2) rfl (hb hby d2_260) (by decide) (by decide) k_) ?_
                    show Go _ _ _ _ (Tl.setTop (mkF m 2 #[.val (.ref a), .val (.int F), .val (.int G), .val (.int (I + (4 : Int32))), .val (.int ((B i) &&& (255 : Int32))), .val (.int (4 : Int32)), .val (.int lo), .val (.int hi'), .val (.int ((B (i + 1)) &&& (255 : Int32))), .val (.int (4 : Int32))] []))
                    have hj : nx B i t = ((i + 4 : Nat) : Int) := (by rw [hnx]; rw [own_lti (own_sub qt hI (by omega) (by omega)) (m := 4) (by decide)] at hc189; rw [own_lti e1.1 ql] at hc209; rw [own_lti qh e1.1] at hc216; rw [own_t2 e2.1 e2.2] at ht2; rw [own_t2 e3.1 e3.2] at ht3; rw [if_pos (by omega)])
                    have hjt : i + 4 ≤ t := by
                      rw [own_lti (own_sub qt hI (by omega) (by omega)) (m := 4) (by decide)] at hc189
                      rw [own_lti e1.1 ql] at hc209
                      rw [own_lti qh e1.1] at hc216
                      rw [own_t2 e2.1 e2.2] at ht2
                      rw [own_t2 e3.1 e3.2] at ht3
                      omega
                    exact ih (i + 4) _ _ _ _ _ _ _ Tl (own_ix (4 : Int32) 4 hI (by decide) (by omega) (by decide)) hjt (by omega) (by rw [← hok, own_okS hit hj]) (One.val rfl) (One.val rfl) (One.val rfl) (One.val rfl) (One.val rfl) (One.val rfl) Hj
                  · refine Go.via (fun t_ k_ => XS.icmpNo Hj.here hx rfl (hb hby d2_244) rfl ((feq hc244).1) k_) ?_
                    show Go _ _ _ _ (Tl.setTop (mkF m 247 #[.val (.ref a), .val (.int F), .val (.int G), .val (.int I), .val (.int ((B i) &&& (255 : Int32))), .val (.int (4 : Int32)), .val (.int lo), .val (.int hi'), .val (.int ((B (i + 1)) &&& (255 : Int32))), .val (.int (3 : Int32))] []))
                    have ht3 := hc244
                    clear hc244
                    refine Go.via (fun t_ k_ => XS.iconst Hj.here hx rfl (hb hby d2_247) k_) ?_
                    show Go _ _ _ _ (Tl.setTop (mkF m 248 #[.val (.ref a), .val (.int F), .val (.int G), .val (.int I), .val (.int ((B i) &&& (255 : Int32))), .val (.int (4 : Int32)), .val (.int lo), .val (.int hi'), .val (.int ((B (i + 1)) &&& (255 : Int32))), .val (.int (3 : Int32))] [(.int (0 : Int32))]))
                    exact own_retN Hj hx hlk (by simp) hret (hb hby d2_248) ⟨by rw [← hok, own_okN hit (by rw [hnx]; rw [own_lti (own_sub qt hI (by omega) (by omega)) (m := 4) (by decide)] at hc189; rw [own_lti e1.1 ql] at hc209; rw [own_lti qh e1.1] at hc216; rw [own_t2 e2.1 e2.2] at ht2; rw [own_t2 e3.1 e3.2] at ht3; rw [if_neg (by omega)])]; rfl, rfl⟩ (by decide) (by decide)
                · refine Go.via (fun t_ k_ => XS.icmpNo Hj.here hx rfl (hb hby d2_244) rfl ((feq hc244).1) k_) ?_
                  show Go _ _ _ _ (Tl.setTop (mkF m 247 #[.val (.ref a), .val (.int F), .val (.int G), .val (.int I), .val (.int ((B i) &&& (255 : Int32))), .val (.int (4 : Int32)), .val (.int lo), .val (.int hi'), .val (.int ((B (i + 1)) &&& (255 : Int32))), .val (.int (2 : Int32))] []))
                  have ht2 := hc244
                  clear hc244
                  refine Go.via (fun t_ k_ => XS.iconst Hj.here hx rfl (hb hby d2_247) k_) ?_
                  show Go _ _ _ _ (Tl.setTop (mkF m 248 #[.val (.ref a), .val (.int F), .val (.int G), .val (.int I), .val (.int ((B i) &&& (255 : Int32))), .val (.int (4 : Int32)), .val (.int lo), .val (.int hi'), .val (.int ((B (i + 1)) &&& (255 : Int32))), .val (.int (2 : Int32))] [(.int (0 : Int32))]))
                  exact own_retN Hj hx hlk (by simp) hret (hb hby d2_248) ⟨by rw [← hok, own_okN hit (by rw [hnx]; rw [own_lti (own_sub qt hI (by omega) (by omega)) (m := 4) (by decide)] at hc189; rw [own_lti e1.1 ql] at hc209; rw [own_lti qh e1.1] at hc216; rw [own_t2 e2.1 e2.2] at ht2; rw [if_neg (by omega)])]; rfl, rfl⟩ (by decide) (by decide)
        refine Go.via (fun t_ k_ => XS.iloadN Hj.here hx rfl (hb hby d2_2) rfl k_) ?_
        show Go _ _ _ _ (Tj.setTop (mkF m 3 #[.val (.ref a), .val (.int F), .val (.int G), .val (.int I), s4, s5, s6, s7, s8, s9] [(.int I)]))
        refine Go.via (fun t_ k_ => XS.iloadN Hj.here hx rfl (hb hby d2_3) rfl k_) ?_
        show Go _ _ _ _ (Tj.setTop (mkF m 4 #[.val (.ref a), .val (.int F), .val (.int G), .val (.int I), s4, s5, s6, s7, s8, s9] [(.int G), (.int I)]))
        refine Go.via (fun t_ k_ => XS.icmpNo Hj.here hx rfl (hb hby d2_4) rfl ((tlt (show I < G from ((own_lti hI qt).mpr hit))).2.1) k_) ?_
        show Go _ _ _ _ (Tj.setTop (mkF m 7 #[.val (.ref a), .val (.int F), .val (.int G), .val (.int I), s4, s5, s6, s7, s8, s9] []))
        refine Go.via (fun t_ k_ => XS.aloadN Hj.here hx rfl (hb hby d2_7) rfl rfl k_) ?_
        show Go _ _ _ _ (Tj.setTop (mkF m 8 #[.val (.ref a), .val (.int F), .val (.int G), .val (.int I), s4, s5, s6, s7, s8, s9] [(.ref a)]))
        refine Go.via (fun t_ k_ => XS.iloadN Hj.here hx rfl (hb hby d2_8) rfl k_) ?_
        show Go _ _ _ _ (Tj.setTop (mkF m 9 #[.val (.ref a), .val (.int F), .val (.int G), .val (.int I), s4, s5, s6, s7, s8, s9] [(.int I), (.ref a)]))
        refine own_ldBA Hj hx hZ A (j := i) hI (by omega) (g := (mkF m 9 #[.val (.ref a), .val (.int F), .val (.int G), .val (.int I), s4, s5, s6, s7, s8, s9] [(.int I), (.ref a)])) rfl rfl (hb hby d2_9) ?_
        show Go _ _ _ _ (Tj.setTop (mkF m 10 #[.val (.ref a), .val (.int F), .val (.int G), .val (.int I), s4, s5, s6, s7, s8, s9] [(.int (B i))]))
        refine Go.via (fun t_ k_ => XS.sipush Hj.here hx rfl (hb hby d2_10) k_) ?_
        show Go _ _ _ _ (Tj.setTop (mkF m 13 #[.val (.ref a), .val (.int F), .val (.int G), .val (.int I), s4, s5, s6, s7, s8, s9] [(.int (255 : Int32)), (.int (B i))]))
        refine Go.via (fun t_ k_ => XS.iand Hj.here hx rfl (hb hby d2_13) rfl k_) ?_
        show Go _ _ _ _ (Tj.setTop (mkF m 14 #[.val (.ref a), .val (.int F), .val (.int G), .val (.int I), s4, s5, s6, s7, s8, s9] [(.int ((B i) &&& (255 : Int32)))]))
        refine Go.via (fun t_ k_ => XS.istore Hj.here hx rfl (hb hby d2_14) rfl (l' := #[.val (.ref a), .val (.int F), .val (.int G), .val (.int I), .val (.int ((B i) &&& (255 : Int32))), s5, s6, s7, s8, s9]) (Jvm.Free.XS.store1 rfl o4 rfl) k_) ?_
        show Go _ _ _ _ (Tj.setTop (mkF m 16 #[.val (.ref a), .val (.int F), .val (.int G), .val (.int I), .val (.int ((B i) &&& (255 : Int32))), s5, s6, s7, s8, s9] []))
        refine Go.via (fun t_ k_ => XS.iload Hj.here hx rfl (hb hby d2_16) rfl k_) ?_
        show Go _ _ _ _ (Tj.setTop (mkF m 18 #[.val (.ref a), .val (.int F), .val (.int G), .val (.int I), .val (.int ((B i) &&& (255 : Int32))), s5, s6, s7, s8, s9] [(.int ((B i) &&& (255 : Int32)))]))
        refine Go.via (fun t_ k_ => XS.sipush Hj.here hx rfl (hb hby d2_18) k_) ?_
        show Go _ _ _ _ (Tj.setTop (mkF m 21 #[.val (.ref a), .val (.int F), .val (.int G), .val (.int I), .val (.int ((B i) &&& (255 : Int32))), s5, s6, s7, s8, s9] [(.int (128 : Int32)), (.int ((B i) &&& (255 : Int32)))]))
        by_cases hc21 : ((B i) &&& (255 : Int32)) < (128 : Int32)
        · refine Go.via (fun t_ k_ => XS.icmpNo Hj.here hx rfl (hb hby d2_21) rfl ((tlt hc21).2.1) k_) ?_
          show Go _ _ _ _ (Tj.setTop (mkF m 24 #[.val (.ref a), .val (.int F), .val (.int G), .val (.int I), .val (.int ((B i) &&& (255 : Int32))), s5, s6, s7, s8, s9] []))
          refine Go.via (fun t_ k_ => XS.iinc Hj.here hx rfl (hb hby d2_24) rfl (l' := #[.val (.ref a), .val (.int F), .val (.int G), .val (.int (I + (1 : Int32))), .val (.int ((B i) &&& (255 : Int32))), s5, s6, s7, s8, s9]) rfl k_) ?_
          show Go _ _ _ _ (Tj.setTop (mkF m 27 #[.val (.ref a), .val (.int F), .val (.int G), .val (.int (I + (1 : Int32))), .val (.int ((B i) &&& (255 : Int32))), s5, s6, s7, s8, s9] []))
          refine Go.via (fun t_ k_ => XS.goto Hj.here hx rfl (pc0 := 27) (pc' := 2) rfl (hb hby d2_27) (by decide) (by decide) k_) ?_
          show Go _ _ _ _ (Tj.setTop (mkF m 2 #[.val (.ref a), .val (.int F), .val (.int G), .val (.int (I + (1 : Int32))), .val (.int ((B i) &&& (255 : Int32))), s5, s6, s7, s8, s9] []))
          have hj : nx B i t = ((i + 1 : Nat) : Int) := (by rw [own_lti e0.1 (m := 128) (by decide)] at hc21; have b0 := e0.2; have b1 := e1.2; have b2 := e2.2; have b3 := e3.2; unfold nx; generalize bv B i = n0 at *; generalize bv B (i + 1) = n1 at *; generalize bv B (i + 2) = n2 at *; generalize bv B (i + 3) = n3 at *; unfold nxtI; rw [if_pos hc21])
          have hjt : i + 1 ≤ t := by
            omega
          exact ih (i + 1) _ _ _ _ _ _ _ Tj (own_ix (1 : Int32) 1 hI (by decide) (by omega) (by decide)) hjt (by omega) (by rw [← hok, own_okS hit hj]) (One.val rfl) o5 o6 o7 o8 o9 Hj
        · refine Go.via (fun t_ k_ => XS.icmpYes Hj.here hx rfl (pc0 := 21) (pc' := 30) rfl (hb hby d2_21) rfl ((flt hc21).2.1) (by decide) (by decide) k_) ?_
          show Go _ _ _ _ (Tj.setTop (mkF m 30 #[.val (.ref a), .val (.int F), .val (.int G), .val (.int I), .val (.int ((B i) &&& (255 : Int32))), s5, s6, s7, s8, s9] []))
          refine Go.via (fun t_ k_ => XS.sipush Hj.here hx rfl (hb hby d2_30) k_) ?_
          show Go _ _ _ _ (Tj.setTop (mkF m 33 #[.val (.ref a), .val (.int F), .val (.int G), .val (.int I), .val (.int ((B i) &&& (255 : Int32))), s5, s6, s7, s8, s9] [(.int (128 : Int32))]))
          refine Go.via (fun t_ k_ => XS.istore Hj.here hx rfl (hb hby d2_33) rfl (l' := #[.val (.ref a), .val (.int F), .val (.int G), .val (.int I), .val (.int ((B i) &&& (255 : Int32))), s5, .val (.int (128 : Int32)), s7, s8, s9]) (Jvm.Free.XS.store1 rfl o6 rfl) k_) ?_
          show Go _ _ _ _ (Tj.setTop (mkF m 35 #[.val (.ref a), .val (.int F), .val (.int G), .val (.int I), .val (.int ((B i) &&& (255 : Int32))), s5, .val (.int (128 : Int32)), s7, s8, s9] []))
          refine Go.via (fun t_ k_ => XS.sipush Hj.here hx rfl (hb hby d2_35) k_) ?_
          show Go _ _ _ _ (Tj.setTop (mkF m 38 #[.val (.ref a), .val (.int F), .val (.int G), .val (.int I), .val (.int ((B i) &&& (255 : Int32))), s5, .val (.int (128 : Int32)), s7, s8, s9] [(.int (191 : Int32))]))
          refine Go.via (fun t_ k_ => XS.istore Hj.here hx rfl (hb hby d2_38) rfl (l' := #[.val (.ref a), .val (.int F), .val (.int G), .val (.int I), .val (.int ((B i) &&& (255 : Int32))), s5, .val (.int (128 : Int32)), .val (.int (191 : Int32)), s8, s9]) (Jvm.Free.XS.store1 rfl o7 rfl) k_) ?_
          show Go _ _ _ _ (Tj.setTop (mkF m 40 #[.val (.ref a), .val (.int F), .val (.int G), .val (.int I), .val (.int ((B i) &&& (255 : Int32))), s5, .val (.int (128 : Int32)), .val (.int (191 : Int32)), s8, s9] []))
          refine Go.via (fun t_ k_ => XS.iload Hj.here hx rfl (hb hby d2_40) rfl k_) ?_
          show Go _ _ _ _ (Tj.setTop (mkF m 42 #[.val (.ref a), .val (.int F), .val (.int G), .val (.int I), .val (.int ((B i) &&& (255 : Int32))), s5, .val (.int (128 : Int32)), .val (.int (191 : Int32)), s8, s9] [(.int ((B i) &&& (255 : Int32)))]))
          refine Go.via (fun t_ k_ => XS.sipush Hj.here hx rfl (hb hby d2_42) k_) ?_
          show Go _ _ _ _ (Tj.setTop (mkF m 45 #[.val (.ref a), .val (.int F), .val (.int G), .val (.int I), .val (.int ((B i) &&& (255 : Int32))), s5, .val (.int (128 : Int32)), .val (.int (191 : Int32)), s8, s9] [(.int (194 : Int32)), (.int ((B i) &&& (255 : Int32)))]))
          by_cases hc45 : ((B i) &&& (255 : Int32)) < (194 : Int32)
          · refine Go.via (fun t_ k_ => XS.icmpYes Hj.here hx rfl (pc0 := 45) (pc' := 62) rfl (hb hby d2_45) rfl ((tlt hc45).1) (by decide) (by decide) k_) ?_
            show Go _ _ _ _ (Tj.setTop (mkF m 62 #[.val (.ref a), .val (.int F), .val (.int G), .val (.int I), .val (.int ((B i) &&& (255 : Int32))), s5, .val (.int (128 : Int32)), .val (.int (191 : Int32)), s8, s9] []))
            refine Go.via (fun t_ k_ => XS.iload Hj.here hx rfl (hb hby d2_62) rfl k_) ?_
            show Go _ _ _ _ (Tj.setTop (mkF m 64 #[.val (.ref a), .val (.int F), .val (.int G), .val (.int I), .val (.int ((B i) &&& (255 : Int32))), s5, .val (.int (128 : Int32)), .val (.int (191 : Int32)), s8, s9] [(.int ((B i) &&& (255 : Int32)))]))
            refine Go.via (fun t_ k_ => XS.sipush Hj.here hx rfl (hb hby d2_64) k_) ?_
            show Go _ _ _ _ (Tj.setTop (mkF m 67 #[.val (.ref a), .val (.int F), .val (.int G), .val (.int I), .val (.int ((B i) &&& (255 : Int32))), s5, .val (.int (128 : Int32)), .val (.int (191 : Int32)), s8, s9] [(.int (224 : Int32)), (.int ((B i) &&& (255 : Int32)))]))
            by_cases hc67 : ((B i) &&& (255 : Int32)) < (224 : Int32)
            · refine Go.via (fun t_ k_ => XS.icmpYes Hj.here hx rfl (pc0 := 67) (pc' := 122) rfl (hb hby d2_67) rfl ((tlt hc67).1) (by decide) (by decide) k_) ?_
              show Go _ _ _ _ (Tj.setTop (mkF m 122 #[.val (.ref a), .val (.int F), .val (.int G), .val (.int I), .val (.int ((B i) &&& (255 : Int32))), s5, .val (.int (128 : Int32)), .val (.int (191 : Int32)), s8, s9] []))
              refine Go.via (fun t_ k_ => XS.iload Hj.here hx rfl (hb hby d2_122) rfl k_) ?_
              show Go _ _ _ _ (Tj.setTop (mkF m 124 #[.val (.ref a), .val (.int F), .val (.int G), .val (.int I), .val (.int ((B i) &&& (255 : Int32))), s5, .val (.int (128 : Int32)), .val (.int (191 : Int32)), s8, s9] [(.int ((B i) &&& (255 : Int32)))]))
              refine Go.via (fun t_ k_ => XS.sipush Hj.here hx rfl (hb hby d2_124) k_) ?_
              show Go _ _ _ _ (Tj.setTop (mkF m 127 #[.val (.ref a), .val (.int F), .val (.int G), .val (.int I), .val (.int ((B i) &&& (255 : Int32))), s5, .val (.int (128 : Int32)), .val (.int (191 : Int32)), s8, s9] [(.int (240 : Int32)), (.int ((B i) &&& (255 : Int32)))]))
              by_cases hc127 : ((B i) &&& (255 : Int32)) < (240 : Int32)
              · refine Go.via (fun t_ k_ => XS.icmpYes Hj.here hx rfl (pc0 := 127) (pc' := 182) rfl (hb hby d2_127) rfl ((tlt hc127).1) (by decide) (by decide) k_) ?_
                show Go _ _ _ _ (Tj.setTop (mkF m 182 #[.val (.ref a), .val (.int F), .val (.int G), .val (.int I), .val (.int ((B i) &&& (255 : Int32))), s5, .val (.int (128 : Int32)), .val (.int (191 : Int32)), s8, s9] []))
                refine Go.via (fun t_ k_ => XS.iconst Hj.here hx rfl (hb hby d2_182) k_) ?_
                show Go _ _ _ _ (Tj.setTop (mkF m 183 #[.val (.ref a), .val (.int F), .val (.int G), .val (.int I), .val (.int ((B i) &&& (255 : Int32))), s5, .val (.int (128 : Int32)), .val (.int (191 : Int32)), s8, s9] [(.int (0 : Int32))]))
                exact own_retN Hj hx hlk (by simp) hret (hb hby d2_183) ⟨by rw [← hok, own_okN hit (by rw [own_lti e0.1 (m := 128) (by decide)] at hc21; rw [own_lti e0.1 (m := 194) (by decide)] at hc45; rw [own_lti e0.1 (m := 224) (by decide)] at hc67; rw [own_lti e0.1 (m := 240) (by decide)] at hc127; have b0 := e0.2; have b1 := e1.2; have b2 := e2.2; have b3 := e3.2; unfold nx; generalize bv B i = n0 at *; generalize bv B (i + 1) = n1 at *; generalize bv B (i + 2) = n2 at *; generalize bv B (i + 3) = n3 at *; unfold nxtI; (repeat' split) <;> omega)]; rfl, rfl⟩ (by decide) (by decide)
              · refine Go.via (fun t_ k_ => XS.icmpNo Hj.here hx rfl (hb hby d2_127) rfl ((flt hc127).1) k_) ?_
                show Go _ _ _ _ (Tj.setTop (mkF m 130 #[.val (.ref a), .val (.int F), .val (.int G), .val (.int I), .val (.int ((B i) &&& (255 : Int32))), s5, .val (.int (128 : Int32)), .val (.int (191 : Int32)), s8, s9] []))
                refine Go.via (fun t_ k_ => XS.iload Hj.here hx rfl (hb hby d2_130) rfl k_) ?_
                show Go _ _ _ _ (Tj.setTop (mkF m 132 #[.val (.ref a), .val (.int F), .val (.int G), .val (.int I), .val (.int ((B i) &&& (255 : Int32))), s5, .val (.int (128 : Int32)), .val (.int (191 : Int32)), s8, s9] [(.int ((B i) &&& (255 : Int32)))]))
                refine Go.via (fun t_ k_ => XS.sipush Hj.here hx rfl (hb hby d2_132) k_) ?_
                show Go _ _ _ _ (Tj.setTop (mkF m 135 #[.val (.ref a), .val (.int F), .val (.int G), .val (.int I), .val (.int ((B i) &&& (255 : Int32))), s5, .val (.int (128 : Int32)), .val (.int (191 : Int32)), s8, s9] [(.int (244 : Int32)), (.int ((B i) &&& (255 : Int32)))]))
                by_cases hc135 : (244 : Int32) < ((B i) &&& (255 : Int32))
                · refine Go.via (fun t_ k_ => XS.icmpYes Hj.here hx rfl (pc0 := 135) (pc' := 182) rfl (hb hby d2_135) rfl ((tlt hc135).2.2.1) (by decide) (by decide) k_) ?_
                  show Go _ _ _ _ (Tj.setTop (mkF m 182 #[.val (.ref a), .val (.int F), .val (.int G), .val (.int I), .val (.int ((B i) &&& (255 : Int32))), s5, .val (.int (128 : Int32)), .val (.int (191 : Int32)), s8, s9] []))
                  refine Go.via (fun t_ k_ => XS.iconst Hj.here hx rfl (hb hby d2_182) k_) ?_
                  show Go _ _ _ _ (Tj.setTop (mkF m 183 #[.val (.ref a), .val (.int F), .val (.int G), .val (.int I), .val (.int ((B i) &&& (255 : Int32))), s5, .val (.int (128 : Int32)), .val (.int (191 : Int32)), s8, s9] [(.int (0 : Int32))]))
                  exact own_retN Hj hx hlk (by simp) hret (hb hby d2_183) ⟨by rw [← hok, own_okN hit (by rw [own_lti e0.1 (m := 128) (by decide)] at hc21; rw [own_lti e0.1 (m := 194) (by decide)] at hc45; rw [own_lti e0.1 (m := 224) (by decide)] at hc67; rw [own_lti e0.1 (m := 240) (by decide)] at hc127; rw [own_lti (n := 244) (by decide) e0.1] at hc135; have b0 := e0.2; have b1 := e1.2; have b2 := e2.2; have b3 := e3.2; unfold nx; generalize bv B i = n0 at *; generalize bv B (i + 1) = n1 at *; generalize bv B (i + 2) = n2 at *; generalize bv B (i + 3) = n3 at *; unfold nxtI; (repeat' split) <;> omega)]; rfl, rfl⟩ (by decide) (by decide)
                · refine Go.via (fun t_ k_ => XS.icmpNo Hj.here hx rfl (hb hby d2_135) rfl ((flt hc135).2.2.1) k_) ?_
                  show Go _ _ _ _ (Tj.setTop (mkF m 138 #[.val (.ref a), .val (.int F), .val (.int G), .val (.int I), .val (.int ((B i) &&& (255 : Int32))), s5, .val (.int (128 : Int32)), .val (.int (191 : Int32)), s8, s9] []))
                  refine Go.via (fun t_ k_ => XS.iconst Hj.here hx rfl (hb hby d2_138) k_) ?_
                  show Go _ _ _ _ (Tj.setTop (mkF m 139 #[.val (.ref a), .val (.int F), .val (.int G), .val (.int I), .val (.int ((B i) &&& (255 : Int32))), s5, .val (.int (128 : Int32)), .val (.int (191 : Int32)), s8, s9] [(.int (4 : Int32))]))
                  refine Go.via (fun t_ k_ => XS.istore Hj.here hx rfl (hb hby d2_139) rfl (l' := #[.val (.ref a), .val (.int F), .val (.int G), .val (.int I), .val (.int ((B i) &&& (255 : Int32))), .val (.int (4 : Int32)), .val (.int (128 : Int32)), .val (.int (191 : Int32)), s8, s9]) (Jvm.Free.XS.store1 rfl o5 rfl) k_) ?_
                  show Go _ _ _ _ (Tj.setTop (mkF m 141 #[.val (.ref a), .val (.int F), .val (.int G), .val (.int I), .val (.int ((B i) &&& (255 : Int32))), .val (.int (4 : Int32)), .val (.int (128 : Int32)), .val (.int (191 : Int32)), s8, s9] []))
                  refine Go.via (fun t_ k_ => XS.iload Hj.here hx rfl (hb hby d2_141) rfl k_) ?_
                  show Go _ _ _ _ (Tj.setTop (mkF m 143 #[.val (.ref a), .val (.int F), .val (.int G), .val (.int I), .val (.int ((B i) &&& (255 : Int32))), .val (.int (4 : Int32)), .val (.int (128 : Int32)), .val (.int (191 : Int32)), s8, s9] [(.int ((B i) &&& (255 : Int32)))]))
                  refine Go.via (fun t_ k_ => XS.sipush Hj.here hx rfl (hb hby d2_143) k_) ?_
                  show Go _ _ _ _ (Tj.setTop (mkF m 146 #[.val (.ref a), .val (.int F), .val (.int G), .val (.int I), .val (.int ((B i) &&& (255 : Int32))), .val (.int (4 : Int32)), .val (.int (128 : Int32)), .val (.int (191 : Int32)), s8, s9] [(.int (240 : Int32)), (.int ((B i) &&& (255 : Int32)))]))
                  by_cases hc146 : ((B i) &&& (255 : Int32)) = (240 : Int32)
                  · refine Go.via (fun t_ k_ => XS.icmpNo Hj.here hx rfl (hb hby d2_146) rfl ((teq hc146).2) k_) ?_
                    show Go _ _ _ _ (Tj.setTop (mkF m 149 #[.val (.ref a), .val (.int F), .val (.int G), .val (.int I), .val (.int ((B i) &&& (255 : Int32))), .val (.int (4 : Int32)), .val (.int (128 : Int32)), .val (.int (191 : Int32)), s8, s9] []))
                    refine Go.via (fun t_ k_ => XS.sipush Hj.here hx rfl (hb hby d2_149) k_) ?_
                    show Go _ _ _ _ (Tj.setTop (mkF m 152 #[.val (.ref a), .val (.int F), .val (.int G), .val (.int I), .val (.int ((B i) &&& (255 : Int32))), .val (.int (4 : Int32)), .val (.int (128 : Int32)), .val (.int (191 : Int32)), s8, s9] [(.int (144 : Int32))]))
                    refine Go.via (fun t_ k_ => XS.goto Hj.here hx rfl (pc0 := 152) (pc' := 158) rfl (hb hby d2_152) (by decide) (by decide) k_) ?_
                    show Go _ _ _ _ (Tj.setTop (mkF m 158 #[.val (.ref a), .val (.int F), .val (.int G), .val (.int I), .val (.int ((B i) &&& (255 : Int32))), .val (.int (4 : Int32)), .val (.int (128 : Int32)), .val (.int (191 : Int32)), s8, s9] [(.int (144 : Int32))]))
                    refine Go.via (fun t_ k_ => XS.istore Hj.here hx rfl (hb hby d2_158) rfl (l' := #[.val (.ref a), .val (.int F), .val (.int G), .val (.int I), .val (.int ((B i) &&& (255 : Int32))), .val (.int (4 : Int32)), .val (.int (144 : Int32)), .val (.int (191 : Int32)), s8, s9]) rfl k_) ?_
                    show Go _ _ _ _ (Tj.setTop (mkF m 160 #[.val (.ref a), .val (.int F), .val (.int G), .val (.int I), .val (.int ((B i) &&& (255 : Int32))), .val (.int (4 : Int32)), .val (.int (144 : Int32)), .val (.int (191 : Int32)), s8, s9] []))
                    refine Go.via (fun t_ k_ => XS.iload Hj.here hx rfl (hb hby d2_160) rfl k_) ?_
                    show Go _ _ _ _ (Tj.setTop (mkF m 162 #[.val (.ref a), .val (.int F), .val (.int G), .val (.int I), .val (.int ((B i) &&& (255 : Int32))), .val (.int (4 : Int32)), .val (.int (144 : Int32)), .val (.int (191 : Int32)), s8, s9] [(.int ((B i) &&& (255 : Int32)))]))
                    refine Go.via (fun t_ k_ => XS.sipush Hj.here hx rfl (hb hby d2_162) k_) ?_
                    show Go _ _ _ _ (Tj.setTop (mkF m 165 #[.val (.ref a), .val (.int F), .val (.int G), .val (.int I), .val (.int ((B i) &&& (255 : Int32))), .val (.int (4 : Int32)), .val (.int (144 : Int32)), .val (.int (191 : Int32)), s8, s9] [(.int (244 : Int32)), (.int ((B i) &&& (255 : Int32)))]))
                    by_cases hc165 : ((B i) &&& (255 : Int32)) = (244 : Int32)
                    · refine Go.via (fun t_ k_ => XS.icmpNo Hj.here hx rfl (hb hby d2_165) rfl ((teq hc165).2) k_) ?_
                      show Go _ _ _ _ (Tj.setTop (mkF m 168 #[.val (.ref a), .val (.int F), .val (.int G), .val (.int I), .val (.int ((B i) &&& (255 : Int32))), .val (.int (4 : Int32)), .val (.int (144 : Int32)), .val (.int (191 : Int32)), s8, s9] []))
                      refine Go.via (fun t_ k_ => XS.sipush Hj.here hx rfl (hb hby d2_168) k_) ?_
                      show Go _ _ _ _ (Tj.setTop (mkF m 171 #[.val (.ref a), .val (.int F), .val (.int G), .val (.int I), .val (.int ((B i) &&& (255 : Int32))), .val (.int (4 : Int32)), .val (.int (144 : Int32)), .val (.int (191 : Int32)), s8, s9] [(.int (143 : Int32))]))
                      refine Go.via (fun t_ k_ => XS.goto Hj.here hx rfl (pc0 := 171) (pc' := 177) rfl (hb hby d2_171) (by decide) (by decide) k_) ?_
                      show Go _ _ _ _ (Tj.setTop (mkF m 177 #[.val (.ref a), .val (.int F), .val (.int G), .val (.int I), .val (.int ((B i) &&& (255 : Int32))), .val (.int (4 : Int32)), .val (.int (144 : Int32)), .val (.int (191 : Int32)), s8, s9] [(.int (143 : Int32))]))
                      refine Go.via (fun t_ k_ => XS.istore Hj.here hx rfl (hb hby d2_177) rfl (l' := #[.val (.ref a), .val (.int F), .val (.int G), .val (.int I), .val (.int ((B i) &&& (255 : Int32))), .val (.int (4 : Int32)), .val (.int (144 : Int32)), .val (.int (143 : Int32)), s8, s9]) rfl k_) ?_
                      show Go _ _ _ _ (Tj.setTop (mkF m 179 #[.val (.ref a), .val (.int F), .val (.int G), .val (.int I), .val (.int ((B i) &&& (255 : Int32))), .val (.int (4 : Int32)), .val (.int (144 : Int32)), .val (.int (143 : Int32)), s8, s9] []))
                      refine Go.via (fun t_ k_ => XS.goto Hj.here hx rfl (pc0 := 179) (pc' := 184) rfl (hb hby d2_179) (by decide) (by decide) k_) ?_
                      show Go _ _ _ _ (Tj.setTop (mkF m 184 #[.val (.ref a), .val (.int F), .val (.int G), .val (.int I), .val (.int ((B i) &&& (255 : Int32))), .val (.int (4 : Int32)), .val (.int (144 : Int32)), .val (.int (143 : Int32)), s8, s9] []))
                      exact J184_4 Tj (144 : Int32) (143 : Int32) 144 143 Hj (by decide) (by decide) (by rw [own_lti e0.1 (m := 128) (by decide)] at hc21; rw [own_lti e0.1 (m := 194) (by decide)] at hc45; rw [own_lti e0.1 (m := 224) (by decide)] at hc67; rw [own_lti e0.1 (m := 240) (by decide)] at hc127; rw [own_lti (n := 244) (by decide) e0.1] at hc135; rw [own_eqi e0.1 (m := 240) (by decide)] at hc146; rw [own_eqi e0.1 (m := 244) (by decide)] at hc165; have b0 := e0.2; have b1 := e1.2; have b2 := e2.2; have b3 := e3.2; unfold nx; generalize bv B i = n0 at *; generalize bv B (i + 1) = n1 at *; generalize bv B (i + 2) = n2 at *; generalize bv B (i + 3) = n3 at *; unfold nxtI; (repeat' split) <;> omega)
                    · refine Go.via (fun t_ k_ => XS.icmpYes Hj.here hx rfl (pc0 := 165) (pc' := 174) rfl (hb hby d2_165) rfl ((feq hc165).2) (by decide) (by decide) k_) ?_
                      show Go _ _ _ _ (Tj.setTop (mkF m 174 #[.val (.ref a), .val (.int F), .val (.int G), .val (.int I), .val (.int ((B i) &&& (255 : Int32))), .val (.int (4 : Int32)), .val (.int (144 : Int32)), .val (.int (191 : Int32)), s8, s9] []))
                      refine Go.via (fun t_ k_ => XS.sipush Hj.here hx rfl (hb hby d2_174) k_) ?_
                      show Go _ _ _ _ (Tj.setTop (mkF m 177 #[.val (.ref a), .val (.int F), .val (.int G), .val (.int I), .val (.int ((B i) &&& (255 : Int32))), .val (.int (4 : Int32)), .val (.int (144 : Int32)), .val (.int (191 : Int32)), s8, s9] [(.int (191 : Int32))]))
                      refine Go.via (fun t_ k_ => XS.istore Hj.here hx rfl (hb hby d2_177) rfl (l' := #[.val (.ref a), .val (.int F), .val (.int G), .val (.int I), .val (.int ((B i) &&& (255 : Int32))), .val (.int (4 : Int32)), .val (.int (144 : Int32)), .val (.int (191 : Int32)), s8, s9]) rfl k_) ?_
                      show Go _ _ _ _ (Tj.setTop (mkF m 179 #[.val (.ref a), .val (.int F), .val (.int G), .val (.int I), .val (.int ((B i) &&& (255 : Int32))), .val (.int (4 : Int32)), .val (.int (144 : Int32)), .val (.int (191 : Int32)), s8, s9] []))
                      refine Go.via (fun t_ k_ => XS.goto Hj.here hx rfl (pc0 := 179) (pc' := 184) rfl (hb hby d2_179) (by decide) (by decide) k_) ?_
                      show Go _ _ _ _ (Tj.setTop (mkF m 184 #[.val (.ref a), .val (.int F), .val (.int G), .val (.int I), .val (.int ((B i) &&& (255 : Int32))), .val (.int (4 : Int32)), .val (.int (144 : Int32)), .val (.int (191 : Int32)), s8, s9] []))
                      exact J184_4 Tj (144 : Int32) (191 : Int32) 144 191 Hj (by decide) (by decide) (by rw [own_lti e0.1 (m := 128) (by decide)] at hc21; rw [own_lti e0.1 (m := 194) (by decide)] at hc45; rw [own_lti e0.1 (m := 224) (by decide)] at hc67; rw [own_lti e0.1 (m := 240) (by decide)] at hc127; rw [own_lti (n := 244) (by decide) e0.1] at hc135; rw [own_eqi e0.1 (m := 240) (by decide)] at hc146; rw [own_eqi e0.1 (m := 244) (by decide)] at hc165; have b0 := e0.2; have b1 := e1.2; have b2 := e2.2; have b3 := e3.2; unfold nx; generalize bv B i = n0 at *; generalize bv B (i + 1) = n1 at *; generalize bv B (i + 2) = n2 at *; generalize bv B (i + 3) = n3 at *; unfold nxtI; (repeat' split) <;> omega)
                  · refine Go.via (fun t_ k_ => XS.icmpYes Hj.here hx rfl (pc0 := 146) (pc' := 155) rfl (hb hby d2_146) rfl ((feq hc146).2) (by decide) (by decide) k_) ?_
                    show Go _ _ _ _ (Tj.setTop (mkF m 155 #[.val (.ref a), .val (.int F), .val (.int G), .val (.int I), .val (.int ((B i) &&& (255 : Int32))), .val (.int (4 : Int32)), .val (.int (128 : Int32)), .val (.int (191 : Int32)), s8, s9] []))
                    refine Go.via (fun t_ k_ => XS.sipush Hj.here hx rfl (hb hby d2_155) k_) ?_
                    show Go _ _ _ _ (Tj.setTop (mkF m 158 #[.val (.ref a), .val (.int F), .val (.int G), .val (.int I), .val (.int ((B i) &&& (255 : Int32))), .val (.int (4 : Int32)), .val (.int (128 : Int32)), .val (.int (191 : Int32)), s8, s9] [(.int (128 : Int32))]))
                    refine Go.via (fun t_ k_ => XS.istore Hj.here hx rfl (hb hby d2_158) rfl (l' := #[.val (.ref a), .val (.int F), .val (.int G), .val (.int I), .val (.int ((B i) &&& (255 : Int32))), .val (.int (4 : Int32)), .val (.int (128 : Int32)), .val (.int (191 : Int32)), s8, s9]) rfl k_) ?_
                    show Go _ _ _ _ (Tj.setTop (mkF m 160 #[.val (.ref a), .val (.int F), .val (.int G), .val (.int I), .val (.int ((B i) &&& (255 : Int32))), .val (.int (4 : Int32)), .val (.int (128 : Int32)), .val (.int (191 : Int32)), s8, s9] []))
                    refine Go.via (fun t_ k_ => XS.iload Hj.here hx rfl (hb hby d2_160) rfl k_) ?_
                    show Go _ _ _ _ (Tj.setTop (mkF m 162 #[.val (.ref a), .val (.int F), .val (.int G), .val (.int I), .val (.int ((B i) &&& (255 : Int32))), .val (.int (4 : Int32)), .val (.int (128 : Int32)), .val (.int (191 : Int32)), s8, s9] [(.int ((B i) &&& (255 : Int32)))]))
                    refine Go.via (fun t_ k_ => XS.sipush Hj.here hx rfl (hb hby d2_162) k_) ?_
                    show Go _ _ _ _ (Tj.setTop (mkF m 165 #[.val (.ref a), .val (.int F), .val (.int G), .val (.int I), .val (.int ((B i) &&& (255 : Int32))), .val (.int (4 : Int32)), .val (.int (128 : Int32)), .val (.int (191 : Int32)), s8, s9] [(.int (244 : Int32)), (.int ((B i) &&& (255 : Int32)))]))
                    by_cases hc165 : ((B i) &&& (255 : Int32)) = (244 : Int32)
                    · refine Go.via (fun t_ k_ => XS.icmpNo Hj.here hx rfl (hb hby d2_165) rfl ((teq hc165).2) k_) ?_
                      show Go _ _ _ _ (Tj.setTop (mkF m 168 #[.val (.ref a), .val (.int F), .val (.int G), .val (.int I), .val (.int ((B i) &&& (255 : Int32))), .val (.int (4 : Int32)), .val (.int (128 : Int32)), .val (.int (191 : Int32)), s8, s9] []))
                      refine Go.via (fun t_ k_ => XS.sipush Hj.here hx rfl (hb hby d2_168) k_) ?_
                      show Go _ _ _ _ (Tj.setTop (mkF m 171 #[.val (.ref a), .val (.int F), .val (.int G), .val (.int I), .val (.int ((B i) &&& (255 : Int32))), .val (.int (4 : Int32)), .val (.int (128 : Int32)), .val (.int (191 : Int32)), s8, s9] [(.int (143 : Int32))]))
                      refine Go.via (fun t_ k_ => XS.goto Hj.here hx rfl (pc0 := 171) (pc' := 177) rfl (hb hby d2_171) (by decide) (by decide) k_) ?_
                      show Go _ _ _ _ (Tj.setTop (mkF m 177 #[.val (.ref a), .val (.int F), .val (.int G), .val (.int I), .val (.int ((B i) &&& (255 : Int32))), .val (.int (4 : Int32)), .val (.int (128 : Int32)), .val (.int (191 : Int32)), s8, s9] [(.int (143 : Int32))]))
                      refine Go.via (fun t_ k_ => XS.istore Hj.here hx rfl (hb hby d2_177) rfl (l' := #[.val (.ref a), .val (.int F), .val (.int G), .val (.int I), .val (.int ((B i) &&& (255 : Int32))), .val (.int (4 : Int32)), .val (.int (128 : Int32)), .val (.int (143 : Int32)), s8, s9]) rfl k_) ?_
                      show Go _ _ _ _ (Tj.setTop (mkF m 179 #[.val (.ref a), .val (.int F), .val (.int G), .val (.int I), .val (.int ((B i) &&& (255 : Int32))), .val (.int (4 : Int32)), .val (.int (128 : Int32)), .val (.int (143 : Int32)), s8, s9] []))
                      refine Go.via (fun t_ k_ => XS.goto Hj.here hx rfl (pc0 := 179) (pc' := 184) rfl (hb hby d2_179) (by decide) (by decide) k_) ?_
                      show Go _ _ _ _ (Tj.setTop (mkF m 184 #[.val (.ref a), .val (.int F), .val (.int G), .val (.int I), .val (.int ((B i) &&& (255 : Int32))), .val (.int (4 : Int32)), .val (.int (128 : Int32)), .val (.int (143 : Int32)), s8, s9] []))
                      exact J184_4 Tj (128 : Int32) (143 : Int32) 128 143 Hj (by decide) (by decide) (by rw [own_lti e0.1 (m := 128) (by decide)] at hc21; rw [own_lti e0.1 (m := 194) (by decide)] at hc45; rw [own_lti e0.1 (m := 224) (by decide)] at hc67; rw [own_lti e0.1 (m := 240) (by decide)] at hc127; rw [own_lti (n := 244) (by decide) e0.1] at hc135; rw [own_eqi e0.1 (m := 240) (by decide)] at hc146; rw [own_eqi e0.1 (m := 244) (by decide)] at hc165; have b0 := e0.2; have b1 := e1.2; have b2 := e2.2; have b3 := e3.2; unfold nx; generalize bv B i = n0 at *; generalize bv B (i + 1) = n1 at *; generalize bv B (i + 2) = n2 at *; generalize bv B (i + 3) = n3 at *; unfold nxtI; (repeat' split) <;> omega)
                    · refine Go.via (fun t_ k_ => XS.icmpYes Hj.here hx rfl (pc0 := 165) (pc' := 174) rfl (hb hby d2_165) rfl ((feq hc165).2) (by decide) (by decide) k_) ?_
                      show Go _ _ _ _ (Tj.setTop (mkF m 174 #[.val (.ref a), .val (.int F), .val (.int G), .val (.int I), .val (.int ((B i) &&& (255 : Int32))), .val (.int (4 : Int32)), .val (.int (128 : Int32)), .val (.int (191 : Int32)), s8, s9] []))
                      refine Go.via (fun t_ k_ => XS.sipush Hj.here hx rfl (hb hby d2_174) k_) ?_
                      show Go _ _ _ _ (Tj.setTop (mkF m 177 #[.val (.ref a), .val (.int F), .val (.int G), .val (.int I), .val (.int ((B i) &&& (255 : Int32))), .val (.int (4 : Int32)), .val (.int (128 : Int32)), .val (.int (191 : Int32)), s8, s9] [(.int (191 : Int32))]))
                      refine Go.via (fun t_ k_ => XS.istore Hj.here hx rfl (hb hby d2_177) rfl (l' := #[.val (.ref a), .val (.int F), .val (.int G), .val (.int I), .val (.int ((B i) &&& (255 : Int32))), .val (.int (4 : Int32)), .val (.int (128 : Int32)), .val (.int (191 : Int32)), s8, s9]) rfl k_) ?_
                      show Go _ _ _ _ (Tj.setTop (mkF m 179 #[.val (.ref a), .val (.int F), .val (.int G), .val (.int I), .val (.int ((B i) &&& (255 : Int32))), .val (.int (4 : Int32)), .val (.int (128 : Int32)), .val (.int (191 : Int32)), s8, s9] []))
                      refine Go.via (fun t_ k_ => XS.goto Hj.here hx rfl (pc0 := 179) (pc' := 184) rfl (hb hby d2_179) (by decide) (by decide) k_) ?_
                      show Go _ _ _ _ (Tj.setTop (mkF m 184 #[.val (.ref a), .val (.int F), .val (.int G), .val (.int I), .val (.int ((B i) &&& (255 : Int32))), .val (.int (4 : Int32)), .val (.int (128 : Int32)), .val (.int (191 : Int32)), s8, s9] []))
                      exact J184_4 Tj (128 : Int32) (191 : Int32) 128 191 Hj (by decide) (by decide) (by rw [own_lti e0.1 (m := 128) (by decide)] at hc21; rw [own_lti e0.1 (m := 194) (by decide)] at hc45; rw [own_lti e0.1 (m := 224) (by decide)] at hc67; rw [own_lti e0.1 (m := 240) (by decide)] at hc127; rw [own_lti (n := 244) (by decide) e0.1] at hc135; rw [own_eqi e0.1 (m := 240) (by decide)] at hc146; rw [own_eqi e0.1 (m := 244) (by decide)] at hc165; have b0 := e0.2; have b1 := e1.2; have b2 := e2.2; have b3 := e3.2; unfold nx; generalize bv B i = n0 at *; generalize bv B (i + 1) = n1 at *; generalize bv B (i + 2) = n2 at *; generalize bv B (i + 3) = n3 at *; unfold nxtI; (repeat' split) <;> omega)
            · refine Go.via (fun t_ k_ => XS.icmpNo Hj.here hx rfl (hb hby d2_67) rfl ((flt hc67).1) k_) ?_
              show Go _ _ _ _ (Tj.setTop (mkF m 70 #[.val (.ref a), .val (.int F), .val (.int G), .val (.int I), .val (.int ((B i) &&& (255 : Int32))), s5, .val (.int (128 : Int32)), .val (.int (191 : Int32)), s8, s9] []))
              refine Go.via (fun t_ k_ => XS.iload Hj.here hx rfl (hb hby d2_70) rfl k_) ?_
              show Go _ _ _ _ (Tj.setTop (mkF m 72 #[.val (.ref a), .val (.int F), .val (.int G), .val (.int I), .val (.int ((B i) &&& (255 : Int32))), s5, .val (.int (128 : Int32)), .val (.int (191 : Int32)), s8, s9] [(.int ((B i) &&& (255 : Int32)))]))
              refine Go.via (fun t_ k_ => XS.sipush Hj.here hx rfl (hb hby d2_72) k_) ?_
              show Go _ _ _ _ (Tj.setTop (mkF m 75 #[.val (.ref a), .val (.int F), .val (.int G), .val (.int I), .val (.int ((B i) &&& (255 : Int32))), s5, .val (.int (128 : Int32)), .val (.int (191 : Int32)), s8, s9] [(.int (239 : Int32)), (.int ((B i) &&& (255 : Int32)))]))
              by_cases hc75 : (239 : Int32) < ((B i) &&& (255 : Int32))
              · refine Go.via (fun t_ k_ => XS.icmpYes Hj.here hx rfl (pc0 := 75) (pc' := 122) rfl (hb hby d2_75) rfl ((tlt hc75).2.2.1) (by decide) (by decide) k_) ?_
                show Go _ _ _ _ (Tj.setTop (mkF m 122 #[.val (.ref a), .val (.int F), .val (.int G), .val (.int I), .val (.int ((B i) &&& (255 : Int32))), s5, .val (.int (128 : Int32)), .val (.int (191 : Int32)), s8, s9] []))
                refine Go.via (fun t_ k_ => XS.iload Hj.here hx rfl (hb hby d2_122) rfl k_) ?_
                show Go _ _ _ _ (Tj.setTop (mkF m 124 #[.val (.ref a), .val (.int F), .val (.int G), .val (.int I), .val (.int ((B i) &&& (255 : Int32))), s5, .val (.int (128 : Int32)), .val (.int (191 : Int32)), s8, s9] [(.int ((B i) &&& (255 : Int32)))]))
                refine Go.via (fun t_ k_ => XS.sipush Hj.here hx rfl (hb hby d2_124) k_) ?_
                show Go _ _ _ _ (Tj.setTop (mkF m 127 #[.val (.ref a), .val (.int F), .val (.int G), .val (.int I), .val (.int ((B i) &&& (255 : Int32))), s5, .val (.int (128 : Int32)), .val (.int (191 : Int32)), s8, s9] [(.int (240 : Int32)), (.int ((B i) &&& (255 : Int32)))]))
                by_cases hc127 : ((B i) &&& (255 : Int32)) < (240 : Int32)
                · refine Go.via (fun t_ k_ => XS.icmpYes Hj.here hx rfl (pc0 := 127) (pc' := 182) rfl (hb hby d2_127) rfl ((tlt hc127).1) (by decide) (by decide) k_) ?_
                  show Go _ _ _ _ (Tj.setTop (mkF m 182 #[.val (.ref a), .val (.int F), .val (.int G), .val (.int I), .val (.int ((B i) &&& (255 : Int32))), s5, .val (.int (128 : Int32)), .val (.int (191 : Int32)), s8, s9] []))
                  refine Go.via (fun t_ k_ => XS.iconst Hj.here hx rfl (hb hby d2_182) k_) ?_
                  show Go _ _ _ _ (Tj.setTop (mkF m 183 #[.val (.ref a), .val (.int F), .val (.int G), .val (.int I), .val (.int ((B i) &&& (255 : Int32))), s5, .val (.int (128 : Int32)), .val (.int (191 : Int32)), s8, s9] [(.int (0 : Int32))]))
                  exact own_retN Hj hx hlk (by simp) hret (hb hby d2_183) ⟨by rw [← hok, own_okN hit (by rw [own_lti e0.1 (m := 128) (by decide)] at hc21; rw [own_lti e0.1 (m := 194) (by decide)] at hc45; rw [own_lti e0.1 (m := 224) (by decide)] at hc67; rw [own_lti (n := 239) (by decide) e0.1] at hc75; rw [own_lti e0.1 (m := 240) (by decide)] at hc127; have b0 := e0.2; have b1 := e1.2; have b2 := e2.2; have b3 := e3.2; unfold nx; generalize bv B i = n0 at *; generalize bv B (i + 1) = n1 at *; generalize bv B (i + 2) = n2 at *; generalize bv B (i + 3) = n3 at *; unfold nxtI; (repeat' split) <;> omega)]; rfl, rfl⟩ (by decide) (by decide)
                · refine Go.via (fun t_ k_ => XS.icmpNo Hj.here hx rfl (hb hby d2_127) rfl ((flt hc127).1) k_) ?_
                  show Go _ _ _ _ (Tj.setTop (mkF m 130 #[.val (.ref a), .val (.int F), .val (.int G), .val (.int I), .val (.int ((B i) &&& (255 : Int32))), s5, .val (.int (128 : Int32)), .val (.int (191 : Int32)), s8, s9] []))
                  refine Go.via (fun t_ k_ => XS.iload Hj.here hx rfl (hb hby d2_130) rfl k_) ?_
                  show Go _ _ _ _ (Tj.setTop (mkF m 132 #[.val (.ref a), .val (.int F), .val (.int G), .val (.int I), .val (.int ((B i) &&& (255 : Int32))), s5, .val (.int (128 : Int32)), .val (.int (191 : Int32)), s8, s9] [(.int ((B i) &&& (255 : Int32)))]))
                  refine Go.via (fun t_ k_ => XS.sipush Hj.here hx rfl (hb hby d2_132) k_) ?_
                  show Go _ _ _ _ (Tj.setTop (mkF m 135 #[.val (.ref a), .val (.int F), .val (.int G), .val (.int I), .val (.int ((B i) &&& (255 : Int32))), s5, .val (.int (128 : Int32)), .val (.int (191 : Int32)), s8, s9] [(.int (244 : Int32)), (.int ((B i) &&& (255 : Int32)))]))
                  by_cases hc135 : (244 : Int32) < ((B i) &&& (255 : Int32))
                  · refine Go.via (fun t_ k_ => XS.icmpYes Hj.here hx rfl (pc0 := 135) (pc' := 182) rfl (hb hby d2_135) rfl ((tlt hc135).2.2.1) (by decide) (by decide) k_) ?_
                    show Go _ _ _ _ (Tj.setTop (mkF m 182 #[.val (.ref a), .val (.int F), .val (.int G), .val (.int I), .val (.int ((B i) &&& (255 : Int32))), s5, .val (.int (128 : Int32)), .val (.int (191 : Int32)), s8, s9] []))
                    refine Go.via (fun t_ k_ => XS.iconst Hj.here hx rfl (hb hby d2_182) k_) ?_
                    show Go _ _ _ _ (Tj.setTop (mkF m 183 #[.val (.ref a), .val (.int F), .val (.int G), .val (.int I), .val (.int ((B i) &&& (255 : Int32))), s5, .val (.int (128 : Int32)), .val (.int (191 : Int32)), s8, s9] [(.int (0 : Int32))]))
                    exact own_retN Hj hx hlk (by simp) hret (hb hby d2_183) ⟨by rw [← hok, own_okN hit (by rw [own_lti e0.1 (m := 128) (by decide)] at hc21; rw [own_lti e0.1 (m := 194) (by decide)] at hc45; rw [own_lti e0.1 (m := 224) (by decide)] at hc67; rw [own_lti (n := 239) (by decide) e0.1] at hc75; rw [own_lti e0.1 (m := 240) (by decide)] at hc127; rw [own_lti (n := 244) (by decide) e0.1] at hc135; have b0 := e0.2; have b1 := e1.2; have b2 := e2.2; have b3 := e3.2; unfold nx; generalize bv B i = n0 at *; generalize bv B (i + 1) = n1 at *; generalize bv B (i + 2) = n2 at *; generalize bv B (i + 3) = n3 at *; unfold nxtI; (repeat' split) <;> omega)]; rfl, rfl⟩ (by decide) (by decide)
                  · refine Go.via (fun t_ k_ => XS.icmpNo Hj.here hx rfl (hb hby d2_135) rfl ((flt hc135).2.2.1) k_) ?_
                    show Go _ _ _ _ (Tj.setTop (mkF m 138 #[.val (.ref a), .val (.int F), .val (.int G), .val (.int I), .val (.int ((B i) &&& (255 : Int32))), s5, .val (.int (128 : Int32)), .val (.int (191 : Int32)), s8, s9] []))
                    refine Go.via (fun t_ k_ => XS.iconst Hj.here hx rfl (hb hby d2_138) k_) ?_
                    show Go _ _ _ _ (Tj.setTop (mkF m 139 #[.val (.ref a), .val (.int F), .val (.int G), .val (.int I), .val (.int ((B i) &&& (255 : Int32))), s5, .val (.int (128 : Int32)), .val (.int (191 : Int32)), s8, s9] [(.int (4 : Int32))]))
                    refine Go.via (fun t_ k_ => XS.istore Hj.here hx rfl (hb hby d2_139) rfl (l' := #[.val (.ref a), .val (.int F), .val (.int G), .val (.int I), .val (.int ((B i) &&& (255 : Int32))), .val (.int (4 : Int32)), .val (.int (128 : Int32)), .val (.int (191 : Int32)), s8, s9]) (Jvm.Free.XS.store1 rfl o5 rfl) k_) ?_
                    show Go _ _ _ _ (Tj.setTop (mkF m 141 #[.val (.ref a), .val (.int F), .val (.int G), .val (.int I), .val (.int ((B i) &&& (255 : Int32))), .val (.int (4 : Int32)), .val (.int (128 : Int32)), .val (.int (191 : Int32)), s8, s9] []))
                    refine Go.via (fun t_ k_ => XS.iload Hj.here hx rfl (hb hby d2_141) rfl k_) ?_
                    show Go _ _ _ _ (Tj.setTop (mkF m 143 #[.val (.ref a), .val (.int F), .val (.int G), .val (.int I), .val (.int ((B i) &&& (255 : Int32))), .val (.int (4 : Int32)), .val (.int (128 : Int32)), .val (.int (191 : Int32)), s8, s9] [(.int ((B i) &&& (255 : Int32)))]))
                    refine Go.via (fun t_ k_ => XS.sipush Hj.here hx rfl (hb hby d2_143) k_) ?_
                    show Go _ _ _ _ (Tj.setTop (mkF m 146 #[.val (.ref a), .val (.int F), .val (.int G), .val (.int I), .val (.int ((B i) &&& (255 : Int32))), .val (.int (4 : Int32)), .val (.int (128 : Int32)), .val (.int (191 : Int32)), s8, s9] [(.int (240 : Int32)), (.int ((B i) &&& (255 : Int32)))]))
                    by_cases hc146 : ((B i) &&& (255 : Int32)) = (240 : Int32)
                    · refine Go.via (fun t_ k_ => XS.icmpNo Hj.here hx rfl (hb hby d2_146) rfl ((teq hc146).2) k_) ?_
                      show Go _ _ _ _ (Tj.setTop (mkF m 149 #[.val (.ref a), .val (.int F), .val (.int G), .val (.int I), .val (.int ((B i) &&& (255 : Int32))), .val (.int (4 : Int32)), .val (.int (128 : Int32)), .val (.int (191 : Int32)), s8, s9] []))
                      refine Go.via (fun t_ k_ => XS.sipush Hj.here hx rfl (hb hby d2_149) k_) ?_
                      show Go _ _ _ _ (Tj.setTop (mkF m 152 #[.val (.ref a), .val (.int F), .val (.int G), .val (.int I), .val (.int ((B i) &&& (255 : Int32))), .val (.int (4 : Int32)), .val (.int (128 : Int32)), .val (.int (191 : Int32)), s8, s9] [(.int (144 : Int32))]))
                      refine Go.via (fun t_ k_ => XS.goto Hj.here hx rfl (pc0 := 152) (pc' := 158) rfl (hb hby d2_152) (by decide) (by decide) k_) ?_
                      show Go _ _ _ _ (Tj.setTop (mkF m 158 #[.val (.ref a), .val (.int F), .val (.int G), .val (.int I), .val (.int ((B i) &&& (255 : Int32))), .val (.int (4 : Int32)), .val (.int (128 : Int32)), .val (.int (191 : Int32)), s8, s9] [(.int (144 : Int32))]))
                      refine Go.via (fun t_ k_ => XS.istore Hj.here hx rfl (hb hby d2_158) rfl (l' := #[.val (.ref a), .val (.int F), .val (.int G), .val (.int I), .val (.int ((B i) &&& (255 : Int32))), .val (.int (4 : Int32)), .val (.int (144 : Int32)), .val (.int (191 : Int32)), s8, s9]) rfl k_) ?_
                      show Go _ _ _ _ (Tj.setTop (mkF m 160 #[.val (.ref a), .val (.int F), .val (.int G), .val (.int I), .val (.int ((B i) &&& (255 : Int32))), .val (.int (4 : Int32)), .val (.int (144 : Int32)), .val (.int (191 : Int32)), s8, s9] []))
                      refine Go.via (fun t_ k_ => XS.iload Hj.here hx rfl (hb hby d2_160) rfl k_) ?_
                      show Go _ _ _ _ (Tj.setTop (mkF m 162 #[.val (.ref a), .val (.int F), .val (.int G), .val (.int I), .val (.int ((B i) &&& (255 : Int32))), .val (.int (4 : Int32)), .val (.int (144 : Int32)), .val (.int (191 : Int32)), s8, s9] [(.int ((B i) &&& (255 : Int32)))]))
                      refine Go.via (fun t_ k_ => XS.sipush Hj.here hx rfl (hb hby d2_162) k_) ?_
                      show Go _ _ _ _ (Tj.setTop (mkF m 165 #[.val (.ref a), .val (.int F), .val (.int G), .val (.int I), .val (.int ((B i) &&& (255 : Int32))), .val (.int (4 : Int32)), .val (.int (144 : Int32)), .val (.int (191 : Int32)), s8, s9] [(.int (244 : Int32)), (.int ((B i) &&& (255 : Int32)))]))
                      by_cases hc165 : ((B i) &&& (255 : Int32)) = (244 : Int32)
                      · refine Go.via (fun t_ k_ => XS.icmpNo Hj.here hx rfl (hb hby d2_165) rfl ((teq hc165).2) k_) ?_
                        show Go _ _ _ _ (Tj.setTop (mkF m 168 #[.val (.ref a), .val (.int F), .val (.int G), .val (.int I), .val (.int ((B i) &&& (255 : Int32))), .val (.int (4 : Int32)), .val (.int (144 : Int32)), .val (.int (191 : Int32)), s8, s9] []))
                        refine Go.via (fun t_ k_ => XS.sipush Hj.here hx rfl (hb hby d2_168) k_) ?_
                        show Go _ _ _ _ (Tj.setTop (mkF m 171 #[.val (.ref a), .val (.int F), .val (.int G), .val (.int I), .val (.int ((B i) &&& (255 : Int32))), .val (.int (4 : Int32)), .val (.int (144 : Int32)), .val (.int (191 : Int32)), s8, s9] [(.int (143 : Int32))]))
                        refine Go.via (fun t_ k_ => XS.goto Hj.here hx rfl (pc0 := 171) (pc' := 177) rfl (hb hby d2_171) (by decide) (by decide) k_) ?_
                        show Go _ _ _ _ (Tj.setTop (mkF m 177 #[.val (.ref a), .val (.int F), .val (.int G), .val (.int I), .val (.int ((B i) &&& (255 : Int32))), .val (.int (4 : Int32)), .val (.int (144 : Int32)), .val (.int (191 : Int32)), s8, s9] [(.int (143 : Int32))]))
                        refine Go.via (fun t_ k_ => XS.istore Hj.here hx rfl (hb hby d2_177) rfl (l' := #[.val (.ref a), .val (.int F), .val (.int G), .val (.int I), .val (.int ((B i) &&& (255 : Int32))), .val (.int (4 : Int32)), .val (.int (144 : Int32)), .val (.int (143 : Int32)), s8, s9]) rfl k_) ?_
                        show Go _ _ _ _ (Tj.setTop (mkF m 179 #[.val (.ref a), .val (.int F), .val (.int G), .val (.int I), .val (.int ((B i) &&& (255 : Int32))), .val (.int (4 : Int32)), .val (.int (144 : Int32)), .val (.int (143 : Int32)), s8, s9] []))
                        refine Go.via (fun t_ k_ => XS.goto Hj.here hx rfl (pc0 := 179) (pc' := 184) rfl (hb hby d2_179) (by decide) (by decide) k_) ?_
                        show Go _ _ _ _ (Tj.setTop (mkF m 184 #[.val (.ref a), .val (.int F), .val (.int G), .val (.int I), .val (.int ((B i) &&& (255 : Int32))), .val (.int (4 : Int32)), .val (.int (144 : Int32)), .val (.int (143 : Int32)), s8, s9] []))
                        exact J184_4 Tj (144 : Int32) (143 : Int32) 144 143 Hj (by decide) (by decide) (by rw [own_lti e0.1 (m := 128) (by decide)] at hc21; rw [own_lti e0.1 (m := 194) (by decide)] at hc45; rw [own_lti e0.1 (m := 224) (by decide)] at hc67; rw [own_lti (n := 239) (by decide) e0.1] at hc75; rw [own_lti e0.1 (m := 240) (by decide)] at hc127; rw [own_lti (n := 244) (by decide) e0.1] at hc135; rw [own_eqi e0.1 (m := 240) (by decide)] at hc146; rw [own_eqi e0.1 (m := 244) (by decide)] at hc165; have b0 := e0.2; have b1 := e1.2; have b2 := e2.2; have b3 := e3.2; unfold nx; generalize bv B i = n0 at *; generalize bv B (i + 1) = n1 at *; generalize bv B (i + 2) = n2 at *; generalize bv B (i + 3) = n3 at *; unfold nxtI; (repeat' split) <;> omega)
                      · refine Go.via (fun t_ k_ => XS.icmpYes Hj.here hx rfl (pc0 := 165) (pc' := 174) rfl (hb hby d2_165) rfl ((feq hc165).2) (by decide) (by decide) k_) ?_
                        show Go _ _ _ _ (Tj.setTop (mkF m 174 #[.val (.ref a), .val (.int F), .val (.int G), .val (.int I), .val (.int ((B i) &&& (255 : Int32))), .val (.int (4 : Int32)), .val (.int (144 : Int32)), .val (.int (191 : Int32)), s8, s9] []))
                        refine Go.via (fun t_ k_ => XS.sipush Hj.here hx rfl (hb hby d2_174) k_) ?_
                        show Go _ _ _ _ (Tj.setTop (mkF m 177 #[.val (.ref a), .val (.int F), .val (.int G), .val (.int I), .val (.int ((B i) &&& (255 : Int32))), .val (.int (4 : Int32)), .val (.int (144 : Int32)), .val (.int (191 : Int32)), s8, s9] [(.int (191 : Int32))]))
                        refine Go.via (fun t_ k_ => XS.istore Hj.here hx rfl (hb hby d2_177) rfl (l' := #[.val (.ref a), .val (.int F), .val (.int G), .val (.int I), .val (.int ((B i) &&& (255 : Int32))), .val (.int (4 : Int32)), .val (.int (144 : Int32)), .val (.int (191 : Int32)), s8, s9]) rfl k_) ?_
                        show Go _ _ _ _ (Tj.setTop (mkF m 179 #[.val (.ref a), .val (.int F), .val (.int G), .val (.int I), .val (.int ((B i) &&& (255 : Int32))), .val (.int (4 : Int32)), .val (.int (144 : Int32)), .val (.int (191 : Int32)), s8, s9] []))
                        refine Go.via (fun t_ k_ => XS.goto Hj.here hx rfl (pc0 := 179) (pc' := 184) rfl (hb hby d2_179) (by decide) (by decide) k_) ?_
                        show Go _ _ _ _ (Tj.setTop (mkF m 184 #[.val (.ref a), .val (.int F), .val (.int G), .val (.int I), .val (.int ((B i) &&& (255 : Int32))), .val (.int (4 : Int32)), .val (.int (144 : Int32)), .val (.int (191 : Int32)), s8, s9] []))
                        exact J184_4 Tj (144 : Int32) (191 : Int32) 144 191 Hj (by decide) (by decide) (by rw [own_lti e0.1 (m := 128) (by decide)] at hc21; rw [own_lti e0.1 (m := 194) (by decide)] at hc45; rw [own_lti e0.1 (m := 224) (by decide)] at hc67; rw [own_lti (n := 239) (by decide) e0.1] at hc75; rw [own_lti e0.1 (m := 240) (by decide)] at hc127; rw [own_lti (n := 244) (by decide) e0.1] at hc135; rw [own_eqi e0.1 (m := 240) (by decide)] at hc146; rw [own_eqi e0.1 (m := 244) (by decide)] at hc165; have b0 := e0.2; have b1 := e1.2; have b2 := e2.2; have b3 := e3.2; unfold nx; generalize bv B i = n0 at *; generalize bv B (i + 1) = n1 at *; generalize bv B (i + 2) = n2 at *; generalize bv B (i + 3) = n3 at *; unfold nxtI; (repeat' split) <;> omega)
                    · refine Go.via (fun t_ k_ => XS.icmpYes Hj.here hx rfl (pc0 := 146) (pc' := 155) rfl (hb hby d2_146) rfl ((feq hc146).2) (by decide) (by decide) k_) ?_
                      show Go _ _ _ _ (Tj.setTop (mkF m 155 #[.val (.ref a), .val (.int F), .val (.int G), .val (.int I), .val (.int ((B i) &&& (255 : Int32))), .val (.int (4 : Int32)), .val (.int (128 : Int32)), .val (.int (191 : Int32)), s8, s9] []))
                      refine Go.via (fun t_ k_ => XS.sipush Hj.here hx rfl (hb hby d2_155) k_) ?_
                      show Go _ _ _ _ (Tj.setTop (mkF m 158 #[.val (.ref a), .val (.int F), .val (.int G), .val (.int I), .val (.int ((B i) &&& (255 : Int32))), .val (.int (4 : Int32)), .val (.int (128 : Int32)), .val (.int (191 : Int32)), s8, s9] [(.int (128 : Int32))]))
                      refine Go.via (fun t_ k_ => XS.istore Hj.here hx rfl (hb hby d2_158) rfl (l' := #[.val (.ref a), .val (.int F), .val (.int G), .val (.int I), .val (.int ((B i) &&& (255 : Int32))), .val (.int (4 : Int32)), .val (.int (128 : Int32)), .val (.int (191 : Int32)), s8, s9]) rfl k_) ?_
                      show Go _ _ _ _ (Tj.setTop (mkF m 160 #[.val (.ref a), .val (.int F), .val (.int G), .val (.int I), .val (.int ((B i) &&& (255 : Int32))), .val (.int (4 : Int32)), .val (.int (128 : Int32)), .val (.int (191 : Int32)), s8, s9] []))
                      refine Go.via (fun t_ k_ => XS.iload Hj.here hx rfl (hb hby d2_160) rfl k_) ?_
                      show Go _ _ _ _ (Tj.setTop (mkF m 162 #[.val (.ref a), .val (.int F), .val (.int G), .val (.int I), .val (.int ((B i) &&& (255 : Int32))), .val (.int (4 : Int32)), .val (.int (128 : Int32)), .val (.int (191 : Int32)), s8, s9] [(.int ((B i) &&& (255 : Int32)))]))
                      refine Go.via (fun t_ k_ => XS.sipush Hj.here hx rfl (hb hby d2_162) k_) ?_
                      show Go _ _ _ _ (Tj.setTop (mkF m 165 #[.val (.ref a), .val (.int F), .val (.int G), .val (.int I), .val (.int ((B i) &&& (255 : Int32))), .val (.int (4 : Int32)), .val (.int (128 : Int32)), .val (.int (191 : Int32)), s8, s9] [(.int (244 : Int32)), (.int ((B i) &&& (255 : Int32)))]))
                      by_cases hc165 : ((B i) &&& (255 : Int32)) = (244 : Int32)
                      · refine Go.via (fun t_ k_ => XS.icmpNo Hj.here hx rfl (hb hby d2_165) rfl ((teq hc165).2) k_) ?_
                        show Go _ _ _ _ (Tj.setTop (mkF m 168 #[.val (.ref a), .val (.int F), .val (.int G), .val (.int I), .val (.int ((B i) &&& (255 : Int32))), .val (.int (4 : Int32)), .val (.int (128 : Int32)), .val (.int (191 : Int32)), s8, s9] []))
                        refine Go.via (fun t_ k_ => XS.sipush Hj.here hx rfl (hb hby d2_168) k_) ?_
                        show Go _ _ _ _ (Tj.setTop (mkF m 171 #[.val (.ref a), .val (.int F), .val (.int G), .val (.int I), .val (.int ((B i) &&& (255 : Int32))), .val (.int (4 : Int32)), .val (.int (128 : Int32)), .val (.int (191 : Int32)), s8, s9] [(.int (143 : Int32))]))
                        refine Go.via (fun t_ k_ => XS.goto Hj.here hx rfl (pc0 := 171) (pc' := 177) rfl (hb hby d2_171) (by decide) (by decide) k_) ?_
                        show Go _ _ _ _ (Tj.setTop (mkF m 177 #[.val (.ref a), .val (.int F), .val (.int G), .val (.int I), .val (.int ((B i) &&& (255 : Int32))), .val (.int (4 : Int32)), .val (.int (128 : Int32)), .val (.int (191 : Int32)), s8, s9] [(.int (143 : Int32))]))
                        refine Go.via (fun t_ k_ => XS.istore Hj.here hx rfl (hb hby d2_177) rfl (l' := #[.val (.ref a), .val (.int F), .val (.int G), .val (.int I), .val (.int ((B i) &&& (255 : Int32))), .val (.int (4 : Int32)), .val (.int (128 : Int32)), .val (.int (143 : Int32)), s8, s9]) rfl k_) ?_
                        show Go _ _ _ _ (Tj.setTop (mkF m 179 #[.val (.ref a), .val (.int F), .val (.int G), .val (.int I), .val (.int ((B i) &&& (255 : Int32))), .val (.int (4 : Int32)), .val (.int (128 : Int32)), .val (.int (143 : Int32)), s8, s9] []))
                        refine Go.via (fun t_ k_ => XS.goto Hj.here hx rfl (pc0 := 179) (pc' := 184) rfl (hb hby d2_179) (by decide) (by decide) k_) ?_
                        show Go _ _ _ _ (Tj.setTop (mkF m 184 #[.val (.ref a), .val (.int F), .val (.int G), .val (.int I), .val (.int ((B i) &&& (255 : Int32))), .val (.int (4 : Int32)), .val (.int (128 : Int32)), .val (.int (143 : Int32)), s8, s9] []))
                        exact J184_4 Tj (128 : Int32) (143 : Int32) 128 143 Hj (by decide) (by decide) (by rw [own_lti e0.1 (m := 128) (by decide)] at hc21; rw [own_lti e0.1 (m := 194) (by decide)] at hc45; rw [own_lti e0.1 (m := 224) (by decide)] at hc67; rw [own_lti (n := 239) (by decide) e0.1] at hc75; rw [own_lti e0.1 (m := 240) (by decide)] at hc127; rw [own_lti (n := 244) (by decide) e0.1] at hc135; rw [own_eqi e0.1 (m := 240) (by decide)] at hc146; rw [own_eqi e0.1 (m := 244) (by decide)] at hc165; have b0 := e0.2; have b1 := e1.2; have b2 := e2.2; have b3 := e3.2; unfold nx; generalize bv B i = n0 at *; generalize bv B (i + 1) = n1 at *; generalize bv B (i + 2) = n2 at *; generalize bv B (i + 3) = n3 at *; unfold nxtI; (repeat' split) <;> omega)
                      · refine Go.via (fun t_ k_ => XS.icmpYes Hj.here hx rfl (pc0 := 165) (pc' := 174) rfl (hb hby d2_165) rfl ((feq hc165).2) (by decide) (by decide) k_) ?_
                        show Go _ _ _ _ (Tj.setTop (mkF m 174 #[.val (.ref a), .val (.int F), .val (.int G), .val (.int I), .val (.int ((B i) &&& (255 : Int32))), .val (.int (4 : Int32)), .val (.int (128 : Int32)), .val (.int (191 : Int32)), s8, s9] []))
                        refine Go.via (fun t_ k_ => XS.sipush Hj.here hx rfl (hb hby d2_174) k_) ?_
                        show Go _ _ _ _ (Tj.setTop (mkF m 177 #[.val (.ref a), .val (.int F), .val (.int G), .val (.int I), .val (.int ((B i) &&& (255 : Int32))), .val (.int (4 : Int32)), .val (.int (128 : Int32)), .val (.int (191 : Int32)), s8, s9] [(.int (191 : Int32))]))
                        refine Go.via (fun t_ k_ => XS.istore Hj.here hx rfl (hb hby d2_177) rfl (l' := #[.val (.ref a), .val (.int F), .val (.int G), .val (.int I), .val (.int ((B i) &&& (255 : Int32))), .val (.int (4 : Int32)), .val (.int (128 : Int32)), .val (.int (191 : Int32)), s8, s9]) rfl k_) ?_
                        show Go _ _ _ _ (Tj.setTop (mkF m 179 #[.val (.ref a), .val (.int F), .val (.int G), .val (.int I), .val (.int ((B i) &&& (255 : Int32))), .val (.int (4 : Int32)), .val (.int (128 : Int32)), .val (.int (191 : Int32)), s8, s9] []))
                        refine Go.via (fun t_ k_ => XS.goto Hj.here hx rfl (pc0 := 179) (pc' := 184) rfl (hb hby d2_179) (by decide) (by decide) k_) ?_
                        show Go _ _ _ _ (Tj.setTop (mkF m 184 #[.val (.ref a), .val (.int F), .val (.int G), .val (.int I), .val (.int ((B i) &&& (255 : Int32))), .val (.int (4 : Int32)), .val (.int (128 : Int32)), .val (.int (191 : Int32)), s8, s9] []))
                        exact J184_4 Tj (128 : Int32) (191 : Int32) 128 191 Hj (by decide) (by decide) (by rw [own_lti e0.1 (m := 128) (by decide)] at hc21; rw [own_lti e0.1 (m := 194) (by decide)] at hc45; rw [own_lti e0.1 (m := 224) (by decide)] at hc67; rw [own_lti (n := 239) (by decide) e0.1] at hc75; rw [own_lti e0.1 (m := 240) (by decide)] at hc127; rw [own_lti (n := 244) (by decide) e0.1] at hc135; rw [own_eqi e0.1 (m := 240) (by decide)] at hc146; rw [own_eqi e0.1 (m := 244) (by decide)] at hc165; have b0 := e0.2; have b1 := e1.2; have b2 := e2.2; have b3 := e3.2; unfold nx; generalize bv B i = n0 at *; generalize bv B (i + 1) = n1 at *; generalize bv B (i + 2) = n2 at *; generalize bv B (i + 3) = n3 at *; unfold nxtI; (repeat' split) <;> omega)
              · refine Go.via (fun t_ k_ => XS.icmpNo Hj.here hx rfl (hb hby d2_75) rfl ((flt hc75).2.2.1) k_) ?_
                show Go _ _ _ _ (Tj.setTop (mkF m 78 #[.val (.ref a), .val (.int F), .val (.int G), .val (.int I), .val (.int ((B i) &&& (255 : Int32))), s5, .val (.int (128 : Int32)), .val (.int (191 : Int32)), s8, s9] []))
                refine Go.via (fun t_ k_ => XS.iconst Hj.here hx rfl (hb hby d2_78) k_) ?_
                show Go _ _ _ _ (Tj.setTop (mkF m 79 #[.val (.ref a), .val (.int F), .val (.int G), .val (.int I), .val (.int ((B i) &&& (255 : Int32))), s5, .val (.int (128 : Int32)), .val (.int (191 : Int32)), s8, s9] [(.int (3 : Int32))]))
                refine Go.via (fun t_ k_ => XS.istore Hj.here hx rfl (hb hby d2_79) rfl (l' := #[.val (.ref a), .val (.int F), .val (.int G), .val (.int I), .val (.int ((B i) &&& (255 : Int32))), .val (.int (3 : Int32)), .val (.int (128 : Int32)), .val (.int (191 : Int32)), s8, s9]) (Jvm.Free.XS.store1 rfl o5 rfl) k_) ?_
                show Go _ _ _ _ (Tj.setTop (mkF m 81 #[.val (.ref a), .val (.int F), .val (.int G), .val (.int I), .val (.int ((B i) &&& (255 : Int32))), .val (.int (3 : Int32)), .val (.int (128 : Int32)), .val (.int (191 : Int32)), s8, s9] []))
                refine Go.via (fun t_ k_ => XS.iload Hj.here hx rfl (hb hby d2_81) rfl k_) ?_
                show Go _ _ _ _ (Tj.setTop (mkF m 83 #[.val (.ref a), .val (.int F), .val (.int G), .val (.int I), .val (.int ((B i) &&& (255 : Int32))), .val (.int (3 : Int32)), .val (.int (128 : Int32)), .val (.int (191 : Int32)), s8, s9] [(.int ((B i) &&& (255 : Int32)))]))
                refine Go.via (fun t_ k_ => XS.sipush Hj.here hx rfl (hb hby d2_83) k_) ?_
                show Go _ _ _ _ (Tj.setTop (mkF m 86 #[.val (.ref a), .val (.int F), .val (.int G), .val (.int I), .val (.int ((B i) &&& (255 : Int32))), .val (.int (3 : Int32)), .val (.int (128 : Int32)), .val (.int (191 : Int32)), s8, s9] [(.int (224 : Int32)), (.int ((B i) &&& (255 : Int32)))]))
                by_cases hc86 : ((B i) &&& (255 : Int32)) = (224 : Int32)
                · refine Go.via (fun t_ k_ => XS.icmpNo Hj.here hx rfl (hb hby d2_86) rfl ((teq hc86).2) k_) ?_
                  show Go _ _ _ _ (Tj.setTop (mkF m 89 #[.val (.ref a), .val (.int F), .val (.int G), .val (.int I), .val (.int ((B i) &&& (255 : Int32))), .val (.int (3 : Int32)), .val (.int (128 : Int32)), .val (.int (191 : Int32)), s8, s9] []))
                  refine Go.via (fun t_ k_ => XS.sipush Hj.here hx rfl (hb hby d2_89) k_) ?_
                  show Go _ _ _ _ (Tj.setTop (mkF m 92 #[.val (.ref a), .val (.int F), .val (.int G), .val (.int I), .val (.int ((B i) &&& (255 : Int32))), .val (.int (3 : Int32)), .val (.int (128 : Int32)), .val (.int (191 : Int32)), s8, s9] [(.int (160 : Int32))]))
                  refine Go.via (fun t_ k_ => XS.goto Hj.here hx rfl (pc0 := 92) (pc' := 98) rfl (hb hby d2_92) (by decide) (by decide) k_) ?_
                  show Go _ _ _ _ (Tj.setTop (mkF m 98 #[.val (.ref a), .val (.int F), .val (.int G), .val (.int I), .val (.int ((B i) &&& (255 : Int32))), .val (.int (3 : Int32)), .val (.int (128 : Int32)), .val (.int (191 : Int32)), s8, s9] [(.int (160 : Int32))]))
                  refine Go.via (fun t_ k_ => XS.istore Hj.here hx rfl (hb hby d2_98) rfl (l' := #[.val (.ref a), .val (.int F), .val (.int G), .val (.int I), .val (.int ((B i) &&& (255 : Int32))), .val (.int (3 : Int32)), .val (.int (160 : Int32)), .val (.int (191 : Int32)), s8, s9]) rfl k_) ?_
                  show Go _ _ _ _ (Tj.setTop (mkF m 100 #[.val (.ref a), .val (.int F), .val (.int G), .val (.int I), .val (.int ((B i) &&& (255 : Int32))), .val (.int (3 : Int32)), .val (.int (160 : Int32)), .val (.int (191 : Int32)), s8, s9] []))
                  refine Go.via (fun t_ k_ => XS.iload Hj.here hx rfl (hb hby d2_100) rfl k_) ?_
                  show Go _ _ _ _ (Tj.setTop (mkF m 102 #[.val (.ref a), .val (.int F), .val (.int G), .val (.int I), .val (.int ((B i) &&& (255 : Int32))), .val (.int (3 : Int32)), .val (.int (160 : Int32)), .val (.int (191 : Int32)), s8, s9] [(.int ((B i) &&& (255 : Int32)))]))
                  refine Go.via (fun t_ k_ => XS.sipush Hj.here hx rfl (hb hby d2_102) k_) ?_
                  show Go _ _ _ _ (Tj.setTop (mkF m 105 #[.val (.ref a), .val (.int F), .val (.int G), .val (.int I), .val (.int ((B i) &&& (255 : Int32))), .val (.int (3 : Int32)), .val (.int (160 : Int32)), .val (.int (191 : Int32)), s8, s9] [(.int (237 : Int32)), (.int ((B i) &&& (255 : Int32)))]))
                  by_cases hc105 : ((B i) &&& (255 : Int32)) = (237 : Int32)
                  · refine Go.via (fun t_ k_ => XS.icmpNo Hj.here hx rfl (hb hby d2_105) rfl ((teq hc105).2) k_) ?_
                    show Go _ _ _ _ (Tj.setTop (mkF m 108 #[.val (.ref a), .val (.int F), .val (.int G), .val (.int I), .val (.int ((B i) &&& (255 : Int32))), .val (.int (3 : Int32)), .val (.int (160 : Int32)), .val (.int (191 : Int32)), s8, s9] []))
                    refine Go.via (fun t_ k_ => XS.sipush Hj.here hx rfl (hb hby d2_108) k_) ?_
                    show Go _ _ _ _ (Tj.setTop (mkF m 111 #[.val (.ref a), .val (.int F), .val (.int G), .val (.int I), .val (.int ((B i) &&& (255 : Int32))), .val (.int (3 : Int32)), .val (.int (160 : Int32)), .val (.int (191 : Int32)), s8, s9] [(.int (159 : Int32))]))
                    refine Go.via (fun t_ k_ => XS.goto Hj.here hx rfl (pc0 := 111) (pc' := 117) rfl (hb hby d2_111) (by decide) (by decide) k_) ?_
                    show Go _ _ _ _ (Tj.setTop (mkF m 117 #[.val (.ref a), .val (.int F), .val (.int G), .val (.int I), .val (.int ((B i) &&& (255 : Int32))), .val (.int (3 : Int32)), .val (.int (160 : Int32)), .val (.int (191 : Int32)), s8, s9] [(.int (159 : Int32))]))
                    refine Go.via (fun t_ k_ => XS.istore Hj.here hx rfl (hb hby d2_117) rfl (l' := #[.val (.ref a), .val (.int F), .val (.int G), .val (.int I), .val (.int ((B i) &&& (255 : Int32))), .val (.int (3 : Int32)), .val (.int (160 : Int32)), .val (.int (159 : Int32)), s8, s9]) rfl k_) ?_
                    show Go _ _ _ _ (Tj.setTop (mkF m 119 #[.val (.ref a), .val (.int F), .val (.int G), .val (.int I), .val (.int ((B i) &&& (255 : Int32))), .val (.int (3 : Int32)), .val (.int (160 : Int32)), .val (.int (159 : Int32)), s8, s9] []))
                    refine Go.via (fun t_ k_ => XS.goto Hj.here hx rfl (pc0 := 119) (pc' := 184) rfl (hb hby d2_119) (by decide) (by decide) k_) ?_
                    show Go _ _ _ _ (Tj.setTop (mkF m 184 #[.val (.ref a), .val (.int F), .val (.int G), .val (.int I), .val (.int ((B i) &&& (255 : Int32))), .val (.int (3 : Int32)), .val (.int (160 : Int32)), .val (.int (159 : Int32)), s8, s9] []))
                    exact J184_3 Tj (160 : Int32) (159 : Int32) 160 159 Hj (by decide) (by decide) (by rw [own_lti e0.1 (m := 128) (by decide)] at hc21; rw [own_lti e0.1 (m := 194) (by decide)] at hc45; rw [own_lti e0.1 (m := 224) (by decide)] at hc67; rw [own_lti (n := 239) (by decide) e0.1] at hc75; rw [own_eqi e0.1 (m := 224) (by decide)] at hc86; rw [own_eqi e0.1 (m := 237) (by decide)] at hc105; have b0 := e0.2; have b1 := e1.2; have b2 := e2.2; have b3 := e3.2; unfold nx; generalize bv B i = n0 at *; generalize bv B (i + 1) = n1 at *; generalize bv B (i + 2) = n2 at *; generalize bv B (i + 3) = n3 at *; unfold nxtI; (repeat' split) <;> omega)
                  · refine Go.via (fun t_ k_ => XS.icmpYes Hj.here hx rfl (pc0 := 105) (pc' := 114) rfl (hb hby d2_105) rfl ((feq hc105).2) (by decide) (by decide) k_) ?_
                    show Go _ _ _ _ (Tj.setTop (mkF m 114 #[.val (.ref a), .val (.int F), .val (.int G), .val (.int I), .val (.int ((B i) &&& (255 : Int32))), .val (.int (3 : Int32)), .val (.int (160 : Int32)), .val (.int (191 : Int32)), s8, s9] []))
                    refine Go.via (fun t_ k_ => XS.sipush Hj.here hx rfl (hb hby d2_114) k_) ?_
                    show Go _ _ _ _ (Tj.setTop (mkF m 117 #[.val (.ref a), .val (.int F), .val (.int G), .val (.int I), .val (.int ((B i) &&& (255 : Int32))), .val (.int (3 : Int32)), .val (.int (160 : Int32)), .val (.int (191 : Int32)), s8, s9] [(.int (191 : Int32))]))
                    refine Go.via (fun t_ k_ => XS.istore Hj.here hx rfl (hb hby d2_117) rfl (l' := #[.val (.ref a), .val (.int F), .val (.int G), .val (.int I), .val (.int ((B i) &&& (255 : Int32))), .val (.int (3 : Int32)), .val (.int (160 : Int32)), .val (.int (191 : Int32)), s8, s9]) rfl k_) ?_
                    show Go _ _ _ _ (Tj.setTop (mkF m 119 #[.val (.ref a), .val (.int F), .val (.int G), .val (.int I), .val (.int ((B i) &&& (255 : Int32))), .val (.int (3 : Int32)), .val (.int (160 : Int32)), .val (.int (191 : Int32)), s8, s9] []))
                    refine Go.via (fun t_ k_ => XS.goto Hj.here hx rfl (pc0 := 119) (pc' := 184) rfl (hb hby d2_119) (by decide) (by decide) k_) ?_
                    show Go _ _ _ _ (Tj.setTop (mkF m 184 #[.val (.ref a), .val (.int F), .val (.int G), .val (.int I), .val (.int ((B i) &&& (255 : Int32))), .val (.int (3 : Int32)), .val (.int (160 : Int32)), .val (.int (191 : Int32)), s8, s9] []))
                    exact J184_3 Tj (160 : Int32) (191 : Int32) 160 191 Hj (by decide) (by decide) (by rw [own_lti e0.1 (m := 128) (by decide)] at hc21; rw [own_lti e0.1 (m := 194) (by decide)] at hc45; rw [own_lti e0.1 (m := 224) (by decide)] at hc67; rw [own_lti (n := 239) (by decide) e0.1] at hc75; rw [own_eqi e0.1 (m := 224) (by decide)] at hc86; rw [own_eqi e0.1 (m := 237) (by decide)] at hc105; have b0 := e0.2; have b1 := e1.2; have b2 := e2.2; have b3 := e3.2; unfold nx; generalize bv B i = n0 at *; generalize bv B (i + 1) = n1 at *; generalize bv B (i + 2) = n2 at *; generalize bv B (i + 3) = n3 at *; unfold nxtI; (repeat' split) <;> omega)
                · refine Go.via (fun t_ k_ => XS.icmpYes Hj.here hx rfl (pc0 := 86) (pc' := 95) rfl (hb hby d2_86) rfl ((feq hc86).2) (by decide) (by decide) k_) ?_
                  show Go _ _ _ _ (Tj.setTop (mkF m 95 #[.val (.ref a), .val (.int F), .val (.int G), .val (.int I), .val (.int ((B i) &&& (255 : Int32))), .val (.int (3 : Int32)), .val (.int (128 : Int32)), .val (.int (191 : Int32)), s8, s9] []))
                  refine Go.via (fun t_ k_ => XS.sipush Hj.here hx rfl (hb hby d2_95) k_) ?_
                  show Go _ _ _ _ (Tj.setTop (mkF m 98 #[.val (.ref a), .val (.int F), .val (.int G), .val (.int I), .val (.int ((B i) &&& (255 : Int32))), .val (.int (3 : Int32)), .val (.int (128 : Int32)), .val (.int (191 : Int32)), s8, s9] [(.int (128 : Int32))]))
                  refine Go.via (fun t_ k_ => XS.istore Hj.here hx rfl (hb hby d2_98) rfl (l' := #[.val (.ref a), .val (.int F), .val (.int G), .val (.int I), .val (.int ((B i) &&& (255 : Int32))), .val (.int (3 : Int32)), .val (.int (128 : Int32)), .val (.int (191 : Int32)), s8, s9]) rfl k_) ?_
                  show Go _ _ _ _ (Tj.setTop (mkF m 100 #[.val (.ref a), .val (.int F), .val (.int G), .val (.int I), .val (.int ((B i) &&& (255 : Int32))), .val (.int (3 : Int32)), .val (.int (128 : Int32)), .val (.int (191 : Int32)), s8, s9] []))
                  refine Go.via (fun t_ k_ => XS.iload Hj.here hx rfl (hb hby d2_100) rfl k_) ?_
                  show Go _ _ _ _ (Tj.setTop (mkF m 102 #[.val (.ref a), .val (.int F), .val (.int G), .val (.int I), .val (.int ((B i) &&& (255 : Int32))), .val (.int (3 : Int32)), .val (.int (128 : Int32)), .val (.int (191 : Int32)), s8, s9] [(.int ((B i) &&& (255 : Int32)))]))
                  refine Go.via (fun t_ k_ => XS.sipush Hj.here hx rfl (hb hby d2_102) k_) ?_
                  show Go _ _ _ _ (Tj.setTop (mkF m 105 #[.val (.ref a), .val (.int F), .val (.int G), .val (.int I), .val (.int ((B i) &&& (255 : Int32))), .val (.int (3 : Int32)), .val (.int (128 : Int32)), .val (.int (191 : Int32)), s8, s9] [(.int (237 : Int32)), (.int ((B i) &&& (255 : Int32)))]))
                  by_cases hc105 : ((B i) &&& (255 : Int32)) = (237 : Int32)
                  · refine Go.via (fun t_ k_ => XS.icmpNo Hj.here hx rfl (hb hby d2_105) rfl ((teq hc105).2) k_) ?_
                    show Go _ _ _ _ (Tj.setTop (mkF m 108 #[.val (.ref a), .val (.int F), .val (.int G), .val (.int I), .val (.int ((B i) &&& (255 : Int32))), .val (.int (3 : Int32)), .val (.int (128 : Int32)), .val (.int (191 : Int32)), s8, s9] []))
                    refine Go.via (fun t_ k_ => XS.sipush Hj.here hx rfl (hb hby d2_108) k_) ?_
                    show Go _ _ _ _ (Tj.setTop (mkF m 111 #[.val (.ref a), .val (.int F), .val (.int G), .val (.int I), .val (.int ((B i) &&& (255 : Int32))), .val (.int (3 : Int32)), .val (.int (128 : Int32)), .val (.int (191 : Int32)), s8, s9] [(.int (159 : Int32))]))
                    refine Go.via (fun t_ k_ => XS.goto Hj.here hx rfl (pc0 := 111) (pc' := 117) rfl (hb hby d2_111) (by decide) (by decide) k_) ?_
                    show Go _ _ _ _ (Tj.setTop (mkF m 117 #[.val (.ref a), .val (.int F), .val (.int G), .val (.int I), .val (.int ((B i) &&& (255 : Int32))), .val (.int (3 : Int32)), .val (.int (128 : Int32)), .val (.int (191 : Int32)), s8, s9] [(.int (159 : Int32))]))
                    refine Go.via (fun t_ k_ => XS.istore Hj.here hx rfl (hb hby d2_117) rfl (l' := #[.val (.ref a), .val (.int F), .val (.int G), .val (.int I), .val (.int ((B i) &&& (255 : Int32))), .val (.int (3 : Int32)), .val (.int (128 : Int32)), .val (.int (159 : Int32)), s8, s9]) rfl k_) ?_
                    show Go _ _ _ _ (Tj.setTop (mkF m 119 #[.val (.ref a), .val (.int F), .val (.int G), .val (.int I), .val (.int ((B i) &&& (255 : Int32))), .val (.int (3 : Int32)), .val (.int (128 : Int32)), .val (.int (159 : Int32)), s8, s9] []))
                    refine Go.via (fun t_ k_ => XS.goto Hj.here hx rfl (pc0 := 119) (pc' := 184) rfl (hb hby d2_119) (by decide) (by decide) k_) ?_
                    show Go _ _ _ _ (Tj.setTop (mkF m 184 #[.val (.ref a), .val (.int F), .val (.int G), .val (.int I), .val (.int ((B i) &&& (255 : Int32))), .val (.int (3 : Int32)), .val (.int (128 : Int32)), .val (.int (159 : Int32)), s8, s9] []))
                    exact J184_3 Tj (128 : Int32) (159 : Int32) 128 159 Hj (by decide) (by decide) (by rw [own_lti e0.1 (m := 128) (by decide)] at hc21; rw [own_lti e0.1 (m := 194) (by decide)] at hc45; rw [own_lti e0.1 (m := 224) (by decide)] at hc67; rw [own_lti (n := 239) (by decide) e0.1] at hc75; rw [own_eqi e0.1 (m := 224) (by decide)] at hc86; rw [own_eqi e0.1 (m := 237) (by decide)] at hc105; have b0 := e0.2; have b1 := e1.2; have b2 := e2.2; have b3 := e3.2; unfold nx; generalize bv B i = n0 at *; generalize bv B (i + 1) = n1 at *; generalize bv B (i + 2) = n2 at *; generalize bv B (i + 3) = n3 at *; unfold nxtI; (repeat' split) <;> omega)
                  · refine Go.via (fun t_ k_ => XS.icmpYes Hj.here hx rfl (pc0 := 105) (pc' := 114) rfl (hb hby d2_105) rfl ((feq hc105).2) (by decide) (by decide) k_) ?_
                    show Go _ _ _ _ (Tj.setTop (mkF m 114 #[.val (.ref a), .val (.int F), .val (.int G), .val (.int I), .val (.int ((B i) &&& (255 : Int32))), .val (.int (3 : Int32)), .val (.int (128 : Int32)), .val (.int (191 : Int32)), s8, s9] []))
                    refine Go.via (fun t_ k_ => XS.sipush Hj.here hx rfl (hb hby d2_114) k_) ?_
                    show Go _ _ _ _ (Tj.setTop (mkF m 117 #[.val (.ref a), .val (.int F), .val (.int G), .val (.int I), .val (.int ((B i) &&& (255 : Int32))), .val (.int (3 : Int32)), .val (.int (128 : Int32)), .val (.int (191 : Int32)), s8, s9] [(.int (191 : Int32))]))
                    refine Go.via (fun t_ k_ => XS.istore Hj.here hx rfl (hb hby d2_117) rfl (l' := #[.val (.ref a), .val (.int F), .val (.int G), .val (.int I), .val (.int ((B i) &&& (255 : Int32))), .val (.int (3 : Int32)), .val (.int (128 : Int32)), .val (.int (191 : Int32)), s8, s9]) rfl k_) ?_
                    show Go _ _ _ _ (Tj.setTop (mkF m 119 #[.val (.ref a), .val (.int F), .val (.int G), .val (.int I), .val (.int ((B i) &&& (255 : Int32))), .val (.int (3 : Int32)), .val (.int (128 : Int32)), .val (.int (191 : Int32)), s8, s9] []))
                    refine Go.via (fun t_ k_ => XS.goto Hj.here hx rfl (pc0 := 119) (pc' := 184) rfl (hb hby d2_119) (by decide) (by decide) k_) ?_
                    show Go _ _ _ _ (Tj.setTop (mkF m 184 #[.val (.ref a), .val (.int F), .val (.int G), .val (.int I), .val (.int ((B i) &&& (255 : Int32))), .val (.int (3 : Int32)), .val (.int (128 : Int32)), .val (.int (191 : Int32)), s8, s9] []))
                    exact J184_3 Tj (128 : Int32) (191 : Int32) 128 191 Hj (by decide) (by decide) (by rw [own_lti e0.1 (m := 128) (by decide)] at hc21; rw [own_lti e0.1 (m := 194) (by decide)] at hc45; rw [own_lti e0.1 (m := 224) (by decide)] at hc67; rw [own_lti (n := 239) (by decide) e0.1] at hc75; rw [own_eqi e0.1 (m := 224) (by decide)] at hc86; rw [own_eqi e0.1 (m := 237) (by decide)] at hc105; have b0 := e0.2; have b1 := e1.2; have b2 := e2.2; have b3 := e3.2; unfold nx; generalize bv B i = n0 at *; generalize bv B (i + 1) = n1 at *; generalize bv B (i + 2) = n2 at *; generalize bv B (i + 3) = n3 at *; unfold nxtI; (repeat' split) <;> omega)
          · refine Go.via (fun t_ k_ => XS.icmpNo Hj.here hx rfl (hb hby d2_45) rfl ((flt hc45).1) k_) ?_
            show Go _ _ _ _ (Tj.setTop (mkF m 48 #[.val (.ref a), .val (.int F), .val (.int G), .val (.int I), .val (.int ((B i) &&& (255 : Int32))), s5, .val (.int (128 : Int32)), .val (.int (191 : Int32)), s8, s9] []))
            refine Go.via (fun t_ k_ => XS.iload Hj.here hx rfl (hb hby d2_48) rfl k_) ?_
            show Go _ _ _ _ (Tj.setTop (mkF m 50 #[.val (.ref a), .val (.int F), .val (.int G), .val (.int I), .val (.int ((B i) &&& (255 : Int32))), s5, .val (.int (128 : Int32)), .val (.int (191 : Int32)), s8, s9] [(.int ((B i) &&& (255 : Int32)))]))
            refine Go.via (fun t_ k_ => XS.sipush Hj.here hx rfl (hb hby d2_50) k_) ?_
            show Go _ _ _ _ (Tj.setTop (mkF m 53 #[.val (.ref a), .val (.int F), .val (.int G), .val (.int I), .val (.int ((B i) &&& (255 : Int32))), s5, .val (.int (128 : Int32)), .val (.int (191 : Int32)), s8, s9] [(.int (223 : Int32)), (.int ((B i) &&& (255 : Int32)))]))
            by_cases hc53 : (223 : Int32) < ((B i) &&& (255 : Int32))
            · refine Go.via (fun t_ k_ => XS.icmpYes Hj.here hx rfl (pc0 := 53) (pc' := 62) rfl (hb hby d2_53) rfl ((tlt hc53).2.2.1) (by decide) (by decide) k_) ?_
              show Go _ _ _ _ (Tj.setTop (mkF m 62 #[.val (.ref a), .val (.int F), .val (.int G), .val (.int I), .val (.int ((B i) &&& (255 : Int32))), s5, .val (.int (128 : Int32)), .val (.int (191 : Int32)), s8, s9] []))
              refine Go.via (fun t_ k_ => XS.iload Hj.here hx rfl (hb hby d2_62) rfl k_) ?_
              show Go _ _ _ _ (Tj.setTop (mkF m 64 #[.val (.ref a), .val (.int F), .val (.int G), .val (.int I), .val (.int ((B i) &&& (255 : Int32))), s5, .val (.int (128 : Int32)), .val (.int (191 : Int32)), s8, s9] [(.int ((B i) &&& (255 : Int32)))]))
              refine Go.via (fun t_ k_ => XS.sipush Hj.here hx rfl (hb hby d2_64) k_) ?_
              show Go _ _ _ _ (Tj.setTop (mkF m 67 #[.val (.ref a), .val (.int F), .val (.int G), .val (.int I), .val (.int ((B i) &&& (255 : Int32))), s5, .val (.int (128 : Int32)), .val (.int (191 : Int32)), s8, s9] [(.int (224 : Int32)), (.int ((B i) &&& (255 : Int32)))]))
              by_cases hc67 : ((B i) &&& (255 : Int32)) < (224 : Int32)
              · refine Go.via (fun t_ k_ => XS.icmpYes Hj.here hx rfl (pc0 := 67) (pc' := 122) rfl (hb hby d2_67) rfl ((tlt hc67).1) (by decide) (by decide) k_) ?_
                show Go _ _ _ _ (Tj.setTop (mkF m 122 #[.val (.ref a), .val (.int F), .val (.int G), .val (.int I), .val (.int ((B i) &&& (255 : Int32))), s5, .val (.int (128 : Int32)), .val (.int (191 : Int32)), s8, s9] []))
                refine Go.via (fun t_ k_ => XS.iload Hj.here hx rfl (hb hby d2_122) rfl k_) ?_
                show Go _ _ _ _ (Tj.setTop (mkF m 124 #[.val (.ref a), .val (.int F), .val (.int G), .val (.int I), .val (.int ((B i) &&& (255 : Int32))), s5, .val (.int (128 : Int32)), .val (.int (191 : Int32)), s8, s9] [(.int ((B i) &&& (255 : Int32)))]))
                refine Go.via (fun t_ k_ => XS.sipush Hj.here hx rfl (hb hby d2_124) k_) ?_
                show Go _ _ _ _ (Tj.setTop (mkF m 127 #[.val (.ref a), .val (.int F), .val (.int G), .val (.int I), .val (.int ((B i) &&& (255 : Int32))), s5, .val (.int (128 : Int32)), .val (.int (191 : Int32)), s8, s9] [(.int (240 : Int32)), (.int ((B i) &&& (255 : Int32)))]))
                by_cases hc127 : ((B i) &&& (255 : Int32)) < (240 : Int32)
                · refine Go.via (fun t_ k_ => XS.icmpYes Hj.here hx rfl (pc0 := 127) (pc' := 182) rfl (hb hby d2_127) rfl ((tlt hc127).1) (by decide) (by decide) k_) ?_
                  show Go _ _ _ _ (Tj.setTop (mkF m 182 #[.val (.ref a), .val (.int F), .val (.int G), .val (.int I), .val (.int ((B i) &&& (255 : Int32))), s5, .val (.int (128 : Int32)), .val (.int (191 : Int32)), s8, s9] []))
                  refine Go.via (fun t_ k_ => XS.iconst Hj.here hx rfl (hb hby d2_182) k_) ?_
                  show Go _ _ _ _ (Tj.setTop (mkF m 183 #[.val (.ref a), .val (.int F), .val (.int G), .val (.int I), .val (.int ((B i) &&& (255 : Int32))), s5, .val (.int (128 : Int32)), .val (.int (191 : Int32)), s8, s9] [(.int (0 : Int32))]))
                  exact own_retN Hj hx hlk (by simp) hret (hb hby d2_183) ⟨by rw [← hok, own_okN hit (by rw [own_lti e0.1 (m := 128) (by decide)] at hc21; rw [own_lti e0.1 (m := 194) (by decide)] at hc45; rw [own_lti (n := 223) (by decide) e0.1] at hc53; rw [own_lti e0.1 (m := 224) (by decide)] at hc67; rw [own_lti e0.1 (m := 240) (by decide)] at hc127; have b0 := e0.2; have b1 := e1.2; have b2 := e2.2; have b3 := e3.2; unfold nx; generalize bv B i = n0 at *; generalize bv B (i + 1) = n1 at *; generalize bv B (i + 2) = n2 at *; generalize bv B (i + 3) = n3 at *; unfold nxtI; (repeat' split) <;> omega)]; rfl, rfl⟩ (by decide) (by decide)
                · refine Go.via (fun t_ k_ => XS.icmpNo Hj.here hx rfl (hb hby d2_127) rfl ((flt hc127).1) k_) ?_
                  show Go _ _ _ _ (Tj.setTop (mkF m 130 #[.val (.ref a), .val (.int F), .val (.int G), .val (.int I), .val (.int ((B i) &&& (255 : Int32))), s5, .val (.int (128 : Int32)), .val (.int (191 : Int32)), s8, s9] []))
                  refine Go.via (fun t_ k_ => XS.iload Hj.here hx rfl (hb hby d2_130) rfl k_) ?_
                  show Go _ _ _ _ (Tj.setTop (mkF m 132 #[.val (.ref a), .val (.int F), .val (.int G), .val (.int I), .val (.int ((B i) &&& (255 : Int32))), s5, .val (.int (128 : Int32)), .val (.int (191 : Int32)), s8, s9] [(.int ((B i) &&& (255 : Int32)))]))
                  refine Go.via (fun t_ k_ => XS.sipush Hj.here hx rfl (hb hby d2_132) k_) ?_
                  show Go _ _ _ _ (Tj.setTop (mkF m 135 #[.val (.ref a), .val (.int F), .val (.int G), .val (.int I), .val (.int ((B i) &&& (255 : Int32))), s5, .val (.int (128 : Int32)), .val (.int (191 : Int32)), s8, s9] [(.int (244 : Int32)), (.int ((B i) &&& (255 : Int32)))]))
                  by_cases hc135 : (244 : Int32) < ((B i) &&& (255 : Int32))
                  · refine Go.via (fun t_ k_ => XS.icmpYes Hj.here hx rfl (pc0 := 135) (pc' := 182) rfl (hb hby d2_135) rfl ((tlt hc135).2.2.1) (by decide) (by decide) k_) ?_
                    show Go _ _ _ _ (Tj.setTop (mkF m 182 #[.val (.ref a), .val (.int F), .val (.int G), .val (.int I), .val (.int ((B i) &&& (255 : Int32))), s5, .val (.int (128 : Int32)), .val (.int (191 : Int32)), s8, s9] []))
                    refine Go.via (fun t_ k_ => XS.iconst Hj.here hx rfl (hb hby d2_182) k_) ?_
                    show Go _ _ _ _ (Tj.setTop (mkF m 183 #[.val (.ref a), .val (.int F), .val (.int G), .val (.int I), .val (.int ((B i) &&& (255 : Int32))), s5, .val (.int (128 : Int32)), .val (.int (191 : Int32)), s8, s9] [(.int (0 : Int32))]))
                    exact own_retN Hj hx hlk (by simp) hret (hb hby d2_183) ⟨by rw [← hok, own_okN hit (by rw [own_lti e0.1 (m := 128) (by decide)] at hc21; rw [own_lti e0.1 (m := 194) (by decide)] at hc45; rw [own_lti (n := 223) (by decide) e0.1] at hc53; rw [own_lti e0.1 (m := 224) (by decide)] at hc67; rw [own_lti e0.1 (m := 240) (by decide)] at hc127; rw [own_lti (n := 244) (by decide) e0.1] at hc135; have b0 := e0.2; have b1 := e1.2; have b2 := e2.2; have b3 := e3.2; unfold nx; generalize bv B i = n0 at *; generalize bv B (i + 1) = n1 at *; generalize bv B (i + 2) = n2 at *; generalize bv B (i + 3) = n3 at *; unfold nxtI; (repeat' split) <;> omega)]; rfl, rfl⟩ (by decide) (by decide)
                  · refine Go.via (fun t_ k_ => XS.icmpNo Hj.here hx rfl (hb hby d2_135) rfl ((flt hc135).2.2.1) k_) ?_
                    show Go _ _ _ _ (Tj.setTop (mkF m 138 #[.val (.ref a), .val (.int F), .val (.int G), .val (.int I), .val (.int ((B i) &&& (255 : Int32))), s5, .val (.int (128 : Int32)), .val (.int (191 : Int32)), s8, s9] []))
                    refine Go.via (fun t_ k_ => XS.iconst Hj.here hx rfl (hb hby d2_138) k_) ?_
                    show Go _ _ _ _ (Tj.setTop (mkF m 139 #[.val (.ref a), .val (.int F), .val (.int G), .val (.int I), .val (.int ((B i) &&& (255 : Int32))), s5, .val (.int (128 : Int32)), .val (.int (191 : Int32)), s8, s9] [(.int (4 : Int32))]))
                    refine Go.via (fun t_ k_ => XS.istore Hj.here hx rfl (hb hby d2_139) rfl (l' := #[.val (.ref a), .val (.int F), .val (.int G), .val (.int I), .val (.int ((B i) &&& (255 : Int32))), .val (.int (4 : Int32)), .val (.int (128 : Int32)), .val (.int (191 : Int32)), s8, s9]) (Jvm.Free.XS.store1 rfl o5 rfl) k_) ?_
                    show Go _ _ _ _ (Tj.setTop (mkF m 141 #[.val (.ref a), .val (.int F), .val (.int G), .val (.int I), .val (.int ((B i) &&& (255 : Int32))), .val (.int (4 : Int32)), .val (.int (128 : Int32)), .val (.int (191 : Int32)), s8, s9] []))
                    refine Go.via (fun t_ k_ => XS.iload Hj.here hx rfl (hb hby d2_141) rfl k_) ?_
                    show Go _ _ _ _ (Tj.setTop (mkF m 143 #[.val (.ref a), .val (.int F), .val (.int G), .val (.int I), .val (.int ((B i) &&& (255 : Int32))), .val (.int (4 : Int32)), .val (.int (128 : Int32)), .val (.int (191 : Int32)), s8, s9] [(.int ((B i) &&& (255 : Int32)))]))
                    refine Go.via (fun t_ k_ => XS.sipush Hj.here hx rfl (hb hby d2_143) k_) ?_
                    show Go _ _ _ _ (Tj.setTop (mkF m 146 #[.val (.ref a), .val (.int F), .val (.int G), .val (.int I), .val (.int ((B i) &&& (255 : Int32))), .val (.int (4 : Int32)), .val (.int (128 : Int32)), .val (.int (191 : Int32)), s8, s9] [(.int (240 : Int32)), (.int ((B i) &&& (255 : Int32)))]))
                    by_cases hc146 : ((B i) &&& (255 : Int32)) = (240 : Int32)
                    · refine Go.via (fun t_ k_ => XS.icmpNo Hj.here hx rfl (hb hby d2_146) rfl ((teq hc146).2) k_) ?_
                      show Go _ _ _ _ (Tj.setTop (mkF m 149 #[.val (.ref a), .val (.int F), .val (.int G), .val (.int I), .val (.int ((B i) &&& (255 : Int32))), .val (.int (4 : Int32)), .val (.int (128 : Int32)), .val (.int (191 : Int32)), s8, s9] []))
                      refine Go.via (fun t_ k_ => XS.sipush Hj.here hx rfl (hb hby d2_149) k_) ?_
                      show Go _ _ _ _ (Tj.setTop (mkF m 152 #[.val (.ref a), .val (.int F), .val (.int G), .val (.int I), .val (.int ((B i) &&& (255 : Int32))), .val (.int (4 : Int32)), .val (.int (128 : Int32)), .val (.int (191 : Int32)), s8, s9] [(.int (144 : Int32))]))
                      refine Go.via (fun t_ k_ => XS.goto Hj.here hx rfl (pc0 := 152) (pc' := 158) rfl (hb hby d2_152) (by decide) (by decide) k_) ?_
                      show Go _ _ _ _ (Tj.setTop (mkF m 158 #[.val (.ref a), .val (.int F), .val (.int G), .val (.int I), .val (.int ((B i) &&& (255 : Int32))), .val (.int (4 : Int32)), .val (.int (128 : Int32)), .val (.int (191 : Int32)), s8, s9] [(.int (144 : Int32))]))
                      refine Go.via (fun t_ k_ => XS.istore Hj.here hx rfl (hb hby d2_158) rfl (l' := #[.val (.ref a), .val (.int F), .val (.int G), .val (.int I), .val (.int ((B i) &&& (255 : Int32))), .val (.int (4 : Int32)), .val (.int (144 : Int32)), .val (.int (191 : Int32)), s8, s9]) rfl k_) ?_
                      show Go _ _ _ _ (Tj.setTop (mkF m 160 #[.val (.ref a), .val (.int F), .val (.int G), .val (.int I), .val (.int ((B i) &&& (255 : Int32))), .val (.int (4 : Int32)), .val (.int (144 : Int32)), .val (.int (191 : Int32)), s8, s9] []))
                      refine Go.via (fun t_ k_ => XS.iload Hj.here hx rfl (hb hby d2_160) rfl k_) ?_
                      show Go _ _ _ _ (Tj.setTop (mkF m 162 #[.val (.ref a), .val (.int F), .val (.int G), .val (.int I), .val (.int ((B i) &&& (255 : Int32))), .val (.int (4 : Int32)), .val (.int (144 : Int32)), .val (.int (191 : Int32)), s8, s9] [(.int ((B i) &&& (255 : Int32)))]))
                      refine Go.via (fun t_ k_ => XS.sipush Hj.here hx rfl (hb hby d2_162) k_) ?_
                      show Go _ _ _ _ (Tj.setTop (mkF m 165 #[.val (.ref a), .val (.int F), .val (.int G), .val (.int I), .val (.int ((B i) &&& (255 : Int32))), .val (.int (4 : Int32)), .val (.int (144 : Int32)), .val (.int (191 : Int32)), s8, s9] [(.int (244 : Int32)), (.int ((B i) &&& (255 : Int32)))]))
                      by_cases hc165 : ((B i) &&& (255 : Int32)) = (244 : Int32)
                      · refine Go.via (fun t_ k_ => XS.icmpNo Hj.here hx rfl (hb hby d2_165) rfl ((teq hc165).2) k_) ?_
                        show Go _ _ _ _ (Tj.setTop (mkF m 168 #[.val (.ref a), .val (.int F), .val (.int G), .val (.int I), .val (.int ((B i) &&& (255 : Int32))), .val (.int (4 : Int32)), .val (.int (144 : Int32)), .val (.int (191 : Int32)), s8, s9] []))
                        refine Go.via (fun t_ k_ => XS.sipush Hj.here hx rfl (hb hby d2_168) k_) ?_
                        show Go _ _ _ _ (Tj.setTop (mkF m 171 #[.val (.ref a), .val (.int F), .val (.int G), .val (.int I), .val (.int ((B i) &&& (255 : Int32))), .val (.int (4 : Int32)), .val (.int (144 : Int32)), .val (.int (191 : Int32)), s8, s9] [(.int (143 : Int32))]))
                        refine Go.via (fun t_ k_ => XS.goto Hj.here hx rfl (pc0 := 171) (pc' := 177) rfl (hb hby d2_171) (by decide) (by decide) k_) ?_
                        show Go _ _ _ _ (Tj.setTop (mkF m 177 #[.val (.ref a), .val (.int F), .val (.int G), .val (.int I), .val (.int ((B i) &&& (255 : Int32))), .val (.int (4 : Int32)), .val (.int (144 : Int32)), .val (.int (191 : Int32)), s8, s9] [(.int (143 : Int32))]))
                        refine Go.via (fun t_ k_ => XS.istore Hj.here hx rfl (hb hby d2_177) rfl (l' := #[.val (.ref a), .val (.int F), .val (.int G), .val (.int I), .val (.int ((B i) &&& (255 : Int32))), .val (.int (4 : Int32)), .val (.int (144 : Int32)), .val (.int (143 : Int32)), s8, s9]) rfl k_) ?_
                        show Go _ _ _ _ (Tj.setTop (mkF m 179 #[.val (.ref a), .val (.int F), .val (.int G), .val (.int I), .val (.int ((B i) &&& (255 : Int32))), .val (.int (4 : Int32)), .val (.int (144 : Int32)), .val (.int (143 : Int32)), s8, s9] []))
                        refine Go.via (fun t_ k_ => XS.goto Hj.here hx rfl (pc0 := 179) (pc' := 184) rfl (hb hby d2_179) (by decide) (by decide) k_) ?_
                        show Go _ _ _ _ (Tj.setTop (mkF m 184 #[.val (.ref a), .val (.int F), .val (.int G), .val (.int I), .val (.int ((B i) &&& (255 : Int32))), .val (.int (4 : Int32)), .val (.int (144 : Int32)), .val (.int (143 : Int32)), s8, s9] []))
                        exact J184_4 Tj (144 : Int32) (143 : Int32) 144 143 Hj (by decide) (by decide) (by rw [own_lti e0.1 (m := 128) (by decide)] at hc21; rw [own_lti e0.1 (m := 194) (by decide)] at hc45; rw [own_lti (n := 223) (by decide) e0.1] at hc53; rw [own_lti e0.1 (m := 224) (by decide)] at hc67; rw [own_lti e0.1 (m := 240) (by decide)] at hc127; rw [own_lti (n := 244) (by decide) e0.1] at hc135; rw [own_eqi e0.1 (m := 240) (by decide)] at hc146; rw [own_eqi e0.1 (m := 244) (by decide)] at hc165; have b0 := e0.2; have b1 := e1.2; have b2 := e2.2; have b3 := e3.2; unfold nx; generalize bv B i = n0 at *; generalize bv B (i + 1) = n1 at *; generalize bv B (i + 2) = n2 at *; generalize bv B (i + 3) = n3 at *; unfold nxtI; (repeat' split) <;> omega)
                      · refine Go.via (fun t_ k_ => XS.icmpYes Hj.here hx rfl (pc0 := 165) (pc' := 174) rfl (hb hby d2_165) rfl ((feq hc165).2) (by decide) (by decide) k_) ?_
                        show Go _ _ _ _ (Tj.setTop (mkF m 174 #[.val (.ref a), .val (.int F), .val (.int G), .val (.int I), .val (.int ((B i) &&& (255 : Int32))), .val (.int (4 : Int32)), .val (.int (144 : Int32)), .val (.int (191 : Int32)), s8, s9] []))
                        refine Go.via (fun t_ k_ => XS.sipush Hj.here hx rfl (hb hby d2_174) k_) ?_
                        show Go _ _ _ _ (Tj.setTop (mkF m 177 #[.val (.ref a), .val (.int F), .val (.int G), .val (.int I), .val (.int ((B i) &&& (255 : Int32))), .val (.int (4 : Int32)), .val (.int (144 : Int32)), .val (.int (191 : Int32)), s8, s9] [(.int (191 : Int32))]))
                        refine Go.via (fun t_ k_ => XS.istore Hj.here hx rfl (hb hby d2_177) rfl (l' := #[.val (.ref a), .val (.int F), .val (.int G), .val (.int I), .val (.int ((B i) &&& (255 : Int32))), .val (.int (4 : Int32)), .val (.int (144 : Int32)), .val (.int (191 : Int32)), s8, s9]) rfl k_) ?_
                        show Go _ _ _ _ (Tj.setTop (mkF m 179 #[.val (.ref a), .val (.int F), .val (.int G), .val (.int I), .val (.int ((B i) &&& (255 : Int32))), .val (.int (4 : Int32)), .val (.int (144 : Int32)), .val (.int (191 : Int32)), s8, s9] []))
                        refine Go.via (fun t_ k_ => XS.goto Hj.here hx rfl (pc0 := 179) (pc' := 184) rfl (hb hby d2_179) (by decide) (by decide) k_) ?_
                        show Go _ _ _ _ (Tj.setTop (mkF m 184 #[.val (.ref a), .val (.int F), .val (.int G), .val (.int I), .val (.int ((B i) &&& (255 : Int32))), .val (.int (4 : Int32)), .val (.int (144 : Int32)), .val (.int (191 : Int32)), s8, s9] []))
                        exact J184_4 Tj (144 : Int32) (191 : Int32) 144 191 Hj (by decide) (by decide) (by rw [own_lti e0.1 (m := 128) (by decide)] at hc21; rw [own_lti e0.1 (m := 194) (by decide)] at hc45; rw [own_lti (n := 223) (by decide) e0.1] at hc53; rw [own_lti e0.1 (m := 224) (by decide)] at hc67; rw [own_lti e0.1 (m := 240) (by decide)] at hc127; rw [own_lti (n := 244) (by decide) e0.1] at hc135; rw [own_eqi e0.1 (m := 240) (by decide)] at hc146; rw [own_eqi e0.1 (m := 244) (by decide)] at hc165; have b0 := e0.2; have b1 := e1.2; have b2 := e2.2; have b3 := e3.2; unfold nx; generalize bv B i = n0 at *; generalize bv B (i + 1) = n1 at *; generalize bv B (i + 2) = n2 at *; generalize bv B (i + 3) = n3 at *; unfold nxtI; (repeat' split) <;> omega)
                    · refine Go.via (fun t_ k_ => XS.icmpYes Hj.here hx rfl (pc0 := 146) (pc' := 155) rfl (hb hby d2_146) rfl ((feq hc146).2) (by decide) (by decide) k_) ?_
                      show Go _ _ _ _ (Tj.setTop (mkF m 155 #[.val (.ref a), .val (.int F), .val (.int G), .val (.int I), .val (.int ((B i) &&& (255 : Int32))), .val (.int (4 : Int32)), .val (.int (128 : Int32)), .val (.int (191 : Int32)), s8, s9] []))
                      refine Go.via (fun t_ k_ => XS.sipush Hj.here hx rfl (hb hby d2_155) k_) ?_
                      show Go _ _ _ _ (Tj.setTop (mkF m 158 #[.val (.ref a), .val (.int F), .val (.int G), .val (.int I), .val (.int ((B i) &&& (255 : Int32))), .val (.int (4 : Int32)), .val (.int (128 : Int32)), .val (.int (191 : Int32)), s8, s9] [(.int (128 : Int32))]))
                      refine Go.via (fun t_ k_ => XS.istore Hj.here hx rfl (hb hby d2_158) rfl (l' := #[.val (.ref a), .val (.int F), .val (.int G), .val (.int I), .val (.int ((B i) &&& (255 : Int32))), .val (.int (4 : Int32)), .val (.int (128 : Int32)), .val (.int (191 : Int32)), s8, s9]) rfl k_) ?_
                      show Go _ _ _ _ (Tj.setTop (mkF m 160 #[.val (.ref a), .val (.int F), .val (.int G), .val (.int I), .val (.int ((B i) &&& (255 : Int32))), .val (.int (4 : Int32)), .val (.int (128 : Int32)), .val (.int (191 : Int32)), s8, s9] []))
                      refine Go.via (fun t_ k_ => XS.iload Hj.here hx rfl (hb hby d2_160) rfl k_) ?_
                      show Go _ _ _ _ (Tj.setTop (mkF m 162 #[.val (.ref a), .val (.int F), .val (.int G), .val (.int I), .val (.int ((B i) &&& (255 : Int32))), .val (.int (4 : Int32)), .val (.int (128 : Int32)), .val (.int (191 : Int32)), s8, s9] [(.int ((B i) &&& (255 : Int32)))]))
                      refine Go.via (fun t_ k_ => XS.sipush Hj.here hx rfl (hb hby d2_162) k_) ?_
                      show Go _ _ _ _ (Tj.setTop (mkF m 165 #[.val (.ref a), .val (.int F), .val (.int G), .val (.int I), .val (.int ((B i) &&& (255 : Int32))), .val (.int (4 : Int32)), .val (.int (128 : Int32)), .val (.int (191 : Int32)), s8, s9] [(.int (244 : Int32)), (.int ((B i) &&& (255 : Int32)))]))
                      by_cases hc165 : ((B i) &&& (255 : Int32)) = (244 : Int32)
                      · refine Go.via (fun t_ k_ => XS.icmpNo Hj.here hx rfl (hb hby d2_165) rfl ((teq hc165).2) k_) ?_
                        show Go _ _ _ _ (Tj.setTop (mkF m 168 #[.val (.ref a), .val (.int F), .val (.int G), .val (.int I), .val (.int ((B i) &&& (255 : Int32))), .val (.int (4 : Int32)), .val (.int (128 : Int32)), .val (.int (191 : Int32)), s8, s9] []))
                        refine Go.via (fun t_ k_ => XS.sipush Hj.here hx rfl (hb hby d2_168) k_) ?_
                        show Go _ _ _ _ (Tj.setTop (mkF m 171 #[.val (.ref a), .val (.int F), .val (.int G), .val (.int I), .val (.int ((B i) &&& (255 : Int32))), .val (.int (4 : Int32)), .val (.int (128 : Int32)), .val (.int (191 : Int32)), s8, s9] [(.int (143 : Int32))]))
                        refine Go.via (fun t_ k_ => XS.goto Hj.here hx rfl (pc0 := 171) (pc' := 177) rfl (hb hby d2_171) (by decide) (by decide) k_) ?_
                        show Go _ _ _ _ (Tj.setTop (mkF m 177 #[.val (.ref a), .val (.int F), .val (.int G), .val (.int I), .val (.int ((B i) &&& (255 : Int32))), .val (.int (4 : Int32)), .val (.int (128 : Int32)), .val (.int (191 : Int32)), s8, s9] [(.int (143 : Int32))]))
                        refine Go.via (fun t_ k_ => XS.istore Hj.here hx rfl (hb hby d2_177) rfl (l' := #[.val (.ref a), .val (.int F), .val (.int G), .val (.int I), .val (.int ((B i) &&& (255 : Int32))), .val (.int (4 : Int32)), .val (.int (128 : Int32)), .val (.int (143 : Int32)), s8, s9]) rfl k_) ?_
                        show Go _ _ _ _ (Tj.setTop (mkF m 179 #[.val (.ref a), .val (.int F), .val (.int G), .val (.int I), .val (.int ((B i) &&& (255 : Int32))), .val (.int (4 : Int32)), .val (.int (128 : Int32)), .val (.int (143 : Int32)), s8, s9] []))
                        refine Go.via (fun t_ k_ => XS.goto Hj.here hx rfl (pc0 := 179) (pc' := 184) rfl (hb hby d2_179) (by decide) (by decide) k_) ?_
                        show Go _ _ _ _ (Tj.setTop (mkF m 184 #[.val (.ref a), .val (.int F), .val (.int G), .val (.int I), .val (.int ((B i) &&& (255 : Int32))), .val (.int (4 : Int32)), .val (.int (128 : Int32)), .val (.int (143 : Int32)), s8, s9] []))
                        exact J184_4 Tj (128 : Int32) (143 : Int32) 128 143 Hj (by decide) (by decide) (by rw [own_lti e0.1 (m := 128) (by decide)] at hc21; rw [own_lti e0.1 (m := 194) (by decide)] at hc45; rw [own_lti (n := 223) (by decide) e0.1] at hc53; rw [own_lti e0.1 (m := 224) (by decide)] at hc67; rw [own_lti e0.1 (m := 240) (by decide)] at hc127; rw [own_lti (n := 244) (by decide) e0.1] at hc135; rw [own_eqi e0.1 (m := 240) (by decide)] at hc146; rw [own_eqi e0.1 (m := 244) (by decide)] at hc165; have b0 := e0.2; have b1 := e1.2; have b2 := e2.2; have b3 := e3.2; unfold nx; generalize bv B i = n0 at *; generalize bv B (i + 1) = n1 at *; generalize bv B (i + 2) = n2 at *; generalize bv B (i + 3) = n3 at *; unfold nxtI; (repeat' split) <;> omega)
                      · refine Go.via (fun t_ k_ => XS.icmpYes Hj.here hx rfl (pc0 := 165) (pc' := 174) rfl (hb hby d2_165) rfl ((feq hc165).2) (by decide) (by decide) k_) ?_
                        show Go _ _ _ _ (Tj.setTop (mkF m 174 #[.val (.ref a), .val (.int F), .val (.int G), .val (.int I), .val (.int ((B i) &&& (255 : Int32))), .val (.int (4 : Int32)), .val (.int (128 : Int32)), .val (.int (191 : Int32)), s8, s9] []))
                        refine Go.via (fun t_ k_ => XS.sipush Hj.here hx rfl (hb hby d2_174) k_) ?_
                        show Go _ _ _ _ (Tj.setTop (mkF m 177 #[.val (.ref a), .val (.int F), .val (.int G), .val (.int I), .val (.int ((B i) &&& (255 : Int32))), .val (.int (4 : Int32)), .val (.int (128 : Int32)), .val (.int (191 : Int32)), s8, s9] [(.int (191 : Int32))]))
                        refine Go.via (fun t_ k_ => XS.istore Hj.here hx rfl (hb hby d2_177) rfl (l' := #[.val (.ref a), .val (.int F), .val (.int G), .val (.int I), .val (.int ((B i) &&& (255 : Int32))), .val (.int (4 : Int32)), .val (.int (128 : Int32)), .val (.int (191 : Int32)), s8, s9]) rfl k_) ?_
                        show Go _ _ _ _ (Tj.setTop (mkF m 179 #[.val (.ref a), .val (.int F), .val (.int G), .val (.int I), .val (.int ((B i) &&& (255 : Int32))), .val (.int (4 : Int32)), .val (.int (128 : Int32)), .val (.int (191 : Int32)), s8, s9] []))
                        refine Go.via (fun t_ k_ => XS.goto Hj.here hx rfl (pc0 := 179) (pc' := 184) rfl (hb hby d2_179) (by decide) (by decide) k_) ?_
                        show Go _ _ _ _ (Tj.setTop (mkF m 184 #[.val (.ref a), .val (.int F), .val (.int G), .val (.int I), .val (.int ((B i) &&& (255 : Int32))), .val (.int (4 : Int32)), .val (.int (128 : Int32)), .val (.int (191 : Int32)), s8, s9] []))
                        exact J184_4 Tj (128 : Int32) (191 : Int32) 128 191 Hj (by decide) (by decide) (by rw [own_lti e0.1 (m := 128) (by decide)] at hc21; rw [own_lti e0.1 (m := 194) (by decide)] at hc45; rw [own_lti (n := 223) (by decide) e0.1] at hc53; rw [own_lti e0.1 (m := 224) (by decide)] at hc67; rw [own_lti e0.1 (m := 240) (by decide)] at hc127; rw [own_lti (n := 244) (by decide) e0.1] at hc135; rw [own_eqi e0.1 (m := 240) (by decide)] at hc146; rw [own_eqi e0.1 (m := 244) (by decide)] at hc165; have b0 := e0.2; have b1 := e1.2; have b2 := e2.2; have b3 := e3.2; unfold nx; generalize bv B i = n0 at *; generalize bv B (i + 1) = n1 at *; generalize bv B (i + 2) = n2 at *; generalize bv B (i + 3) = n3 at *; unfold nxtI; (repeat' split) <;> omega)
              · refine Go.via (fun t_ k_ => XS.icmpNo Hj.here hx rfl (hb hby d2_67) rfl ((flt hc67).1) k_) ?_
                show Go _ _ _ _ (Tj.setTop (mkF m 70 #[.val (.ref a), .val (.int F), .val (.int G), .val (.int I), .val (.int ((B i) &&& (255 : Int32))), s5, .val (.int (128 : Int32)), .val (.int (191 : Int32)), s8, s9] []))
                refine Go.via (fun t_ k_ => XS.iload Hj.here hx rfl (hb hby d2_70) rfl k_) ?_
                show Go _ _ _ _ (Tj.setTop (mkF m 72 #[.val (.ref a), .val (.int F), .val (.int G), .val (.int I), .val (.int ((B i) &&& (255 : Int32))), s5, .val (.int (128 : Int32)), .val (.int (191 : Int32)), s8, s9] [(.int ((B i) &&& (255 : Int32)))]))
                refine Go.via (fun t_ k_ => XS.sipush Hj.here hx rfl (hb hby d2_72) k_) ?_
                show Go _ _ _ _ (Tj.setTop (mkF m 75 #[.val (.ref a), .val (.int F), .val (.int G), .val (.int I), .val (.int ((B i) &&& (255 : Int32))), s5, .val (.int (128 : Int32)), .val (.int (191 : Int32)), s8, s9] [(.int (239 : Int32)), (.int ((B i) &&& (255 : Int32)))]))
                by_cases hc75 : (239 : Int32) < ((B i) &&& (255 : Int32))
                · refine Go.via (fun t_ k_ => XS.icmpYes Hj.here hx rfl (pc0 := 75) (pc' := 122) rfl (hb hby d2_75) rfl ((tlt hc75).2.2.1) (by decide) (by decide) k_) ?_
                  show Go _ _ _ _ (Tj.setTop (mkF m 122 #[.val (.ref a), .val (.int F), .val (.int G), .val (.int I), .val (.int ((B i) &&& (255 : Int32))), s5, .val (.int (128 : Int32)), .val (.int (191 : Int32)), s8, s9] []))
                  refine Go.via (fun t_ k_ => XS.iload Hj.here hx rfl (hb hby d2_122) rfl k_) ?_
                  show Go _ _ _ _ (Tj.setTop (mkF m 124 #[.val (.ref a), .val (.int F), .val (.int G), .val (.int I), .val (.int ((B i) &&& (255 : Int32))), s5, .val (.int (128 : Int32)), .val (.int (191 : Int32)), s8, s9] [(.int ((B i) &&& (255 : Int32)))]))
                  refine Go.via (fun t_ k_ => XS.sipush Hj.here hx rfl (hb hby d2_124) k_) ?_
                  show Go _ _ _ _ (Tj.setTop (mkF m 127 #[.val (.ref a), .val (.int F), .val (.int G), .val (.int I), .val (.int ((B i) &&& (255 : Int32))), s5, .val (.int (128 : Int32)), .val (.int (191 : Int32)), s8, s9] [(.int (240 : Int32)), (.int ((B i) &&& (255 : Int32)))]))
                  by_cases hc127 : ((B i) &&& (255 : Int32)) < (240 : Int32)
                  · refine Go.via (fun t_ k_ => XS.icmpYes Hj.here hx rfl (pc0 := 127) (pc' := 182) rfl (hb hby d2_127) rfl ((tlt hc127).1) (by decide) (by decide) k_) ?_
                    show Go _ _ _ _ (Tj.setTop (mkF m 182 #[.val (.ref a), .val (.int F), .val (.int G), .val (.int I), .val (.int ((B i) &&& (255 : Int32))), s5, .val (.int (128 : Int32)), .val (.int (191 : Int32)), s8, s9] []))
                    refine Go.via (fun t_ k_ => XS.iconst Hj.here hx rfl (hb hby d2_182) k_) ?_
                    show Go _ _ _ _ (Tj.setTop (mkF m 183 #[.val (.ref a), .val (.int F), .val (.int G), .val (.int I), .val (.int ((B i) &&& (255 : Int32))), s5, .val (.int (128 : Int32)), .val (.int (191 : Int32)), s8, s9] [(.int (0 : Int32))]))
                    exact own_retN Hj hx hlk (by simp) hret (hb hby d2_183) ⟨by rw [← hok, own_okN hit (by rw [own_lti e0.1 (m := 128) (by decide)] at hc21; rw [own_lti e0.1 (m := 194) (by decide)] at hc45; rw [own_lti (n := 223) (by decide) e0.1] at hc53; rw [own_lti e0.1 (m := 224) (by decide)] at hc67; rw [own_lti (n := 239) (by decide) e0.1] at hc75; rw [own_lti e0.1 (m := 240) (by decide)] at hc127; have b0 := e0.2; have b1 := e1.2; have b2 := e2.2; have b3 := e3.2; unfold nx; generalize bv B i = n0 at *; generalize bv B (i + 1) = n1 at *; generalize bv B (i + 2) = n2 at *; generalize bv B (i + 3) = n3 at *; unfold nxtI; (repeat' split) <;> omega)]; rfl, rfl⟩ (by decide) (by decide)
                  · refine Go.via (fun t_ k_ => XS.icmpNo Hj.here hx rfl (hb hby d2_127) rfl ((flt hc127).1) k_) ?_
                    show Go _ _ _ _ (Tj.setTop (mkF m 130 #[.val (.ref a), .val (.int F), .val (.int G), .val (.int I), .val (.int ((B i) &&& (255 : Int32))), s5, .val (.int (128 : Int32)), .val (.int (191 : Int32)), s8, s9] []))
                    refine Go.via (fun t_ k_ => XS.iload Hj.here hx rfl (hb hby d2_130) rfl k_) ?_
                    show Go _ _ _ _ (Tj.setTop (mkF m 132 #[.val (.ref a), .val (.int F), .val (.int G), .val (.int I), .val (.int ((B i) &&& (255 : Int32))), s5, .val (.int (128 : Int32)), .val (.int (191 : Int32)), s8, s9] [(.int ((B i) &&& (255 : Int32)))]))
                    refine Go.via (fun t_ k_ => XS.sipush Hj.here hx rfl (hb hby d2_132) k_) ?_
                    show Go _ _ _ _ (Tj.setTop (mkF m 135 #[.val (.ref a), .val (.int F), .val (.int G), .val (.int I), .val (.int ((B i) &&& (255 : Int32))), s5, .val (.int (128 : Int32)), .val (.int (191 : Int32)), s8, s9] [(.int (244 : Int32)), (.int ((B i) &&& (255 : Int32)))]))
                    by_cases hc135 : (244 : Int32) < ((B i) &&& (255 : Int32))
                    · refine Go.via (fun t_ k_ => XS.icmpYes Hj.here hx rfl (pc0 := 135) (pc' := 182) rfl (hb hby d2_135) rfl ((tlt hc135).2.2.1) (by decide) (by decide) k_) ?_
                      show Go _ _ _ _ (Tj.setTop (mkF m 182 #[.val (.ref a), .val (.int F), .val (.int G), .val (.int I), .val (.int ((B i) &&& (255 : Int32))), s5, .val (.int (128 : Int32)), .val (.int (191 : Int32)), s8, s9] []))
                      refine Go.via (fun t_ k_ => XS.iconst Hj.here hx rfl (hb hby d2_182) k_) ?_
                      show Go _ _ _ _ (Tj.setTop (mkF m 183 #[.val (.ref a), .val (.int F), .val (.int G), .val (.int I), .val (.int ((B i) &&& (255 : Int32))), s5, .val (.int (128 : Int32)), .val (.int (191 : Int32)), s8, s9] [(.int (0 : Int32))]))
                      exact own_retN Hj hx hlk (by simp) hret (hb hby d2_183) ⟨by rw [← hok, own_okN hit (by rw [own_lti e0.1 (m := 128) (by decide)] at hc21; rw [own_lti e0.1 (m := 194) (by decide)] at hc45; rw [own_lti (n := 223) (by decide) e0.1] at hc53; rw [own_lti e0.1 (m := 224) (by decide)] at hc67; rw [own_lti (n := 239) (by decide) e0.1] at hc75; rw [own_lti e0.1 (m := 240) (by decide)] at hc127; rw [own_lti (n := 244) (by decide) e0.1] at hc135; have b0 := e0.2; have b1 := e1.2; have b2 := e2.2; have b3 := e3.2; unfold nx; generalize bv B i = n0 at *; generalize bv B (i + 1) = n1 at *; generalize bv B (i + 2) = n2 at *; generalize bv B (i + 3) = n3 at *; unfold nxtI; (repeat' split) <;> omega)]; rfl, rfl⟩ (by decide) (by decide)
                    · refine Go.via (fun t_ k_ => XS.icmpNo Hj.here hx rfl (hb hby d2_135) rfl ((flt hc135).2.2.1) k_) ?_
                      show Go _ _ _ _ (Tj.setTop (mkF m 138 #[.val (.ref a), .val (.int F), .val (.int G), .val (.int I), .val (.int ((B i) &&& (255 : Int32))), s5, .val (.int (128 : Int32)), .val (.int (191 : Int32)), s8, s9] []))
                      refine Go.via (fun t_ k_ => XS.iconst Hj.here hx rfl (hb hby d2_138) k_) ?_
                      show Go _ _ _ _ (Tj.setTop (mkF m 139 #[.val (.ref a), .val (.int F), .val (.int G), .val (.int I), .val (.int ((B i) &&& (255 : Int32))), s5, .val (.int (128 : Int32)), .val (.int (191 : Int32)), s8, s9] [(.int (4 : Int32))]))
                      refine Go.via (fun t_ k_ => XS.istore Hj.here hx rfl (hb hby d2_139) rfl (l' := #[.val (.ref a), .val (.int F), .val (.int G), .val (.int I), .val (.int ((B i) &&& (255 : Int32))), .val (.int (4 : Int32)), .val (.int (128 : Int32)), .val (.int (191 : Int32)), s8, s9]) (Jvm.Free.XS.store1 rfl o5 rfl) k_) ?_
                      show Go _ _ _ _ (Tj.setTop (mkF m 141 #[.val (.ref a), .val (.int F), .val (.int G), .val (.int I), .val (.int ((B i) &&& (255 : Int32))), .val (.int (4 : Int32)), .val (.int (128 : Int32)), .val (.int (191 : Int32)), s8, s9] []))
                      refine Go.via (fun t_ k_ => XS.iload Hj.here hx rfl (hb hby d2_141) rfl k_) ?_
                      show Go _ _ _ _ (Tj.setTop (mkF m 143 #[.val (.ref a), .val (.int F), .val (.int G), .val (.int I), .val (.int ((B i) &&& (255 : Int32))), .val (.int (4 : Int32)), .val (.int (128 : Int32)), .val (.int (191 : Int32)), s8, s9] [(.int ((B i) &&& (255 : Int32)))]))
                      refine Go.via (fun t_ k_ => XS.sipush Hj.here hx rfl (hb hby d2_143) k_) ?_
                      show Go _ _ _ _ (Tj.setTop (mkF m 146 #[.val (.ref a), .val (.int F), .val (.int G), .val (.int I), .val (.int ((B i) &&& (255 : Int32))), .val (.int (4 : Int32)), .val (.int (128 : Int32)), .val (.int (191 : Int32)), s8, s9] [(.int (240 : Int32)), (.int ((B i) &&& (255 : Int32)))]))
                      by_cases hc146 : ((B i) &&& (255 : Int32)) = (240 : Int32)
                      · refine Go.via (fun t_ k_ => XS.icmpNo Hj.here hx rfl (hb hby d2_146) rfl ((teq hc146).2) k_) ?_
                        show Go _ _ _ _ (Tj.setTop (mkF m 149 #[.val (.ref a), .val (.int F), .val (.int G), .val (.int I), .val (.int ((B i) &&& (255 : Int32))), .val (.int (4 : Int32)), .val (.int (128 : Int32)), .val (.int (191 : Int32)), s8, s9] []))
                        refine Go.via (fun t_ k_ => XS.sipush Hj.here hx rfl (hb hby d2_149) k_) ?_
                        show Go _ _ _ _ (Tj.setTop (mkF m 152 #[.val (.ref a), .val (.int F), .val (.int G), .val (.int I), .val (.int ((B i) &&& (255 : Int32))), .val (.int (4 : Int32)), .val (.int (128 : Int32)), .val (.int (191 : Int32)), s8, s9] [(.int (144 : Int32))]))
                        refine Go.via (fun t_ k_ => XS.goto Hj.here hx rfl (pc0 := 152) (pc' := 158) rfl (hb hby d2_152) (by decide) (by decide) k_) ?_
                        show Go _ _ _ _ (Tj.setTop (mkF m 158 #[.val (.ref a), .val (.int F), .val (.int G), .val (.int I), .val (.int ((B i) &&& (255 : Int32))), .val (.int (4 : Int32)), .val (.int (128 : Int32)), .val (.int (191 : Int32)), s8, s9] [(.int (144 : Int32))]))
                        refine Go.via (fun t_ k_ => XS.istore Hj.here hx rfl (hb hby d2_158) rfl (l' := #[.val (.ref a), .val (.int F), .val (.int G), .val (.int I), .val (.int ((B i) &&& (255 : Int32))), .val (.int (4 : Int32)), .val (.int (144 : Int32)), .val (.int (191 : Int32)), s8, s9]) rfl k_) ?_
                        show Go _ _ _ _ (Tj.setTop (mkF m 160 #[.val (.ref a), .val (.int F), .val (.int G), .val (.int I), .val (.int ((B i) &&& (255 : Int32))), .val (.int (4 : Int32)), .val (.int (144 : Int32)), .val (.int (191 : Int32)), s8, s9] []))
                        refine Go.via (fun t_ k_ => XS.iload Hj.here hx rfl (hb hby d2_160) rfl k_) ?_
                        show Go _ _ _ _ (Tj.setTop (mkF m 162 #[.val (.ref a), .val (.int F), .val (.int G), .val (.int I), .val (.int ((B i) &&& (255 : Int32))), .val (.int (4 : Int32)), .val (.int (144 : Int32)), .val (.int (191 : Int32)), s8, s9] [(.int ((B i) &&& (255 : Int32)))]))
                        refine Go.via (fun t_ k_ => XS.sipush Hj.here hx rfl (hb hby d2_162) k_) ?_
                        show Go _ _ _ _ (Tj.setTop (mkF m 165 #[.val (.ref a), .val (.int F), .val (.int G), .val (.int I), .val (.int ((B i) &&& (255 : Int32))), .val (.int (4 : Int32)), .val (.int (144 : Int32)), .val (.int (191 : Int32)), s8, s9] [(.int (244 : Int32)), (.int ((B i) &&& (255 : Int32)))]))
                        by_cases hc165 : ((B i) &&& (255 : Int32)) = (244 : Int32)
                        · refine Go.via (fun t_ k_ => XS.icmpNo Hj.here hx rfl (hb hby d2_165) rfl ((teq hc165).2) k_) ?_
                          show Go _ _ _ _ (Tj.setTop (mkF m 168 #[.val (.ref a), .val (.int F), .val (.int G), .val (.int I), .val (.int ((B i) &&& (255 : Int32))), .val (.int (4 : Int32)), .val (.int (144 : Int32)), .val (.int (191 : Int32)), s8, s9] []))
                          refine Go.via (fun t_ k_ => XS.sipush Hj.here hx rfl (hb hby d2_168) k_) ?_
                          show Go _ _ _ _ (Tj.setTop (mkF m 171 #[.val (.ref a), .val (.int F), .val (.int G), .val (.int I), .val (.int ((B i) &&& (255 : Int32))), .val (.int (4 : Int32)), .val (.int (144 : Int32)), .val (.int (191 : Int32)), s8, s9] [(.int (143 : Int32))]))
                          refine Go.via (fun t_ k_ => XS.goto Hj.here hx rfl (pc0 := 171) (pc' := 177) rfl (hb hby d2_171) (by decide) (by decide) k_) ?_
                          show Go _ _ _ _ (Tj.setTop (mkF m 177 #[.val (.ref a), .val (.int F), .val (.int G), .val (.int I), .val (.int ((B i) &&& (255 : Int32))), .val (.int (4 : Int32)), .val (.int (144 : Int32)), .val (.int (191 : Int32)), s8, s9] [(.int (143 : Int32))]))
                          refine Go.via (fun t_ k_ => XS.istore Hj.here hx rfl (hb hby d2_177) rfl (l' := #[.val (.ref a), .val (.int F), .val (.int G), .val (.int I), .val (.int ((B i) &&& (255 : Int32))), .val (.int (4 : Int32)), .val (.int (144 : Int32)), .val (.int (143 : Int32)), s8, s9]) rfl k_) ?_
                          show Go _ _ _ _ (Tj.setTop (mkF m 179 #[.val (.ref a), .val (.int F), .val (.int G), .val (.int I), .val (.int ((B i) &&& (255 : Int32))), .val (.int (4 : Int32)), .val (.int (144 : Int32)), .val (.int (143 : Int32)), s8, s9] []))
                          refine Go.via (fun t_ k_ => XS.goto Hj.here hx rfl (pc0 := 179) (pc' := 184) rfl (hb hby d2_179) (by decide) (by decide) k_) ?_
                          show Go _ _ _ _ (Tj.setTop (mkF m 184 #[.val (.ref a), .val (.int F), .val (.int G), .val (.int I), .val (.int ((B i) &&& (255 : Int32))), .val (.int (4 : Int32)), .val (.int (144 : Int32)), .val (.int (143 : Int32)), s8, s9] []))
                          exact J184_4 Tj (144 : Int32) (143 : Int32) 144 143 Hj (by decide) (by decide) (by rw [own_lti e0.1 (m := 128) (by decide)] at hc21; rw [own_lti e0.1 (m := 194) (by decide)] at hc45; rw [own_lti (n := 223) (by decide) e0.1] at hc53; rw [own_lti e0.1 (m := 224) (by decide)] at hc67; rw [own_lti (n := 239) (by decide) e0.1] at hc75; rw [own_lti e0.1 (m := 240) (by decide)] at hc127; rw [own_lti (n := 244) (by decide) e0.1] at hc135; rw [own_eqi e0.1 (m := 240) (by decide)] at hc146; rw [own_eqi e0.1 (m := 244) (by decide)] at hc165; have b0 := e0.2; have b1 := e1.2; have b2 := e2.2; have b3 := e3.2; unfold nx; generalize bv B i = n0 at *; generalize bv B (i + 1) = n1 at *; generalize bv B (i + 2) = n2 at *; generalize bv B (i + 3) = n3 at *; unfold nxtI; (repeat' split) <;> omega)
                        · refine Go.via (fun t_ k_ => XS.icmpYes Hj.here hx rfl (pc0 := 165) (pc' := 174) rfl (hb hby d2_165) rfl ((feq hc165).2) (by decide) (by decide) k_) ?_
                          show Go _ _ _ _ (Tj.setTop (mkF m 174 #[.val (.ref a), .val (.int F), .val (.int G), .val (.int I), .val (.int ((B i) &&& (255 : Int32))), .val (.int (4 : Int32)), .val (.int (144 : Int32)), .val (.int (191 : Int32)), s8, s9] []))
                          refine Go.via (fun t_ k_ => XS.sipush Hj.here hx rfl (hb hby d2_174) k_) ?_
                          show Go _ _ _ _ (Tj.setTop (mkF m 177 #[.val (.ref a), .val (.int F), .val (.int G), .val (.int I), .val (.int ((B i) &&& (255 : Int32))), .val (.int (4 : Int32)), .val (.int (144 : Int32)), .val (.int (191 : Int32)), s8, s9] [(.int (191 : Int32))]))
                          refine Go.via (fun t_ k_ => XS.istore Hj.here hx rfl (hb hby d2_177) rfl (l' := #[.val (.ref a), .val (.int F), .val (.int G), .val (.int I), .val (.int ((B i) &&& (255 : Int32))), .val (.int (4 : Int32)), .val (.int (144 : Int32)), .val (.int (191 : Int32)), s8, s9]) rfl k_) ?_
                          show Go _ _ _ _ (Tj.setTop (mkF m 179 #[.val (.ref a), .val (.int F), .val (.int G), .val (.int I), .val (.int ((B i) &&& (255 : Int32))), .val (.int (4 : Int32)), .val (.int (144 : Int32)), .val (.int (191 : Int32)), s8, s9] []))
                          refine Go.via (fun t_ k_ => XS.goto Hj.here hx rfl (pc0 := 179) (pc' := 184) rfl (hb hby d2_179) (by decide) (by decide) k_) ?_
                          show Go _ _ _ _ (Tj.setTop (mkF m 184 #[.val (.ref a), .val (.int F), .val (.int G), .val (.int I), .val (.int ((B i) &&& (255 : Int32))), .val (.int (4 : Int32)), .val (.int (144 : Int32)), .val (.int (191 : Int32)), s8, s9] []))
                          exact J184_4 Tj (144 : Int32) (191 : Int32) 144 191 Hj (by decide) (by decide) (by rw [own_lti e0.1 (m := 128) (by decide)] at hc21; rw [own_lti e0.1 (m := 194) (by decide)] at hc45; rw [own_lti (n := 223) (by decide) e0.1] at hc53; rw [own_lti e0.1 (m := 224) (by decide)] at hc67; rw [own_lti (n := 239) (by decide) e0.1] at hc75; rw [own_lti e0.1 (m := 240) (by decide)] at hc127; rw [own_lti (n := 244) (by decide) e0.1] at hc135; rw [own_eqi e0.1 (m := 240) (by decide)] at hc146; rw [own_eqi e0.1 (m := 244) (by decide)] at hc165; have b0 := e0.2; have b1 := e1.2; have b2 := e2.2; have b3 := e3.2; unfold nx; generalize bv B i = n0 at *; generalize bv B (i + 1) = n1 at *; generalize bv B (i + 2) = n2 at *; generalize bv B (i + 3) = n3 at *; unfold nxtI; (repeat' split) <;> omega)
                      · refine Go.via (fun t_ k_ => XS.icmpYes Hj.here hx rfl (pc0 := 146) (pc' := 155) rfl (hb hby d2_146) rfl ((feq hc146).2) (by decide) (by decide) k_) ?_
                        show Go _ _ _ _ (Tj.setTop (mkF m 155 #[.val (.ref a), .val (.int F), .val (.int G), .val (.int I), .val (.int ((B i) &&& (255 : Int32))), .val (.int (4 : Int32)), .val (.int (128 : Int32)), .val (.int (191 : Int32)), s8, s9] []))
                        refine Go.via (fun t_ k_ => XS.sipush Hj.here hx rfl (hb hby d2_155) k_) ?_
                        show Go _ _ _ _ (Tj.setTop (mkF m 158 #[.val (.ref a), .val (.int F), .val (.int G), .val (.int I), .val (.int ((B i) &&& (255 : Int32))), .val (.int (4 : Int32)), .val (.int (128 : Int32)), .val (.int (191 : Int32)), s8, s9] [(.int (128 : Int32))]))
                        refine Go.via (fun t_ k_ => XS.istore Hj.here hx rfl (hb hby d2_158) rfl (l' := #[.val (.ref a), .val (.int F), .val (.int G), .val (.int I), .val (.int ((B i) &&& (255 : Int32))), .val (.int (4 : Int32)), .val (.int (128 : Int32)), .val (.int (191 : Int32)), s8, s9]) rfl k_) ?_
                        show Go _ _ _ _ (Tj.setTop (mkF m 160 #[.val (.ref a), .val (.int F), .val (.int G), .val (.int I), .val (.int ((B i) &&& (255 : Int32))), .val (.int (4 : Int32)), .val (.int (128 : Int32)), .val (.int (191 : Int32)), s8, s9] []))
                        refine Go.via (fun t_ k_ => XS.iload Hj.here hx rfl (hb hby d2_160) rfl k_) ?_
                        show Go _ _ _ _ (Tj.setTop (mkF m 162 #[.val (.ref a), .val (.int F), .val (.int G), .val (.int I), .val (.int ((B i) &&& (255 : Int32))), .val (.int (4 : Int32)), .val (.int (128 : Int32)), .val (.int (191 : Int32)), s8, s9] [(.int ((B i) &&& (255 : Int32)))]))
                        refine Go.via (fun t_ k_ => XS.sipush Hj.here hx rfl (hb hby d2_162) k_) ?_
                        show Go _ _ _ _ (Tj.setTop (mkF m 165 #[.val (.ref a), .val (.int F), .val (.int G), .val (.int I), .val (.int ((B i) &&& (255 : Int32))), .val (.int (4 : Int32)), .val (.int (128 : Int32)), .val (.int (191 : Int32)), s8, s9] [(.int (244 : Int32)), (.int ((B i) &&& (255 : Int32)))]))
                        by_cases hc165 : ((B i) &&& (255 : Int32)) = (244 : Int32)
                        · refine Go.via (fun t_ k_ => XS.icmpNo Hj.here hx rfl (hb hby d2_165) rfl ((teq hc165).2) k_) ?_
                          show Go _ _ _ _ (Tj.setTop (mkF m 168 #[.val (.ref a), .val (.int F), .val (.int G), .val (.int I), .val (.int ((B i) &&& (255 : Int32))), .val (.int (4 : Int32)), .val (.int (128 : Int32)), .val (.int (191 : Int32)), s8, s9] []))
                          refine Go.via (fun t_ k_ => XS.sipush Hj.here hx rfl (hb hby d2_168) k_) ?_
                          show Go _ _ _ _ (Tj.setTop (mkF m 171 #[.val (.ref a), .val (.int F), .val (.int G), .val (.int I), .val (.int ((B i) &&& (255 : Int32))), .val (.int (4 : Int32)), .val (.int (128 : Int32)), .val (.int (191 : Int32)), s8, s9] [(.int (143 : Int32))]))
                          refine Go.via (fun t_ k_ => XS.goto Hj.here hx rfl (pc0 := 171) (pc' := 177) rfl (hb hby d2_171) (by decide) (by decide) k_) ?_
                          show Go _ _ _ _ (Tj.setTop (mkF m 177 #[.val (.ref a), .val (.int F), .val (.int G), .val (.int I), .val (.int ((B i) &&& (255 : Int32))), .val (.int (4 : Int32)), .val (.int (128 : Int32)), .val (.int (191 : Int32)), s8, s9] [(.int (143 : Int32))]))
                          refine Go.via (fun t_ k_ => XS.istore Hj.here hx rfl (hb hby d2_177) rfl (l' := #[.val (.ref a), .val (.int F), .val (.int G), .val (.int I), .val (.int ((B i) &&& (255 : Int32))), .val (.int (4 : Int32)), .val (.int (128 : Int32)), .val (.int (143 : Int32)), s8, s9]) rfl k_) ?_
                          show Go _ _ _ _ (Tj.setTop (mkF m 179 #[.val (.ref a), .val (.int F), .val (.int G), .val (.int I), .val (.int ((B i) &&& (255 : Int32))), .val (.int (4 : Int32)), .val (.int (128 : Int32)), .val (.int (143 : Int32)), s8, s9] []))
                          refine Go.via (fun t_ k_ => XS.goto Hj.here hx rfl (pc0 := 179) (pc' := 184) rfl (hb hby d2_179) (by decide) (by decide) k_) ?_
                          show Go _ _ _ _ (Tj.setTop (mkF m 184 #[.val (.ref a), .val (.int F), .val (.int G), .val (.int I), .val (.int ((B i) &&& (255 : Int32))), .val (.int (4 : Int32)), .val (.int (128 : Int32)), .val (.int (143 : Int32)), s8, s9] []))
                          exact J184_4 Tj (128 : Int32) (143 : Int32) 128 143 Hj (by decide) (by decide) (by rw [own_lti e0.1 (m := 128) (by decide)] at hc21; rw [own_lti e0.1 (m := 194) (by decide)] at hc45; rw [own_lti (n := 223) (by decide) e0.1] at hc53; rw [own_lti e0.1 (m := 224) (by decide)] at hc67; rw [own_lti (n := 239) (by decide) e0.1] at hc75; rw [own_lti e0.1 (m := 240) (by decide)] at hc127; rw [own_lti (n := 244) (by decide) e0.1] at hc135; rw [own_eqi e0.1 (m := 240) (by decide)] at hc146; rw [own_eqi e0.1 (m := 244) (by decide)] at hc165; have b0 := e0.2; have b1 := e1.2; have b2 := e2.2; have b3 := e3.2; unfold nx; generalize bv B i = n0 at *; generalize bv B (i + 1) = n1 at *; generalize bv B (i + 2) = n2 at *; generalize bv B (i + 3) = n3 at *; unfold nxtI; (repeat' split) <;> omega)
                        · refine Go.via (fun t_ k_ => XS.icmpYes Hj.here hx rfl (pc0 := 165) (pc' := 174) rfl (hb hby d2_165) rfl ((feq hc165).2) (by decide) (by decide) k_) ?_
                          show Go _ _ _ _ (Tj.setTop (mkF m 174 #[.val (.ref a), .val (.int F), .val (.int G), .val (.int I), .val (.int ((B i) &&& (255 : Int32))), .val (.int (4 : Int32)), .val (.int (128 : Int32)), .val (.int (191 : Int32)), s8, s9] []))
                          refine Go.via (fun t_ k_ => XS.sipush Hj.here hx rfl (hb hby d2_174) k_) ?_
                          show Go _ _ _ _ (Tj.setTop (mkF m 177 #[.val (.ref a), .val (.int F), .val (.int G), .val (.int I), .val (.int ((B i) &&& (255 : Int32))), .val (.int (4 : Int32)), .val (.int (128 : Int32)), .val (.int (191 : Int32)), s8, s9] [(.int (191 : Int32))]))
                          refine Go.via (fun t_ k_ => XS.istore Hj.here hx rfl (hb hby d2_177) rfl (l' := #[.val (.ref a), .val (.int F), .val (.int G), .val (.int I), .val (.int ((B i) &&& (255 : Int32))), .val (.int (4 : Int32)), .val (.int (128 : Int32)), .val (.int (191 : Int32)), s8, s9]) rfl k_) ?_
                          show Go _ _ _ _ (Tj.setTop (mkF m 179 #[.val (.ref a), .val (.int F), .val (.int G), .val (.int I), .val (.int ((B i) &&& (255 : Int32))), .val (.int (4 : Int32)), .val (.int (128 : Int32)), .val (.int (191 : Int32)), s8, s9] []))
                          refine Go.via (fun t_ k_ => XS.goto Hj.here hx rfl (pc0 := 179) (pc' := 184) rfl (hb hby d2_179) (by decide) (by decide) k_) ?_
                          show Go _ _ _ _ (Tj.setTop (mkF m 184 #[.val (.ref a), .val (.int F), .val (.int G), .val (.int I), .val (.int ((B i) &&& (255 : Int32))), .val (.int (4 : Int32)), .val (.int (128 : Int32)), .val (.int (191 : Int32)), s8, s9] []))
                          exact J184_4 Tj (128 : Int32) (191 : Int32) 128 191 Hj (by decide) (by decide) (by rw [own_lti e0.1 (m := 128) (by decide)] at hc21; rw [own_lti e0.1 (m := 194) (by decide)] at hc45; rw [own_lti (n := 223) (by decide) e0.1] at hc53; rw [own_lti e0.1 (m := 224) (by decide)] at hc67; rw [own_lti (n := 239) (by decide) e0.1] at hc75; rw [own_lti e0.1 (m := 240) (by decide)] at hc127; rw [own_lti (n := 244) (by decide) e0.1] at hc135; rw [own_eqi e0.1 (m := 240) (by decide)] at hc146; rw [own_eqi e0.1 (m := 244) (by decide)] at hc165; have b0 := e0.2; have b1 := e1.2; have b2 := e2.2; have b3 := e3.2; unfold nx; generalize bv B i = n0 at *; generalize bv B (i + 1) = n1 at *; generalize bv B (i + 2) = n2 at *; generalize bv B (i + 3) = n3 at *; unfold nxtI; (repeat' split) <;> omega)
                · refine Go.via (fun t_ k_ => XS.icmpNo Hj.here hx rfl (hb hby d2_75) rfl ((flt hc75).2.2.1) k_) ?_
                  show Go _ _ _ _ (Tj.setTop (mkF m 78 #[.val (.ref a), .val (.int F), .val (.int G), .val (.int I), .val (.int ((B i) &&& (255 : Int32))), s5, .val (.int (128 : Int32)), .val (.int (191 : Int32)), s8, s9] []))
                  refine Go.via (fun t_ k_ => XS.iconst Hj.here hx rfl (hb hby d2_78) k_) ?_
                  show Go _ _ _ _ (Tj.setTop (mkF m 79 #[.val (.ref a), .val (.int F), .val (.int G), .val (.int I), .val (.int ((B i) &&& (255 : Int32))), s5, .val (.int (128 : Int32)), .val (.int (191 : Int32)), s8, s9] [(.int (3 : Int32))]))
                  refine Go.via (fun t_ k_ => XS.istore Hj.here hx rfl (hb hby d2_79) rfl (l' := #[.val (.ref a), .val (.int F), .val (.int G), .val (.int I), .val (.int ((B i) &&& (255 : Int32))), .val (.int (3 : Int32)), .val (.int (128 : Int32)), .val (.int (191 : Int32)), s8, s9]) (Jvm.Free.XS.store1 rfl o5 rfl) k_) ?_
                  show Go _ _ _ _ (Tj.setTop (mkF m 81 #[.val (.ref a), .val (.int F), .val (.int G), .val (.int I), .val (.int ((B i) &&& (255 : Int32))), .val (.int (3 : Int32)), .val (.int (128 : Int32)), .val (.int (191 : Int32)), s8, s9] []))
                  refine Go.via (fun t_ k_ => XS.iload Hj.here hx rfl (hb hby d2_81) rfl k_) ?_
                  show Go _ _ _ _ (Tj.setTop (mkF m 83 #[.val (.ref a), .val (.int F), .val (.int G), .val (.int I), .val (.int ((B i) &&& (255 : Int32))), .val (.int (3 : Int32)), .val (.int (128 : Int32)), .val (.int (191 : Int32)), s8, s9] [(.int ((B i) &&& (255 : Int32)))]))
                  refine Go.via (fun t_ k_ => XS.sipush Hj.here hx rfl (hb hby d2_83) k_) ?_
                  show Go _ _ _ _ (Tj.setTop (mkF m 86 #[.val (.ref a), .val (.int F), .val (.int G), .val (.int I), .val (.int ((B i) &&& (255 : Int32))), .val (.int (3 : Int32)), .val (.int (128 : Int32)), .val (.int (191 : Int32)), s8, s9] [(.int (224 : Int32)), (.int ((B i) &&& (255 : Int32)))]))
                  by_cases hc86 : ((B i) &&& (255 : Int32)) = (224 : Int32)
                  · refine Go.via (fun t_ k_ => XS.icmpNo Hj.here hx rfl (hb hby d2_86) rfl ((teq hc86).2) k_) ?_
                    show Go _ _ _ _ (Tj.setTop (mkF m 89 #[.val (.ref a), .val (.int F), .val (.int G), .val (.int I), .val (.int ((B i) &&& (255 : Int32))), .val (.int (3 : Int32)), .val (.int (128 : Int32)), .val (.int (191 : Int32)), s8, s9] []))
                    refine Go.via (fun t_ k_ => XS.sipush Hj.here hx rfl (hb hby d2_89) k_) ?_
                    show Go _ _ _ _ (Tj.setTop (mkF m 92 #[.val (.ref a), .val (.int F), .val (.int G), .val (.int I), .val (.int ((B i) &&& (255 : Int32))), .val (.int (3 : Int32)), .val (.int (128 : Int32)), .val (.int (191 : Int32)), s8, s9] [(.int (160 : Int32))]))
                    refine Go.via (fun t_ k_ => XS.goto Hj.here hx rfl (pc0 := 92) (pc' := 98) rfl (hb hby d2_92) (by decide) (by decide) k_) ?_
                    show Go _ _ _ _ (Tj.setTop (mkF m 98 #[.val (.ref a), .val (.int F), .val (.int G), .val (.int I), .val (.int ((B i) &&& (255 : Int32))), .val (.int (3 : Int32)), .val (.int (128 : Int32)), .val (.int (191 : Int32)), s8, s9] [(.int (160 : Int32))]))
                    refine Go.via (fun t_ k_ => XS.istore Hj.here hx rfl (hb hby d2_98) rfl (l' := #[.val (.ref a), .val (.int F), .val (.int G), .val (.int I), .val (.int ((B i) &&& (255 : Int32))), .val (.int (3 : Int32)), .val (.int (160 : Int32)), .val (.int (191 : Int32)), s8, s9]) rfl k_) ?_
                    show Go _ _ _ _ (Tj.setTop (mkF m 100 #[.val (.ref a), .val (.int F), .val (.int G), .val (.int I), .val (.int ((B i) &&& (255 : Int32))), .val (.int (3 : Int32)), .val (.int (160 : Int32)), .val (.int (191 : Int32)), s8, s9] []))
                    refine Go.via (fun t_ k_ => XS.iload Hj.here hx rfl (hb hby d2_100) rfl k_) ?_
                    show Go _ _ _ _ (Tj.setTop (mkF m 102 #[.val (.ref a), .val (.int F), .val (.int G), .val (.int I), .val (.int ((B i) &&& (255 : Int32))), .val (.int (3 : Int32)), .val (.int (160 : Int32)), .val (.int (191 : Int32)), s8, s9] [(.int ((B i) &&& (255 : Int32)))]))
                    refine Go.via (fun t_ k_ => XS.sipush Hj.here hx rfl (hb hby d2_102) k_) ?_
                    show Go _ _ _ _ (Tj.setTop (mkF m 105 #[.val (.ref a), .val (.int F), .val (.int G), .val (.int I), .val (.int ((B i) &&& (255 : Int32))), .val (.int (3 : Int32)), .val (.int (160 : Int32)), .val (.int (191 : Int32)), s8, s9] [(.int (237 : Int32)), (.int ((B i) &&& (255 : Int32)))]))
                    by_cases hc105 : ((B i) &&& (255 : Int32)) = (237 : Int32)
                    · refine Go.via (fun t_ k_ => XS.icmpNo Hj.here hx rfl (hb hby d2_105) rfl ((teq hc105).2) k_) ?_
                      show Go _ _ _ _ (Tj.setTop (mkF m 108 #[.val (.ref a), .val (.int F), .val (.int G), .val (.int I), .val (.int ((B i) &&& (255 : Int32))), .val (.int (3 : Int32)), .val (.int (160 : Int32)), .val (.int (191 : Int32)), s8, s9] []))
                      refine Go.via (fun t_ k_ => XS.sipush Hj.here hx rfl (hb hby d2_108) k_) ?_
                      show Go _ _ _ _ (Tj.setTop (mkF m 111 #[.val (.ref a), .val (.int F), .val (.int G), .val (.int I), .val (.int ((B i) &&& (255 : Int32))), .val (.int (3 : Int32)), .val (.int (160 : Int32)), .val (.int (191 : Int32)), s8, s9] [(.int (159 : Int32))]))
                      refine Go.via (fun t_ k_ => XS.goto Hj.here hx rfl (pc0 := 111) (pc' := 117) rfl (hb hby d2_111) (by decide) (by decide) k_) ?_
                      show Go _ _ _ _ (Tj.setTop (mkF m 117 #[.val (.ref a), .val (.int F), .val (.int G), .val (.int I), .val (.int ((B i) &&& (255 : Int32))), .val (.int (3 : Int32)), .val (.int (160 : Int32)), .val (.int (191 : Int32)), s8, s9] [(.int (159 : Int32))]))
                      refine Go.via (fun t_ k_ => XS.istore Hj.here hx rfl (hb hby d2_117) rfl (l' := #[.val (.ref a), .val (.int F), .val (.int G), .val (.int I), .val (.int ((B i) &&& (255 : Int32))), .val (.int (3 : Int32)), .val (.int (160 : Int32)), .val (.int (159 : Int32)), s8, s9]) rfl k_) ?_
                      show Go _ _ _ _ (Tj.setTop (mkF m 119 #[.val (.ref a), .val (.int F), .val (.int G), .val (.int I), .val (.int ((B i) &&& (255 : Int32))), .val (.int (3 : Int32)), .val (.int (160 : Int32)), .val (.int (159 : Int32)), s8, s9] []))
                      refine Go.via (fun t_ k_ => XS.goto Hj.here hx rfl (pc0 := 119) (pc' := 184) rfl (hb hby d2_119) (by decide) (by decide) k_) ?_
                      show Go _ _ _ _ (Tj.setTop (mkF m 184 #[.val (.ref a), .val (.int F), .val (.int G), .val (.int I), .val (.int ((B i) &&& (255 : Int32))), .val (.int (3 : Int32)), .val (.int (160 : Int32)), .val (.int (159 : Int32)), s8, s9] []))
                      exact J184_3 Tj (160 : Int32) (159 : Int32) 160 159 Hj (by decide) (by decide) (by rw [own_lti e0.1 (m := 128) (by decide)] at hc21; rw [own_lti e0.1 (m := 194) (by decide)] at hc45; rw [own_lti (n := 223) (by decide) e0.1] at hc53; rw [own_lti e0.1 (m := 224) (by decide)] at hc67; rw [own_lti (n := 239) (by decide) e0.1] at hc75; rw [own_eqi e0.1 (m := 224) (by decide)] at hc86; rw [own_eqi e0.1 (m := 237) (by decide)] at hc105; have b0 := e0.2; have b1 := e1.2; have b2 := e2.2; have b3 := e3.2; unfold nx; generalize bv B i = n0 at *; generalize bv B (i + 1) = n1 at *; generalize bv B (i + 2) = n2 at *; generalize bv B (i + 3) = n3 at *; unfold nxtI; (repeat' split) <;> omega)
                    · refine Go.via (fun t_ k_ => XS.icmpYes Hj.here hx rfl (pc0 := 105) (pc' := 114) rfl (hb hby d2_105) rfl ((feq hc105).2) (by decide) (by decide) k_) ?_
                      show Go _ _ _ _ (Tj.setTop (mkF m 114 #[.val (.ref a), .val (.int F), .val (.int G), .val (.int I), .val (.int ((B i) &&& (255 : Int32))), .val (.int (3 : Int32)), .val (.int (160 : Int32)), .val (.int (191 : Int32)), s8, s9] []))
                      refine Go.via (fun t_ k_ => XS.sipush Hj.here hx rfl (hb hby d2_114) k_) ?_
                      show Go _ _ _ _ (Tj.setTop (mkF m 117 #[.val (.ref a), .val (.int F), .val (.int G), .val (.int I), .val (.int ((B i) &&& (255 : Int32))), .val (.int (3 : Int32)), .val (.int (160 : Int32)), .val (.int (191 : Int32)), s8, s9] [(.int (191 : Int32))]))
                      refine Go.via (fun t_ k_ => XS.istore Hj.here hx rfl (hb hby d2_117) rfl (l' := #[.val (.ref a), .val (.int F), .val (.int G), .val (.int I), .val (.int ((B i) &&& (255 : Int32))), .val (.int (3 : Int32)), .val (.int (160 : Int32)), .val (.int (191 : Int32)), s8, s9]) rfl k_) ?_
                      show Go _ _ _ _ (Tj.setTop (mkF m 119 #[.val (.ref a), .val (.int F), .val (.int G), .val (.int I), .val (.int ((B i) &&& (255 : Int32))), .val (.int (3 : Int32)), .val (.int (160 : Int32)), .val (.int (191 : Int32)), s8, s9] []))
                      refine Go.via (fun t_ k_ => XS.goto Hj.here hx rfl (pc0 := 119) (pc' := 184) rfl (hb hby d2_119) (by decide) (by decide) k_) ?_
                      show Go _ _ _ _ (Tj.setTop (mkF m 184 #[.val (.ref a), .val (.int F), .val (.int G), .val (.int I), .val (.int ((B i) &&& (255 : Int32))), .val (.int (3 : Int32)), .val (.int (160 : Int32)), .val (.int (191 : Int32)), s8, s9] []))
                      exact J184_3 Tj (160 : Int32) (191 : Int32) 160 191 Hj (by decide) (by decide) (by rw [own_lti e0.1 (m := 128) (by decide)] at hc21; rw [own_lti e0.1 (m := 194) (by decide)] at hc45; rw [own_lti (n := 223) (by decide) e0.1] at hc53; rw [own_lti e0.1 (m := 224) (by decide)] at hc67; rw [own_lti (n := 239) (by decide) e0.1] at hc75; rw [own_eqi e0.1 (m := 224) (by decide)] at hc86; rw [own_eqi e0.1 (m := 237) (by decide)] at hc105; have b0 := e0.2; have b1 := e1.2; have b2 := e2.2; have b3 := e3.2; unfold nx; generalize bv B i = n0 at *; generalize bv B (i + 1) = n1 at *; generalize bv B (i + 2) = n2 at *; generalize bv B (i + 3) = n3 at *; unfold nxtI; (repeat' split) <;> omega)
                  · refine Go.via (fun t_ k_ => XS.icmpYes Hj.here hx rfl (pc0 := 86) (pc' := 95) rfl (hb hby d2_86) rfl ((feq hc86).2) (by decide) (by decide) k_) ?_
                    show Go _ _ _ _ (Tj.setTop (mkF m 95 #[.val (.ref a), .val (.int F), .val (.int G), .val (.int I), .val (.int ((B i) &&& (255 : Int32))), .val (.int (3 : Int32)), .val (.int (128 : Int32)), .val (.int (191 : Int32)), s8, s9] []))
                    refine Go.via (fun t_ k_ => XS.sipush Hj.here hx rfl (hb hby d2_95) k_) ?_
                    show Go _ _ _ _ (Tj.setTop (mkF m 98 #[.val (.ref a), .val (.int F), .val (.int G), .val (.int I), .val (.int ((B i) &&& (255 : Int32))), .val (.int (3 : Int32)), .val (.int (128 : Int32)), .val (.int (191 : Int32)), s8, s9] [(.int (128 : Int32))]))
                    refine Go.via (fun t_ k_ => XS.istore Hj.here hx rfl (hb hby d2_98) rfl (l' := #[.val (.ref a), .val (.int F), .val (.int G), .val (.int I), .val (.int ((B i) &&& (255 : Int32))), .val (.int (3 : Int32)), .val (.int (128 : Int32)), .val (.int (191 : Int32)), s8, s9]) rfl k_) ?_
                    show Go _ _ _ _ (Tj.setTop (mkF m 100 #[.val (.ref a), .val (.int F), .val (.int G), .val (.int I), .val (.int ((B i) &&& (255 : Int32))), .val (.int (3 : Int32)), .val (.int (128 : Int32)), .val (.int (191 : Int32)), s8, s9] []))
                    refine Go.via (fun t_ k_ => XS.iload Hj.here hx rfl (hb hby d2_100) rfl k_) ?_
                    show Go _ _ _ _ (Tj.setTop (mkF m 102 #[.val (.ref a), .val (.int F), .val (.int G), .val (.int I), .val (.int ((B i) &&& (255 : Int32))), .val (.int (3 : Int32)), .val (.int (128 : Int32)), .val (.int (191 : Int32)), s8, s9] [(.int ((B i) &&& (255 : Int32)))]))
                    refine Go.via (fun t_ k_ => XS.sipush Hj.here hx rfl (hb hby d2_102) k_) ?_
                    show Go _ _ _ _ (Tj.setTop (mkF m 105 #[.val (.ref a), .val (.int F), .val (.int G), .val (.int I), .val (.int ((B i) &&& (255 : Int32))), .val (.int (3 : Int32)), .val (.int (128 : Int32)), .val (.int (191 : Int32)), s8, s9] [(.int (237 : Int32)), (.int ((B i) &&& (255 : Int32)))]))
                    by_cases hc105 : ((B i) &&& (255 : Int32)) = (237 : Int32)
                    · refine Go.via (fun t_ k_ => XS.icmpNo Hj.here hx rfl (hb hby d2_105) rfl ((teq hc105).2) k_) ?_
                      show Go _ _ _ _ (Tj.setTop (mkF m 108 #[.val (.ref a), .val (.int F), .val (.int G), .val (.int I), .val (.int ((B i) &&& (255 : Int32))), .val (.int (3 : Int32)), .val (.int (128 : Int32)), .val (.int (191 : Int32)), s8, s9] []))
                      refine Go.via (fun t_ k_ => XS.sipush Hj.here hx rfl (hb hby d2_108) k_) ?_
                      show Go _ _ _ _ (Tj.setTop (mkF m 111 #[.val (.ref a), .val (.int F), .val (.int G), .val (.int I), .val (.int ((B i) &&& (255 : Int32))), .val (.int (3 : Int32)), .val (.int (128 : Int32)), .val (.int (191 : Int32)), s8, s9] [(.int (159 : Int32))]))
                      refine Go.via (fun t_ k_ => XS.goto Hj.here hx rfl (pc0 := 111) (pc' := 117) rfl (hb hby d2_111) (by decide) (by decide) k_) ?_
                      show Go _ _ _ _ (Tj.setTop (mkF m 117 #[.val (.ref a), .val (.int F), .val (.int G), .val (.int I), .val (.int ((B i) &&& (255 : Int32))), .val (.int (3 : Int32)), .val (.int (128 : Int32)), .val (.int (191 : Int32)), s8, s9] [(.int (159 : Int32))]))
                      refine Go.via (fun t_ k_ => XS.istore Hj.here hx rfl (hb hby d2_117) rfl (l' := #[.val (.ref a), .val (.int F), .val (.int G), .val (.int I), .val (.int ((B i) &&& (255 : Int32))), .val (.int (3 : Int32)), .val (.int (128 : Int32)), .val (.int (159 : Int32)), s8, s9]) rfl k_) ?_
                      show Go _ _ _ _ (Tj.setTop (mkF m 119 #[.val (.ref a), .val (.int F), .val (.int G), .val (.int I), .val (.int ((B i) &&& (255 : Int32))), .val (.int (3 : Int32)), .val (.int (128 : Int32)), .val (.int (159 : Int32)), s8, s9] []))
                      refine Go.via (fun t_ k_ => XS.goto Hj.here hx rfl (pc0 := 119) (pc' := 184) rfl (hb hby d2_119) (by decide) (by decide) k_) ?_
                      show Go _ _ _ _ (Tj.setTop (mkF m 184 #[.val (.ref a), .val (.int F), .val (.int G), .val (.int I), .val (.int ((B i) &&& (255 : Int32))), .val (.int (3 : Int32)), .val (.int (128 : Int32)), .val (.int (159 : Int32)), s8, s9] []))
                      exact J184_3 Tj (128 : Int32) (159 : Int32) 128 159 Hj (by decide) (by decide) (by rw [own_lti e0.1 (m := 128) (by decide)] at hc21; rw [own_lti e0.1 (m := 194) (by decide)] at hc45; rw [own_lti (n := 223) (by decide) e0.1] at hc53; rw [own_lti e0.1 (m := 224) (by decide)] at hc67; rw [own_lti (n := 239) (by decide) e0.1] at hc75; rw [own_eqi e0.1 (m := 224) (by decide)] at hc86; rw [own_eqi e0.1 (m := 237) (by decide)] at hc105; have b0 := e0.2; have b1 := e1.2; have b2 := e2.2; have b3 := e3.2; unfold nx; generalize bv B i = n0 at *; generalize bv B (i + 1) = n1 at *; generalize bv B (i + 2) = n2 at *; generalize bv B (i + 3) = n3 at *; unfold nxtI; (repeat' split) <;> omega)
                    · refine Go.via (fun t_ k_ => XS.icmpYes Hj.here hx rfl (pc0 := 105) (pc' := 114) rfl (hb hby d2_105) rfl ((feq hc105).2) (by decide) (by decide) k_) ?_
                      show Go _ _ _ _ (Tj.setTop (mkF m 114 #[.val (.ref a), .val (.int F), .val (.int G), .val (.int I), .val (.int ((B i) &&& (255 : Int32))), .val (.int (3 : Int32)), .val (.int (128 : Int32)), .val (.int (191 : Int32)), s8, s9] []))
                      refine Go.via (fun t_ k_ => XS.sipush Hj.here hx rfl (hb hby d2_114) k_) ?_
                      show Go _ _ _ _ (Tj.setTop (mkF m 117 #[.val (.ref a), .val (.int F), .val (.int G), .val (.int I), .val (.int ((B i) &&& (255 : Int32))), .val (.int (3 : Int32)), .val (.int (128 : Int32)), .val (.int (191 : Int32)), s8, s9] [(.int (191 : Int32))]))
                      refine Go.via (fun t_ k_ => XS.istore Hj.here hx rfl (hb hby d2_117) rfl (l' := #[.val (.ref a), .val (.int F), .val (.int G), .val (.int I), .val (.int ((B i) &&& (255 : Int32))), .val (.int (3 : Int32)), .val (.int (128 : Int32)), .val (.int (191 : Int32)), s8, s9]) rfl k_) ?_
                      show Go _ _ _ _ (Tj.setTop (mkF m 119 #[.val (.ref a), .val (.int F), .val (.int G), .val (.int I), .val (.int ((B i) &&& (255 : Int32))), .val (.int (3 : Int32)), .val (.int (128 : Int32)), .val (.int (191 : Int32)), s8, s9] []))
                      refine Go.via (fun t_ k_ => XS.goto Hj.here hx rfl (pc0 := 119) (pc' := 184) rfl (hb hby d2_119) (by decide) (by decide) k_) ?_
                      show Go _ _ _ _ (Tj.setTop (mkF m 184 #[.val (.ref a), .val (.int F), .val (.int G), .val (.int I), .val (.int ((B i) &&& (255 : Int32))), .val (.int (3 : Int32)), .val (.int (128 : Int32)), .val (.int (191 : Int32)), s8, s9] []))
                      exact J184_3 Tj (128 : Int32) (191 : Int32) 128 191 Hj (by decide) (by decide) (by rw [own_lti e0.1 (m := 128) (by decide)] at hc21; rw [own_lti e0.1 (m := 194) (by decide)] at hc45; rw [own_lti (n := 223) (by decide) e0.1] at hc53; rw [own_lti e0.1 (m := 224) (by decide)] at hc67; rw [own_lti (n := 239) (by decide) e0.1] at hc75; rw [own_eqi e0.1 (m := 224) (by decide)] at hc86; rw [own_eqi e0.1 (m := 237) (by decide)] at hc105; have b0 := e0.2; have b1 := e1.2; have b2 := e2.2; have b3 := e3.2; unfold nx; generalize bv B i = n0 at *; generalize bv B (i + 1) = n1 at *; generalize bv B (i + 2) = n2 at *; generalize bv B (i + 3) = n3 at *; unfold nxtI; (repeat' split) <;> omega)
            · refine Go.via (fun t_ k_ => XS.icmpNo Hj.here hx rfl (hb hby d2_53) rfl ((flt hc53).2.2.1) k_) ?_
              show Go _ _ _ _ (Tj.setTop (mkF m 56 #[.val (.ref a), .val (.int F), .val (.int G), .val (.int I), .val (.int ((B i) &&& (255 : Int32))), s5, .val (.int (128 : Int32)), .val (.int (191 : Int32)), s8, s9] []))
              refine Go.via (fun t_ k_ => XS.iconst Hj.here hx rfl (hb hby d2_56) k_) ?_
              show Go _ _ _ _ (Tj.setTop (mkF m 57 #[.val (.ref a), .val (.int F), .val (.int G), .val (.int I), .val (.int ((B i) &&& (255 : Int32))), s5, .val (.int (128 : Int32)), .val (.int (191 : Int32)), s8, s9] [(.int (2 : Int32))]))
              refine Go.via (fun t_ k_ => XS.istore Hj.here hx rfl (hb hby d2_57) rfl (l' := #[.val (.ref a), .val (.int F), .val (.int G), .val (.int I), .val (.int ((B i) &&& (255 : Int32))), .val (.int (2 : Int32)), .val (.int (128 : Int32)), .val (.int (191 : Int32)), s8, s9]) (Jvm.Free.XS.store1 rfl o5 rfl) k_) ?_
              show Go _ _ _ _ (Tj.setTop (mkF m 59 #[.val (.ref a), .val (.int F), .val (.int G), .val (.int I), .val (.int ((B i) &&& (255 : Int32))), .val (.int (2 : Int32)), .val (.int (128 : Int32)), .val (.int (191 : Int32)), s8, s9] []))
              refine Go.via (fun t_ k_ => XS.goto Hj.here hx rfl (pc0 := 59) (pc' := 184) rfl (hb hby d2_59) (by decide) (by decide) k_) ?_
              show Go _ _ _ _ (Tj.setTop (mkF m 184 #[.val (.ref a), .val (.int F), .val (.int G), .val (.int I), .val (.int ((B i) &&& (255 : Int32))), .val (.int (2 : Int32)), .val (.int (128 : Int32)), .val (.int (191 : Int32)), s8, s9] []))
              exact J184_2 Tj (128 : Int32) (191 : Int32) 128 191 Hj (by decide) (by decide) (by rw [own_lti e0.1 (m := 128) (by decide)] at hc21; rw [own_lti e0.1 (m := 194) (by decide)] at hc45; rw [own_lti (n := 223) (by decide) e0.1] at hc53; have b0 := e0.2; have b1 := e1.2; have b2 := e2.2; have b3 := e3.2; unfold nx; generalize bv B i = n0 at *; generalize bv B (i + 1) = n1 at *; generalize bv B (i + 2) = n2 at *; generalize bv B (i + 3) = n3 at *; unfold nxtI; (repeat' split) <;> omega)
      · refine Go.via (fun t_ k_ => XS.iloadN Hj.here hx rfl (hb hby d2_2) rfl k_) ?_
        show Go _ _ _ _ (Tj.setTop (mkF m 3 #[.val (.ref a), .val (.int F), .val (.int G), .val (.int I), s4, s5, s6, s7, s8, s9] [(.int I)]))
        refine Go.via (fun t_ k_ => XS.iloadN Hj.here hx rfl (hb hby d2_3) rfl k_) ?_
        show Go _ _ _ _ (Tj.setTop (mkF m 4 #[.val (.ref a), .val (.int F), .val (.int G), .val (.int I), s4, s5, s6, s7, s8, s9] [(.int G), (.int I)]))
        refine Go.via (fun t_ k_ => XS.icmpYes Hj.here hx rfl (pc0 := 4) (pc' := 263) rfl (hb hby d2_4) rfl ((flt (show ¬ (I < G) from (fun q => hit ((own_lti hI qt).mp q)))).2.1) (by decide) (by decide) k_) ?_
        show Go _ _ _ _ (Tj.setTop (mkF m 263 #[.val (.ref a), .val (.int F), .val (.int G), .val (.int I), s4, s5, s6, s7, s8, s9] []))
        refine Go.via (fun t_ k_ => XS.iconst Hj.here hx rfl (hb hby d2_263) k_) ?_
        show Go _ _ _ _ (Tj.setTop (mkF m 264 #[.val (.ref a), .val (.int F), .val (.int G), .val (.int I), s4, s5, s6, s7, s8, s9] [(.int (1 : Int32))]))
        exact own_retN Hj hx hlk (by simp) hret (hb hby d2_264) ⟨by rw [← hok, own_okT hit]; rfl, rfl⟩ (by decide) (by decide)
  show Go _ _ _ _ (T0.setTop (mkF m 0 #[.val (.ref a), .val (.int F), .val (.int G), .unset, .unset, .unset, .unset, .unset, .unset, .unset] []))
  refine Go.via (fun t_ k_ => XS.iloadN H0.here hx rfl (hb hby d2_0) rfl k_) ?_
  show Go _ _ _ _ (T0.setTop (mkF m 1 #[.val (.ref a), .val (.int F), .val (.int G), .unset, .unset, .unset, .unset, .unset, .unset, .unset] [(.int F)]))
  refine Go.via (fun t_ k_ => XS.istoreN H0.here hx rfl (hb hby d2_1) rfl (l' := #[.val (.ref a), .val (.int F), .val (.int G), .val (.int F), .unset, .unset, .unset, .unset, .unset, .unset]) rfl k_) ?_
  show Go _ _ _ _ (T0.setTop (mkF m 2 #[.val (.ref a), .val (.int F), .val (.int G), .val (.int F), .unset, .unset, .unset, .unset, .unset, .unset] []))
  exact loop (t - f) f _ _ _ _ _ _ _ T0 qf hft (Nat.le_refl _) rfl One.u One.u One.u One.u One.u One.u H0
theorem pd_0 : parseMethodDescriptor "([BII)I" = some ⟨[(.array .byte), .int, .int], some .int⟩ := by decide +kernel
theorem pd_1 : parseMethodDescriptor "([BII)Z" = some ⟨[(.array .byte), .int, .int], some .boolean⟩ := by decide +kernel
theorem ef_rm0 (m : MethodId) (x0 : Int32) (x1 : Int32) (x2 : Int32) : entryFrame m #[(.int x0), (.int x1), (.int x2)] maxLocals = mkF m 0 #[.val (.int x0), .val (.int x1), .val (.int x2), .unset, .unset, .unset, .unset, .unset] [] := by first | (simp [entryFrame, mkF, argsToLocals, Value.category, maxLocals]; done) | rfl
set_option maxRecDepth 65536 in
set_option maxHeartbeats 40000000 in
theorem rm0 (l : Launch) (Z : State) (a0 : Array Value) (hw : ∀ d ∈ tables_1, d.before a0 Z = true) (p1 p2 p3 : Int32) (h0 : Heap) (n0 : Nat) (Z0 : n0 ≤ h0.size) :
    CM l Z x code maxLocals ret room_1 #[(.int p1), (.int p2), (.int p3)] h0 n0 (fun v h => v = some (.int (1 : Int32))) := by
  refine own_enter (by decide +kernel) ?_
  intro p e s m below meth c T0 hx hby hml hown hnm hZ hret hlk H0
  replace hown : s.vm.findClass "com/example/perekaz/perekaz/TextLinesIsUtf8PinLaw" = some m.cls := hown
  replace hret : meth.sig.returnType = some .boolean := hret
  replace hml : c.maxLocals = 8 := hml
  refine Go.via (fun t_ k_ => castTop (ef_rm0 m p1 p2 p3) k_) ?_
  have J95 : ∀ (Tj : State) (hj : Heap) (a3 : Addr) (B : Nat → Int32) (F G : Int32) (f t : Nat), Here p l e room_1 s m #[(.int p1), (.int p2), (.int p3)] below meth c n0 Tj hj 1 8 → (Ab Z hj a3 .byte 8 B) → (F.toInt = (f : Int)) → (G.toInt = (t : Int)) → (f ≤ t) → (t ≤ 8) → Go p e below (Fini below s n0 (fun v h => v = some (.int (1 : Int32))) room_1.cells room_1.slots) (Tj.setTop (mkF m 95 #[.val (.int p1), .val (.int p2), .val (.int p3), .val (.ref a3), .val (.int F), .val (.int G), .val (.int F), .unset] [])) := by
    intro Tj hj a3 B F G f t Hj AB qf qt hft ht
    show Go _ _ _ _ (Tj.setTop (mkF m 95 #[.val (.int p1), .val (.int p2), .val (.int p3), .val (.ref a3), .val (.int F), .val (.int G), .val (.int F), .unset] []))
    refine Go.via (fun t_ k_ => XS.aloadN Hj.here hx rfl (hb hby at_95) rfl rfl k_) ?_
    show Go _ _ _ _ (Tj.setTop (mkF m 96 #[.val (.int p1), .val (.int p2), .val (.int p3), .val (.ref a3), .val (.int F), .val (.int G), .val (.int F), .unset] [(.ref a3)]))
    refine Go.via (fun t_ k_ => XS.iload Hj.here hx rfl (hb hby at_96) rfl k_) ?_
    show Go _ _ _ _ (Tj.setTop (mkF m 98 #[.val (.int p1), .val (.int p2), .val (.int p3), .val (.ref a3), .val (.int F), .val (.int G), .val (.int F), .unset] [(.int F), (.ref a3)]))
    refine Go.via (fun t_ k_ => XS.iload Hj.here hx rfl (hb hby at_98) rfl k_) ?_
    show Go _ _ _ _ (Tj.setTop (mkF m 100 #[.val (.int p1), .val (.int p2), .val (.int p3), .val (.ref a3), .val (.int F), .val (.int G), .val (.int F), .unset] [(.int G), (.int F), (.ref a3)]))
    refine own_callS Hj hx hZ (y := (⟨"com/example/perekaz/perekaz/TextLinesIsUtf8PinLaw", "adv", "([BII)I"⟩ : MethodName)) hown (hw _ (List.mem_of_getElem? (i := 1) rfl)) (hw _ (List.mem_of_getElem? (i := 2) rfl)) (hw _ (List.mem_of_getElem? (i := 3) rfl)) (hw _ (List.mem_of_getElem? (i := 4) rfl)) (by decide) (rmAdv l Z a0 hw a3 B F G t hj n0 AB qt ht) (g := (mkF m 100 #[.val (.int p1), .val (.int p2), .val (.int p3), .val (.ref a3), .val (.int F), .val (.int G), .val (.int F), .unset] [(.int G), (.int F), (.ref a3)])) rfl (by rw [hml]; rfl) (argsL := [(.ref a3), (.int F), (.int G)]) (rest := []) (lenOf pd_0 rfl) rfl 0 (Nat.le_of_eq rfl) (hb hby at_100) (by decide) (by decide) (by decide) (by decide) ?_
    rintro _ T1 _ ⟨r1, rfl, q1, rfl⟩ H1
    show Go _ _ _ _ (T1.setTop (mkF m 103 #[.val (.int p1), .val (.int p2), .val (.int p3), .val (.ref a3), .val (.int F), .val (.int G), .val (.int F), .unset] [(.int r1)]))
    refine Go.via (fun t_ k_ => XS.istore H1.here hx rfl (hb hby at_103) rfl (l' := #[.val (.int p1), .val (.int p2), .val (.int p3), .val (.ref a3), .val (.int F), .val (.int G), .val (.int r1), .unset]) rfl k_) ?_
    show Go _ _ _ _ (T1.setTop (mkF m 105 #[.val (.int p1), .val (.int p2), .val (.int p3), .val (.ref a3), .val (.int F), .val (.int G), .val (.int r1), .unset] []))
    refine Go.via (fun t_ k_ => XS.aloadN H1.here hx rfl (hb hby at_105) rfl rfl k_) ?_
    show Go _ _ _ _ (T1.setTop (mkF m 106 #[.val (.int p1), .val (.int p2), .val (.int p3), .val (.ref a3), .val (.int F), .val (.int G), .val (.int r1), .unset] [(.ref a3)]))
    refine Go.via (fun t_ k_ => XS.iload H1.here hx rfl (hb hby at_106) rfl k_) ?_
    show Go _ _ _ _ (T1.setTop (mkF m 108 #[.val (.int p1), .val (.int p2), .val (.int p3), .val (.ref a3), .val (.int F), .val (.int G), .val (.int r1), .unset] [(.int r1), (.ref a3)]))
    refine Go.via (fun t_ k_ => XS.iload H1.here hx rfl (hb hby at_108) rfl k_) ?_
    show Go _ _ _ _ (T1.setTop (mkF m 110 #[.val (.int p1), .val (.int p2), .val (.int p3), .val (.ref a3), .val (.int F), .val (.int G), .val (.int r1), .unset] [(.int G), (.int r1), (.ref a3)]))
    refine own_callS H1 hx hZ (y := (⟨"com/example/perekaz/perekaz/TextLinesIsUtf8PinLaw", "adv", "([BII)I"⟩ : MethodName)) hown (hw _ (List.mem_of_getElem? (i := 1) rfl)) (hw _ (List.mem_of_getElem? (i := 2) rfl)) (hw _ (List.mem_of_getElem? (i := 3) rfl)) (hw _ (List.mem_of_getElem? (i := 4) rfl)) (by decide) (rmAdv l Z a0 hw a3 B r1 G t hj n0 AB qt ht) (g := (mkF m 110 #[.val (.int p1), .val (.int p2), .val (.int p3), .val (.ref a3), .val (.int F), .val (.int G), .val (.int r1), .unset] [(.int G), (.int r1), (.ref a3)])) rfl (by rw [hml]; rfl) (argsL := [(.ref a3), (.int r1), (.int G)]) (rest := []) (lenOf pd_0 rfl) rfl 0 (Nat.le_of_eq rfl) (hb hby at_110) (by decide) (by decide) (by decide) (by decide) ?_
    rintro _ T2 _ ⟨r2, rfl, q2, rfl⟩ H2
    show Go _ _ _ _ (T2.setTop (mkF m 113 #[.val (.int p1), .val (.int p2), .val (.int p3), .val (.ref a3), .val (.int F), .val (.int G), .val (.int r1), .unset] [(.int r2)]))
    refine Go.via (fun t_ k_ => XS.istore H2.here hx rfl (hb hby at_113) rfl (l' := #[.val (.int p1), .val (.int p2), .val (.int p3), .val (.ref a3), .val (.int F), .val (.int G), .val (.int r2), .unset]) rfl k_) ?_
    show Go _ _ _ _ (T2.setTop (mkF m 115 #[.val (.int p1), .val (.int p2), .val (.int p3), .val (.ref a3), .val (.int F), .val (.int G), .val (.int r2), .unset] []))
    refine Go.via (fun t_ k_ => XS.aloadN H2.here hx rfl (hb hby at_115) rfl rfl k_) ?_
    show Go _ _ _ _ (T2.setTop (mkF m 116 #[.val (.int p1), .val (.int p2), .val (.int p3), .val (.ref a3), .val (.int F), .val (.int G), .val (.int r2), .unset] [(.ref a3)]))
    refine Go.via (fun t_ k_ => XS.iload H2.here hx rfl (hb hby at_116) rfl k_) ?_
    show Go _ _ _ _ (T2.setTop (mkF m 118 #[.val (.int p1), .val (.int p2), .val (.int p3), .val (.ref a3), .val (.int F), .val (.int G), .val (.int r2), .unset] [(.int r2), (.ref a3)]))
    refine Go.via (fun t_ k_ => XS.iload H2.here hx rfl (hb hby at_118) rfl k_) ?_
    show Go _ _ _ _ (T2.setTop (mkF m 120 #[.val (.int p1), .val (.int p2), .val (.int p3), .val (.ref a3), .val (.int F), .val (.int G), .val (.int r2), .unset] [(.int G), (.int r2), (.ref a3)]))
    refine own_callS H2 hx hZ (y := (⟨"com/example/perekaz/perekaz/TextLinesIsUtf8PinLaw", "adv", "([BII)I"⟩ : MethodName)) hown (hw _ (List.mem_of_getElem? (i := 1) rfl)) (hw _ (List.mem_of_getElem? (i := 2) rfl)) (hw _ (List.mem_of_getElem? (i := 3) rfl)) (hw _ (List.mem_of_getElem? (i := 4) rfl)) (by decide) (rmAdv l Z a0 hw a3 B r2 G t hj n0 AB qt ht) (g := (mkF m 120 #[.val (.int p1), .val (.int p2), .val (.int p3), .val (.ref a3), .val (.int F), .val (.int G), .val (.int r2), .unset] [(.int G), (.int r2), (.ref a3)])) rfl (by rw [hml]; rfl) (argsL := [(.ref a3), (.int r2), (.int G)]) (rest := []) (lenOf pd_0 rfl) rfl 0 (Nat.le_of_eq rfl) (hb hby at_120) (by decide) (by decide) (by decide) (by decide) ?_
    rintro _ T3 _ ⟨r3, rfl, q3, rfl⟩ H3
    show Go _ _ _ _ (T3.setTop (mkF m 123 #[.val (.int p1), .val (.int p2), .val (.int p3), .val (.ref a3), .val (.int F), .val (.int G), .val (.int r2), .unset] [(.int r3)]))
    refine Go.via (fun t_ k_ => XS.istore H3.here hx rfl (hb hby at_123) rfl (l' := #[.val (.int p1), .val (.int p2), .val (.int p3), .val (.ref a3), .val (.int F), .val (.int G), .val (.int r3), .unset]) rfl k_) ?_
    show Go _ _ _ _ (T3.setTop (mkF m 125 #[.val (.int p1), .val (.int p2), .val (.int p3), .val (.ref a3), .val (.int F), .val (.int G), .val (.int r3), .unset] []))
    refine Go.via (fun t_ k_ => XS.aloadN H3.here hx rfl (hb hby at_125) rfl rfl k_) ?_
    show Go _ _ _ _ (T3.setTop (mkF m 126 #[.val (.int p1), .val (.int p2), .val (.int p3), .val (.ref a3), .val (.int F), .val (.int G), .val (.int r3), .unset] [(.ref a3)]))
    refine Go.via (fun t_ k_ => XS.iload H3.here hx rfl (hb hby at_126) rfl k_) ?_
    show Go _ _ _ _ (T3.setTop (mkF m 128 #[.val (.int p1), .val (.int p2), .val (.int p3), .val (.ref a3), .val (.int F), .val (.int G), .val (.int r3), .unset] [(.int r3), (.ref a3)]))
    refine Go.via (fun t_ k_ => XS.iload H3.here hx rfl (hb hby at_128) rfl k_) ?_
    show Go _ _ _ _ (T3.setTop (mkF m 130 #[.val (.int p1), .val (.int p2), .val (.int p3), .val (.ref a3), .val (.int F), .val (.int G), .val (.int r3), .unset] [(.int G), (.int r3), (.ref a3)]))
    refine own_callS H3 hx hZ (y := (⟨"com/example/perekaz/perekaz/TextLinesIsUtf8PinLaw", "adv", "([BII)I"⟩ : MethodName)) hown (hw _ (List.mem_of_getElem? (i := 1) rfl)) (hw _ (List.mem_of_getElem? (i := 2) rfl)) (hw _ (List.mem_of_getElem? (i := 3) rfl)) (hw _ (List.mem_of_getElem? (i := 4) rfl)) (by decide) (rmAdv l Z a0 hw a3 B r3 G t hj n0 AB qt ht) (g := (mkF m 130 #[.val (.int p1), .val (.int p2), .val (.int p3), .val (.ref a3), .val (.int F), .val (.int G), .val (.int r3), .unset] [(.int G), (.int r3), (.ref a3)])) rfl (by rw [hml]; rfl) (argsL := [(.ref a3), (.int r3), (.int G)]) (rest := []) (lenOf pd_0 rfl) rfl 0 (Nat.le_of_eq rfl) (hb hby at_130) (by decide) (by decide) (by decide) (by decide) ?_
    rintro _ T4 _ ⟨r4, rfl, q4, rfl⟩ H4
    show Go _ _ _ _ (T4.setTop (mkF m 133 #[.val (.int p1), .val (.int p2), .val (.int p3), .val (.ref a3), .val (.int F), .val (.int G), .val (.int r3), .unset] [(.int r4)]))
    refine Go.via (fun t_ k_ => XS.istore H4.here hx rfl (hb hby at_133) rfl (l' := #[.val (.int p1), .val (.int p2), .val (.int p3), .val (.ref a3), .val (.int F), .val (.int G), .val (.int r4), .unset]) rfl k_) ?_
    show Go _ _ _ _ (T4.setTop (mkF m 135 #[.val (.int p1), .val (.int p2), .val (.int p3), .val (.ref a3), .val (.int F), .val (.int G), .val (.int r4), .unset] []))
    refine Go.via (fun t_ k_ => XS.aloadN H4.here hx rfl (hb hby at_135) rfl rfl k_) ?_
    show Go _ _ _ _ (T4.setTop (mkF m 136 #[.val (.int p1), .val (.int p2), .val (.int p3), .val (.ref a3), .val (.int F), .val (.int G), .val (.int r4), .unset] [(.ref a3)]))
    refine Go.via (fun t_ k_ => XS.iload H4.here hx rfl (hb hby at_136) rfl k_) ?_
    show Go _ _ _ _ (T4.setTop (mkF m 138 #[.val (.int p1), .val (.int p2), .val (.int p3), .val (.ref a3), .val (.int F), .val (.int G), .val (.int r4), .unset] [(.int r4), (.ref a3)]))
    refine Go.via (fun t_ k_ => XS.iload H4.here hx rfl (hb hby at_138) rfl k_) ?_
    show Go _ _ _ _ (T4.setTop (mkF m 140 #[.val (.int p1), .val (.int p2), .val (.int p3), .val (.ref a3), .val (.int F), .val (.int G), .val (.int r4), .unset] [(.int G), (.int r4), (.ref a3)]))
    refine own_callS H4 hx hZ (y := (⟨"com/example/perekaz/perekaz/TextLinesIsUtf8PinLaw", "adv", "([BII)I"⟩ : MethodName)) hown (hw _ (List.mem_of_getElem? (i := 1) rfl)) (hw _ (List.mem_of_getElem? (i := 2) rfl)) (hw _ (List.mem_of_getElem? (i := 3) rfl)) (hw _ (List.mem_of_getElem? (i := 4) rfl)) (by decide) (rmAdv l Z a0 hw a3 B r4 G t hj n0 AB qt ht) (g := (mkF m 140 #[.val (.int p1), .val (.int p2), .val (.int p3), .val (.ref a3), .val (.int F), .val (.int G), .val (.int r4), .unset] [(.int G), (.int r4), (.ref a3)])) rfl (by rw [hml]; rfl) (argsL := [(.ref a3), (.int r4), (.int G)]) (rest := []) (lenOf pd_0 rfl) rfl 0 (Nat.le_of_eq rfl) (hb hby at_140) (by decide) (by decide) (by decide) (by decide) ?_
    rintro _ T5 _ ⟨r5, rfl, q5, rfl⟩ H5
    show Go _ _ _ _ (T5.setTop (mkF m 143 #[.val (.int p1), .val (.int p2), .val (.int p3), .val (.ref a3), .val (.int F), .val (.int G), .val (.int r4), .unset] [(.int r5)]))
    refine Go.via (fun t_ k_ => XS.istore H5.here hx rfl (hb hby at_143) rfl (l' := #[.val (.int p1), .val (.int p2), .val (.int p3), .val (.ref a3), .val (.int F), .val (.int G), .val (.int r5), .unset]) rfl k_) ?_
    show Go _ _ _ _ (T5.setTop (mkF m 145 #[.val (.int p1), .val (.int p2), .val (.int p3), .val (.ref a3), .val (.int F), .val (.int G), .val (.int r5), .unset] []))
    refine Go.via (fun t_ k_ => XS.aloadN H5.here hx rfl (hb hby at_145) rfl rfl k_) ?_
    show Go _ _ _ _ (T5.setTop (mkF m 146 #[.val (.int p1), .val (.int p2), .val (.int p3), .val (.ref a3), .val (.int F), .val (.int G), .val (.int r5), .unset] [(.ref a3)]))
    refine Go.via (fun t_ k_ => XS.iload H5.here hx rfl (hb hby at_146) rfl k_) ?_
    show Go _ _ _ _ (T5.setTop (mkF m 148 #[.val (.int p1), .val (.int p2), .val (.int p3), .val (.ref a3), .val (.int F), .val (.int G), .val (.int r5), .unset] [(.int r5), (.ref a3)]))
    refine Go.via (fun t_ k_ => XS.iload H5.here hx rfl (hb hby at_148) rfl k_) ?_
    show Go _ _ _ _ (T5.setTop (mkF m 150 #[.val (.int p1), .val (.int p2), .val (.int p3), .val (.ref a3), .val (.int F), .val (.int G), .val (.int r5), .unset] [(.int G), (.int r5), (.ref a3)]))
    refine own_callS H5 hx hZ (y := (⟨"com/example/perekaz/perekaz/TextLinesIsUtf8PinLaw", "adv", "([BII)I"⟩ : MethodName)) hown (hw _ (List.mem_of_getElem? (i := 1) rfl)) (hw _ (List.mem_of_getElem? (i := 2) rfl)) (hw _ (List.mem_of_getElem? (i := 3) rfl)) (hw _ (List.mem_of_getElem? (i := 4) rfl)) (by decide) (rmAdv l Z a0 hw a3 B r5 G t hj n0 AB qt ht) (g := (mkF m 150 #[.val (.int p1), .val (.int p2), .val (.int p3), .val (.ref a3), .val (.int F), .val (.int G), .val (.int r5), .unset] [(.int G), (.int r5), (.ref a3)])) rfl (by rw [hml]; rfl) (argsL := [(.ref a3), (.int r5), (.int G)]) (rest := []) (lenOf pd_0 rfl) rfl 0 (Nat.le_of_eq rfl) (hb hby at_150) (by decide) (by decide) (by decide) (by decide) ?_
    rintro _ T6 _ ⟨r6, rfl, q6, rfl⟩ H6
    show Go _ _ _ _ (T6.setTop (mkF m 153 #[.val (.int p1), .val (.int p2), .val (.int p3), .val (.ref a3), .val (.int F), .val (.int G), .val (.int r5), .unset] [(.int r6)]))
    refine Go.via (fun t_ k_ => XS.istore H6.here hx rfl (hb hby at_153) rfl (l' := #[.val (.int p1), .val (.int p2), .val (.int p3), .val (.ref a3), .val (.int F), .val (.int G), .val (.int r6), .unset]) rfl k_) ?_
    show Go _ _ _ _ (T6.setTop (mkF m 155 #[.val (.int p1), .val (.int p2), .val (.int p3), .val (.ref a3), .val (.int F), .val (.int G), .val (.int r6), .unset] []))
    refine Go.via (fun t_ k_ => XS.aloadN H6.here hx rfl (hb hby at_155) rfl rfl k_) ?_
    show Go _ _ _ _ (T6.setTop (mkF m 156 #[.val (.int p1), .val (.int p2), .val (.int p3), .val (.ref a3), .val (.int F), .val (.int G), .val (.int r6), .unset] [(.ref a3)]))
    refine Go.via (fun t_ k_ => XS.iload H6.here hx rfl (hb hby at_156) rfl k_) ?_
    show Go _ _ _ _ (T6.setTop (mkF m 158 #[.val (.int p1), .val (.int p2), .val (.int p3), .val (.ref a3), .val (.int F), .val (.int G), .val (.int r6), .unset] [(.int r6), (.ref a3)]))
    refine Go.via (fun t_ k_ => XS.iload H6.here hx rfl (hb hby at_158) rfl k_) ?_
    show Go _ _ _ _ (T6.setTop (mkF m 160 #[.val (.int p1), .val (.int p2), .val (.int p3), .val (.ref a3), .val (.int F), .val (.int G), .val (.int r6), .unset] [(.int G), (.int r6), (.ref a3)]))
    refine own_callS H6 hx hZ (y := (⟨"com/example/perekaz/perekaz/TextLinesIsUtf8PinLaw", "adv", "([BII)I"⟩ : MethodName)) hown (hw _ (List.mem_of_getElem? (i := 1) rfl)) (hw _ (List.mem_of_getElem? (i := 2) rfl)) (hw _ (List.mem_of_getElem? (i := 3) rfl)) (hw _ (List.mem_of_getElem? (i := 4) rfl)) (by decide) (rmAdv l Z a0 hw a3 B r6 G t hj n0 AB qt ht) (g := (mkF m 160 #[.val (.int p1), .val (.int p2), .val (.int p3), .val (.ref a3), .val (.int F), .val (.int G), .val (.int r6), .unset] [(.int G), (.int r6), (.ref a3)])) rfl (by rw [hml]; rfl) (argsL := [(.ref a3), (.int r6), (.int G)]) (rest := []) (lenOf pd_0 rfl) rfl 0 (Nat.le_of_eq rfl) (hb hby at_160) (by decide) (by decide) (by decide) (by decide) ?_
    rintro _ T7 _ ⟨r7, rfl, q7, rfl⟩ H7
    show Go _ _ _ _ (T7.setTop (mkF m 163 #[.val (.int p1), .val (.int p2), .val (.int p3), .val (.ref a3), .val (.int F), .val (.int G), .val (.int r6), .unset] [(.int r7)]))
    refine Go.via (fun t_ k_ => XS.istore H7.here hx rfl (hb hby at_163) rfl (l' := #[.val (.int p1), .val (.int p2), .val (.int p3), .val (.ref a3), .val (.int F), .val (.int G), .val (.int r7), .unset]) rfl k_) ?_
    show Go _ _ _ _ (T7.setTop (mkF m 165 #[.val (.int p1), .val (.int p2), .val (.int p3), .val (.ref a3), .val (.int F), .val (.int G), .val (.int r7), .unset] []))
    refine Go.via (fun t_ k_ => XS.aloadN H7.here hx rfl (hb hby at_165) rfl rfl k_) ?_
    show Go _ _ _ _ (T7.setTop (mkF m 166 #[.val (.int p1), .val (.int p2), .val (.int p3), .val (.ref a3), .val (.int F), .val (.int G), .val (.int r7), .unset] [(.ref a3)]))
    refine Go.via (fun t_ k_ => XS.iload H7.here hx rfl (hb hby at_166) rfl k_) ?_
    show Go _ _ _ _ (T7.setTop (mkF m 168 #[.val (.int p1), .val (.int p2), .val (.int p3), .val (.ref a3), .val (.int F), .val (.int G), .val (.int r7), .unset] [(.int r7), (.ref a3)]))
    refine Go.via (fun t_ k_ => XS.iload H7.here hx rfl (hb hby at_168) rfl k_) ?_
    show Go _ _ _ _ (T7.setTop (mkF m 170 #[.val (.int p1), .val (.int p2), .val (.int p3), .val (.ref a3), .val (.int F), .val (.int G), .val (.int r7), .unset] [(.int G), (.int r7), (.ref a3)]))
    refine own_callS H7 hx hZ (y := (⟨"com/example/perekaz/perekaz/TextLinesIsUtf8PinLaw", "adv", "([BII)I"⟩ : MethodName)) hown (hw _ (List.mem_of_getElem? (i := 1) rfl)) (hw _ (List.mem_of_getElem? (i := 2) rfl)) (hw _ (List.mem_of_getElem? (i := 3) rfl)) (hw _ (List.mem_of_getElem? (i := 4) rfl)) (by decide) (rmAdv l Z a0 hw a3 B r7 G t hj n0 AB qt ht) (g := (mkF m 170 #[.val (.int p1), .val (.int p2), .val (.int p3), .val (.ref a3), .val (.int F), .val (.int G), .val (.int r7), .unset] [(.int G), (.int r7), (.ref a3)])) rfl (by rw [hml]; rfl) (argsL := [(.ref a3), (.int r7), (.int G)]) (rest := []) (lenOf pd_0 rfl) rfl 0 (Nat.le_of_eq rfl) (hb hby at_170) (by decide) (by decide) (by decide) (by decide) ?_
    rintro _ T8 _ ⟨r8, rfl, q8, rfl⟩ H8
    show Go _ _ _ _ (T8.setTop (mkF m 173 #[.val (.int p1), .val (.int p2), .val (.int p3), .val (.ref a3), .val (.int F), .val (.int G), .val (.int r7), .unset] [(.int r8)]))
    refine Go.via (fun t_ k_ => XS.istore H8.here hx rfl (hb hby at_173) rfl (l' := #[.val (.int p1), .val (.int p2), .val (.int p3), .val (.ref a3), .val (.int F), .val (.int G), .val (.int r8), .unset]) rfl k_) ?_
    show Go _ _ _ _ (T8.setTop (mkF m 175 #[.val (.int p1), .val (.int p2), .val (.int p3), .val (.ref a3), .val (.int F), .val (.int G), .val (.int r8), .unset] []))
    have hN : r8.toInt = advN B t 8 (f : Int) := by rw [q8, q7, q6, q5, q4, q3, q2, q1, qf]; rfl
    have own_fin : (if okk B t (t - f) f = true then (1 : Int32) else 0) = if r8 = G then 1 else 0 := by
      have q1 := own_law (B := B) (t := t) 8 f hft (by omega) (t - f) (Nat.le_refl _)
      have q2 : r8 = G ↔ okk B t (t - f) f = true := by rw [← q1, ← hN, ← qt]; exact Int32.toInt_inj.symm
      simp only [q2]
    refine Go.via (fun t_ k_ => XS.iload H8.here hx rfl (hb hby at_175) rfl k_) ?_
    show Go _ _ _ _ (T8.setTop (mkF m 177 #[.val (.int p1), .val (.int p2), .val (.int p3), .val (.ref a3), .val (.int F), .val (.int G), .val (.int r8), .unset] [(.int r8)]))
    refine Go.via (fun t_ k_ => XS.iload H8.here hx rfl (hb hby at_177) rfl k_) ?_
    show Go _ _ _ _ (T8.setTop (mkF m 179 #[.val (.int p1), .val (.int p2), .val (.int p3), .val (.ref a3), .val (.int F), .val (.int G), .val (.int r8), .unset] [(.int G), (.int r8)]))
    by_cases hc179 : r8 = G
    · refine Go.via (fun t_ k_ => XS.icmpNo H8.here hx rfl (hb hby at_179) rfl ((teq hc179).2) k_) ?_
      show Go _ _ _ _ (T8.setTop (mkF m 182 #[.val (.int p1), .val (.int p2), .val (.int p3), .val (.ref a3), .val (.int F), .val (.int G), .val (.int r8), .unset] []))
      refine Go.via (fun t_ k_ => XS.iconst H8.here hx rfl (hb hby at_182) k_) ?_
      show Go _ _ _ _ (T8.setTop (mkF m 183 #[.val (.int p1), .val (.int p2), .val (.int p3), .val (.ref a3), .val (.int F), .val (.int G), .val (.int r8), .unset] [(.int (1 : Int32))]))
      refine Go.via (fun t_ k_ => XS.goto H8.here hx rfl (pc0 := 183) (pc' := 187) rfl (hb hby at_183) (by decide) (by decide) k_) ?_
      show Go _ _ _ _ (T8.setTop (mkF m 187 #[.val (.int p1), .val (.int p2), .val (.int p3), .val (.ref a3), .val (.int F), .val (.int G), .val (.int r8), .unset] [(.int (1 : Int32))]))
      refine Go.via (fun t_ k_ => XS.istore H8.here hx rfl (hb hby at_187) rfl (l' := #[.val (.int p1), .val (.int p2), .val (.int p3), .val (.ref a3), .val (.int F), .val (.int G), .val (.int r8), .val (.int (1 : Int32))]) rfl k_) ?_
      show Go _ _ _ _ (T8.setTop (mkF m 189 #[.val (.int p1), .val (.int p2), .val (.int p3), .val (.ref a3), .val (.int F), .val (.int G), .val (.int r8), .val (.int (1 : Int32))] []))
      refine Go.via (fun t_ k_ => XS.aloadN H8.here hx rfl (hb hby at_189) rfl rfl k_) ?_
      show Go _ _ _ _ (T8.setTop (mkF m 190 #[.val (.int p1), .val (.int p2), .val (.int p3), .val (.ref a3), .val (.int F), .val (.int G), .val (.int r8), .val (.int (1 : Int32))] [(.ref a3)]))
      refine Go.via (fun t_ k_ => XS.iload H8.here hx rfl (hb hby at_190) rfl k_) ?_
      show Go _ _ _ _ (T8.setTop (mkF m 192 #[.val (.int p1), .val (.int p2), .val (.int p3), .val (.ref a3), .val (.int F), .val (.int G), .val (.int r8), .val (.int (1 : Int32))] [(.int F), (.ref a3)]))
      refine Go.via (fun t_ k_ => XS.iload H8.here hx rfl (hb hby at_192) rfl k_) ?_
      show Go _ _ _ _ (T8.setTop (mkF m 194 #[.val (.int p1), .val (.int p2), .val (.int p3), .val (.ref a3), .val (.int F), .val (.int G), .val (.int r8), .val (.int (1 : Int32))] [(.int G), (.int F), (.ref a3)]))
      refine own_callS H8 hx hZ (y := (⟨"com/example/perekaz/perekaz/TextLines", "isUtf8", "([BII)Z"⟩ : MethodName)) hown (hw _ (List.mem_of_getElem? (i := 5) rfl)) (hw _ (List.mem_of_getElem? (i := 6) rfl)) (hw _ (List.mem_of_getElem? (i := 7) rfl)) (hw _ (List.mem_of_getElem? (i := 8) rfl)) (by decide) (rmUtf l Z a0 hw a3 B F G f t hj n0 AB qf qt hft ht) (g := (mkF m 194 #[.val (.int p1), .val (.int p2), .val (.int p3), .val (.ref a3), .val (.int F), .val (.int G), .val (.int r8), .val (.int (1 : Int32))] [(.int G), (.int F), (.ref a3)])) rfl (by rw [hml]; rfl) (argsL := [(.ref a3), (.int F), (.int G)]) (rest := []) (lenOf pd_1 rfl) rfl 0 (Nat.le_of_eq rfl) (hb hby at_194) (by decide) (by decide) (by decide) (by decide) ?_
      rintro _ T9 _ ⟨rfl, rfl⟩ H9
      show Go _ _ _ _ (T9.setTop (mkF m 197 #[.val (.int p1), .val (.int p2), .val (.int p3), .val (.ref a3), .val (.int F), .val (.int G), .val (.int r8), .val (.int (1 : Int32))] [(.int (if okk B t (t - f) f = true then 1 else 0))]))
      refine Go.via (fun t_ k_ => XS.iload H9.here hx rfl (hb hby at_197) rfl k_) ?_
      show Go _ _ _ _ (T9.setTop (mkF m 199 #[.val (.int p1), .val (.int p2), .val (.int p3), .val (.ref a3), .val (.int F), .val (.int G), .val (.int r8), .val (.int (1 : Int32))] [(.int (1 : Int32)), (.int (if okk B t (t - f) f = true then 1 else 0))]))
      refine Go.via (fun t_ k_ => XS.icmpNo H9.here hx rfl (hb hby at_199) rfl ((teq (show (if okk B t (t - f) f = true then 1 else 0) = (1 : Int32) from (by rw [own_fin, if_pos hc179]))).2) k_) ?_
      show Go _ _ _ _ (T9.setTop (mkF m 202 #[.val (.int p1), .val (.int p2), .val (.int p3), .val (.ref a3), .val (.int F), .val (.int G), .val (.int r8), .val (.int (1 : Int32))] []))
      refine Go.via (fun t_ k_ => XS.iconst H9.here hx rfl (hb hby at_202) k_) ?_
      show Go _ _ _ _ (T9.setTop (mkF m 203 #[.val (.int p1), .val (.int p2), .val (.int p3), .val (.ref a3), .val (.int F), .val (.int G), .val (.int r8), .val (.int (1 : Int32))] [(.int (1 : Int32))]))
      refine Go.via (fun t_ k_ => XS.goto H9.here hx rfl (pc0 := 203) (pc' := 207) rfl (hb hby at_203) (by decide) (by decide) k_) ?_
      show Go _ _ _ _ (T9.setTop (mkF m 207 #[.val (.int p1), .val (.int p2), .val (.int p3), .val (.ref a3), .val (.int F), .val (.int G), .val (.int r8), .val (.int (1 : Int32))] [(.int (1 : Int32))]))
      exact own_retN H9 hx hlk (by simp) hret (hb hby at_207) rfl (by decide) (by decide)
    · refine Go.via (fun t_ k_ => XS.icmpYes H8.here hx rfl (pc0 := 179) (pc' := 186) rfl (hb hby at_179) rfl ((feq hc179).2) (by decide) (by decide) k_) ?_
      show Go _ _ _ _ (T8.setTop (mkF m 186 #[.val (.int p1), .val (.int p2), .val (.int p3), .val (.ref a3), .val (.int F), .val (.int G), .val (.int r8), .unset] []))
      refine Go.via (fun t_ k_ => XS.iconst H8.here hx rfl (hb hby at_186) k_) ?_
      show Go _ _ _ _ (T8.setTop (mkF m 187 #[.val (.int p1), .val (.int p2), .val (.int p3), .val (.ref a3), .val (.int F), .val (.int G), .val (.int r8), .unset] [(.int (0 : Int32))]))
      refine Go.via (fun t_ k_ => XS.istore H8.here hx rfl (hb hby at_187) rfl (l' := #[.val (.int p1), .val (.int p2), .val (.int p3), .val (.ref a3), .val (.int F), .val (.int G), .val (.int r8), .val (.int (0 : Int32))]) rfl k_) ?_
      show Go _ _ _ _ (T8.setTop (mkF m 189 #[.val (.int p1), .val (.int p2), .val (.int p3), .val (.ref a3), .val (.int F), .val (.int G), .val (.int r8), .val (.int (0 : Int32))] []))
      refine Go.via (fun t_ k_ => XS.aloadN H8.here hx rfl (hb hby at_189) rfl rfl k_) ?_
      show Go _ _ _ _ (T8.setTop (mkF m 190 #[.val (.int p1), .val (.int p2), .val (.int p3), .val (.ref a3), .val (.int F), .val (.int G), .val (.int r8), .val (.int (0 : Int32))] [(.ref a3)]))
      refine Go.via (fun t_ k_ => XS.iload H8.here hx rfl (hb hby at_190) rfl k_) ?_
      show Go _ _ _ _ (T8.setTop (mkF m 192 #[.val (.int p1), .val (.int p2), .val (.int p3), .val (.ref a3), .val (.int F), .val (.int G), .val (.int r8), .val (.int (0 : Int32))] [(.int F), (.ref a3)]))
      refine Go.via (fun t_ k_ => XS.iload H8.here hx rfl (hb hby at_192) rfl k_) ?_
      show Go _ _ _ _ (T8.setTop (mkF m 194 #[.val (.int p1), .val (.int p2), .val (.int p3), .val (.ref a3), .val (.int F), .val (.int G), .val (.int r8), .val (.int (0 : Int32))] [(.int G), (.int F), (.ref a3)]))
      refine own_callS H8 hx hZ (y := (⟨"com/example/perekaz/perekaz/TextLines", "isUtf8", "([BII)Z"⟩ : MethodName)) hown (hw _ (List.mem_of_getElem? (i := 5) rfl)) (hw _ (List.mem_of_getElem? (i := 6) rfl)) (hw _ (List.mem_of_getElem? (i := 7) rfl)) (hw _ (List.mem_of_getElem? (i := 8) rfl)) (by decide) (rmUtf l Z a0 hw a3 B F G f t hj n0 AB qf qt hft ht) (g := (mkF m 194 #[.val (.int p1), .val (.int p2), .val (.int p3), .val (.ref a3), .val (.int F), .val (.int G), .val (.int r8), .val (.int (0 : Int32))] [(.int G), (.int F), (.ref a3)])) rfl (by rw [hml]; rfl) (argsL := [(.ref a3), (.int F), (.int G)]) (rest := []) (lenOf pd_1 rfl) rfl 0 (Nat.le_of_eq rfl) (hb hby at_194) (by decide) (by decide) (by decide) (by decide) ?_
      rintro _ T10 _ ⟨rfl, rfl⟩ H10
      show Go _ _ _ _ (T10.setTop (mkF m 197 #[.val (.int p1), .val (.int p2), .val (.int p3), .val (.ref a3), .val (.int F), .val (.int G), .val (.int r8), .val (.int (0 : Int32))] [(.int (if okk B t (t - f) f = true then 1 else 0))]))
      refine Go.via (fun t_ k_ => XS.iload H10.here hx rfl (hb hby at_197) rfl k_) ?_
      show Go _ _ _ _ (T10.setTop (mkF m 199 #[.val (.int p1), .val (.int p2), .val (.int p3), .val (.ref a3), .val (.int F), .val (.int G), .val (.int r8), .val (.int (0 : Int32))] [(.int (0 : Int32)), (.int (if okk B t (t - f) f = true then 1 else 0))]))
      refine Go.via (fun t_ k_ => XS.icmpNo H10.here hx rfl (hb hby at_199) rfl ((teq (show (if okk B t (t - f) f = true then 1 else 0) = (0 : Int32) from (by rw [own_fin, if_neg hc179]))).2) k_) ?_
      show Go _ _ _ _ (T10.setTop (mkF m 202 #[.val (.int p1), .val (.int p2), .val (.int p3), .val (.ref a3), .val (.int F), .val (.int G), .val (.int r8), .val (.int (0 : Int32))] []))
      refine Go.via (fun t_ k_ => XS.iconst H10.here hx rfl (hb hby at_202) k_) ?_
      show Go _ _ _ _ (T10.setTop (mkF m 203 #[.val (.int p1), .val (.int p2), .val (.int p3), .val (.ref a3), .val (.int F), .val (.int G), .val (.int r8), .val (.int (0 : Int32))] [(.int (1 : Int32))]))
      refine Go.via (fun t_ k_ => XS.goto H10.here hx rfl (pc0 := 203) (pc' := 207) rfl (hb hby at_203) (by decide) (by decide) k_) ?_
      show Go _ _ _ _ (T10.setTop (mkF m 207 #[.val (.int p1), .val (.int p2), .val (.int p3), .val (.ref a3), .val (.int F), .val (.int G), .val (.int r8), .val (.int (0 : Int32))] [(.int (1 : Int32))]))
      exact own_retN H10 hx hlk (by simp) hret (hb hby at_207) rfl (by decide) (by decide)
  show Go _ _ _ _ (T0.setTop (mkF m 0 #[.val (.int p1), .val (.int p2), .val (.int p3), .unset, .unset, .unset, .unset, .unset] []))
  refine Go.via (fun t_ k_ => XS.bipush H0.here hx rfl (hb hby at_0) k_) ?_
  show Go _ _ _ _ (T0.setTop (mkF m 2 #[.val (.int p1), .val (.int p2), .val (.int p3), .unset, .unset, .unset, .unset, .unset] [(.int (8 : Int32))]))
  refine own_newA H0 hx hZ (aty := .byte) (hw _ (List.mem_of_getElem? (i := 0) rfl)) (g := (mkF m 2 #[.val (.int p1), .val (.int p2), .val (.int p3), .unset, .unset, .unset, .unset, .unset] [(.int (8 : Int32))])) rfl (hb hby at_2) rfl (by decide) 8 (by decide) rfl 8 (by decide) (by decide) (by decide) (by decide) ?_
  intro T11 h11 a11 ga11 E11 B11 H11
  replace B11 : Ab Z h11 a11 .byte 8 (fun _ => 0) := B11
  have g_a11 : n0 ≤ a11 := by rw [ga11]; exact Z0
  have sz11 : n0 ≤ h11.size := Nat.le_trans Z0 E11.1
  show Go _ _ _ _ (T11.setTop (mkF m 4 #[.val (.int p1), .val (.int p2), .val (.int p3), .unset, .unset, .unset, .unset, .unset] [(.ref a11)]))
  refine Go.via (fun t_ k_ => XS.astoreN H11.here hx rfl (hb hby at_4) rfl rfl (l' := #[.val (.int p1), .val (.int p2), .val (.int p3), .val (.ref a11), .unset, .unset, .unset, .unset]) rfl k_) ?_
  show Go _ _ _ _ (T11.setTop (mkF m 5 #[.val (.int p1), .val (.int p2), .val (.int p3), .val (.ref a11), .unset, .unset, .unset, .unset] []))
  refine Go.via (fun t_ k_ => XS.aloadN H11.here hx rfl (hb hby at_5) rfl rfl k_) ?_
  show Go _ _ _ _ (T11.setTop (mkF m 6 #[.val (.int p1), .val (.int p2), .val (.int p3), .val (.ref a11), .unset, .unset, .unset, .unset] [(.ref a11)]))
  refine Go.via (fun t_ k_ => XS.iconst H11.here hx rfl (hb hby at_6) k_) ?_
  show Go _ _ _ _ (T11.setTop (mkF m 7 #[.val (.int p1), .val (.int p2), .val (.int p3), .val (.ref a11), .unset, .unset, .unset, .unset] [(.int (0 : Int32)), (.ref a11)]))
  refine Go.via (fun t_ k_ => XS.iloadN H11.here hx rfl (hb hby at_7) rfl k_) ?_
  show Go _ _ _ _ (T11.setTop (mkF m 8 #[.val (.int p1), .val (.int p2), .val (.int p3), .val (.ref a11), .unset, .unset, .unset, .unset] [(.int p1), (.int (0 : Int32)), (.ref a11)]))
  refine Go.via (fun t_ k_ => XS.i2b H11.here hx rfl (hb hby at_8) rfl k_) ?_
  show Go _ _ _ _ (T11.setTop (mkF m 9 #[.val (.int p1), .val (.int p2), .val (.int p3), .val (.ref a11), .unset, .unset, .unset, .unset] [(.int (p1.toInt8.toInt32)), (.int (0 : Int32)), (.ref a11)]))
  refine own_stBA H11 hx hZ B11 (j := 0) (by decide) (by decide) g_a11 (g := (mkF m 9 #[.val (.int p1), .val (.int p2), .val (.int p3), .val (.ref a11), .unset, .unset, .unset, .unset] [(.int (p1.toInt8.toInt32)), (.int (0 : Int32)), (.ref a11)])) rfl rfl (hb hby at_9) ?_
  intro T12 h12 W12 B12 H12
  have sz12 : n0 ≤ h12.size := Nat.le_trans sz11 (Keep.of_wr W12).1
  show Go _ _ _ _ (T12.setTop (mkF m 10 #[.val (.int p1), .val (.int p2), .val (.int p3), .val (.ref a11), .unset, .unset, .unset, .unset] []))
  refine Go.via (fun t_ k_ => XS.aloadN H12.here hx rfl (hb hby at_10) rfl rfl k_) ?_
  show Go _ _ _ _ (T12.setTop (mkF m 11 #[.val (.int p1), .val (.int p2), .val (.int p3), .val (.ref a11), .unset, .unset, .unset, .unset] [(.ref a11)]))
  refine Go.via (fun t_ k_ => XS.iconst H12.here hx rfl (hb hby at_11) k_) ?_
  show Go _ _ _ _ (T12.setTop (mkF m 12 #[.val (.int p1), .val (.int p2), .val (.int p3), .val (.ref a11), .unset, .unset, .unset, .unset] [(.int (1 : Int32)), (.ref a11)]))
  refine Go.via (fun t_ k_ => XS.iloadN H12.here hx rfl (hb hby at_12) rfl k_) ?_
  show Go _ _ _ _ (T12.setTop (mkF m 13 #[.val (.int p1), .val (.int p2), .val (.int p3), .val (.ref a11), .unset, .unset, .unset, .unset] [(.int p1), (.int (1 : Int32)), (.ref a11)]))
  refine Go.via (fun t_ k_ => XS.bipush H12.here hx rfl (hb hby at_13) k_) ?_
  show Go _ _ _ _ (T12.setTop (mkF m 15 #[.val (.int p1), .val (.int p2), .val (.int p3), .val (.ref a11), .unset, .unset, .unset, .unset] [(.int (8 : Int32)), (.int p1), (.int (1 : Int32)), (.ref a11)]))
  refine Go.via (fun t_ k_ => XS.iushr H12.here hx rfl (hb hby at_15) rfl k_) ?_
  show Go _ _ _ _ (T12.setTop (mkF m 16 #[.val (.int p1), .val (.int p2), .val (.int p3), .val (.ref a11), .unset, .unset, .unset, .unset] [(.int ((p1.toUInt32 >>> ((8 : Int32) &&& 31).toUInt32).toInt32)), (.int (1 : Int32)), (.ref a11)]))
  refine Go.via (fun t_ k_ => XS.i2b H12.here hx rfl (hb hby at_16) rfl k_) ?_
  show Go _ _ _ _ (T12.setTop (mkF m 17 #[.val (.int p1), .val (.int p2), .val (.int p3), .val (.ref a11), .unset, .unset, .unset, .unset] [(.int (((p1.toUInt32 >>> ((8 : Int32) &&& 31).toUInt32).toInt32).toInt8.toInt32)), (.int (1 : Int32)), (.ref a11)]))
  refine own_stBA H12 hx hZ B12 (j := 1) (by decide) (by decide) g_a11 (g := (mkF m 17 #[.val (.int p1), .val (.int p2), .val (.int p3), .val (.ref a11), .unset, .unset, .unset, .unset] [(.int (((p1.toUInt32 >>> ((8 : Int32) &&& 31).toUInt32).toInt32).toInt8.toInt32)), (.int (1 : Int32)), (.ref a11)])) rfl rfl (hb hby at_17) ?_
  intro T13 h13 W13 B13 H13
  have sz13 : n0 ≤ h13.size := Nat.le_trans sz12 (Keep.of_wr W13).1
  show Go _ _ _ _ (T13.setTop (mkF m 18 #[.val (.int p1), .val (.int p2), .val (.int p3), .val (.ref a11), .unset, .unset, .unset, .unset] []))
  refine Go.via (fun t_ k_ => XS.aloadN H13.here hx rfl (hb hby at_18) rfl rfl k_) ?_
  show Go _ _ _ _ (T13.setTop (mkF m 19 #[.val (.int p1), .val (.int p2), .val (.int p3), .val (.ref a11), .unset, .unset, .unset, .unset] [(.ref a11)]))
  refine Go.via (fun t_ k_ => XS.iconst H13.here hx rfl (hb hby at_19) k_) ?_
  show Go _ _ _ _ (T13.setTop (mkF m 20 #[.val (.int p1), .val (.int p2), .val (.int p3), .val (.ref a11), .unset, .unset, .unset, .unset] [(.int (2 : Int32)), (.ref a11)]))
  refine Go.via (fun t_ k_ => XS.iloadN H13.here hx rfl (hb hby at_20) rfl k_) ?_
  show Go _ _ _ _ (T13.setTop (mkF m 21 #[.val (.int p1), .val (.int p2), .val (.int p3), .val (.ref a11), .unset, .unset, .unset, .unset] [(.int p1), (.int (2 : Int32)), (.ref a11)]))
  refine Go.via (fun t_ k_ => XS.bipush H13.here hx rfl (hb hby at_21) k_) ?_
  show Go _ _ _ _ (T13.setTop (mkF m 23 #[.val (.int p1), .val (.int p2), .val (.int p3), .val (.ref a11), .unset, .unset, .unset, .unset] [(.int (16 : Int32)), (.int p1), (.int (2 : Int32)), (.ref a11)]))
  refine Go.via (fun t_ k_ => XS.iushr H13.here hx rfl (hb hby at_23) rfl k_) ?_
  show Go _ _ _ _ (T13.setTop (mkF m 24 #[.val (.int p1), .val (.int p2), .val (.int p3), .val (.ref a11), .unset, .unset, .unset, .unset] [(.int ((p1.toUInt32 >>> ((16 : Int32) &&& 31).toUInt32).toInt32)), (.int (2 : Int32)), (.ref a11)]))
  refine Go.via (fun t_ k_ => XS.i2b H13.here hx rfl (hb hby at_24) rfl k_) ?_
  show Go _ _ _ _ (T13.setTop (mkF m 25 #[.val (.int p1), .val (.int p2), .val (.int p3), .val (.ref a11), .unset, .unset, .unset, .unset] [(.int (((p1.toUInt32 >>> ((16 : Int32) &&& 31).toUInt32).toInt32).toInt8.toInt32)), (.int (2 : Int32)), (.ref a11)]))
  refine own_stBA H13 hx hZ B13 (j := 2) (by decide) (by decide) g_a11 (g := (mkF m 25 #[.val (.int p1), .val (.int p2), .val (.int p3), .val (.ref a11), .unset, .unset, .unset, .unset] [(.int (((p1.toUInt32 >>> ((16 : Int32) &&& 31).toUInt32).toInt32).toInt8.toInt32)), (.int (2 : Int32)), (.ref a11)])) rfl rfl (hb hby at_25) ?_
  intro T14 h14 W14 B14 H14
  have sz14 : n0 ≤ h14.size := Nat.le_trans sz13 (Keep.of_wr W14).1
  show Go _ _ _ _ (T14.setTop (mkF m 26 #[.val (.int p1), .val (.int p2), .val (.int p3), .val (.ref a11), .unset, .unset, .unset, .unset] []))
  refine Go.via (fun t_ k_ => XS.aloadN H14.here hx rfl (hb hby at_26) rfl rfl k_) ?_
  show Go _ _ _ _ (T14.setTop (mkF m 27 #[.val (.int p1), .val (.int p2), .val (.int p3), .val (.ref a11), .unset, .unset, .unset, .unset] [(.ref a11)]))
  refine Go.via (fun t_ k_ => XS.iconst H14.here hx rfl (hb hby at_27) k_) ?_
  show Go _ _ _ _ (T14.setTop (mkF m 28 #[.val (.int p1), .val (.int p2), .val (.int p3), .val (.ref a11), .unset, .unset, .unset, .unset] [(.int (3 : Int32)), (.ref a11)]))
  refine Go.via (fun t_ k_ => XS.iloadN H14.here hx rfl (hb hby at_28) rfl k_) ?_
  show Go _ _ _ _ (T14.setTop (mkF m 29 #[.val (.int p1), .val (.int p2), .val (.int p3), .val (.ref a11), .unset, .unset, .unset, .unset] [(.int p1), (.int (3 : Int32)), (.ref a11)]))
  refine Go.via (fun t_ k_ => XS.bipush H14.here hx rfl (hb hby at_29) k_) ?_
  show Go _ _ _ _ (T14.setTop (mkF m 31 #[.val (.int p1), .val (.int p2), .val (.int p3), .val (.ref a11), .unset, .unset, .unset, .unset] [(.int (24 : Int32)), (.int p1), (.int (3 : Int32)), (.ref a11)]))
  refine Go.via (fun t_ k_ => XS.iushr H14.here hx rfl (hb hby at_31) rfl k_) ?_
  show Go _ _ _ _ (T14.setTop (mkF m 32 #[.val (.int p1), .val (.int p2), .val (.int p3), .val (.ref a11), .unset, .unset, .unset, .unset] [(.int ((p1.toUInt32 >>> ((24 : Int32) &&& 31).toUInt32).toInt32)), (.int (3 : Int32)), (.ref a11)]))
  refine Go.via (fun t_ k_ => XS.i2b H14.here hx rfl (hb hby at_32) rfl k_) ?_
  show Go _ _ _ _ (T14.setTop (mkF m 33 #[.val (.int p1), .val (.int p2), .val (.int p3), .val (.ref a11), .unset, .unset, .unset, .unset] [(.int (((p1.toUInt32 >>> ((24 : Int32) &&& 31).toUInt32).toInt32).toInt8.toInt32)), (.int (3 : Int32)), (.ref a11)]))
  refine own_stBA H14 hx hZ B14 (j := 3) (by decide) (by decide) g_a11 (g := (mkF m 33 #[.val (.int p1), .val (.int p2), .val (.int p3), .val (.ref a11), .unset, .unset, .unset, .unset] [(.int (((p1.toUInt32 >>> ((24 : Int32) &&& 31).toUInt32).toInt32).toInt8.toInt32)), (.int (3 : Int32)), (.ref a11)])) rfl rfl (hb hby at_33) ?_
  intro T15 h15 W15 B15 H15
  have sz15 : n0 ≤ h15.size := Nat.le_trans sz14 (Keep.of_wr W15).1
  show Go _ _ _ _ (T15.setTop (mkF m 34 #[.val (.int p1), .val (.int p2), .val (.int p3), .val (.ref a11), .unset, .unset, .unset, .unset] []))
  refine Go.via (fun t_ k_ => XS.aloadN H15.here hx rfl (hb hby at_34) rfl rfl k_) ?_
  show Go _ _ _ _ (T15.setTop (mkF m 35 #[.val (.int p1), .val (.int p2), .val (.int p3), .val (.ref a11), .unset, .unset, .unset, .unset] [(.ref a11)]))
  refine Go.via (fun t_ k_ => XS.iconst H15.here hx rfl (hb hby at_35) k_) ?_
  show Go _ _ _ _ (T15.setTop (mkF m 36 #[.val (.int p1), .val (.int p2), .val (.int p3), .val (.ref a11), .unset, .unset, .unset, .unset] [(.int (4 : Int32)), (.ref a11)]))
  refine Go.via (fun t_ k_ => XS.iloadN H15.here hx rfl (hb hby at_36) rfl k_) ?_
  show Go _ _ _ _ (T15.setTop (mkF m 37 #[.val (.int p1), .val (.int p2), .val (.int p3), .val (.ref a11), .unset, .unset, .unset, .unset] [(.int p2), (.int (4 : Int32)), (.ref a11)]))
  refine Go.via (fun t_ k_ => XS.i2b H15.here hx rfl (hb hby at_37) rfl k_) ?_
  show Go _ _ _ _ (T15.setTop (mkF m 38 #[.val (.int p1), .val (.int p2), .val (.int p3), .val (.ref a11), .unset, .unset, .unset, .unset] [(.int (p2.toInt8.toInt32)), (.int (4 : Int32)), (.ref a11)]))
  refine own_stBA H15 hx hZ B15 (j := 4) (by decide) (by decide) g_a11 (g := (mkF m 38 #[.val (.int p1), .val (.int p2), .val (.int p3), .val (.ref a11), .unset, .unset, .unset, .unset] [(.int (p2.toInt8.toInt32)), (.int (4 : Int32)), (.ref a11)])) rfl rfl (hb hby at_38) ?_
  intro T16 h16 W16 B16 H16
  have sz16 : n0 ≤ h16.size := Nat.le_trans sz15 (Keep.of_wr W16).1
  show Go _ _ _ _ (T16.setTop (mkF m 39 #[.val (.int p1), .val (.int p2), .val (.int p3), .val (.ref a11), .unset, .unset, .unset, .unset] []))
  refine Go.via (fun t_ k_ => XS.aloadN H16.here hx rfl (hb hby at_39) rfl rfl k_) ?_
  show Go _ _ _ _ (T16.setTop (mkF m 40 #[.val (.int p1), .val (.int p2), .val (.int p3), .val (.ref a11), .unset, .unset, .unset, .unset] [(.ref a11)]))
  refine Go.via (fun t_ k_ => XS.iconst H16.here hx rfl (hb hby at_40) k_) ?_
  show Go _ _ _ _ (T16.setTop (mkF m 41 #[.val (.int p1), .val (.int p2), .val (.int p3), .val (.ref a11), .unset, .unset, .unset, .unset] [(.int (5 : Int32)), (.ref a11)]))
  refine Go.via (fun t_ k_ => XS.iloadN H16.here hx rfl (hb hby at_41) rfl k_) ?_
  show Go _ _ _ _ (T16.setTop (mkF m 42 #[.val (.int p1), .val (.int p2), .val (.int p3), .val (.ref a11), .unset, .unset, .unset, .unset] [(.int p2), (.int (5 : Int32)), (.ref a11)]))
  refine Go.via (fun t_ k_ => XS.bipush H16.here hx rfl (hb hby at_42) k_) ?_
  show Go _ _ _ _ (T16.setTop (mkF m 44 #[.val (.int p1), .val (.int p2), .val (.int p3), .val (.ref a11), .unset, .unset, .unset, .unset] [(.int (8 : Int32)), (.int p2), (.int (5 : Int32)), (.ref a11)]))
  refine Go.via (fun t_ k_ => XS.iushr H16.here hx rfl (hb hby at_44) rfl k_) ?_
  show Go _ _ _ _ (T16.setTop (mkF m 45 #[.val (.int p1), .val (.int p2), .val (.int p3), .val (.ref a11), .unset, .unset, .unset, .unset] [(.int ((p2.toUInt32 >>> ((8 : Int32) &&& 31).toUInt32).toInt32)), (.int (5 : Int32)), (.ref a11)]))
  refine Go.via (fun t_ k_ => XS.i2b H16.here hx rfl (hb hby at_45) rfl k_) ?_
  show Go _ _ _ _ (T16.setTop (mkF m 46 #[.val (.int p1), .val (.int p2), .val (.int p3), .val (.ref a11), .unset, .unset, .unset, .unset] [(.int (((p2.toUInt32 >>> ((8 : Int32) &&& 31).toUInt32).toInt32).toInt8.toInt32)), (.int (5 : Int32)), (.ref a11)]))
  refine own_stBA H16 hx hZ B16 (j := 5) (by decide) (by decide) g_a11 (g := (mkF m 46 #[.val (.int p1), .val (.int p2), .val (.int p3), .val (.ref a11), .unset, .unset, .unset, .unset] [(.int (((p2.toUInt32 >>> ((8 : Int32) &&& 31).toUInt32).toInt32).toInt8.toInt32)), (.int (5 : Int32)), (.ref a11)])) rfl rfl (hb hby at_46) ?_
  intro T17 h17 W17 B17 H17
  have sz17 : n0 ≤ h17.size := Nat.le_trans sz16 (Keep.of_wr W17).1
  show Go _ _ _ _ (T17.setTop (mkF m 47 #[.val (.int p1), .val (.int p2), .val (.int p3), .val (.ref a11), .unset, .unset, .unset, .unset] []))
  refine Go.via (fun t_ k_ => XS.aloadN H17.here hx rfl (hb hby at_47) rfl rfl k_) ?_
  show Go _ _ _ _ (T17.setTop (mkF m 48 #[.val (.int p1), .val (.int p2), .val (.int p3), .val (.ref a11), .unset, .unset, .unset, .unset] [(.ref a11)]))
  refine Go.via (fun t_ k_ => XS.bipush H17.here hx rfl (hb hby at_48) k_) ?_
  show Go _ _ _ _ (T17.setTop (mkF m 50 #[.val (.int p1), .val (.int p2), .val (.int p3), .val (.ref a11), .unset, .unset, .unset, .unset] [(.int (6 : Int32)), (.ref a11)]))
  refine Go.via (fun t_ k_ => XS.iloadN H17.here hx rfl (hb hby at_50) rfl k_) ?_
  show Go _ _ _ _ (T17.setTop (mkF m 51 #[.val (.int p1), .val (.int p2), .val (.int p3), .val (.ref a11), .unset, .unset, .unset, .unset] [(.int p2), (.int (6 : Int32)), (.ref a11)]))
  refine Go.via (fun t_ k_ => XS.bipush H17.here hx rfl (hb hby at_51) k_) ?_
  show Go _ _ _ _ (T17.setTop (mkF m 53 #[.val (.int p1), .val (.int p2), .val (.int p3), .val (.ref a11), .unset, .unset, .unset, .unset] [(.int (16 : Int32)), (.int p2), (.int (6 : Int32)), (.ref a11)]))
  refine Go.via (fun t_ k_ => XS.iushr H17.here hx rfl (hb hby at_53) rfl k_) ?_
  show Go _ _ _ _ (T17.setTop (mkF m 54 #[.val (.int p1), .val (.int p2), .val (.int p3), .val (.ref a11), .unset, .unset, .unset, .unset] [(.int ((p2.toUInt32 >>> ((16 : Int32) &&& 31).toUInt32).toInt32)), (.int (6 : Int32)), (.ref a11)]))
  refine Go.via (fun t_ k_ => XS.i2b H17.here hx rfl (hb hby at_54) rfl k_) ?_
  show Go _ _ _ _ (T17.setTop (mkF m 55 #[.val (.int p1), .val (.int p2), .val (.int p3), .val (.ref a11), .unset, .unset, .unset, .unset] [(.int (((p2.toUInt32 >>> ((16 : Int32) &&& 31).toUInt32).toInt32).toInt8.toInt32)), (.int (6 : Int32)), (.ref a11)]))
  refine own_stBA H17 hx hZ B17 (j := 6) (by decide) (by decide) g_a11 (g := (mkF m 55 #[.val (.int p1), .val (.int p2), .val (.int p3), .val (.ref a11), .unset, .unset, .unset, .unset] [(.int (((p2.toUInt32 >>> ((16 : Int32) &&& 31).toUInt32).toInt32).toInt8.toInt32)), (.int (6 : Int32)), (.ref a11)])) rfl rfl (hb hby at_55) ?_
  intro T18 h18 W18 B18 H18
  have sz18 : n0 ≤ h18.size := Nat.le_trans sz17 (Keep.of_wr W18).1
  show Go _ _ _ _ (T18.setTop (mkF m 56 #[.val (.int p1), .val (.int p2), .val (.int p3), .val (.ref a11), .unset, .unset, .unset, .unset] []))
  refine Go.via (fun t_ k_ => XS.aloadN H18.here hx rfl (hb hby at_56) rfl rfl k_) ?_
  show Go _ _ _ _ (T18.setTop (mkF m 57 #[.val (.int p1), .val (.int p2), .val (.int p3), .val (.ref a11), .unset, .unset, .unset, .unset] [(.ref a11)]))
  refine Go.via (fun t_ k_ => XS.bipush H18.here hx rfl (hb hby at_57) k_) ?_
  show Go _ _ _ _ (T18.setTop (mkF m 59 #[.val (.int p1), .val (.int p2), .val (.int p3), .val (.ref a11), .unset, .unset, .unset, .unset] [(.int (7 : Int32)), (.ref a11)]))
  refine Go.via (fun t_ k_ => XS.iloadN H18.here hx rfl (hb hby at_59) rfl k_) ?_
  show Go _ _ _ _ (T18.setTop (mkF m 60 #[.val (.int p1), .val (.int p2), .val (.int p3), .val (.ref a11), .unset, .unset, .unset, .unset] [(.int p2), (.int (7 : Int32)), (.ref a11)]))
  refine Go.via (fun t_ k_ => XS.bipush H18.here hx rfl (hb hby at_60) k_) ?_
  show Go _ _ _ _ (T18.setTop (mkF m 62 #[.val (.int p1), .val (.int p2), .val (.int p3), .val (.ref a11), .unset, .unset, .unset, .unset] [(.int (24 : Int32)), (.int p2), (.int (7 : Int32)), (.ref a11)]))
  refine Go.via (fun t_ k_ => XS.iushr H18.here hx rfl (hb hby at_62) rfl k_) ?_
  show Go _ _ _ _ (T18.setTop (mkF m 63 #[.val (.int p1), .val (.int p2), .val (.int p3), .val (.ref a11), .unset, .unset, .unset, .unset] [(.int ((p2.toUInt32 >>> ((24 : Int32) &&& 31).toUInt32).toInt32)), (.int (7 : Int32)), (.ref a11)]))
  refine Go.via (fun t_ k_ => XS.i2b H18.here hx rfl (hb hby at_63) rfl k_) ?_
  show Go _ _ _ _ (T18.setTop (mkF m 64 #[.val (.int p1), .val (.int p2), .val (.int p3), .val (.ref a11), .unset, .unset, .unset, .unset] [(.int (((p2.toUInt32 >>> ((24 : Int32) &&& 31).toUInt32).toInt32).toInt8.toInt32)), (.int (7 : Int32)), (.ref a11)]))
  refine own_stBA H18 hx hZ B18 (j := 7) (by decide) (by decide) g_a11 (g := (mkF m 64 #[.val (.int p1), .val (.int p2), .val (.int p3), .val (.ref a11), .unset, .unset, .unset, .unset] [(.int (((p2.toUInt32 >>> ((24 : Int32) &&& 31).toUInt32).toInt32).toInt8.toInt32)), (.int (7 : Int32)), (.ref a11)])) rfl rfl (hb hby at_64) ?_
  intro T19 h19 W19 B19 H19
  have sz19 : n0 ≤ h19.size := Nat.le_trans sz18 (Keep.of_wr W19).1
  show Go _ _ _ _ (T19.setTop (mkF m 65 #[.val (.int p1), .val (.int p2), .val (.int p3), .val (.ref a11), .unset, .unset, .unset, .unset] []))
  obtain ⟨f, qf, hf8⟩ := own_from p3
  refine Go.via (fun t_ k_ => XS.iloadN H19.here hx rfl (hb hby at_65) rfl k_) ?_
  show Go _ _ _ _ (T19.setTop (mkF m 66 #[.val (.int p1), .val (.int p2), .val (.int p3), .val (.ref a11), .unset, .unset, .unset, .unset] [(.int p3)]))
  refine Go.via (fun t_ k_ => XS.bipush H19.here hx rfl (hb hby at_66) k_) ?_
  show Go _ _ _ _ (T19.setTop (mkF m 68 #[.val (.int p1), .val (.int p2), .val (.int p3), .val (.ref a11), .unset, .unset, .unset, .unset] [(.int (15 : Int32)), (.int p3)]))
  refine Go.via (fun t_ k_ => XS.iand H19.here hx rfl (hb hby at_68) rfl k_) ?_
  show Go _ _ _ _ (T19.setTop (mkF m 69 #[.val (.int p1), .val (.int p2), .val (.int p3), .val (.ref a11), .unset, .unset, .unset, .unset] [(.int (p3 &&& (15 : Int32)))]))
  refine Go.via (fun t_ k_ => XS.bipush H19.here hx rfl (hb hby at_69) k_) ?_
  show Go _ _ _ _ (T19.setTop (mkF m 71 #[.val (.int p1), .val (.int p2), .val (.int p3), .val (.ref a11), .unset, .unset, .unset, .unset] [(.int (9 : Int32)), (.int (p3 &&& (15 : Int32)))]))
  obtain ⟨lcs20, X20, -, -⟩ := H19.stand
  refine Go.via (fun t_ k_ => iremM X20 hx rfl (hb hby at_71) rfl (by decide) k_) ?_
  show Go _ _ _ _ (T19.setTop (mkF m 72 #[.val (.int p1), .val (.int p2), .val (.int p3), .val (.ref a11), .unset, .unset, .unset, .unset] [(.int ((p3 &&& (15 : Int32)) % (9 : Int32)))]))
  refine Go.via (fun t_ k_ => XS.istore H19.here hx rfl (hb hby at_72) rfl (l' := #[.val (.int p1), .val (.int p2), .val (.int p3), .val (.ref a11), .val (.int ((p3 &&& (15 : Int32)) % (9 : Int32))), .unset, .unset, .unset]) rfl k_) ?_
  show Go _ _ _ _ (T19.setTop (mkF m 74 #[.val (.int p1), .val (.int p2), .val (.int p3), .val (.ref a11), .val (.int ((p3 &&& (15 : Int32)) % (9 : Int32))), .unset, .unset, .unset] []))
  refine Go.via (fun t_ k_ => XS.iload H19.here hx rfl (hb hby at_74) rfl k_) ?_
  show Go _ _ _ _ (T19.setTop (mkF m 76 #[.val (.int p1), .val (.int p2), .val (.int p3), .val (.ref a11), .val (.int ((p3 &&& (15 : Int32)) % (9 : Int32))), .unset, .unset, .unset] [(.int ((p3 &&& (15 : Int32)) % (9 : Int32)))]))
  refine Go.via (fun t_ k_ => XS.iloadN H19.here hx rfl (hb hby at_76) rfl k_) ?_
  show Go _ _ _ _ (T19.setTop (mkF m 77 #[.val (.int p1), .val (.int p2), .val (.int p3), .val (.ref a11), .val (.int ((p3 &&& (15 : Int32)) % (9 : Int32))), .unset, .unset, .unset] [(.int p3), (.int ((p3 &&& (15 : Int32)) % (9 : Int32)))]))
  refine Go.via (fun t_ k_ => XS.iconst H19.here hx rfl (hb hby at_77) k_) ?_
  show Go _ _ _ _ (T19.setTop (mkF m 78 #[.val (.int p1), .val (.int p2), .val (.int p3), .val (.ref a11), .val (.int ((p3 &&& (15 : Int32)) % (9 : Int32))), .unset, .unset, .unset] [(.int (4 : Int32)), (.int p3), (.int ((p3 &&& (15 : Int32)) % (9 : Int32)))]))
  refine Go.via (fun t_ k_ => XS.iushr H19.here hx rfl (hb hby at_78) rfl k_) ?_
  show Go _ _ _ _ (T19.setTop (mkF m 79 #[.val (.int p1), .val (.int p2), .val (.int p3), .val (.ref a11), .val (.int ((p3 &&& (15 : Int32)) % (9 : Int32))), .unset, .unset, .unset] [(.int ((p3.toUInt32 >>> ((4 : Int32) &&& 31).toUInt32).toInt32)), (.int ((p3 &&& (15 : Int32)) % (9 : Int32)))]))
  refine Go.via (fun t_ k_ => XS.bipush H19.here hx rfl (hb hby at_79) k_) ?_
  show Go _ _ _ _ (T19.setTop (mkF m 81 #[.val (.int p1), .val (.int p2), .val (.int p3), .val (.ref a11), .val (.int ((p3 &&& (15 : Int32)) % (9 : Int32))), .unset, .unset, .unset] [(.int (15 : Int32)), (.int ((p3.toUInt32 >>> ((4 : Int32) &&& 31).toUInt32).toInt32)), (.int ((p3 &&& (15 : Int32)) % (9 : Int32)))]))
  refine Go.via (fun t_ k_ => XS.iand H19.here hx rfl (hb hby at_81) rfl k_) ?_
  show Go _ _ _ _ (T19.setTop (mkF m 82 #[.val (.int p1), .val (.int p2), .val (.int p3), .val (.ref a11), .val (.int ((p3 &&& (15 : Int32)) % (9 : Int32))), .unset, .unset, .unset] [(.int (((p3.toUInt32 >>> ((4 : Int32) &&& 31).toUInt32).toInt32) &&& (15 : Int32))), (.int ((p3 &&& (15 : Int32)) % (9 : Int32)))]))
  refine Go.via (fun t_ k_ => XS.bipush H19.here hx rfl (hb hby at_82) k_) ?_
  show Go _ _ _ _ (T19.setTop (mkF m 84 #[.val (.int p1), .val (.int p2), .val (.int p3), .val (.ref a11), .val (.int ((p3 &&& (15 : Int32)) % (9 : Int32))), .unset, .unset, .unset] [(.int (9 : Int32)), (.int (((p3.toUInt32 >>> ((4 : Int32) &&& 31).toUInt32).toInt32) &&& (15 : Int32))), (.int ((p3 &&& (15 : Int32)) % (9 : Int32)))]))
  refine Go.via (fun t_ k_ => XS.iload H19.here hx rfl (hb hby at_84) rfl k_) ?_
  show Go _ _ _ _ (T19.setTop (mkF m 86 #[.val (.int p1), .val (.int p2), .val (.int p3), .val (.ref a11), .val (.int ((p3 &&& (15 : Int32)) % (9 : Int32))), .unset, .unset, .unset] [(.int ((p3 &&& (15 : Int32)) % (9 : Int32))), (.int (9 : Int32)), (.int (((p3.toUInt32 >>> ((4 : Int32) &&& 31).toUInt32).toInt32) &&& (15 : Int32))), (.int ((p3 &&& (15 : Int32)) % (9 : Int32)))]))
  refine Go.via (fun t_ k_ => XS.isub H19.here hx rfl (hb hby at_86) rfl k_) ?_
  show Go _ _ _ _ (T19.setTop (mkF m 87 #[.val (.int p1), .val (.int p2), .val (.int p3), .val (.ref a11), .val (.int ((p3 &&& (15 : Int32)) % (9 : Int32))), .unset, .unset, .unset] [(.int ((9 : Int32) - ((p3 &&& (15 : Int32)) % (9 : Int32)))), (.int (((p3.toUInt32 >>> ((4 : Int32) &&& 31).toUInt32).toInt32) &&& (15 : Int32))), (.int ((p3 &&& (15 : Int32)) % (9 : Int32)))]))
  obtain ⟨lcs21, X21, -, -⟩ := H19.stand
  refine Go.via (fun t_ k_ => iremM X21 hx rfl (hb hby at_87) rfl (own_nine qf hf8) k_) ?_
  show Go _ _ _ _ (T19.setTop (mkF m 88 #[.val (.int p1), .val (.int p2), .val (.int p3), .val (.ref a11), .val (.int ((p3 &&& (15 : Int32)) % (9 : Int32))), .unset, .unset, .unset] [(.int ((((p3.toUInt32 >>> ((4 : Int32) &&& 31).toUInt32).toInt32) &&& (15 : Int32)) % ((9 : Int32) - ((p3 &&& (15 : Int32)) % (9 : Int32))))), (.int ((p3 &&& (15 : Int32)) % (9 : Int32)))]))
  refine Go.via (fun t_ k_ => XS.iadd H19.here hx rfl (hb hby at_88) rfl k_) ?_
  show Go _ _ _ _ (T19.setTop (mkF m 89 #[.val (.int p1), .val (.int p2), .val (.int p3), .val (.ref a11), .val (.int ((p3 &&& (15 : Int32)) % (9 : Int32))), .unset, .unset, .unset] [(.int (((p3 &&& (15 : Int32)) % (9 : Int32)) + ((((p3.toUInt32 >>> ((4 : Int32) &&& 31).toUInt32).toInt32) &&& (15 : Int32)) % ((9 : Int32) - ((p3 &&& (15 : Int32)) % (9 : Int32))))))]))
  refine Go.via (fun t_ k_ => XS.istore H19.here hx rfl (hb hby at_89) rfl (l' := #[.val (.int p1), .val (.int p2), .val (.int p3), .val (.ref a11), .val (.int ((p3 &&& (15 : Int32)) % (9 : Int32))), .val (.int (((p3 &&& (15 : Int32)) % (9 : Int32)) + ((((p3.toUInt32 >>> ((4 : Int32) &&& 31).toUInt32).toInt32) &&& (15 : Int32)) % ((9 : Int32) - ((p3 &&& (15 : Int32)) % (9 : Int32)))))), .unset, .unset]) rfl k_) ?_
  show Go _ _ _ _ (T19.setTop (mkF m 91 #[.val (.int p1), .val (.int p2), .val (.int p3), .val (.ref a11), .val (.int ((p3 &&& (15 : Int32)) % (9 : Int32))), .val (.int (((p3 &&& (15 : Int32)) % (9 : Int32)) + ((((p3.toUInt32 >>> ((4 : Int32) &&& 31).toUInt32).toInt32) &&& (15 : Int32)) % ((9 : Int32) - ((p3 &&& (15 : Int32)) % (9 : Int32)))))), .unset, .unset] []))
  refine Go.via (fun t_ k_ => XS.iload H19.here hx rfl (hb hby at_91) rfl k_) ?_
  show Go _ _ _ _ (T19.setTop (mkF m 93 #[.val (.int p1), .val (.int p2), .val (.int p3), .val (.ref a11), .val (.int ((p3 &&& (15 : Int32)) % (9 : Int32))), .val (.int (((p3 &&& (15 : Int32)) % (9 : Int32)) + ((((p3.toUInt32 >>> ((4 : Int32) &&& 31).toUInt32).toInt32) &&& (15 : Int32)) % ((9 : Int32) - ((p3 &&& (15 : Int32)) % (9 : Int32)))))), .unset, .unset] [(.int ((p3 &&& (15 : Int32)) % (9 : Int32)))]))
  refine Go.via (fun t_ k_ => XS.istore H19.here hx rfl (hb hby at_93) rfl (l' := #[.val (.int p1), .val (.int p2), .val (.int p3), .val (.ref a11), .val (.int ((p3 &&& (15 : Int32)) % (9 : Int32))), .val (.int (((p3 &&& (15 : Int32)) % (9 : Int32)) + ((((p3.toUInt32 >>> ((4 : Int32) &&& 31).toUInt32).toInt32) &&& (15 : Int32)) % ((9 : Int32) - ((p3 &&& (15 : Int32)) % (9 : Int32)))))), .val (.int ((p3 &&& (15 : Int32)) % (9 : Int32))), .unset]) rfl k_) ?_
  show Go _ _ _ _ (T19.setTop (mkF m 95 #[.val (.int p1), .val (.int p2), .val (.int p3), .val (.ref a11), .val (.int ((p3 &&& (15 : Int32)) % (9 : Int32))), .val (.int (((p3 &&& (15 : Int32)) % (9 : Int32)) + ((((p3.toUInt32 >>> ((4 : Int32) &&& 31).toUInt32).toInt32) &&& (15 : Int32)) % ((9 : Int32) - ((p3 &&& (15 : Int32)) % (9 : Int32)))))), .val (.int ((p3 &&& (15 : Int32)) % (9 : Int32))), .unset] []))
  obtain ⟨t, qt, hft, ht⟩ := own_to qf hf8 (own_m15 ((p3.toUInt32 >>> ((4 : Int32) &&& 31).toUInt32).toInt32))
  exact J95 T19 h19 a11 _ _ _ f t H19 B19 qf qt hft ht
set_option maxRecDepth 65536 in
set_option maxHeartbeats 40000000 in
theorem comes_1 {Post : Tables → Env → Array Value → State → Outcome → State → Prop} (hpost : ∀ tb e args s v u, (limb_1_1.after args s (.returned v) u = true ∧ limb_1_2.after args s (.returned v) u = true ∧ True) → FrameEnd s (.returned v) u (Jvm.fieldLocs frame_1_writes args s ++ Jvm.arrayLocs frame_1_arrays args s ++ Jvm.staticLocs frame_1_statics s) 16 128 → Post tb e args s (.returned v) u) :
    ArmFor flags0 classFile x code maxLocals ret World_1 tables_1 room_1 Calls_1 rest_1 Pre_1 Post := by
  intro l hfl _ _ p e ha hc hk s m args below hf hA hF happ hP
  obtain ⟨hcalls, hrest, hpre⟩ := hP
  obtain ⟨-, -, -, hnamed, -, -, -, hat⟩ := (Spec.applies_iff hf).mp happ
  obtain ⟨hg, hn⟩ := and_e (Cond.before_iff.mp (show (Jvm.Cond.and given_1 narrow_1).before args s = true from hpre))
  obtain ⟨g0, g1⟩ := and_e hg
  obtain ⟨i0, r0⟩ := and_e g1
  obtain ⟨i1, r1⟩ := and_e r0
  obtain ⟨w0, w1, w2, rfl⟩ : ∃ w0 w1 w2 : Value, args = #[w0, w1, w2] := by
    have hs : args.size = 3 := by simpa [Cond.value, given_1] using g0
    obtain ⟨L⟩ := args
    match L, hs with
    | [w0, w1, w2], _ => exact ⟨w0, w1, w2, rfl⟩
  have hw := fun d (hd : d ∈ tables_1) => atoms_spec (ws := Jvm.Cond.code x code maxLocals ret :: tables_1) hat d (List.mem_cons_of_mem _ hd)
  have hfit : Fit s := fun {y c} hc i hi => by
    obtain ⟨ha, rfl⟩ := Array.getElem?_eq_some_iff.mp hc
    have q := List.all_eq_true.mp ((Array.all_eq_true_iff_forall_mem.mp hF) _ (Array.getElem_mem ha)) i (List.mem_range.mpr hi)
    simpa [Array.getElem?_eq_getElem hi] using q
  obtain ⟨v0, e0⟩ := is_v i0
  obtain rfl : w0 = (.int v0) := Option.some.inj e0
  obtain ⟨v1, e1⟩ := is_v i1
  obtain rfl : w1 = (.int v1) := Option.some.inj e1
  obtain ⟨v2, e2⟩ := is_v r1
  obtain rfl : w2 = (.int v2) := Option.some.inj e2
  obtain ⟨n, o, h1, h2, h3, _, L, rfl, ⟨rfl, N⟩, hq⟩ := rm0 l s _ hw v0 v1 v2 s.heap s.heap.size (Nat.le_refl _) tables_1 p e ha hc hk s m _ below hf ((Spec.applies_iff_loose hf).mp happ).1 ⟨rfl, State.Warmed39.refl s, rfl⟩ trivial
  refine ⟨n, _, h1, h2, h3, hpost _ _ _ _ _ _ ⟨Cond.after_iff.mpr rfl, Cond.after_iff.mpr (eq_i res_at (Term.int_eval (1)) rfl), trivial⟩ ⟨hq.1, hq.2.1, (hq.2.2.sift fun y hy => Or.inr (N y hy)).mono (by decide) (by decide)⟩⟩
theorem main_1_1 : Claimed_1_1 := comes_1 fun _ _ _ _ _ _ h hF => ⟨h.1, hF⟩
theorem main_1_2 : Claimed_1_2 := comes_1 fun _ _ _ _ _ _ h hF => ⟨h.2.1, hF⟩
end Jvm.Pilot.@@N@@
namespace Jvm.Pilot.@@N@@
open Jvm Jvm.ClassFile Sem Op Lib Jvm.Free Jvm.Stand Jvm.Pilot.@@N@@.Jvm.D
/-! MADE BY PROGRAM (witnessworld.py) out of the Statement's table words and the real class files: 11 classes; the members and pool entries that the words name. The judged class is class 1, her method 1. -/
namespace start1
open Jvm.ClassFile
def u (s : String) : CpInfo := .utf8 (stringToUtf16 s)
/-- a pool by its gaps: so many unusable entries, then the entry; so many at the end -/
def gap : Nat → List CpInfo → List CpInfo
  | 0, r => r
  | n + 1, r => .unusable :: gap n r
def poolList (es : List (Nat × CpInfo)) (last : Nat) : List CpInfo := es.foldr (fun e r => gap e.1 (e.2 :: r)) (gap last [])
def pool (es : List (Nat × CpInfo)) (last : Nat) : Array CpInfo := ⟨poolList es last⟩
def fileOf (pool : Array CpInfo) (this : Nat) (attrs : Array Attribute := #[]) (ms : Array MethodInfo := #[]) (fl : Nat := 33) (sup : Nat := 0) (ifs : Array Nat := #[]) (fds : Array FieldInfo := #[]) : ClassFile where
  minorVersion := 0
  majorVersion := 65
  constantPool := pool
  accessFlags := fl
  thisClass := this
  superClass := sup
  interfaces := ifs
  fields := fds
  methods := ms
  attributes := attrs
def plain (name : String) (sup : Option ClassId) : Class where
  name := name
  kind := .ordinary
  loader := none
  accessFlags := 33
  super := sup
  interfaces := #[]
  cf := none
  fields := #[]
  methods := #[]
  instanceTypes := #[]
  staticTypes := #[]
  resolved := #[]
  callSites := []
  init := .initialized
  statics := none
  mirror := none

def pool0 : Array CpInfo := pool [(5, u "<init>"), (0, u "()V"), (1, .class_ 10), (1, u "java/lang/Object")] 113

def k0m0 : Method := { name := "<init>", desc := "()V", sig := { parameters := [], returnType := none }, accessFlags := 1, code := none }
/-- java/lang/Object -/
def k0 : Class := { plain "java/lang/Object" none with
  accessFlags := 33
  interfaces := #[]
  cf := some (fileOf pool0 8 #[] #[{ accessFlags := 1, nameIndex := 5, descriptorIndex := 6, attributes := #[] }] 33 0 #[] #[])
  fields := #[]
  methods := #[k0m0]
  instanceTypes := #[]
  staticTypes := #[]
  resolved := Array.replicate 124 none
  statics := none }

def pool1 : Array CpInfo := pool [(2, .class_ 4), (1, u "java/lang/Object"), (0, u "<init>"), (0, u "()V"), (0, .methodref 8 9), (0, .class_ 10), (0, .nameAndType 11 12), (0, u "com/example/perekaz/perekaz/TextLinesIsUtf8PinLaw"), (0, u "adv"), (0, u "([BII)I"), (0, .methodref 14 15), (0, .class_ 16), (0, .nameAndType 17 18), (0, u "com/example/perekaz/perekaz/TextLines"), (0, u "isUtf8"), (0, u "([BII)Z"), (0, .integer 65536), (0, .integer 1114111), (0, .integer 55296), (0, .integer 57343), (2, u "law"), (0, u "(III)Z")] 5

def k1m0 : Method := { name := "<init>", desc := "()V", sig := { parameters := [], returnType := none }, accessFlags := 1, code := none }
def k1c1 : Code := { maxStack := 4, maxLocals := 8, code := code, exceptionTable := #[], attributes := #[] }
def k1m1 : Method := { name := "law", desc := "(III)Z", sig := { parameters := [.int, .int, .int], returnType := some .boolean }, accessFlags := 9, code := some k1c1 }
def k1c2 : Code := { maxStack := 3, maxLocals := 9, code := method_3_code, exceptionTable := #[], attributes := #[] }
def k1m2 : Method := { name := "adv", desc := "([BII)I", sig := { parameters := [(.array .byte), .int, .int], returnType := some .int }, accessFlags := 10, code := some k1c2 }
/-- com/example/perekaz/perekaz/TextLinesIsUtf8PinLaw -/
def k1 : Class := { plain "com/example/perekaz/perekaz/TextLinesIsUtf8PinLaw" (some 0) with
  accessFlags := 49
  interfaces := #[]
  cf := some (fileOf pool1 8 #[] #[{ accessFlags := 1, nameIndex := 5, descriptorIndex := 6, attributes := #[] }, { accessFlags := 9, nameIndex := 25, descriptorIndex := 26, attributes := #[] }, { accessFlags := 10, nameIndex := 11, descriptorIndex := 12, attributes := #[] }] 49 2 #[] #[])
  fields := #[]
  methods := #[k1m0, k1m1, k1m2]
  instanceTypes := #[]
  staticTypes := #[]
  resolved := Array.replicate 32 none
  statics := none }

def pool2 : Array CpInfo := pool [(1, .class_ 2), (0, u "java/lang/AutoCloseable"), (0, .class_ 4), (0, u "java/lang/Object")] 7

/-- java/lang/AutoCloseable -/
def k2 : Class := { plain "java/lang/AutoCloseable" (some 0) with
  accessFlags := 1537
  interfaces := #[]
  cf := some (fileOf pool2 1 #[] #[] 1537 3 #[] #[])
  fields := #[]
  methods := #[]
  instanceTypes := #[]
  staticTypes := #[]
  resolved := Array.replicate 12 none
  statics := none }

def pool3 : Array CpInfo := pool [(1, .class_ 2), (0, u "java/io/Closeable"), (0, .class_ 4), (0, u "java/lang/Object"), (0, .class_ 6), (0, u "java/lang/AutoCloseable")] 7

/-- java/io/Closeable -/
def k3 : Class := { plain "java/io/Closeable" (some 0) with
  accessFlags := 1537
  interfaces := #[2]
  cf := some (fileOf pool3 1 #[] #[] 1537 3 #[5] #[])
  fields := #[]
  methods := #[]
  instanceTypes := #[]
  staticTypes := #[]
  resolved := Array.replicate 14 none
  statics := none }

def pool4 : Array CpInfo := pool [(2, .class_ 4), (1, u "java/lang/Object"), (3, .class_ 10), (1, u "com/example/perekaz/perekaz/TextLines"), (0, u "file"), (0, u "Ljava/nio/file/Path;"), (2, u "in"), (0, u "Ljava/nio/channels/SeekableByteChannel;"), (2, u "buffer"), (0, u "[B"), (40, u "next"), (0, u "I"), (2, u "start"), (3, u "filled"), (7, u "end"), (2, u "hash"), (5, u "plain"), (0, u "Z"), (2, u "number"), (2, u "base"), (0, u "J"), (6, u "isUtf8"), (0, u "([BII)Z"), (18, u "BYTE_ORDER_MARK"), (44, .class_ 167), (0, u "java/io/Closeable"), (0, u "BLOCK"), (2, u "SMALL_BLOCK"), (1, u "NOT_UTF_8"), (0, u "Ljava/lang/String;"), (2, u "HASH_BASIS"), (0, u "HASH_PRIME")] 19

def k4c0 : Code := { maxStack := 3, maxLocals := 10, code := prog_212_method_16_code, exceptionTable := #[], attributes := #[] }
def k4m0 : Method := { name := "isUtf8", desc := "([BII)Z", sig := { parameters := [(.array .byte), .int, .int], returnType := some .boolean }, accessFlags := 8, code := some k4c0 }
/-- com/example/perekaz/perekaz/TextLines -/
def k4 : Class := { plain "com/example/perekaz/perekaz/TextLines" (some 0) with
  accessFlags := 48
  interfaces := #[3]
  cf := some (fileOf pool4 8 #[] #[{ accessFlags := 8, nameIndex := 101, descriptorIndex := 102, attributes := #[] }] 48 2 #[166] #[{ accessFlags := 26, nameIndex := 168, descriptorIndex := 62, attributes := #[] }, { accessFlags := 26, nameIndex := 171, descriptorIndex := 62, attributes := #[] }, { accessFlags := 24, nameIndex := 121, descriptorIndex := 20, attributes := #[] }, { accessFlags := 24, nameIndex := 173, descriptorIndex := 174, attributes := #[] }, { accessFlags := 26, nameIndex := 177, descriptorIndex := 62, attributes := #[] }, { accessFlags := 26, nameIndex := 178, descriptorIndex := 62, attributes := #[] }, { accessFlags := 18, nameIndex := 11, descriptorIndex := 12, attributes := #[] }, { accessFlags := 18, nameIndex := 15, descriptorIndex := 16, attributes := #[] }, { accessFlags := 2, nameIndex := 19, descriptorIndex := 20, attributes := #[] }, { accessFlags := 2, nameIndex := 93, descriptorIndex := 94, attributes := #[] }, { accessFlags := 2, nameIndex := 69, descriptorIndex := 62, attributes := #[] }, { accessFlags := 2, nameIndex := 65, descriptorIndex := 62, attributes := #[] }, { accessFlags := 2, nameIndex := 77, descriptorIndex := 62, attributes := #[] }, { accessFlags := 2, nameIndex := 61, descriptorIndex := 62, attributes := #[] }, { accessFlags := 2, nameIndex := 90, descriptorIndex := 62, attributes := #[] }, { accessFlags := 2, nameIndex := 80, descriptorIndex := 62, attributes := #[] }, { accessFlags := 2, nameIndex := 86, descriptorIndex := 87, attributes := #[] }])
  fields := #[{ name := "BLOCK", type := .int, accessFlags := 26, slot := 0, constantValue := 0 }, { name := "SMALL_BLOCK", type := .int, accessFlags := 26, slot := 1, constantValue := 0 }, { name := "BYTE_ORDER_MARK", type := (.array .byte), accessFlags := 24, slot := 2, constantValue := 0 }, { name := "NOT_UTF_8", type := (.object "java/lang/String"), accessFlags := 24, slot := 3, constantValue := 0 }, { name := "HASH_BASIS", type := .int, accessFlags := 26, slot := 4, constantValue := 0 }, { name := "HASH_PRIME", type := .int, accessFlags := 26, slot := 5, constantValue := 0 }, { name := "file", type := (.object "java/nio/file/Path"), accessFlags := 18, slot := 0, constantValue := 0 }, { name := "in", type := (.object "java/nio/channels/SeekableByteChannel"), accessFlags := 18, slot := 1, constantValue := 0 }, { name := "buffer", type := (.array .byte), accessFlags := 2, slot := 2, constantValue := 0 }, { name := "base", type := .long, accessFlags := 2, slot := 3, constantValue := 0 }, { name := "filled", type := .int, accessFlags := 2, slot := 4, constantValue := 0 }, { name := "start", type := .int, accessFlags := 2, slot := 5, constantValue := 0 }, { name := "end", type := .int, accessFlags := 2, slot := 6, constantValue := 0 }, { name := "next", type := .int, accessFlags := 2, slot := 7, constantValue := 0 }, { name := "number", type := .int, accessFlags := 2, slot := 8, constantValue := 0 }, { name := "hash", type := .int, accessFlags := 2, slot := 9, constantValue := 0 }, { name := "plain", type := .boolean, accessFlags := 2, slot := 10, constantValue := 0 }]
  methods := #[k4m0]
  instanceTypes := #[(.object "java/nio/file/Path"), (.object "java/nio/channels/SeekableByteChannel"), (.array .byte), .long, .int, .int, .int, .int, .int, .int, .boolean]
  staticTypes := #[.int, .int, (.array .byte), (.object "java/lang/String"), .int, .int]
  resolved := Array.replicate 198 none
  statics := none }

def pool5 : Array CpInfo := pool [(1, u "java/lang/Cloneable"), (0, .class_ 1), (0, u "java/lang/Object"), (0, .class_ 3)] 3

/-- java/lang/Cloneable -/
def k5 : Class := { plain "java/lang/Cloneable" (some 0) with
  accessFlags := 1537
  interfaces := #[]
  cf := some (fileOf pool5 2 #[] #[] 1537 4 #[] #[])
  fields := #[]
  methods := #[]
  instanceTypes := #[]
  staticTypes := #[]
  resolved := Array.replicate 8 none
  statics := none }

def pool6 : Array CpInfo := pool [(1, u "java/io/Serializable"), (0, .class_ 1), (0, u "java/lang/Object"), (0, .class_ 3)] 3

/-- java/io/Serializable -/
def k6 : Class := { plain "java/io/Serializable" (some 0) with
  accessFlags := 1537
  interfaces := #[]
  cf := some (fileOf pool6 2 #[] #[] 1537 4 #[] #[])
  fields := #[]
  methods := #[]
  instanceTypes := #[]
  staticTypes := #[]
  resolved := Array.replicate 8 none
  statics := none }

/-- the primitive byte -/
def k7 : Class := { plain "byte" none with kind := .primitive 'B', accessFlags := 0x411 }
/-- [B -/
def k8 : Class := { plain "[B" (some 0) with kind := .array 7 .byte, interfaces := #[5, 6], accessFlags := 1041 }

/-- the primitive int -/
def k9 : Class := { plain "int" none with kind := .primitive 'I', accessFlags := 0x411 }
/-- [I -/
def k10 : Class := { plain "[I" (some 0) with kind := .array 9 .int, interfaces := #[5, 6], accessFlags := 1041 }

def heap : Heap := #[]
def classes : Array Class := #[k0, k1, k2, k3, k4, k5, k6, k7, k8, k9, k10]
def interned : List (Array UInt16 × Addr) := []
def slotsUsed : Nat := 0
def theMethod : MethodId := ⟨1, 1⟩
def args0 : Array Value := #[.int 5, .int 6, .int 7]
def aboutOver (below : List Frame) : State where
  vm := { classes := classes, interned := interned.toArray }
  heap := heap
  slotsUsed := slotsUsed
  threads := #[{ frames := .invoking theMethod args0 :: below }]
def below0 : List Frame := [.native { method := ⟨0, 0⟩, args := #[] }]
def about1 : State := aboutOver below0
def p0 : Program := .bare "" "" ""
def e0 : Env := launch0.env 0 0 0
theorem w_frames : about1.frames = Frame.invoking theMethod args0 :: below0 := rfl
set_option maxRecDepth 65536 in
theorem w_args : argsFit about1.vm theMethod args0 = true := by decide +kernel
set_option maxRecDepth 65536 in
theorem w_heap : heapFits about1 = true := by decide +kernel
set_option maxRecDepth 65536 in
theorem w_runnable : about1.curStatus? = some .runnable := by decide +kernel
set_option maxRecDepth 65536 in
theorem w_alone : about1.alone = true := by decide +kernel
set_option maxRecDepth 65536 in
theorem w_named : about1.methodNamed? x = some theMethod := by decide +kernel
set_option maxRecDepth 65536 in
theorem w_hears : about1.hears theMethod below0 = true := by decide +kernel
set_option maxRecDepth 65536 in
theorem w_ripe : about1.ripe theMethod args0 below0 = true := by decide +kernel
theorem w_running : about1.status = .running := rfl
set_option maxRecDepth 65536 in
theorem w_room : about1.hasRoom e0.platform room_1 = true :=
  launch0.hasRoom_least _ room_1 (by decide +kernel) (by decide +kernel) (by decide +kernel) (by decide +kernel) (by decide +kernel) (by decide +kernel)
theorem allAtoms_all (ts : List Jvm.Cond) (a : Array Jvm.Value) (st : Jvm.State) : (allAtoms ts).before a st = ts.all (fun c => c.before a st) := by
  induction ts with
  | nil => rfl
  | cons c t ih =>
    show (Jvm.Cond.and c (allAtoms t)).before a st = _
    rw [Jvm.Cond.before_and, ih, List.all_cons]
def words1 : List Jvm.Cond := Jvm.Cond.code x code maxLocals ret :: tables_1
/-- a 'code' word, met by the world's own term for the bytes: nothing is compared byte by byte -/
theorem code_word {y : MethodName} {bytes : ByteArray} {mx : Nat} {rt : Option FieldType} {a : Array Value} {s : State} {m : MethodId} {meth : Method} {c : Code} (h1 : s.methodNamed? y = some m) (h2 : s.vm.method? m = some meth) (h3 : meth.code = some c) (h4 : c.code = bytes)
    (h5 : (c.maxLocals == mx && c.exceptionTable.isEmpty && decide (c.maxStack ≤ mostOperands) && decide (meth.sig.returnType = rt) && !meth.locks && decide (parseMethodDescriptor y.desc = some meth.sig)) = true) : (Jvm.Cond.code y bytes mx rt).before a s = true := by
  simp only [Bool.and_eq_true, beq_iff_eq, Bool.not_eq_true', decide_eq_true_eq] at h5
  obtain ⟨⟨⟨⟨⟨g1, g2⟩, g3⟩, g4⟩, g5⟩, g6⟩ := h5
  simp [Cond.before, Cond.holds, Cond.value, h1, h2, h3, h4, g1, g2, g3, g4, g5, g6]
def isCode : Jvm.Cond → Bool
  | .code _ _ _ _ => true
  | _ => false
theorem all_split {L : List Jvm.Cond} {P : Jvm.Cond → Bool} (h1 : L.all (fun c => isCode c || P c) = true) (h2 : ∀ c ∈ L.filter isCode, P c = true) : L.all P = true := by
  refine List.all_eq_true.mpr fun c hc => ?_
  have h := List.all_eq_true.mp h1 c hc
  rcases Bool.eq_false_or_eq_true (isCode c) with hi | hi
  · exact h2 c (List.mem_filter.mpr ⟨hc, hi⟩)
  · simpa [hi] using h
set_option maxRecDepth 65536 in
theorem w_c0 : (Jvm.Cond.code x code maxLocals ret).before args0 about1 = true := code_word (m := ⟨1, 1⟩) (meth := k1m1) (c := k1c1) (by decide +kernel) rfl rfl rfl (by decide +kernel)
set_option maxRecDepth 65536 in
theorem w_c1 : (Jvm.Cond.code ({ cls := "com/example/perekaz/perekaz/TextLinesIsUtf8PinLaw", name := "adv", desc := "([BII)I" } : Jvm.MethodName) method_3_code (9 : Nat) (Option.some Jvm.ClassFile.FieldType.int)).before args0 about1 = true := code_word (m := ⟨1, 2⟩) (meth := k1m2) (c := k1c2) (by decide +kernel) rfl rfl rfl (by decide +kernel)
set_option maxRecDepth 65536 in
theorem w_c2 : (Jvm.Cond.code ({ cls := "com/example/perekaz/perekaz/TextLines", name := "isUtf8", desc := "([BII)Z" } : Jvm.MethodName) prog_212_method_16_code (10 : Nat) (Option.some Jvm.ClassFile.FieldType.boolean)).before args0 about1 = true := code_word (m := ⟨4, 0⟩) (meth := k4m0) (c := k4c0) (by decide +kernel) rfl rfl rfl (by decide +kernel)
def codes1 : List Jvm.Cond := [Jvm.Cond.code x code maxLocals ret, Jvm.Cond.code ({ cls := "com/example/perekaz/perekaz/TextLinesIsUtf8PinLaw", name := "adv", desc := "([BII)I" } : Jvm.MethodName) method_3_code (9 : Nat) (Option.some Jvm.ClassFile.FieldType.int), Jvm.Cond.code ({ cls := "com/example/perekaz/perekaz/TextLines", name := "isUtf8", desc := "([BII)Z" } : Jvm.MethodName) prog_212_method_16_code (10 : Nat) (Option.some Jvm.ClassFile.FieldType.boolean)]
set_option maxRecDepth 65536 in
theorem codes_eq : words1.filter isCode = codes1 := rfl
theorem w_codes : ∀ c ∈ words1.filter isCode, c.before args0 about1 = true := by
  rw [codes_eq]
  intro c hc
  simp only [codes1, List.mem_cons, List.not_mem_nil, or_false] at hc
  rcases hc with rfl | rfl | rfl
  · exact w_c0
  · exact w_c1
  · exact w_c2
set_option maxRecDepth 65536 in
theorem w_t1 : words1.all (fun c => isCode c || c.before args0 about1) = true := by decide +kernel
theorem w_tables : (allAtoms (Jvm.Cond.code x code maxLocals ret :: tables_1)).before args0 about1 = true := by
  rw [allAtoms_all]
  show words1.all (fun c => c.before args0 about1) = true
  refine all_split ?_ w_codes
  rw [w_t1]
set_option maxRecDepth 65536 in
theorem w_case : (Jvm.Cond.and given_1 narrow_1).before args0 about1 = true := by decide +kernel
theorem w_applies : (headSpec (Jvm.Cond.code x code maxLocals ret :: tables_1) room_1).applies x e0.platform about1 = true :=
  (Spec.applies_iff w_frames).mpr ⟨w_running, w_runnable, w_alone, w_named, w_hears, w_ripe, w_room, w_tables⟩
theorem atStart : AtStart classFile x code maxLocals ret World_1 tables_1 room_1 Calls_1 rest_1 Pre_1 launch0 p0 e0 about1 theMethod args0 below0 :=
  ⟨lists_1, trivial, launch0.admits_env _ _ _, launch0.least_env, fairChoices_fair.cas, fairChoices_fair.clock, w_frames, w_args, w_heap, w_applies, trivial, trivial, w_case⟩
end start1
theorem witness_1 : WitnessClaimed_1 := ⟨start1.p0, start1.e0, start1.about1, start1.theMethod, start1.args0, start1.below0, start1.atStart⟩
end Jvm.Pilot.@@N@@
