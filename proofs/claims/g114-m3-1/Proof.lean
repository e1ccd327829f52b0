import JvmDerived
import JvmDerived.Pilot.@@N@@Statement
import JvmDerived.Pilot.@@N@@Code
set_option linter.unusedVariables false
set_option linter.unusedSimpArgs false
namespace Jvm.Pilot.@@N@@
open Jvm Jvm.ClassFile Sem Op Lib Jvm.Free Jvm.Stand Jvm.LawKit Jvm.RoadKit Bundle Jvm.Pilot.@@N@@.Jvm.D
/-! THE WALK IN CONTINUATION FORM. Here: the run stands in T, its heap is h, nothing old was written. Go: from the state F the run ends as Q says. CM: a callee's contract. -/
def Here (p : Program) (l : Launch) (e : Env) (R : Room) (s : State) (m : MethodId) (args : Array Value) (below : List Frame) (meth : Method) (c : Code) (n0 : Nat) (T : State) (h : Heap) (k n : Nat) : Prop :=
  ∃ locs, Stand p l e R s m args below meth c T locs k n ∧ T.heap = h ∧ Fr n0 locs
def Fini (below : List Frame) (s : State) (n0 : Nat) (Q : Option Value → Heap → Prop) (K N : Nat) (t : State) (o : Outcome) : Prop :=
  t.status = .running ∧ Ended t below o ∧ ∃ v L, o = .returned v ∧ (Q v t.heap ∧ Fr n0 L) ∧ FrameEnd s o t L K N
def Go (p : Program) (e : Env) (below : List Frame) (Φ : State → Outcome → Prop) (F : State) : Prop :=
  ∃ t o, Steps p.tables e below F t ∧ Φ t o
def CM (l : Launch) (Z : State) (y : MethodName) (code : ByteArray) (maxL : Nat) (ret : Option FieldType) (R : Room) (as : Array Value) (h0 : Heap) (n0 : Nat) (Q : Option Value → Heap → Prop) : Prop :=
  ∀ ws, MetFree l y (head1 (Jvm.Cond.code y code maxL ret :: ws) R) (fun a U => a = as ∧ Z.Warmed39 U.vm ∧ U.heap = h0) (fun _ _ _ _ _ => True) (fun _ U o U' => ∃ v L, o = .returned v ∧ (Q v U'.heap ∧ Fr n0 L) ∧ FrameEnd U o U' L R.cells R.slots)
section Own
variable {p : Program} {l : Launch} {e : Env} {R : Room} {s : State} {m : MethodId} {args : Array Value} {below : List Frame} {meth : Method} {c : Code} {T : State} {h : Heap} {k n n0 K N : Nat} {Q : Option Value → Heap → Prop} {Z : State} {a0 : Array Value} {Φ : State → Outcome → Prop}
theorem Here.here (H : Here p l e R s m args below meth c n0 T h k n) : At T m c below := by obtain ⟨_, X, _, _⟩ := H; exact X.here
theorem Here.stand (H : Here p l e R s m args below meth c n0 T h k n) : ∃ locs, Stand p l e R s m args below meth c T locs k n ∧ T.heap = h ∧ Fr n0 locs := H
theorem Go.via {F F' : State} (st : ∀ t, Steps p.tables e below F' t → Steps p.tables e below F t) (g : Go p e below Φ F') : Go p e below Φ F := by
  obtain ⟨t, o, h1, r⟩ := g; exact ⟨t, o, st t h1, r⟩
theorem own_enter {y : MethodName} {code : ByteArray} {maxL : Nat} {ret : Option FieldType} {as : Array Value} {h0 : Heap} (hpl : plainFor y = true)
    (body : ∀ (p : Program) (e : Env) (s : State) (m : MethodId) (below : List Frame) (meth : Method) (c : Code) (T : State), p.tables.exec = Jvm.exec → c.code = code → c.maxLocals = maxL → s.vm.findClass y.cls = some m.cls → meth.name = y.name → Z.Warmed39 s.vm → meth.sig.returnType = ret → meth.locks = false → Here p l e R s m as below meth c n0 T h0 0 0 → Go p e below (Fini below s n0 Q R.cells R.slots) (T.setTop (entryFrame m as maxL))) :
    CM l Z y code maxL ret R as h0 n0 Q := by
  intro ws
  refine MetFree.of_bodySF hpl hisR ?_
  intro p e s m args below meth c s₁ Bd hml0 hP hK
  obtain ⟨rfl, hZ, hh⟩ := hP
  exact body p e s m below meth c s₁ Bd.exec Bd.bytes hml0 (findClass_of_methodNamed Bd.named) (name_of_methodNamed Bd.named Bd.method).1 hZ Bd.returns Bd.notSynchronized ⟨[], Stand.of_body Bd, by rw [← hh, Bd.state]; rfl, Fr.nil n0⟩
theorem Here.leave (H : Here p l e R s m args below meth c n0 T h k n) (hlk : meth.locks = false) {v : Option Value} (hv : meth.sig.returnType = none → v = none) (hQ : Q v h) (hk : k ≤ K) (hn : n ≤ N) {F : State}
    (st : ∀ fs, (∀ (f : JFrame) (acts : List Action), f.method = m → f.locked = none → f.entered = [] → (doReturn e (T.setTop f) acts v).1 = T.setFrames fs) → Steps p.tables e below F (T.setFrames fs)) : Go p e below (Fini below s n0 Q K N) F := by
  obtain ⟨locs, X, rfl, F0⟩ := H
  obtain ⟨fs, hr, hrun, hended, hW, hsame⟩ := X.leave (v := v) hv hlk
  exact ⟨_, _, st fs hr, hrun, hended, v, locs, rfl, ⟨hQ, F0⟩, ⟨_, rfl⟩, hW, hsame.mono hk hn⟩
theorem own_retV (H : Here p l e R s m args below meth c n0 T h k n) (hx : p.tables.exec = Jvm.exec) (hlk : meth.locks = false) (hret : meth.sig.returnType = none) {pc : Nat} {Ls : Array Slot} (hd : decode c.code pc = .ok (.return_, 1)) (hQ : Q none h) (hk : k ≤ K) (hn : n ≤ N) :
    Go p e below (Fini below s n0 Q K N) (T.setTop (mkF m pc Ls [])) := by
  obtain ⟨locs, X, r1, r2⟩ := H.stand
  exact H.leave hlk (fun _ => rfl) hQ hk hn fun fs hr => X.returnOut hx hret hd hr
theorem own_retI (H : Here p l e R s m args below meth c n0 T h k n) (hx : p.tables.exec = Jvm.exec) (hlk : meth.locks = false) (hret : meth.sig.returnType = some .int) {pc : Nat} {Ls : Array Slot} {z : Int32} {rest : List Value} (hd : decode c.code pc = .ok (.ireturn, 1)) (hQ : Q (some (.int z)) h) (hk : k ≤ K) (hn : n ≤ N) :
    Go p e below (Fini below s n0 Q K N) (T.setTop (mkF m pc Ls (.int z :: rest))) := by
  obtain ⟨locs, X, r1, r2⟩ := H.stand
  exact H.leave hlk (fun q => by rw [hret] at q; cases q) hQ hk hn fun fs hr => retOut X hx hret rfl (Or.inl ⟨rfl, Or.inl rfl, z, rfl⟩) hd hr
theorem own_retN (H : Here p l e R s m args below meth c n0 T h k n) (hx : p.tables.exec = Jvm.exec) (hlk : meth.locks = false) {t : FieldType} (ht : t = .boolean ∨ t = .byte ∨ t = .char ∨ t = .short) (hret : meth.sig.returnType = some t) {pc : Nat} {Ls : Array Slot} {z : Int32} {rest : List Value} (hd : decode c.code pc = .ok (.ireturn, 1)) (hQ : Q (some (.int (nar t z))) h) (hk : k ≤ K) (hn : n ≤ N) :
    Go p e below (Fini below s n0 Q K N) (T.setTop (mkF m pc Ls (.int z :: rest))) := by
  obtain ⟨locs, X, r1, r2⟩ := H.stand
  exact H.leave hlk (fun q => by rw [hret] at q; cases q) hQ hk hn fun fs hr => retN X hx hret ht hd hr
theorem own_retL (H : Here p l e R s m args below meth c n0 T h k n) (hx : p.tables.exec = Jvm.exec) (hlk : meth.locks = false) (hret : meth.sig.returnType = some .long) {pc : Nat} {Ls : Array Slot} {z : Int64} {rest : List Value} (hd : decode c.code pc = .ok (.lreturn, 1)) (hQ : Q (some (.long z)) h) (hk : k ≤ K) (hn : n ≤ N) :
    Go p e below (Fini below s n0 Q K N) (T.setTop (mkF m pc Ls (.long z :: rest))) := by
  obtain ⟨locs, X, r1, r2⟩ := H.stand
  exact H.leave hlk (fun q => by rw [hret] at q; cases q) hQ hk hn fun fs hr => retOut X hx hret rfl (Or.inr (Or.inl ⟨rfl, rfl, z, rfl⟩)) hd hr
theorem own_retA (H : Here p l e R s m args below meth c n0 T h k n) (hx : p.tables.exec = Jvm.exec) (hlk : meth.locks = false) {t : FieldType} (ht : t.isReference = true) (hret : meth.sig.returnType = some t) {pc : Nat} {Ls : Array Slot} {w : Value} {rest : List Value} (hn' : narrow t w = w) (hw : w.isRef = true) (hd : decode c.code pc = .ok (.areturn, 1)) (hQ : Q (some w) h) (hk : k ≤ K) (hn : n ≤ N) :
    Go p e below (Fini below s n0 Q K N) (T.setTop (mkF m pc Ls (w :: rest))) := by
  obtain ⟨locs, X, r1, r2⟩ := H.stand
  exact H.leave hlk (fun q => by rw [hret] at q; cases q) hQ hk hn fun fs hr => retOut X hx hret hn' (Or.inr (Or.inr (Or.inr (Or.inr ⟨rfl, ht, hw⟩)))) hd hr
/-! calls -/
theorem own_callS (H : Here p l e R s m args below meth c n0 T h k n) (hx : p.tables.exec = Jvm.exec) (hZ : Z.Warmed39 s.vm) {own : String} {index : Nat} {y : MethodName} {bytes : ByteArray} {maxL : Nat} {ret : Option FieldType} {rm : Room} {argsL rest : List Value} {Q' : Option Value → Heap → Prop}
    (hown : s.vm.findClass own = some m.cls) (w1 : (Jvm.Cond.methodLink own index y).before a0 Z = true) (w2 : (Jvm.Cond.static y).before a0 Z = true) (w3 : (Jvm.Cond.initialized y.cls).before a0 Z = true) (w4 : (Jvm.Cond.code y bytes maxL ret).before a0 Z = true)
    (hy : y.cls ≠ "java/lang/invoke/MethodHandle" ∧ y.cls ≠ "java/lang/invoke/VarHandle") (hM : CM l Z y bytes maxL ret rm argsL.toArray h n0 Q')
    {g : JFrame} (hg : g.method = m) (hsize : g.locals.size = c.maxLocals) (hlen : ∀ sig, parseMethodDescriptor y.desc = some sig → argsL.length = sig.parameters.length)
    (hstack : g.stack = argsL.reverse ++ rest) (W : Nat) (hW : 2 * g.monitorRoom + (rest.map fun v => v.category).sum ≤ W) (hd : decode c.code g.pc = .ok (.invokestatic index, 3))
    (hf : rm.frames + 1 ≤ R.frames) (hl : W + (maxL + 11) + rm.locals ≤ R.locals) (hc : k + rm.cells ≤ R.cells) (hs : n + rm.slots ≤ R.slots)
    (next : ∀ v T' h', Q' v h' → Here p l e R s m args below meth c n0 T' h' (k + rm.cells) (n + rm.slots) → Go p e below Φ (T'.setTop { g with pc := g.pc + 3, stack := v.toList ++ rest })) :
    Go p e below Φ (T.setTop g) := by
  obtain ⟨locs, X, rfl, F⟩ := H
  obtain ⟨v, _, ⟨T3, L3, k3, n3⟩, -, X3, ⟨Lc3, hQ3, l3, y3, z3⟩, st3⟩ := Jvm.LawKit.callS X hx (y := y) hown (mvT hZ w1) (mvT hZ w2) (mvT hZ w3) (mvT hZ w4) hy (backOf (W := W) (Q := fun v h L => Q' v h ∧ Fr n0 L) (hM []) hZ w4 w3 hf hl) (g := g) hg hsize (argsL := argsL) (rest := rest) hlen hstack hW hd (fun _ _ => ⟨rfl, rfl, hc, hs⟩)
  dsimp only [Pt.U, Pt.locs, Pt.cells, Pt.slots] at X3 l3 y3 z3 st3 hQ3
  subst l3 y3 z3
  exact Go.via st3 (next v T3 T3.heap hQ3.1 ⟨_, X3, rfl, F.app hQ3.2⟩)
theorem own_callI (H : Here p l e R s m args below meth c n0 T h k n) (hx : p.tables.exec = Jvm.exec) (hZ : Z.Warmed39 s.vm) {own : String} {index : Nat} {y : MethodName} {bytes : ByteArray} {maxL : Nat} {rm : Room} {a : Addr} {argsL rest : List Value} {Q' : Option Value → Heap → Prop}
    (hy1 : y.name = "<init>") (hown : s.vm.findClass own = some m.cls) (w1 : (Jvm.Cond.methodLink own index y).before a0 Z = true) (w2 : (Jvm.Cond.instanceMethod y).before a0 Z = true) (w3 : (Jvm.Cond.initialized y.cls).before a0 Z = true) (w4 : (Jvm.Cond.code y bytes maxL none).before a0 Z = true)
    (hy : y.cls ≠ "java/lang/invoke/MethodHandle" ∧ y.cls ≠ "java/lang/invoke/VarHandle") (hM : CM l Z y bytes maxL none rm (Value.ref a :: argsL).toArray h n0 Q')
    {g : JFrame} (hg : g.method = m) (hsize : g.locals.size = c.maxLocals) (hlen : ∀ sig, parseMethodDescriptor y.desc = some sig → argsL.length = sig.parameters.length)
    (hstack : g.stack = argsL.reverse ++ .ref a :: rest) (W : Nat) (hW : 2 * g.monitorRoom + (rest.map fun v => v.category).sum ≤ W) (hd : decode c.code g.pc = .ok (.invokespecial index, 3))
    (hf : rm.frames + 1 ≤ R.frames) (hl : W + (maxL + 11) + rm.locals ≤ R.locals) (hc : k + rm.cells ≤ R.cells) (hs : n + rm.slots ≤ R.slots)
    (next : ∀ v T' h', Q' v h' → Here p l e R s m args below meth c n0 T' h' (k + rm.cells) (n + rm.slots) → Go p e below Φ (T'.setTop { g with pc := g.pc + 3, stack := v.toList ++ rest })) :
    Go p e below Φ (T.setTop g) := by
  obtain ⟨locs, X, rfl, F⟩ := H
  obtain ⟨v, _, ⟨T3, L3, k3, n3⟩, -, X3, ⟨Lc3, hQ3, l3, y3, z3⟩, st3⟩ := X.specialBack hx (y := y) hy1 hown (mvT hZ w1) (mvT hZ w2) (mvT hZ w4) hy (backOf (W := W) (Q := fun v h L => Q' v h ∧ Fr n0 L) (hM []) hZ w4 w3 hf hl) (g := g) hg hsize (Steps.refl _) (a := a) (argsL := argsL) (rest := rest) hlen hstack hW hd (fun _ _ => ⟨rfl, rfl, hc, hs⟩)
  dsimp only [Pt.U, Pt.locs, Pt.cells, Pt.slots] at X3 l3 y3 z3 st3 hQ3
  subst l3 y3 z3
  exact Go.via (fun t q => st3.trans q) (next v T3 T3.heap hQ3.1 ⟨_, X3, rfl, F.app hQ3.2⟩)
theorem own_callV (H : Here p l e R s m args below meth c n0 T h k n) (hx : p.tables.exec = Jvm.exec) (hZ : Z.Warmed39 s.vm) {own C : String} {index : Nat} {y : MethodName} {bytes : ByteArray} {maxL : Nat} {ret : Option FieldType} {rm : Room} {a : Addr} {argsL rest : List Value} {Q' : Option Value → Heap → Prop}
    (hown : s.vm.findClass own = some m.cls) (w1 : (Jvm.Cond.methodLink own index y).before a0 Z = true) (w2 : (Jvm.Cond.declares y).before a0 Z = true) (w3 : (Jvm.Cond.selects C y y).before a0 Z = true) (w4 : (Jvm.Cond.instanceMethod y).before a0 Z = true) (w5 : (Jvm.Cond.initialized y.cls).before a0 Z = true) (w6 : (Jvm.Cond.code y bytes maxL ret).before a0 Z = true)
    (hy : y.cls ≠ "java/lang/invoke/MethodHandle" ∧ y.cls ≠ "java/lang/invoke/VarHandle") (hE : Exa Z h a C) (hM : CM l Z y bytes maxL ret rm (Value.ref a :: argsL).toArray h n0 Q')
    {g : JFrame} (hg : g.method = m) (hsize : g.locals.size = c.maxLocals) (hlen : ∀ sig, parseMethodDescriptor y.desc = some sig → argsL.length = sig.parameters.length)
    (hstack : g.stack = argsL.reverse ++ .ref a :: rest) (W : Nat) (hW : 2 * g.monitorRoom + (rest.map fun v => v.category).sum ≤ W) (hd : decode c.code g.pc = .ok (.invokevirtual index, 3))
    (hf : rm.frames + 1 ≤ R.frames) (hl : W + (maxL + 11) + rm.locals ≤ R.locals) (hc : k + rm.cells ≤ R.cells) (hs : n + rm.slots ≤ R.slots)
    (next : ∀ v T' h', Q' v h' → Here p l e R s m args below meth c n0 T' h' (k + rm.cells) (n + rm.slots) → Go p e below Φ (T'.setTop { g with pc := g.pc + 3, stack := v.toList ++ rest })) :
    Go p e below Φ (T.setTop g) := by
  obtain ⟨locs, X, rfl, F⟩ := H
  obtain ⟨cq, kq, qa, qb, qc⟩ := isOf hZ rfl hE
  obtain ⟨v, _, ⟨T3, L3, k3, n3⟩, -, X3, ⟨Lc3, hQ3, l3, y3, z3⟩, st3⟩ := X.virtualBack hx (y := y) (z := y) hown (mvT hZ w1) (mvT hZ w2) (notFace_of_selects (args := #[]) (mvT hZ w3)) (mvT hZ w3) (mvT hZ w4) hy (backOf (W := W) (Q := fun v h L => Q' v h ∧ Fr n0 L) (hM []) hZ w6 w5 hf hl) qa qc (g := g) hg hsize (Steps.refl _) (argsL := argsL) (rest := rest) hlen hstack hW hd (fun _ _ => ⟨rfl, rfl, hc, hs⟩)
  dsimp only [Pt.U, Pt.locs, Pt.cells, Pt.slots] at X3 l3 y3 z3 st3 hQ3
  subst l3 y3 z3
  exact Go.via (fun t q => st3.trans q) (next v T3 T3.heap hQ3.1 ⟨_, X3, rfl, F.app hQ3.2⟩)
/-! fields, objects -/
theorem own_getF (H : Here p l e R s m args below meth c n0 T h k n) (hx : p.tables.exec = Jvm.exec) (hZ : Z.Warmed39 s.vm) {own O nm d : String} {index : Nat} (hown : s.vm.findClass own = some m.cls) (w : (Jvm.Cond.fieldLink own index O nm d).before a0 Z = true)
    {a : Addr} {v : Value} (F : Fld Z h a O nm d v) {g : JFrame} (hg : g.method = m) {rest : List Value} (hs : g.stack = .ref a :: rest) (hd : decode c.code g.pc = .ok (.getfield index, 3))
    (next : ∀ T', Here p l e R s m args below meth c n0 T' h k n → Go p e below Φ (T'.setTop { g with pc := g.pc + 3, stack := v :: rest })) : Go p e below Φ (T.setTop g) := by
  obtain ⟨locs, X, r1, r2⟩ := H.stand
  obtain ⟨T', X', e', st⟩ := getF X hx hZ hown (host := "") (Or.inl w) Via.refl r1 F hg hs hd
  exact Go.via st (next T' ⟨_, X', e', r2⟩)
theorem own_putF (H : Here p l e R s m args below meth c n0 T h k n) (hx : p.tables.exec = Jvm.exec) (hZ : Z.Warmed39 s.vm) {own O nm d C : String} {index kk : Nat} {ty : FieldType} (hown : s.vm.findClass own = some m.cls) (w : (Jvm.Cond.fieldLink own index O nm d).before a0 Z = true)
    {a : Addr} {v old : Value} (F : Fld Z h a O nm d old) (E : Exa Z h a C) (L : (Jvm.Cond.lays C O nm d).before a0 Z = true ∨ ((Jvm.Cond.laysFinal C O nm d).before a0 Z = true ∧ own = O ∧ meth.name = "<init>")) (wi : (Jvm.Cond.instantiable C kk).before a0 Z = true) (ha : n0 ≤ a)
    (hty : parseFieldDescriptor d = some ty) (hn : narrow ty v = v) (hf : fits ty v = true) {g : JFrame} (hg : g.method = m) {rest : List Value} (hs : g.stack = v :: .ref a :: rest) (hd : decode c.code g.pc = .ok (.putfield index, 3))
    (next : ∀ T' h', Wr h h' a (Jvm.RoadKit.slotOf Z O nm d) v → Here p l e R s m args below meth c n0 T' h' k n → Go p e below Φ (T'.setTop { g with pc := g.pc + 3, stack := rest })) : Go p e below Φ (T.setTop g) := by
  obtain ⟨locs, X, r1, r2⟩ := H.stand
  obtain ⟨T', h', X', e', W, st⟩ := putF X hx hZ hown (host := "") (Or.inl w) Via.refl r1 F E L wi hty hn hf hg hs hd
  exact Go.via st (next T' h' W ⟨_, X', e', Fr.snoc X' r2 ha⟩)
theorem own_putFN (H : Here p l e R s m args below meth c n0 T h k n) (hx : p.tables.exec = Jvm.exec) (hZ : Z.Warmed39 s.vm) {own O nm d C : String} {index kk : Nat} {ty : FieldType} (hown : s.vm.findClass own = some m.cls) (w : (Jvm.Cond.fieldLink own index O nm d).before a0 Z = true)
    {a : Addr} {v v' old : Value} (F : Fld Z h a O nm d old) (E : Exa Z h a C) (L : (Jvm.Cond.lays C O nm d).before a0 Z = true ∨ ((Jvm.Cond.laysFinal C O nm d).before a0 Z = true ∧ own = O ∧ meth.name = "<init>")) (wi : (Jvm.Cond.instantiable C kk).before a0 Z = true) (ha : n0 ≤ a)
    (hty : parseFieldDescriptor d = some ty) (hn : narrow ty v = v') (hf : fits ty v' = true) {g : JFrame} (hg : g.method = m) {rest : List Value} (hs : g.stack = v :: .ref a :: rest) (hd : decode c.code g.pc = .ok (.putfield index, 3))
    (next : ∀ T' h', Wr h h' a (Jvm.RoadKit.slotOf Z O nm d) v' → Here p l e R s m args below meth c n0 T' h' k n → Go p e below Φ (T'.setTop { g with pc := g.pc + 3, stack := rest })) : Go p e below Φ (T.setTop g) := by
  obtain ⟨locs, X, r1, r2⟩ := H.stand
  obtain ⟨T', h', X', e', W, st⟩ := putFN X hx hZ hown w Via.refl r1 F E L wi hty hn hf hg hs hd
  exact Go.via st (next T' h' W ⟨_, X', e', Fr.snoc X' r2 ha⟩)
theorem own_newO (H : Here p l e R s m args below meth c n0 T h k n) (hx : p.tables.exec = Jvm.exec) (hZ : Z.Warmed39 s.vm) {own C : String} {index sl : Nat} (hown : s.vm.findClass own = some m.cls) (w : (Jvm.Cond.classLink own index C).before a0 Z = true) (wi : (Jvm.Cond.instantiable C sl).before a0 Z = true) (wz : (Jvm.Cond.initialized C).before a0 Z = true)
    {g : JFrame} (hg : g.method = m) (hd : decode c.code g.pc = .ok (.new index, 3)) (hc : k + 1 ≤ R.cells) (hl : n + sl ≤ R.slots)
    (next : ∀ T' h' a, a = h.size → Ext h h' → Exa Z h' a C → (∀ {O nm d : String} {ty : FieldType}, Laid Z a0 C O nm d → parseFieldDescriptor d = some ty → Fld Z h' a O nm d (defaultValue ty)) → Here p l e R s m args below meth c n0 T' h' (k + 1) (n + sl) → Go p e below Φ (T'.setTop { g with pc := g.pc + 3, stack := .ref a :: g.stack })) : Go p e below Φ (T.setTop g) := by
  obtain ⟨locs, X, r1, r2⟩ := H.stand
  obtain ⟨T', h', X', e', E, A, D, -, st⟩ := newO X hx hZ hown w wi wz r1 hg hd hc hl
  exact Go.via st (next T' h' _ rfl E A D ⟨_, X', e', r2⟩)
/-! arrays -/
theorem own_newP (H : Here p l e R s m args below meth c n0 T h k n) (hx : p.tables.exec = Jvm.exec) (hZ : Z.Warmed39 s.vm) {aty : ArrayType} (w : (Jvm.Cond.arrayClass (newarray.typeOf aty)).before a0 Z = true) {g : JFrame} (hg : g.method = m) (hd : decode c.code g.pc = .ok (.newarray aty, 2)) {z : Int32} {rest : List Value} (hs : g.stack = .int z :: rest)
    (hn : ¬ z < 0) (cap : Nat) (hcap : z.toNatClampNeg ≤ cap) (hb : cap * 8 ≤ 536870912) (hc : k + 1 ≤ R.cells) (hl : n + cap ≤ R.slots)
    (next : ∀ T' h' a cA, a = h.size → Ext h h' → Arr Z h' a (newA cA (newarray.typeOf aty) z) (newarray.typeOf aty) → Here p l e R s m args below meth c n0 T' h' (k + 1) (n + cap) → Go p e below Φ (T'.setTop { g with pc := g.pc + 2, stack := .ref a :: rest })) : Go p e below Φ (T.setTop g) := by
  obtain ⟨locs, X, r1, r2⟩ := H.stand
  obtain ⟨T', h', cA, X', e', E, A, st⟩ := newP X hx hZ w r1 hg hd hs hn hcap hb hc hl
  exact Go.via st (next T' h' _ cA rfl E A ⟨_, X', e', r2⟩)
theorem own_stI (H : Here p l e R s m args below meth c n0 T h k n) (hx : p.tables.exec = Jvm.exec) (hZ : Z.Warmed39 s.vm) {a : Addr} {cl : Cell} (A : Arr Z h a cl .int) {j x : Int32} (hj : ¬ (j < 0 ∨ cl.slots.size ≤ j.toNatClampNeg)) (ha : n0 ≤ a) {g : JFrame} (hg : g.method = m) {rest : List Value} (hs : g.stack = .int x :: .int j :: .ref a :: rest) (hd : decode c.code g.pc = .ok (.iastore, 1))
    (next : ∀ T' h', Wr h h' a j.toNatClampNeg (.int x) → Here p l e R s m args below meth c n0 T' h' k n → Go p e below Φ (T'.setTop { g with pc := g.pc + 1, stack := rest })) : Go p e below Φ (T.setTop g) := by
  obtain ⟨locs, X, r1, r2⟩ := H.stand
  obtain ⟨T', h', X', e', W, st⟩ := stI X hx hZ r1 A hj hg hs hd
  exact Go.via st (next T' h' W ⟨_, X', e', Fr.snoc X' r2 ha⟩)
theorem own_stB (H : Here p l e R s m args below meth c n0 T h k n) (hx : p.tables.exec = Jvm.exec) (hZ : Z.Warmed39 s.vm) {a : Addr} {cl : Cell} (A : Arr Z h a cl .byte) {j x : Int32} (hj : ¬ (j < 0 ∨ cl.slots.size ≤ j.toNatClampNeg)) (ha : n0 ≤ a) {g : JFrame} (hg : g.method = m) {rest : List Value} (hs : g.stack = .int x :: .int j :: .ref a :: rest) (hd : decode c.code g.pc = .ok (.bastore, 1))
    (next : ∀ T' h', Wr h h' a j.toNatClampNeg (.int (nar .byte x)) → Here p l e R s m args below meth c n0 T' h' k n → Go p e below Φ (T'.setTop { g with pc := g.pc + 1, stack := rest })) : Go p e below Φ (T.setTop g) := by
  obtain ⟨locs, X, r1, r2⟩ := H.stand
  obtain ⟨T', h', X', e', W, st⟩ := stB X hx hZ r1 A hj hg hs hd
  exact Go.via st (next T' h' W ⟨_, X', e', Fr.snoc X' r2 ha⟩)
theorem own_len (H : Here p l e R s m args below meth c n0 T h k n) (hx : p.tables.exec = Jvm.exec) (hZ : Z.Warmed39 s.vm) {a : Addr} {cl : Cell} {ty : FieldType} (A : Arr Z h a cl ty) {g : JFrame} (hg : g.method = m) {rest : List Value} (hs : g.stack = .ref a :: rest) (hd : decode c.code g.pc = .ok (.arraylength, 1))
    (next : Go p e below Φ (T.setTop { g with pc := g.pc + 1, stack := .int cl.slots.size.toInt32 :: rest })) : Go p e below Φ (T.setTop g) := by
  obtain ⟨locs, X, r1, r2⟩ := H.stand
  exact Go.via (fun t q => X.arraylength hx (by rw [r1]; exact A.1) (State.isArrayOf_alike hZ.alike A.2.1) hg hs hd t q) next
theorem own_ldI (H : Here p l e R s m args below meth c n0 T h k n) (hx : p.tables.exec = Jvm.exec) (hZ : Z.Warmed39 s.vm) {a : Addr} {cl : Cell} (A : Arr Z h a cl .int) {j : Int32} {v : Value} (hj : ¬ (j < 0 ∨ cl.slots.size ≤ j.toNatClampNeg)) (hv : cl.slots[j.toNatClampNeg]? = some v) {g : JFrame} (hg : g.method = m) {rest : List Value} (hs : g.stack = .int j :: .ref a :: rest) (hd : decode c.code g.pc = .ok (.iaload, 1))
    (next : Go p e below Φ (T.setTop { g with pc := g.pc + 1, stack := v :: rest })) : Go p e below Φ (T.setTop g) := by
  obtain ⟨locs, X, r1, r2⟩ := H.stand
  exact Go.via (fun t q => X.iaload hx (by rw [r1]; exact A.1) (State.isArrayOf_alike hZ.alike A.2.1) A.2.2 hj hv hg hs hd t q) next
theorem own_ldB (H : Here p l e R s m args below meth c n0 T h k n) (hx : p.tables.exec = Jvm.exec) (hZ : Z.Warmed39 s.vm) {a : Addr} {cl : Cell} (A : Arr Z h a cl .byte) {j : Int32} {v : Value} (hj : ¬ (j < 0 ∨ cl.slots.size ≤ j.toNatClampNeg)) (hv : cl.slots[j.toNatClampNeg]? = some v) {g : JFrame} (hg : g.method = m) {rest : List Value} (hs : g.stack = .int j :: .ref a :: rest) (hd : decode c.code g.pc = .ok (.baload, 1))
    (next : Go p e below Φ (T.setTop { g with pc := g.pc + 1, stack := v :: rest })) : Go p e below Φ (T.setTop g) := by
  obtain ⟨locs, X, r1, r2⟩ := H.stand
  exact Go.via (fun t q => X.baloadBytes hx (by rw [r1]; exact A.1) (State.isArrayOf_alike hZ.alike A.2.1) A.2.2 hj hv hg hs hd t q) next
/-! arrays of ints by a function of the place -/
def upd (B : Nat → Int32) (j : Nat) (v : Int32) : Nat → Int32 := fun i => if i = j then v else B i
theorem upd_hit {B : Nat → Int32} {j : Nat} {v : Int32} : upd B j v j = v := if_pos rfl
theorem upd_miss {B : Nat → Int32} {i j : Nat} {v : Int32} (q : i ≠ j) : upd B j v i = B i := if_neg q
def Ab (Z : State) (h : Heap) (a : Addr) (ty : FieldType) (n : Nat) (B : Nat → Int32) : Prop := ∃ c : Cell, Arr Z h a c ty ∧ c.slots.size = n ∧ ∀ i, i < n → c.slots[i]? = some (.int (B i))
theorem Ab.lt {a : Addr} {ty : FieldType} {B : Nat → Int32} (F : Ab Z h a ty n B) : a < h.size := by obtain ⟨c, A, -⟩ := F; exact A.lt
theorem Ab.ext {h' : Heap} {a : Addr} {ty : FieldType} {B : Nat → Int32} (F : Ab Z h a ty n B) (E : Ext h h') : Ab Z h' a ty n B := by obtain ⟨c, A, r⟩ := F; exact ⟨c, A.ext E, r⟩
theorem Ab.other {h' : Heap} {a b : Addr} {sl : Nat} {v : Value} {ty : FieldType} {B : Nat → Int32} (F : Ab Z h b ty n B) (W : Wr h h' a sl v) (q : b ≠ a) : Ab Z h' b ty n B := by obtain ⟨c, A, r⟩ := F; exact ⟨c, A.other W q, r⟩
theorem Ab.keep {h' : Heap} {a : Addr} {ws : List Addr} {ty : FieldType} {B : Nat → Int32} (F : Ab Z h a ty n B) (Kp : Keep h h' ws) (q : a ∉ ws) : Ab Z h' a ty n B := by obtain ⟨c, A, r⟩ := F; exact ⟨c, ⟨Kp.2.1 a c A.1 q, A.2⟩, r⟩
theorem Ab.set {h' : Heap} {a : Addr} {j : Nat} {v : Int32} {ty : FieldType} {B : Nat → Int32} (F : Ab Z h a ty n B) (W : Wr h h' a j (.int v)) : Ab Z h' a ty n (upd B j v) := by
  obtain ⟨c, A, S, G⟩ := F
  obtain ⟨c', q1, -, -, q4, -, q6, q7⟩ := wr_at W A.1
  obtain ⟨rfl, q8, -⟩ := q7 rfl
  refine ⟨_, A.same W, q4.trans S, fun i hi => ?_⟩
  by_cases q : i = j
  · subst q; rw [q8, upd_hit]
  · rw [q6 i q, G i hi, upd_miss q]
theorem Ab.new {a : Addr} {ty : FieldType} {kk : ClassId} {z : Int32} (A : Arr Z h a (newA kk ty z) ty) (hz : z.toNatClampNeg = n) (hd : defaultValue ty = .int 0) : Ab Z h a ty n (fun _ => 0) := by
  refine ⟨_, A, (sz_new _ _ _).trans hz, fun i hi => ?_⟩
  have hz' : z.toNatClampNeg < 2 ^ 31 := by
    by_cases q : z < 0
    · have : z.toNatClampNeg ≤ 0 := by rw [Int32.lt_iff_toInt_lt] at q; have e0 : (0 : Int32).toInt = 0 := rfl; have : z.toNatClampNeg = z.toInt.toNat := rfl; omega
      omega
    · exact (back32 q).2
  have e1 : i.toInt32.toNatClampNeg = i := by
    have q := idx_in (i := i) (n := i + 1) (Nat.lt_succ_self i) (by omega)
    have q2 : i.toInt32.toInt = i := len_toInt (by omega)
    have := nat_of (j := i.toInt32) (fun z => q (Or.inl z))
    omega
  have q0 : ¬ (i.toInt32 < 0 ∨ z.toNatClampNeg ≤ i.toInt32.toNatClampNeg) := by
    rw [hz, e1]
    intro q
    rcases q with q | q
    · have q3 : i.toInt32.toInt = i := len_toInt (by omega)
      rw [Int32.lt_iff_toInt_lt, q3] at q
      have e0 : (0 : Int32).toInt = 0 := rfl
      omega
    · omega
  have g := get_new (cA := kk) (ty := ty) (n := z) (k := i.toInt32) q0
  rw [e1] at g
  rw [g, hd]
theorem own_idx {J : Int32} {j : Nat} (e : J.toInt = (j : Int)) : ¬ J < 0 ∧ J.toNatClampNeg = j := by
  have h0 : ¬ J < 0 := by rw [Int32.lt_iff_toInt_lt]; have e0 : (0 : Int32).toInt = 0 := rfl; omega
  have := nat_of h0
  exact ⟨h0, by omega⟩
theorem own_in {c : Cell} {J : Int32} {j N' : Nat} (e : J.toInt = (j : Int)) (S : c.slots.size = N') (hj : j < N') : ¬ (J < 0 ∨ c.slots.size ≤ J.toNatClampNeg) := by
  obtain ⟨q1, q2⟩ := own_idx e
  rw [q2, S]; intro q; rcases q with q | q
  · exact q1 q
  · omega
theorem own_newA (H : Here p l e R s m args below meth c n0 T h k n) (hx : p.tables.exec = Jvm.exec) (hZ : Z.Warmed39 s.vm) {aty : ArrayType} (w : (Jvm.Cond.arrayClass (newarray.typeOf aty)).before a0 Z = true) {g : JFrame} (hg : g.method = m) (hd : decode c.code g.pc = .ok (.newarray aty, 2)) {z : Int32} {rest : List Value} (hs : g.stack = .int z :: rest)
    (hn : ¬ z < 0) (N' : Nat) (hz : z.toNatClampNeg = N') (hdv : defaultValue (newarray.typeOf aty) = .int 0) (cap : Nat) (hcap : N' ≤ cap) (hb : cap * 8 ≤ 536870912) (hc : k + 1 ≤ R.cells) (hl : n + cap ≤ R.slots)
    (next : ∀ T' h' a, a = h.size → Ext h h' → Ab Z h' a (newarray.typeOf aty) N' (fun _ => 0) → Here p l e R s m args below meth c n0 T' h' (k + 1) (n + cap) → Go p e below Φ (T'.setTop { g with pc := g.pc + 2, stack := .ref a :: rest })) : Go p e below Φ (T.setTop g) :=
  own_newP H hx hZ w hg hd hs hn cap (by rw [hz]; exact hcap) hb hc hl fun T' h' a cA q1 q2 q3 q4 => next T' h' a q1 q2 (Ab.new q3 hz hdv) q4
theorem own_stIA (H : Here p l e R s m args below meth c n0 T h k n) (hx : p.tables.exec = Jvm.exec) (hZ : Z.Warmed39 s.vm) {a : Addr} {N' : Nat} {B : Nat → Int32} (A : Ab Z h a .int N' B) {J x : Int32} {j : Nat} (ej : J.toInt = (j : Int)) (hj : j < N') (ha : n0 ≤ a) {g : JFrame} (hg : g.method = m) {rest : List Value} (hs : g.stack = .int x :: .int J :: .ref a :: rest) (hd : decode c.code g.pc = .ok (.iastore, 1))
    (next : ∀ T' h', Wr h h' a j (.int x) → Ab Z h' a .int N' (upd B j x) → Here p l e R s m args below meth c n0 T' h' k n → Go p e below Φ (T'.setTop { g with pc := g.pc + 1, stack := rest })) : Go p e below Φ (T.setTop g) := by
  have A' := A
  obtain ⟨cl, A0, S, G⟩ := A
  refine own_stI H hx hZ A0 (own_in ej S hj) ha hg hs hd fun T' h' W H' => ?_
  rw [(own_idx ej).2] at W
  exact next T' h' W (A'.set W) H'
theorem own_stBA (H : Here p l e R s m args below meth c n0 T h k n) (hx : p.tables.exec = Jvm.exec) (hZ : Z.Warmed39 s.vm) {a : Addr} {N' : Nat} {B : Nat → Int32} (A : Ab Z h a .byte N' B) {J x : Int32} {j : Nat} (ej : J.toInt = (j : Int)) (hj : j < N') (ha : n0 ≤ a) {g : JFrame} (hg : g.method = m) {rest : List Value} (hs : g.stack = .int x :: .int J :: .ref a :: rest) (hd : decode c.code g.pc = .ok (.bastore, 1))
    (next : ∀ T' h', Wr h h' a j (.int (nar .byte x)) → Ab Z h' a .byte N' (upd B j (nar .byte x)) → Here p l e R s m args below meth c n0 T' h' k n → Go p e below Φ (T'.setTop { g with pc := g.pc + 1, stack := rest })) : Go p e below Φ (T.setTop g) := by
  have A' := A
  obtain ⟨cl, A0, S, G⟩ := A
  refine own_stB H hx hZ A0 (own_in ej S hj) ha hg hs hd fun T' h' W H' => ?_
  rw [(own_idx ej).2] at W
  exact next T' h' W (A'.set W) H'
theorem own_ldIA (H : Here p l e R s m args below meth c n0 T h k n) (hx : p.tables.exec = Jvm.exec) (hZ : Z.Warmed39 s.vm) {a : Addr} {N' : Nat} {B : Nat → Int32} (A : Ab Z h a .int N' B) {J : Int32} {j : Nat} (ej : J.toInt = (j : Int)) (hj : j < N') {g : JFrame} (hg : g.method = m) {rest : List Value} (hs : g.stack = .int J :: .ref a :: rest) (hd : decode c.code g.pc = .ok (.iaload, 1))
    (next : Go p e below Φ (T.setTop { g with pc := g.pc + 1, stack := .int (B j) :: rest })) : Go p e below Φ (T.setTop g) := by
  obtain ⟨cl, A0, S, G⟩ := A
  exact own_ldI H hx hZ A0 (own_in ej S hj) (by rw [(own_idx ej).2]; exact G j hj) hg hs hd next
theorem own_ldBA (H : Here p l e R s m args below meth c n0 T h k n) (hx : p.tables.exec = Jvm.exec) (hZ : Z.Warmed39 s.vm) {a : Addr} {N' : Nat} {B : Nat → Int32} (A : Ab Z h a .byte N' B) {J : Int32} {j : Nat} (ej : J.toInt = (j : Int)) (hj : j < N') {g : JFrame} (hg : g.method = m) {rest : List Value} (hs : g.stack = .int J :: .ref a :: rest) (hd : decode c.code g.pc = .ok (.baload, 1))
    (next : Go p e below Φ (T.setTop { g with pc := g.pc + 1, stack := .int (B j) :: rest })) : Go p e below Φ (T.setTop g) := by
  obtain ⟨cl, A0, S, G⟩ := A
  exact own_ldB H hx hZ A0 (own_in ej S hj) (by rw [(own_idx ej).2]; exact G j hj) hg hs hd next
theorem own_lenA (H : Here p l e R s m args below meth c n0 T h k n) (hx : p.tables.exec = Jvm.exec) (hZ : Z.Warmed39 s.vm) {a : Addr} {N' : Nat} {B : Nat → Int32} {ty : FieldType} (A : Ab Z h a ty N' B) {z : Int32} (hz : N'.toInt32 = z) {g : JFrame} (hg : g.method = m) {rest : List Value} (hs : g.stack = .ref a :: rest) (hd : decode c.code g.pc = .ok (.arraylength, 1))
    (next : Go p e below Φ (T.setTop { g with pc := g.pc + 1, stack := .int z :: rest })) : Go p e below Φ (T.setTop g) := by
  obtain ⟨cl, A0, S, G⟩ := A
  subst S; subst hz
  exact own_len H hx hZ A0 hg hs hd next
/-! constants -/
theorem own_ldcI (H : Here p l e R s m args below meth c n0 T h k n) (hx : p.tables.exec = Jvm.exec) (hZ : Z.Warmed39 s.vm) {own : String} {index : Nat} {v : Int32} (hown : s.vm.findClass own = some m.cls) (w : (Jvm.Cond.constant own index v).before a0 Z = true) {g : JFrame} (hg : g.method = m) (hd : decode c.code g.pc = .ok (.ldc index, 2))
    (next : Go p e below Φ (T.setTop { g with pc := g.pc + 2, stack := .int v :: g.stack })) : Go p e below Φ (T.setTop g) := by
  obtain ⟨locs, X, r1, r2⟩ := H.stand
  exact Go.via (X.ldcInt hx hown (mvT hZ w) hg hd) next
theorem own_ldcL (H : Here p l e R s m args below meth c n0 T h k n) (hx : p.tables.exec = Jvm.exec) (hZ : Z.Warmed39 s.vm) {own : String} {index : Nat} {v : Int64} (hown : s.vm.findClass own = some m.cls) (w : (Jvm.Cond.constantLong own index v).before a0 Z = true) {g : JFrame} (hg : g.method = m) (hd : decode c.code g.pc = .ok (.ldc2_w index, 3))
    (next : Go p e below Φ (T.setTop { g with pc := g.pc + 3, stack := .long v :: g.stack })) : Go p e below Φ (T.setTop g) := by
  obtain ⟨locs, X, r1, r2⟩ := H.stand
  exact Go.via (X.ldc2Long hx hown (mvT hZ w) hg hd) next
/-! comparisons of longs -/
theorem own_llt {x y : Int64} (q : x < y) : ifCond.holds .lt (lcmpW x y) = true ∧ ifCond.holds .ge (lcmpW x y) = false := by
  have := (lw_lt x y).mpr q; rw [if0, if0]; exact ⟨(tlt this).1, (tlt this).2.1⟩
theorem own_nlt {x y : Int64} (q : ¬ x < y) : ifCond.holds .lt (lcmpW x y) = false ∧ ifCond.holds .ge (lcmpW x y) = true := by
  have : ¬ lcmpW x y < 0 := fun z => q ((lw_lt x y).mp z); rw [if0, if0]; exact ⟨(flt this).1, (flt this).2.1⟩
theorem own_lgt {x y : Int64} (q : y < x) : ifCond.holds .gt (lcmpW x y) = true ∧ ifCond.holds .le (lcmpW x y) = false := by
  have := (lw_gt x y).mpr q; rw [if0, if0]; exact ⟨(tlt this).2.2.1, (tlt this).2.2.2⟩
theorem own_ngt {x y : Int64} (q : ¬ y < x) : ifCond.holds .gt (lcmpW x y) = false ∧ ifCond.holds .le (lcmpW x y) = true := by
  have : ¬ 0 < lcmpW x y := fun z => q ((lw_gt x y).mp z); rw [if0, if0]; exact ⟨(flt this).2.2.1, (flt this).2.2.2⟩
theorem own_leq {x y : Int64} (q : x = y) : ifCond.holds .eq (lcmpW x y) = true ∧ ifCond.holds .ne (lcmpW x y) = false := by
  have := (lw_eq x y).mpr q; rw [if0, if0]; exact ⟨(teq this).1, (teq this).2⟩
theorem own_neq {x y : Int64} (q : ¬ x = y) : ifCond.holds .eq (lcmpW x y) = false ∧ ifCond.holds .ne (lcmpW x y) = true := by
  have : ¬ lcmpW x y = 0 := fun z => q ((lw_eq x y).mp z); rw [if0, if0]; exact ⟨(feq this).1, (feq this).2⟩
end Own
def mn32 (a b : Int32) : Int32 := if b < a then b else a
def mx32 (a b : Int32) : Int32 := if a < b then b else a
def stp (h v : Int32) : Int32 := (h ^^^ v) * 16777619
def tkG (g : Int32 → Int32 → Int32) (h i v lo hi : Int32) : Int32 := if i < lo then h else if i < hi then g h v else h
def tk (h i v lo hi : Int32) : Int32 := tkG stp h i v lo hi
def fnvG (g : Int32 → Int32 → Int32) (B : Nat → Int32) : Nat → Nat → Int32 → Int32
  | 0, _, acc => acc
  | k + 1, i, acc => fnvG g B k (i + 1) (g acc (B i &&& 255))
def fnvL (B : Nat → Int32) (k i : Nat) (acc : Int32) : Int32 := fnvG stp B k i acc
theorem fnvG_succ (g : Int32 → Int32 → Int32) (B : Nat → Int32) (k i : Nat) (acc : Int32) : fnvG g B (k + 1) i acc = fnvG g B k (i + 1) (g acc (B i &&& 255)) := rfl
theorem fnvG_zero (g : Int32 → Int32 → Int32) (B : Nat → Int32) (i : Nat) (acc : Int32) : fnvG g B 0 i acc = acc := rfl
theorem fnvL_succ (B : Nat → Int32) (k i : Nat) (acc : Int32) : fnvL B (k + 1) i acc = fnvL B k (i + 1) (stp acc (B i &&& 255)) := fnvG_succ stp B k i acc
theorem fnvL_zero (B : Nat → Int32) (i : Nat) (acc : Int32) : fnvL B 0 i acc = acc := fnvG_zero stp B i acc
theorem own_b (x y : Int32) (h : (x.toInt - y.toInt) % 256 = 0) : (nar .byte x.toInt8.toInt32) &&& 255 = y &&& 255 := by
  apply Int32.toInt_inj.mp
  rw [c_mask _ 255 8 (by decide) (by decide), c_mask _ 255 8 (by decide) (by decide)]
  have e1 := (c_i2b x).1
  have e2 := (c_i2b x.toInt8.toInt32).1
  show (x.toInt8.toInt32.toInt8.toInt32).toInt % _ = _
  omega
theorem own_sh (x : Int32) (q : Int32) (k : Nat) (hk : q.toBitVec.toNat % 32 = k) (h0 : 0 < k) (h1 : k ≤ 24) : ((x >>> (q &&& 31)).toInt - ((x.toUInt32 >>> (q &&& 31).toUInt32).toInt32).toInt) % 256 = 0 := by
  rw [c_ishr x q k hk, c_iushr x q k hk h0]
  have r := rng32 x
  have : k = 1 ∨ k = 2 ∨ k = 3 ∨ k = 4 ∨ k = 5 ∨ k = 6 ∨ k = 7 ∨ k = 8 ∨ k = 9 ∨ k = 10 ∨ k = 11 ∨ k = 12 ∨ k = 13 ∨ k = 14 ∨ k = 15 ∨ k = 16 ∨ k = 17 ∨ k = 18 ∨ k = 19 ∨ k = 20 ∨ k = 21 ∨ k = 22 ∨ k = 23 ∨ k = 24 := by omega
  rcases this with rfl | rfl | rfl | rfl | rfl | rfl | rfl | rfl | rfl | rfl | rfl | rfl | rfl | rfl | rfl | rfl | rfl | rfl | rfl | rfl | rfl | rfl | rfl | rfl <;> omega
theorem own_rem (x : Int32) : 0 ≤ ((x &&& 2147483647) % 7).toInt ∧ ((x &&& 2147483647) % 7).toInt ≤ 6 := by
  have e1 := c_mask x 2147483647 31 (by decide) (by decide)
  have e2 := (c_irem (x &&& 2147483647) 7 7 (by decide)).1
  omega
theorem own_mm (a b : Int32) (ha : 0 ≤ a.toInt ∧ a.toInt ≤ 6) (hb : 0 ≤ b.toInt ∧ b.toInt ≤ 6) : ∃ f t : Nat, (mn32 a b).toInt = f ∧ (mx32 a b).toInt = t ∧ f ≤ t ∧ t ≤ 6 := by
  refine ⟨(mn32 a b).toInt.toNat, (mx32 a b).toInt.toNat, ?_⟩
  unfold mn32 mx32
  simp only [Int32.lt_iff_toInt_lt]
  repeat' split
  all_goals omega
def tkN (g : Int32 → Int32 → Int32) (h : Int32) (i : Nat) (v : Int32) (f t : Nat) : Int32 := if i < f then h else if i < t then g h v else h
theorem own_tk (h i v lo hi : Int32) (n f t : Nat) (hi' : i.toInt = n) (hf : lo.toInt = f) (ht : hi.toInt = t) : tk h i v lo hi = tkN stp h n v f t := by
  unfold tk tkG tkN
  simp only [Int32.lt_iff_toInt_lt, hi', hf, ht, Int.ofNat_lt]
theorem own_hash (B : Nat → Int32) (lo hi v0 v1 v2 v3 v4 v5 : Int32) (f t : Nat) (hf : lo.toInt = f) (ht : hi.toInt = t) (h1 : f ≤ t) (h2 : t ≤ 6) (acc : Int32) (e0 : (B 0 &&& 255) = v0) (e1 : (B 1 &&& 255) = v1) (e2 : (B 2 &&& 255) = v2) (e3 : (B 3 &&& 255) = v3) (e4 : (B 4 &&& 255) = v4) (e5 : (B 5 &&& 255) = v5) :
    fnvL B (t - f) f acc = tk (tk (tk (tk (tk (tk acc 0 v0 lo hi) 1 v1 lo hi) 2 v2 lo hi) 3 v3 lo hi) 4 v4 lo hi) 5 v5 lo hi := by
  rw [own_tk _ 0 _ _ _ 0 f t (by decide) hf ht, own_tk _ 1 _ _ _ 1 f t (by decide) hf ht, own_tk _ 2 _ _ _ 2 f t (by decide) hf ht, own_tk _ 3 _ _ _ 3 f t (by decide) hf ht, own_tk _ 4 _ _ _ 4 f t (by decide) hf ht, own_tk _ 5 _ _ _ 5 f t (by decide) hf ht]
  unfold fnvL
  generalize stp = g
  clear hf ht
  have q1 : f = 0 ∨ f = 1 ∨ f = 2 ∨ f = 3 ∨ f = 4 ∨ f = 5 ∨ f = 6 := by omega
  have q2 : t = 0 ∨ t = 1 ∨ t = 2 ∨ t = 3 ∨ t = 4 ∨ t = 5 ∨ t = 6 := by omega
  subst e0 e1 e2 e3 e4 e5
  rcases q1 with rfl | rfl | rfl | rfl | rfl | rfl | rfl <;> rcases q2 with rfl | rfl | rfl | rfl | rfl | rfl | rfl <;> first | (exfalso; omega) | simp [fnvG, tkN]
theorem own_next {J : Int32} {j : Nat} (e : J.toInt = (j : Int)) (h : j < 1000) : (J + 1).toInt = ((j + 1 : Nat) : Int) := by
  have c1 := c_iadd J 1
  have r := rng32 (J + 1)
  have e1 : (1 : Int32).toInt = 1 := by decide
  omega
theorem own_lt {J T : Int32} {j t : Nat} (e : J.toInt = (j : Int)) (e' : T.toInt = (t : Int)) (h : j < t) : J < T := by
  rw [Int32.lt_iff_toInt_lt]; omega
theorem own_nlt' {J T : Int32} {j t : Nat} (e : J.toInt = (j : Int)) (e' : T.toInt = (t : Int)) (h : j = t) : ¬ J < T := by
  rw [Int32.lt_iff_toInt_lt]; omega
theorem d1_0 : decode jdk_29_method_69_code 0 = .ok (.iload_n 0, 1) := by decide +kernel
theorem d1_1 : decode jdk_29_method_69_code 1 = .ok (.iload_n 1, 1) := by decide +kernel
theorem d1_2 : decode jdk_29_method_69_code 2 = .ok (.if_icmp .gt 7, 3) := by decide +kernel
theorem d1_5 : decode jdk_29_method_69_code 5 = .ok (.iload_n 0, 1) := by decide +kernel
theorem d1_6 : decode jdk_29_method_69_code 6 = .ok (.goto 4, 3) := by decide +kernel
theorem d1_9 : decode jdk_29_method_69_code 9 = .ok (.iload_n 1, 1) := by decide +kernel
theorem d1_10 : decode jdk_29_method_69_code 10 = .ok (.ireturn, 1) := by decide +kernel
theorem ef_rmMin (m : MethodId) (x0 : Int32) (x1 : Int32) : entryFrame m #[(.int x0), (.int x1)] 2 = mkF m 0 #[.val (.int x0), .val (.int x1)] [] := by first | (simp [entryFrame, mkF, argsToLocals, Value.category]; done) | rfl
set_option maxRecDepth 65536 in
set_option maxHeartbeats 40000000 in
theorem rmMin (l : Launch) (Z : State) (a0 : Array Value) (hw : ∀ d ∈ tables_1, d.before a0 Z = true) (p1 p2 : Int32) (h0 : Heap) (n0 : Nat)  :
    CM l Z (⟨"java/lang/Math", "min", "(II)I"⟩ : MethodName) jdk_29_method_69_code 2 (some .int) ({ frames := 0, cells := 0, slots := 0, locals := 0 } : Room) #[(.int p1), (.int p2)] h0 n0 (fun v h => v = some (.int (mn32 p1 p2)) ∧ h0 = h) := by
  refine own_enter (Jvm.Free.JP.mathPlain rfl (by decide +kernel)) ?_
  intro p e s m below meth c T0 hx hby hml hown hnm hZ hret hlk H0
  replace hown : s.vm.findClass "java/lang/Math" = some m.cls := hown
  replace hret : meth.sig.returnType = some .int := hret
  refine Go.via (fun t_ k_ => castTop (ef_rmMin m p1 p2) k_) ?_
  show Go _ _ _ _ (T0.setTop (mkF m 0 #[.val (.int p1), .val (.int p2)] []))
  refine Go.via (fun t_ k_ => XS.iloadN H0.here hx rfl (hb hby d1_0) rfl k_) ?_
  show Go _ _ _ _ (T0.setTop (mkF m 1 #[.val (.int p1), .val (.int p2)] [(.int p1)]))
  refine Go.via (fun t_ k_ => XS.iloadN H0.here hx rfl (hb hby d1_1) rfl k_) ?_
  show Go _ _ _ _ (T0.setTop (mkF m 2 #[.val (.int p1), .val (.int p2)] [(.int p2), (.int p1)]))
  by_cases hc2 : p2 < p1
  · refine Go.via (fun t_ k_ => XS.icmpYes H0.here hx rfl (pc0 := 2) (pc' := 9) rfl (hb hby d1_2) rfl ((tlt hc2).2.2.1) (by decide) (by decide) k_) ?_
    show Go _ _ _ _ (T0.setTop (mkF m 9 #[.val (.int p1), .val (.int p2)] []))
    refine Go.via (fun t_ k_ => XS.iloadN H0.here hx rfl (hb hby d1_9) rfl k_) ?_
    show Go _ _ _ _ (T0.setTop (mkF m 10 #[.val (.int p1), .val (.int p2)] [(.int p2)]))
    exact own_retI H0 hx hlk hret (hb hby d1_10) ⟨by simp [mn32, hc2], rfl⟩ (by decide) (by decide)
  · refine Go.via (fun t_ k_ => XS.icmpNo H0.here hx rfl (hb hby d1_2) rfl ((flt hc2).2.2.1) k_) ?_
    show Go _ _ _ _ (T0.setTop (mkF m 5 #[.val (.int p1), .val (.int p2)] []))
    refine Go.via (fun t_ k_ => XS.iloadN H0.here hx rfl (hb hby d1_5) rfl k_) ?_
    show Go _ _ _ _ (T0.setTop (mkF m 6 #[.val (.int p1), .val (.int p2)] [(.int p1)]))
    refine Go.via (fun t_ k_ => XS.goto H0.here hx rfl (pc0 := 6) (pc' := 10) rfl (hb hby d1_6) (by decide) (by decide) k_) ?_
    show Go _ _ _ _ (T0.setTop (mkF m 10 #[.val (.int p1), .val (.int p2)] [(.int p1)]))
    exact own_retI H0 hx hlk hret (hb hby d1_10) ⟨by simp [mn32, hc2], rfl⟩ (by decide) (by decide)
theorem d2_0 : decode jdk_29_method_65_code 0 = .ok (.iload_n 0, 1) := by decide +kernel
theorem d2_1 : decode jdk_29_method_65_code 1 = .ok (.iload_n 1, 1) := by decide +kernel
theorem d2_2 : decode jdk_29_method_65_code 2 = .ok (.if_icmp .lt 7, 3) := by decide +kernel
theorem d2_5 : decode jdk_29_method_65_code 5 = .ok (.iload_n 0, 1) := by decide +kernel
theorem d2_6 : decode jdk_29_method_65_code 6 = .ok (.goto 4, 3) := by decide +kernel
theorem d2_9 : decode jdk_29_method_65_code 9 = .ok (.iload_n 1, 1) := by decide +kernel
theorem d2_10 : decode jdk_29_method_65_code 10 = .ok (.ireturn, 1) := by decide +kernel
theorem ef_rmMax (m : MethodId) (x0 : Int32) (x1 : Int32) : entryFrame m #[(.int x0), (.int x1)] 2 = mkF m 0 #[.val (.int x0), .val (.int x1)] [] := by first | (simp [entryFrame, mkF, argsToLocals, Value.category]; done) | rfl
set_option maxRecDepth 65536 in
set_option maxHeartbeats 40000000 in
theorem rmMax (l : Launch) (Z : State) (a0 : Array Value) (hw : ∀ d ∈ tables_1, d.before a0 Z = true) (p1 p2 : Int32) (h0 : Heap) (n0 : Nat)  :
    CM l Z (⟨"java/lang/Math", "max", "(II)I"⟩ : MethodName) jdk_29_method_65_code 2 (some .int) ({ frames := 0, cells := 0, slots := 0, locals := 0 } : Room) #[(.int p1), (.int p2)] h0 n0 (fun v h => v = some (.int (mx32 p1 p2)) ∧ h0 = h) := by
  refine own_enter (Jvm.Free.JP.mathPlain rfl (by decide +kernel)) ?_
  intro p e s m below meth c T0 hx hby hml hown hnm hZ hret hlk H0
  replace hown : s.vm.findClass "java/lang/Math" = some m.cls := hown
  replace hret : meth.sig.returnType = some .int := hret
  refine Go.via (fun t_ k_ => castTop (ef_rmMax m p1 p2) k_) ?_
  show Go _ _ _ _ (T0.setTop (mkF m 0 #[.val (.int p1), .val (.int p2)] []))
  refine Go.via (fun t_ k_ => XS.iloadN H0.here hx rfl (hb hby d2_0) rfl k_) ?_
  show Go _ _ _ _ (T0.setTop (mkF m 1 #[.val (.int p1), .val (.int p2)] [(.int p1)]))
  refine Go.via (fun t_ k_ => XS.iloadN H0.here hx rfl (hb hby d2_1) rfl k_) ?_
  show Go _ _ _ _ (T0.setTop (mkF m 2 #[.val (.int p1), .val (.int p2)] [(.int p2), (.int p1)]))
  by_cases hc2 : p1 < p2
  · refine Go.via (fun t_ k_ => XS.icmpYes H0.here hx rfl (pc0 := 2) (pc' := 9) rfl (hb hby d2_2) rfl ((tlt hc2).1) (by decide) (by decide) k_) ?_
    show Go _ _ _ _ (T0.setTop (mkF m 9 #[.val (.int p1), .val (.int p2)] []))
    refine Go.via (fun t_ k_ => XS.iloadN H0.here hx rfl (hb hby d2_9) rfl k_) ?_
    show Go _ _ _ _ (T0.setTop (mkF m 10 #[.val (.int p1), .val (.int p2)] [(.int p2)]))
    exact own_retI H0 hx hlk hret (hb hby d2_10) ⟨by simp [mx32, hc2], rfl⟩ (by decide) (by decide)
  · refine Go.via (fun t_ k_ => XS.icmpNo H0.here hx rfl (hb hby d2_2) rfl ((flt hc2).1) k_) ?_
    show Go _ _ _ _ (T0.setTop (mkF m 5 #[.val (.int p1), .val (.int p2)] []))
    refine Go.via (fun t_ k_ => XS.iloadN H0.here hx rfl (hb hby d2_5) rfl k_) ?_
    show Go _ _ _ _ (T0.setTop (mkF m 6 #[.val (.int p1), .val (.int p2)] [(.int p1)]))
    refine Go.via (fun t_ k_ => XS.goto H0.here hx rfl (pc0 := 6) (pc' := 10) rfl (hb hby d2_6) (by decide) (by decide) k_) ?_
    show Go _ _ _ _ (T0.setTop (mkF m 10 #[.val (.int p1), .val (.int p2)] [(.int p1)]))
    exact own_retI H0 hx hlk hret (hb hby d2_10) ⟨by simp [mx32, hc2], rfl⟩ (by decide) (by decide)
theorem d4_0 : decode method_2_code 0 = .ok (.iload_n 0, 1) := by decide +kernel
theorem d4_1 : decode method_2_code 1 = .ok (.iload_n 1, 1) := by decide +kernel
theorem d4_2 : decode method_2_code 2 = .ok (.ixor, 1) := by decide +kernel
theorem d4_3 : decode method_2_code 3 = .ok (.ldc 7, 2) := by decide +kernel
theorem d4_5 : decode method_2_code 5 = .ok (.imul, 1) := by decide +kernel
theorem d4_6 : decode method_2_code 6 = .ok (.ireturn, 1) := by decide +kernel
theorem ef_rmStep (m : MethodId) (x0 : Int32) (x1 : Int32) : entryFrame m #[(.int x0), (.int x1)] 2 = mkF m 0 #[.val (.int x0), .val (.int x1)] [] := by first | (simp [entryFrame, mkF, argsToLocals, Value.category]; done) | rfl
set_option maxRecDepth 65536 in
set_option maxHeartbeats 40000000 in
theorem rmStep (l : Launch) (Z : State) (a0 : Array Value) (hw : ∀ d ∈ tables_1, d.before a0 Z = true) (p1 p2 : Int32) (h0 : Heap) (n0 : Nat)  :
    CM l Z (⟨"com/example/perekaz/perekaz/TextLinesHashPinLaw", "step", "(II)I"⟩ : MethodName) method_2_code 2 (some .int) ({ frames := 0, cells := 0, slots := 0, locals := 0 } : Room) #[(.int p1), (.int p2)] h0 n0 (fun v h => v = some (.int (stp p1 p2)) ∧ h0 = h) := by
  refine own_enter (by decide +kernel) ?_
  intro p e s m below meth c T0 hx hby hml hown hnm hZ hret hlk H0
  replace hown : s.vm.findClass "com/example/perekaz/perekaz/TextLinesHashPinLaw" = some m.cls := hown
  replace hret : meth.sig.returnType = some .int := hret
  refine Go.via (fun t_ k_ => castTop (ef_rmStep m p1 p2) k_) ?_
  show Go _ _ _ _ (T0.setTop (mkF m 0 #[.val (.int p1), .val (.int p2)] []))
  refine Go.via (fun t_ k_ => XS.iloadN H0.here hx rfl (hb hby d4_0) rfl k_) ?_
  show Go _ _ _ _ (T0.setTop (mkF m 1 #[.val (.int p1), .val (.int p2)] [(.int p1)]))
  refine Go.via (fun t_ k_ => XS.iloadN H0.here hx rfl (hb hby d4_1) rfl k_) ?_
  show Go _ _ _ _ (T0.setTop (mkF m 2 #[.val (.int p1), .val (.int p2)] [(.int p2), (.int p1)]))
  refine Go.via (fun t_ k_ => XS.ixor H0.here hx rfl (hb hby d4_2) rfl k_) ?_
  show Go _ _ _ _ (T0.setTop (mkF m 3 #[.val (.int p1), .val (.int p2)] [(.int (p1 ^^^ p2))]))
  refine own_ldcI H0 hx hZ hown (hw _ (List.mem_of_getElem? (i := 17) rfl)) (g := (mkF m 3 #[.val (.int p1), .val (.int p2)] [(.int (p1 ^^^ p2))])) rfl (hb hby d4_3) ?_
  show Go _ _ _ _ (T0.setTop (mkF m 5 #[.val (.int p1), .val (.int p2)] [(.int (16777619 : Int32)), (.int (p1 ^^^ p2))]))
  refine Go.via (fun t_ k_ => XS.imul H0.here hx rfl (hb hby d4_5) rfl k_) ?_
  show Go _ _ _ _ (T0.setTop (mkF m 6 #[.val (.int p1), .val (.int p2)] [(.int ((p1 ^^^ p2) * (16777619 : Int32)))]))
  exact own_retI H0 hx hlk hret (hb hby d4_6) ⟨rfl, rfl⟩ (by decide) (by decide)
theorem d3_0 : decode method_3_code 0 = .ok (.iload_n 3, 1) := by decide +kernel
theorem d3_1 : decode method_3_code 1 = .ok (.iload_n 1, 1) := by decide +kernel
theorem d3_2 : decode method_3_code 2 = .ok (.if_icmp .gt 15, 3) := by decide +kernel
theorem d3_5 : decode method_3_code 5 = .ok (.iload_n 1, 1) := by decide +kernel
theorem d3_6 : decode method_3_code 6 = .ok (.iload 4, 2) := by decide +kernel
theorem d3_8 : decode method_3_code 8 = .ok (.if_icmp .ge 9, 3) := by decide +kernel
theorem d3_11 : decode method_3_code 11 = .ok (.iload_n 0, 1) := by decide +kernel
theorem d3_12 : decode method_3_code 12 = .ok (.iload_n 2, 1) := by decide +kernel
theorem d3_13 : decode method_3_code 13 = .ok (.invokestatic 8, 3) := by decide +kernel
theorem d3_16 : decode method_3_code 16 = .ok (.ireturn, 1) := by decide +kernel
theorem d3_17 : decode method_3_code 17 = .ok (.iload_n 0, 1) := by decide +kernel
theorem d3_18 : decode method_3_code 18 = .ok (.ireturn, 1) := by decide +kernel
theorem ef_rmTake (m : MethodId) (x0 : Int32) (x1 : Int32) (x2 : Int32) (x3 : Int32) (x4 : Int32) : entryFrame m #[(.int x0), (.int x1), (.int x2), (.int x3), (.int x4)] 5 = mkF m 0 #[.val (.int x0), .val (.int x1), .val (.int x2), .val (.int x3), .val (.int x4)] [] := by first | (simp [entryFrame, mkF, argsToLocals, Value.category]; done) | rfl
theorem pd_0 : parseMethodDescriptor "(II)I" = some ⟨[.int, .int], some .int⟩ := by decide +kernel
set_option maxRecDepth 65536 in
set_option maxHeartbeats 40000000 in
theorem rmTake (l : Launch) (Z : State) (a0 : Array Value) (hw : ∀ d ∈ tables_1, d.before a0 Z = true) (p1 p2 p3 p4 p5 : Int32) (h0 : Heap) (n0 : Nat)  :
    CM l Z (⟨"com/example/perekaz/perekaz/TextLinesHashPinLaw", "take", "(IIIII)I"⟩ : MethodName) method_3_code 5 (some .int) ({ frames := 1, cells := 0, slots := 0, locals := 13 } : Room) #[(.int p1), (.int p2), (.int p3), (.int p4), (.int p5)] h0 n0 (fun v h => v = some (.int (tk p1 p2 p3 p4 p5)) ∧ h0 = h) := by
  refine own_enter (by decide +kernel) ?_
  intro p e s m below meth c T0 hx hby hml hown hnm hZ hret hlk H0
  replace hown : s.vm.findClass "com/example/perekaz/perekaz/TextLinesHashPinLaw" = some m.cls := hown
  replace hret : meth.sig.returnType = some .int := hret
  refine Go.via (fun t_ k_ => castTop (ef_rmTake m p1 p2 p3 p4 p5) k_) ?_
  show Go _ _ _ _ (T0.setTop (mkF m 0 #[.val (.int p1), .val (.int p2), .val (.int p3), .val (.int p4), .val (.int p5)] []))
  refine Go.via (fun t_ k_ => XS.iloadN H0.here hx rfl (hb hby d3_0) rfl k_) ?_
  show Go _ _ _ _ (T0.setTop (mkF m 1 #[.val (.int p1), .val (.int p2), .val (.int p3), .val (.int p4), .val (.int p5)] [(.int p4)]))
  refine Go.via (fun t_ k_ => XS.iloadN H0.here hx rfl (hb hby d3_1) rfl k_) ?_
  show Go _ _ _ _ (T0.setTop (mkF m 2 #[.val (.int p1), .val (.int p2), .val (.int p3), .val (.int p4), .val (.int p5)] [(.int p2), (.int p4)]))
  by_cases hc2 : p2 < p4
  · refine Go.via (fun t_ k_ => XS.icmpYes H0.here hx rfl (pc0 := 2) (pc' := 17) rfl (hb hby d3_2) rfl ((tlt hc2).2.2.1) (by decide) (by decide) k_) ?_
    show Go _ _ _ _ (T0.setTop (mkF m 17 #[.val (.int p1), .val (.int p2), .val (.int p3), .val (.int p4), .val (.int p5)] []))
    refine Go.via (fun t_ k_ => XS.iloadN H0.here hx rfl (hb hby d3_17) rfl k_) ?_
    show Go _ _ _ _ (T0.setTop (mkF m 18 #[.val (.int p1), .val (.int p2), .val (.int p3), .val (.int p4), .val (.int p5)] [(.int p1)]))
    exact own_retI H0 hx hlk hret (hb hby d3_18) ⟨by simp [tk, tkG, eq_true hc2], rfl⟩ (by decide) (by decide)
  · refine Go.via (fun t_ k_ => XS.icmpNo H0.here hx rfl (hb hby d3_2) rfl ((flt hc2).2.2.1) k_) ?_
    show Go _ _ _ _ (T0.setTop (mkF m 5 #[.val (.int p1), .val (.int p2), .val (.int p3), .val (.int p4), .val (.int p5)] []))
    refine Go.via (fun t_ k_ => XS.iloadN H0.here hx rfl (hb hby d3_5) rfl k_) ?_
    show Go _ _ _ _ (T0.setTop (mkF m 6 #[.val (.int p1), .val (.int p2), .val (.int p3), .val (.int p4), .val (.int p5)] [(.int p2)]))
    refine Go.via (fun t_ k_ => XS.iload H0.here hx rfl (hb hby d3_6) rfl k_) ?_
    show Go _ _ _ _ (T0.setTop (mkF m 8 #[.val (.int p1), .val (.int p2), .val (.int p3), .val (.int p4), .val (.int p5)] [(.int p5), (.int p2)]))
    by_cases hc8 : p2 < p5
    · refine Go.via (fun t_ k_ => XS.icmpNo H0.here hx rfl (hb hby d3_8) rfl ((tlt hc8).2.1) k_) ?_
      show Go _ _ _ _ (T0.setTop (mkF m 11 #[.val (.int p1), .val (.int p2), .val (.int p3), .val (.int p4), .val (.int p5)] []))
      refine Go.via (fun t_ k_ => XS.iloadN H0.here hx rfl (hb hby d3_11) rfl k_) ?_
      show Go _ _ _ _ (T0.setTop (mkF m 12 #[.val (.int p1), .val (.int p2), .val (.int p3), .val (.int p4), .val (.int p5)] [(.int p1)]))
      refine Go.via (fun t_ k_ => XS.iloadN H0.here hx rfl (hb hby d3_12) rfl k_) ?_
      show Go _ _ _ _ (T0.setTop (mkF m 13 #[.val (.int p1), .val (.int p2), .val (.int p3), .val (.int p4), .val (.int p5)] [(.int p3), (.int p1)]))
      refine own_callS H0 hx hZ (y := (⟨"com/example/perekaz/perekaz/TextLinesHashPinLaw", "step", "(II)I"⟩ : MethodName)) hown (hw _ (List.mem_of_getElem? (i := 14) rfl)) (hw _ (List.mem_of_getElem? (i := 15) rfl)) (hw _ (List.mem_of_getElem? (i := 12) rfl)) (hw _ (List.mem_of_getElem? (i := 16) rfl)) (by decide) (rmStep l Z a0 hw p1 p3 h0 n0) (g := (mkF m 13 #[.val (.int p1), .val (.int p2), .val (.int p3), .val (.int p4), .val (.int p5)] [(.int p3), (.int p1)])) rfl (by rw [hml]; rfl) (argsL := [(.int p1), (.int p3)]) (rest := []) (lenOf pd_0 rfl) rfl 0 (Nat.le_of_eq rfl) (hb hby d3_13) (by decide) (by decide) (by decide) (by decide) ?_
      rintro _ T1 _ ⟨rfl, rfl⟩ H1
      show Go _ _ _ _ (T1.setTop (mkF m 16 #[.val (.int p1), .val (.int p2), .val (.int p3), .val (.int p4), .val (.int p5)] [(.int (stp p1 p3))]))
      exact own_retI H1 hx hlk hret (hb hby d3_16) ⟨by simp [tk, tkG, eq_false hc2, eq_true hc8], rfl⟩ (by decide) (by decide)
    · refine Go.via (fun t_ k_ => XS.icmpYes H0.here hx rfl (pc0 := 8) (pc' := 17) rfl (hb hby d3_8) rfl ((flt hc8).2.1) (by decide) (by decide) k_) ?_
      show Go _ _ _ _ (T0.setTop (mkF m 17 #[.val (.int p1), .val (.int p2), .val (.int p3), .val (.int p4), .val (.int p5)] []))
      refine Go.via (fun t_ k_ => XS.iloadN H0.here hx rfl (hb hby d3_17) rfl k_) ?_
      show Go _ _ _ _ (T0.setTop (mkF m 18 #[.val (.int p1), .val (.int p2), .val (.int p3), .val (.int p4), .val (.int p5)] [(.int p1)]))
      exact own_retI H0 hx hlk hret (hb hby d3_18) ⟨by simp [tk, tkG, eq_false hc2, eq_false hc8], rfl⟩ (by decide) (by decide)
theorem d5_0 : decode prog_212_method_13_code 0 = .ok (.ldc 66, 2) := by decide +kernel
theorem d5_2 : decode prog_212_method_13_code 2 = .ok (.istore_n 3, 1) := by decide +kernel
theorem d5_3 : decode prog_212_method_13_code 3 = .ok (.iload_n 1, 1) := by decide +kernel
theorem d5_4 : decode prog_212_method_13_code 4 = .ok (.istore 4, 2) := by decide +kernel
theorem d5_6 : decode prog_212_method_13_code 6 = .ok (.iload 4, 2) := by decide +kernel
theorem d5_8 : decode prog_212_method_13_code 8 = .ok (.iload_n 2, 1) := by decide +kernel
theorem d5_9 : decode prog_212_method_13_code 9 = .ok (.if_icmp .ge 23, 3) := by decide +kernel
theorem d5_12 : decode prog_212_method_13_code 12 = .ok (.iload_n 3, 1) := by decide +kernel
theorem d5_13 : decode prog_212_method_13_code 13 = .ok (.aload_n 0, 1) := by decide +kernel
theorem d5_14 : decode prog_212_method_13_code 14 = .ok (.iload 4, 2) := by decide +kernel
theorem d5_16 : decode prog_212_method_13_code 16 = .ok (.baload, 1) := by decide +kernel
theorem d5_17 : decode prog_212_method_13_code 17 = .ok (.sipush 255, 3) := by decide +kernel
theorem d5_20 : decode prog_212_method_13_code 20 = .ok (.iand, 1) := by decide +kernel
theorem d5_21 : decode prog_212_method_13_code 21 = .ok (.ixor, 1) := by decide +kernel
theorem d5_22 : decode prog_212_method_13_code 22 = .ok (.ldc 70, 2) := by decide +kernel
theorem d5_24 : decode prog_212_method_13_code 24 = .ok (.imul, 1) := by decide +kernel
theorem d5_25 : decode prog_212_method_13_code 25 = .ok (.istore_n 3, 1) := by decide +kernel
theorem d5_26 : decode prog_212_method_13_code 26 = .ok (.iinc 4 1, 3) := by decide +kernel
theorem d5_29 : decode prog_212_method_13_code 29 = .ok (.goto (-23), 3) := by decide +kernel
theorem d5_32 : decode prog_212_method_13_code 32 = .ok (.iload_n 3, 1) := by decide +kernel
theorem d5_33 : decode prog_212_method_13_code 33 = .ok (.ireturn, 1) := by decide +kernel
theorem ef_rmHash (m : MethodId) (x0 : Addr) (x1 : Int32) (x2 : Int32) : entryFrame m #[(.ref x0), (.int x1), (.int x2)] 5 = mkF m 0 #[.val (.ref x0), .val (.int x1), .val (.int x2), .unset, .unset] [] := by first | (simp [entryFrame, mkF, argsToLocals, Value.category]; done) | rfl
set_option maxRecDepth 65536 in
set_option maxHeartbeats 40000000 in
theorem rmHash (l : Launch) (Z : State) (a0 : Array Value) (hw : ∀ d ∈ tables_1, d.before a0 Z = true) (a : Addr) (B : Nat → Int32) (N' : Nat) (F G : Int32) (f t : Nat) (h0 : Heap) (n0 : Nat) (A : Ab Z h0 a .byte N' B) (hf : F.toInt = (f : Int)) (ht : G.toInt = (t : Int)) (hft : f ≤ t) (htn : t ≤ N') (hN : N' < 1000) :
    CM l Z (⟨"com/example/perekaz/perekaz/TextLines", "hash", "([BII)I"⟩ : MethodName) prog_212_method_13_code 5 (some .int) ({ frames := 0, cells := 0, slots := 0, locals := 0 } : Room) #[(.ref a), (.int F), (.int G)] h0 n0 (fun v h => v = some (.int (fnvL B (t - f) f (-2128831035 : Int32))) ∧ h0 = h) := by
  refine own_enter (by decide +kernel) ?_
  intro p e s m below meth c T0 hx hby hml hown hnm hZ hret hlk H0
  replace hown : s.vm.findClass "com/example/perekaz/perekaz/TextLines" = some m.cls := hown
  replace hret : meth.sig.returnType = some .int := hret
  refine Go.via (fun t_ k_ => castTop (ef_rmHash m a F G) k_) ?_
  have loop : ∀ (k i : Nat) (I acc : Int32) (Tj : State), I.toInt = (i : Int) → i + k = t → fnvL B k i acc = fnvL B (t - f) f (-2128831035 : Int32) → Here p l e ({ frames := 0, cells := 0, slots := 0, locals := 0 } : Room) s m #[(.ref a), (.int F), (.int G)] below meth c n0 Tj h0 0 0 → Go p e below (Fini below s n0 (fun v h => v = some (.int (fnvL B (t - f) f (-2128831035 : Int32))) ∧ h0 = h) ({ frames := 0, cells := 0, slots := 0, locals := 0 } : Room).cells ({ frames := 0, cells := 0, slots := 0, locals := 0 } : Room).slots) (Tj.setTop (mkF m 6 #[.val (.ref a), .val (.int F), .val (.int G), .val (.int acc), .val (.int I)] [])) := by
    intro k
    induction k with
    | zero =>
      intro i I acc Tj hI hk hacc Hj
      refine Go.via (fun t_ k_ => XS.iload Hj.here hx rfl (hb hby d5_6) rfl k_) ?_
      show Go _ _ _ _ (Tj.setTop (mkF m 8 #[.val (.ref a), .val (.int F), .val (.int G), .val (.int acc), .val (.int I)] [(.int I)]))
      refine Go.via (fun t_ k_ => XS.iloadN Hj.here hx rfl (hb hby d5_8) rfl k_) ?_
      show Go _ _ _ _ (Tj.setTop (mkF m 9 #[.val (.ref a), .val (.int F), .val (.int G), .val (.int acc), .val (.int I)] [(.int G), (.int I)]))
      refine Go.via (fun t_ k_ => XS.icmpYes Hj.here hx rfl (pc0 := 9) (pc' := 32) rfl (hb hby d5_9) rfl ((flt (show ¬ (I < G) from (own_nlt' hI ht (by omega)))).2.1) (by decide) (by decide) k_) ?_
      show Go _ _ _ _ (Tj.setTop (mkF m 32 #[.val (.ref a), .val (.int F), .val (.int G), .val (.int acc), .val (.int I)] []))
      refine Go.via (fun t_ k_ => XS.iloadN Hj.here hx rfl (hb hby d5_32) rfl k_) ?_
      show Go _ _ _ _ (Tj.setTop (mkF m 33 #[.val (.ref a), .val (.int F), .val (.int G), .val (.int acc), .val (.int I)] [(.int acc)]))
      exact own_retI Hj hx hlk hret (hb hby d5_33) ⟨congrArg (fun z => some (Value.int z)) ((fnvL_zero B i acc).symm.trans hacc), rfl⟩ (by decide) (by decide)
    | succ k ih =>
      intro i I acc Tj hI hk hacc Hj
      refine Go.via (fun t_ k_ => XS.iload Hj.here hx rfl (hb hby d5_6) rfl k_) ?_
      show Go _ _ _ _ (Tj.setTop (mkF m 8 #[.val (.ref a), .val (.int F), .val (.int G), .val (.int acc), .val (.int I)] [(.int I)]))
      refine Go.via (fun t_ k_ => XS.iloadN Hj.here hx rfl (hb hby d5_8) rfl k_) ?_
      show Go _ _ _ _ (Tj.setTop (mkF m 9 #[.val (.ref a), .val (.int F), .val (.int G), .val (.int acc), .val (.int I)] [(.int G), (.int I)]))
      refine Go.via (fun t_ k_ => XS.icmpNo Hj.here hx rfl (hb hby d5_9) rfl ((tlt (show I < G from (own_lt hI ht (by omega)))).2.1) k_) ?_
      show Go _ _ _ _ (Tj.setTop (mkF m 12 #[.val (.ref a), .val (.int F), .val (.int G), .val (.int acc), .val (.int I)] []))
      refine Go.via (fun t_ k_ => XS.iloadN Hj.here hx rfl (hb hby d5_12) rfl k_) ?_
      show Go _ _ _ _ (Tj.setTop (mkF m 13 #[.val (.ref a), .val (.int F), .val (.int G), .val (.int acc), .val (.int I)] [(.int acc)]))
      refine Go.via (fun t_ k_ => XS.aloadN Hj.here hx rfl (hb hby d5_13) rfl rfl k_) ?_
      show Go _ _ _ _ (Tj.setTop (mkF m 14 #[.val (.ref a), .val (.int F), .val (.int G), .val (.int acc), .val (.int I)] [(.ref a), (.int acc)]))
      refine Go.via (fun t_ k_ => XS.iload Hj.here hx rfl (hb hby d5_14) rfl k_) ?_
      show Go _ _ _ _ (Tj.setTop (mkF m 16 #[.val (.ref a), .val (.int F), .val (.int G), .val (.int acc), .val (.int I)] [(.int I), (.ref a), (.int acc)]))
      refine own_ldBA Hj hx hZ A (j := i) hI (by omega) (g := (mkF m 16 #[.val (.ref a), .val (.int F), .val (.int G), .val (.int acc), .val (.int I)] [(.int I), (.ref a), (.int acc)])) rfl rfl (hb hby d5_16) ?_
      show Go _ _ _ _ (Tj.setTop (mkF m 17 #[.val (.ref a), .val (.int F), .val (.int G), .val (.int acc), .val (.int I)] [(.int (B i)), (.int acc)]))
      refine Go.via (fun t_ k_ => XS.sipush Hj.here hx rfl (hb hby d5_17) k_) ?_
      show Go _ _ _ _ (Tj.setTop (mkF m 20 #[.val (.ref a), .val (.int F), .val (.int G), .val (.int acc), .val (.int I)] [(.int (255 : Int32)), (.int (B i)), (.int acc)]))
      refine Go.via (fun t_ k_ => XS.iand Hj.here hx rfl (hb hby d5_20) rfl k_) ?_
      show Go _ _ _ _ (Tj.setTop (mkF m 21 #[.val (.ref a), .val (.int F), .val (.int G), .val (.int acc), .val (.int I)] [(.int ((B i) &&& (255 : Int32))), (.int acc)]))
      refine Go.via (fun t_ k_ => XS.ixor Hj.here hx rfl (hb hby d5_21) rfl k_) ?_
      show Go _ _ _ _ (Tj.setTop (mkF m 22 #[.val (.ref a), .val (.int F), .val (.int G), .val (.int acc), .val (.int I)] [(.int (acc ^^^ ((B i) &&& (255 : Int32))))]))
      refine own_ldcI Hj hx hZ hown (hw _ (List.mem_of_getElem? (i := 23) rfl)) (g := (mkF m 22 #[.val (.ref a), .val (.int F), .val (.int G), .val (.int acc), .val (.int I)] [(.int (acc ^^^ ((B i) &&& (255 : Int32))))])) rfl (hb hby d5_22) ?_
      show Go _ _ _ _ (Tj.setTop (mkF m 24 #[.val (.ref a), .val (.int F), .val (.int G), .val (.int acc), .val (.int I)] [(.int (16777619 : Int32)), (.int (acc ^^^ ((B i) &&& (255 : Int32))))]))
      refine Go.via (fun t_ k_ => XS.imul Hj.here hx rfl (hb hby d5_24) rfl k_) ?_
      show Go _ _ _ _ (Tj.setTop (mkF m 25 #[.val (.ref a), .val (.int F), .val (.int G), .val (.int acc), .val (.int I)] [(.int ((acc ^^^ ((B i) &&& (255 : Int32))) * (16777619 : Int32)))]))
      refine Go.via (fun t_ k_ => XS.istoreN Hj.here hx rfl (hb hby d5_25) rfl (l' := #[.val (.ref a), .val (.int F), .val (.int G), .val (.int ((acc ^^^ ((B i) &&& (255 : Int32))) * (16777619 : Int32))), .val (.int I)]) rfl k_) ?_
      show Go _ _ _ _ (Tj.setTop (mkF m 26 #[.val (.ref a), .val (.int F), .val (.int G), .val (.int ((acc ^^^ ((B i) &&& (255 : Int32))) * (16777619 : Int32))), .val (.int I)] []))
      refine Go.via (fun t_ k_ => XS.iinc Hj.here hx rfl (hb hby d5_26) rfl (l' := #[.val (.ref a), .val (.int F), .val (.int G), .val (.int ((acc ^^^ ((B i) &&& (255 : Int32))) * (16777619 : Int32))), .val (.int (I + (1 : Int32)))]) rfl k_) ?_
      show Go _ _ _ _ (Tj.setTop (mkF m 29 #[.val (.ref a), .val (.int F), .val (.int G), .val (.int ((acc ^^^ ((B i) &&& (255 : Int32))) * (16777619 : Int32))), .val (.int (I + (1 : Int32)))] []))
      refine Go.via (fun t_ k_ => XS.goto Hj.here hx rfl (pc0 := 29) (pc' := 6) rfl (hb hby d5_29) (by decide) (by decide) k_) ?_
      show Go _ _ _ _ (Tj.setTop (mkF m 6 #[.val (.ref a), .val (.int F), .val (.int G), .val (.int ((acc ^^^ ((B i) &&& (255 : Int32))) * (16777619 : Int32))), .val (.int (I + (1 : Int32)))] []))
      exact ih (i + 1) _ _ Tj (own_next hI (by omega)) (by omega) ((fnvL_succ B k i acc).symm.trans hacc) Hj
  show Go _ _ _ _ (T0.setTop (mkF m 0 #[.val (.ref a), .val (.int F), .val (.int G), .unset, .unset] []))
  refine own_ldcI H0 hx hZ hown (hw _ (List.mem_of_getElem? (i := 22) rfl)) (g := (mkF m 0 #[.val (.ref a), .val (.int F), .val (.int G), .unset, .unset] [])) rfl (hb hby d5_0) ?_
  show Go _ _ _ _ (T0.setTop (mkF m 2 #[.val (.ref a), .val (.int F), .val (.int G), .unset, .unset] [(.int (-2128831035 : Int32))]))
  refine Go.via (fun t_ k_ => XS.istoreN H0.here hx rfl (hb hby d5_2) rfl (l' := #[.val (.ref a), .val (.int F), .val (.int G), .val (.int (-2128831035 : Int32)), .unset]) rfl k_) ?_
  show Go _ _ _ _ (T0.setTop (mkF m 3 #[.val (.ref a), .val (.int F), .val (.int G), .val (.int (-2128831035 : Int32)), .unset] []))
  refine Go.via (fun t_ k_ => XS.iloadN H0.here hx rfl (hb hby d5_3) rfl k_) ?_
  show Go _ _ _ _ (T0.setTop (mkF m 4 #[.val (.ref a), .val (.int F), .val (.int G), .val (.int (-2128831035 : Int32)), .unset] [(.int F)]))
  refine Go.via (fun t_ k_ => XS.istore H0.here hx rfl (hb hby d5_4) rfl (l' := #[.val (.ref a), .val (.int F), .val (.int G), .val (.int (-2128831035 : Int32)), .val (.int F)]) rfl k_) ?_
  show Go _ _ _ _ (T0.setTop (mkF m 6 #[.val (.ref a), .val (.int F), .val (.int G), .val (.int (-2128831035 : Int32)), .val (.int F)] []))
  exact loop (t - f) f _ _ T0 hf (by omega) rfl H0
theorem pd_1 : parseMethodDescriptor "(IIIII)I" = some ⟨[.int, .int, .int, .int, .int], some .int⟩ := by decide +kernel
theorem pd_2 : parseMethodDescriptor "([BII)I" = some ⟨[(.array .byte), .int, .int], some .int⟩ := by decide +kernel
theorem ef_rm0 (m : MethodId) (x0 : Int32) (x1 : Int32) (x2 : Int32) (x3 : Int32) : entryFrame m #[(.int x0), (.int x1), (.int x2), (.int x3)] maxLocals = mkF m 0 #[.val (.int x0), .val (.int x1), .val (.int x2), .val (.int x3), .unset, .unset, .unset, .unset, .unset, .unset, .unset, .unset, .unset, .unset, .unset, .unset, .unset, .unset] [] := by first | (simp [entryFrame, mkF, argsToLocals, Value.category, maxLocals]; done) | rfl
set_option maxRecDepth 65536 in
set_option maxHeartbeats 40000000 in
theorem rm0 (l : Launch) (Z : State) (a0 : Array Value) (hw : ∀ d ∈ tables_1, d.before a0 Z = true) (p1 p2 p3 p4 : Int32) (h0 : Heap) (n0 : Nat) (Z0 : n0 ≤ h0.size) :
    CM l Z x code maxLocals ret room_1 #[(.int p1), (.int p2), (.int p3), (.int p4)] h0 n0 (fun v h => v = some (.int (1 : Int32))) := by
  refine own_enter (by decide +kernel) ?_
  intro p e s m below meth c T0 hx hby hml hown hnm hZ hret hlk H0
  replace hown : s.vm.findClass "com/example/perekaz/perekaz/TextLinesHashPinLaw" = some m.cls := hown
  replace hret : meth.sig.returnType = some .boolean := hret
  replace hml : c.maxLocals = 18 := hml
  refine Go.via (fun t_ k_ => castTop (ef_rm0 m p1 p2 p3 p4) k_) ?_
  have J126 : ∀ (Tj : State) (hj : Heap) (a4 : Addr) (B : Nat → Int32) (v0 v1 v2 v3 v4 v5 x y : Int32), Here p l e room_1 s m #[(.int p1), (.int p2), (.int p3), (.int p4)] below meth c n0 Tj hj 1 6 → (Ab Z hj a4 .byte 6 B) → (n0 ≤ hj.size) → (0 ≤ x.toInt ∧ x.toInt ≤ 6) → (0 ≤ y.toInt ∧ y.toInt ≤ 6) → ((B 0 &&& 255) = v0) → ((B 1 &&& 255) = v1) → ((B 2 &&& 255) = v2) → ((B 3 &&& 255) = v3) → ((B 4 &&& 255) = v4) → ((B 5 &&& 255) = v5) → Go p e below (Fini below s n0 (fun v h => v = some (.int (1 : Int32))) room_1.cells room_1.slots) (Tj.setTop (mkF m 126 #[.val (.int p1), .val (.int p2), .val (.int p3), .val (.int p4), .val (.ref a4), .val (.int v0), .val (.int v1), .val (.int v2), .val (.int v3), .val (.int v4), .val (.int v5), .val (.int x), .val (.int y), .unset, .unset, .unset, .unset, .unset] [])) := by
    intro Tj hj a4 B v0 v1 v2 v3 v4 v5 x y Hj AB szj bx by_ e0 e1 e2 e3 e4 e5
    obtain ⟨f, t, hf, ht, hft, ht6⟩ := own_mm x y bx by_
    show Go _ _ _ _ (Tj.setTop (mkF m 126 #[.val (.int p1), .val (.int p2), .val (.int p3), .val (.int p4), .val (.ref a4), .val (.int v0), .val (.int v1), .val (.int v2), .val (.int v3), .val (.int v4), .val (.int v5), .val (.int x), .val (.int y), .unset, .unset, .unset, .unset, .unset] []))
    refine Go.via (fun t_ k_ => XS.iload Hj.here hx rfl (hb hby at_126) rfl k_) ?_
    show Go _ _ _ _ (Tj.setTop (mkF m 128 #[.val (.int p1), .val (.int p2), .val (.int p3), .val (.int p4), .val (.ref a4), .val (.int v0), .val (.int v1), .val (.int v2), .val (.int v3), .val (.int v4), .val (.int v5), .val (.int x), .val (.int y), .unset, .unset, .unset, .unset, .unset] [(.int x)]))
    refine Go.via (fun t_ k_ => XS.iload Hj.here hx rfl (hb hby at_128) rfl k_) ?_
    show Go _ _ _ _ (Tj.setTop (mkF m 130 #[.val (.int p1), .val (.int p2), .val (.int p3), .val (.int p4), .val (.ref a4), .val (.int v0), .val (.int v1), .val (.int v2), .val (.int v3), .val (.int v4), .val (.int v5), .val (.int x), .val (.int y), .unset, .unset, .unset, .unset, .unset] [(.int y), (.int x)]))
    refine own_callS Hj hx hZ (y := (⟨"java/lang/Math", "min", "(II)I"⟩ : MethodName)) hown (hw _ (List.mem_of_getElem? (i := 2) rfl)) (hw _ (List.mem_of_getElem? (i := 3) rfl)) (hw _ (List.mem_of_getElem? (i := 4) rfl)) (hw _ (List.mem_of_getElem? (i := 5) rfl)) (by decide) (rmMin l Z a0 hw x y hj n0) (g := (mkF m 130 #[.val (.int p1), .val (.int p2), .val (.int p3), .val (.int p4), .val (.ref a4), .val (.int v0), .val (.int v1), .val (.int v2), .val (.int v3), .val (.int v4), .val (.int v5), .val (.int x), .val (.int y), .unset, .unset, .unset, .unset, .unset] [(.int y), (.int x)])) rfl (by rw [hml]; rfl) (argsL := [(.int x), (.int y)]) (rest := []) (lenOf pd_0 rfl) rfl 0 (Nat.le_of_eq rfl) (hb hby at_130) (by decide) (by decide) (by decide) (by decide) ?_
    rintro _ T1 _ ⟨rfl, rfl⟩ H1
    show Go _ _ _ _ (T1.setTop (mkF m 133 #[.val (.int p1), .val (.int p2), .val (.int p3), .val (.int p4), .val (.ref a4), .val (.int v0), .val (.int v1), .val (.int v2), .val (.int v3), .val (.int v4), .val (.int v5), .val (.int x), .val (.int y), .unset, .unset, .unset, .unset, .unset] [(.int (mn32 x y))]))
    refine Go.via (fun t_ k_ => XS.istore H1.here hx rfl (hb hby at_133) rfl (l' := #[.val (.int p1), .val (.int p2), .val (.int p3), .val (.int p4), .val (.ref a4), .val (.int v0), .val (.int v1), .val (.int v2), .val (.int v3), .val (.int v4), .val (.int v5), .val (.int x), .val (.int y), .val (.int (mn32 x y)), .unset, .unset, .unset, .unset]) rfl k_) ?_
    show Go _ _ _ _ (T1.setTop (mkF m 135 #[.val (.int p1), .val (.int p2), .val (.int p3), .val (.int p4), .val (.ref a4), .val (.int v0), .val (.int v1), .val (.int v2), .val (.int v3), .val (.int v4), .val (.int v5), .val (.int x), .val (.int y), .val (.int (mn32 x y)), .unset, .unset, .unset, .unset] []))
    refine Go.via (fun t_ k_ => XS.iload H1.here hx rfl (hb hby at_135) rfl k_) ?_
    show Go _ _ _ _ (T1.setTop (mkF m 137 #[.val (.int p1), .val (.int p2), .val (.int p3), .val (.int p4), .val (.ref a4), .val (.int v0), .val (.int v1), .val (.int v2), .val (.int v3), .val (.int v4), .val (.int v5), .val (.int x), .val (.int y), .val (.int (mn32 x y)), .unset, .unset, .unset, .unset] [(.int x)]))
    refine Go.via (fun t_ k_ => XS.iload H1.here hx rfl (hb hby at_137) rfl k_) ?_
    show Go _ _ _ _ (T1.setTop (mkF m 139 #[.val (.int p1), .val (.int p2), .val (.int p3), .val (.int p4), .val (.ref a4), .val (.int v0), .val (.int v1), .val (.int v2), .val (.int v3), .val (.int v4), .val (.int v5), .val (.int x), .val (.int y), .val (.int (mn32 x y)), .unset, .unset, .unset, .unset] [(.int y), (.int x)]))
    refine own_callS H1 hx hZ (y := (⟨"java/lang/Math", "max", "(II)I"⟩ : MethodName)) hown (hw _ (List.mem_of_getElem? (i := 6) rfl)) (hw _ (List.mem_of_getElem? (i := 7) rfl)) (hw _ (List.mem_of_getElem? (i := 4) rfl)) (hw _ (List.mem_of_getElem? (i := 8) rfl)) (by decide) (rmMax l Z a0 hw x y hj n0) (g := (mkF m 139 #[.val (.int p1), .val (.int p2), .val (.int p3), .val (.int p4), .val (.ref a4), .val (.int v0), .val (.int v1), .val (.int v2), .val (.int v3), .val (.int v4), .val (.int v5), .val (.int x), .val (.int y), .val (.int (mn32 x y)), .unset, .unset, .unset, .unset] [(.int y), (.int x)])) rfl (by rw [hml]; rfl) (argsL := [(.int x), (.int y)]) (rest := []) (lenOf pd_0 rfl) rfl 0 (Nat.le_of_eq rfl) (hb hby at_139) (by decide) (by decide) (by decide) (by decide) ?_
    rintro _ T2 _ ⟨rfl, rfl⟩ H2
    show Go _ _ _ _ (T2.setTop (mkF m 142 #[.val (.int p1), .val (.int p2), .val (.int p3), .val (.int p4), .val (.ref a4), .val (.int v0), .val (.int v1), .val (.int v2), .val (.int v3), .val (.int v4), .val (.int v5), .val (.int x), .val (.int y), .val (.int (mn32 x y)), .unset, .unset, .unset, .unset] [(.int (mx32 x y))]))
    refine Go.via (fun t_ k_ => XS.istore H2.here hx rfl (hb hby at_142) rfl (l' := #[.val (.int p1), .val (.int p2), .val (.int p3), .val (.int p4), .val (.ref a4), .val (.int v0), .val (.int v1), .val (.int v2), .val (.int v3), .val (.int v4), .val (.int v5), .val (.int x), .val (.int y), .val (.int (mn32 x y)), .val (.int (mx32 x y)), .unset, .unset, .unset]) rfl k_) ?_
    show Go _ _ _ _ (T2.setTop (mkF m 144 #[.val (.int p1), .val (.int p2), .val (.int p3), .val (.int p4), .val (.ref a4), .val (.int v0), .val (.int v1), .val (.int v2), .val (.int v3), .val (.int v4), .val (.int v5), .val (.int x), .val (.int y), .val (.int (mn32 x y)), .val (.int (mx32 x y)), .unset, .unset, .unset] []))
    refine own_ldcI H2 hx hZ hown (hw _ (List.mem_of_getElem? (i := 9) rfl)) (g := (mkF m 144 #[.val (.int p1), .val (.int p2), .val (.int p3), .val (.int p4), .val (.ref a4), .val (.int v0), .val (.int v1), .val (.int v2), .val (.int v3), .val (.int v4), .val (.int v5), .val (.int x), .val (.int y), .val (.int (mn32 x y)), .val (.int (mx32 x y)), .unset, .unset, .unset] [])) rfl (hb hby at_144) ?_
    show Go _ _ _ _ (T2.setTop (mkF m 146 #[.val (.int p1), .val (.int p2), .val (.int p3), .val (.int p4), .val (.ref a4), .val (.int v0), .val (.int v1), .val (.int v2), .val (.int v3), .val (.int v4), .val (.int v5), .val (.int x), .val (.int y), .val (.int (mn32 x y)), .val (.int (mx32 x y)), .unset, .unset, .unset] [(.int (-2128831035 : Int32))]))
    refine Go.via (fun t_ k_ => XS.istore H2.here hx rfl (hb hby at_146) rfl (l' := #[.val (.int p1), .val (.int p2), .val (.int p3), .val (.int p4), .val (.ref a4), .val (.int v0), .val (.int v1), .val (.int v2), .val (.int v3), .val (.int v4), .val (.int v5), .val (.int x), .val (.int y), .val (.int (mn32 x y)), .val (.int (mx32 x y)), .val (.int (-2128831035 : Int32)), .unset, .unset]) rfl k_) ?_
    show Go _ _ _ _ (T2.setTop (mkF m 148 #[.val (.int p1), .val (.int p2), .val (.int p3), .val (.int p4), .val (.ref a4), .val (.int v0), .val (.int v1), .val (.int v2), .val (.int v3), .val (.int v4), .val (.int v5), .val (.int x), .val (.int y), .val (.int (mn32 x y)), .val (.int (mx32 x y)), .val (.int (-2128831035 : Int32)), .unset, .unset] []))
    refine Go.via (fun t_ k_ => XS.iload H2.here hx rfl (hb hby at_148) rfl k_) ?_
    show Go _ _ _ _ (T2.setTop (mkF m 150 #[.val (.int p1), .val (.int p2), .val (.int p3), .val (.int p4), .val (.ref a4), .val (.int v0), .val (.int v1), .val (.int v2), .val (.int v3), .val (.int v4), .val (.int v5), .val (.int x), .val (.int y), .val (.int (mn32 x y)), .val (.int (mx32 x y)), .val (.int (-2128831035 : Int32)), .unset, .unset] [(.int (-2128831035 : Int32))]))
    refine Go.via (fun t_ k_ => XS.iconst H2.here hx rfl (hb hby at_150) k_) ?_
    show Go _ _ _ _ (T2.setTop (mkF m 151 #[.val (.int p1), .val (.int p2), .val (.int p3), .val (.int p4), .val (.ref a4), .val (.int v0), .val (.int v1), .val (.int v2), .val (.int v3), .val (.int v4), .val (.int v5), .val (.int x), .val (.int y), .val (.int (mn32 x y)), .val (.int (mx32 x y)), .val (.int (-2128831035 : Int32)), .unset, .unset] [(.int (0 : Int32)), (.int (-2128831035 : Int32))]))
    refine Go.via (fun t_ k_ => XS.iload H2.here hx rfl (hb hby at_151) rfl k_) ?_
    show Go _ _ _ _ (T2.setTop (mkF m 153 #[.val (.int p1), .val (.int p2), .val (.int p3), .val (.int p4), .val (.ref a4), .val (.int v0), .val (.int v1), .val (.int v2), .val (.int v3), .val (.int v4), .val (.int v5), .val (.int x), .val (.int y), .val (.int (mn32 x y)), .val (.int (mx32 x y)), .val (.int (-2128831035 : Int32)), .unset, .unset] [(.int v0), (.int (0 : Int32)), (.int (-2128831035 : Int32))]))
    refine Go.via (fun t_ k_ => XS.iload H2.here hx rfl (hb hby at_153) rfl k_) ?_
    show Go _ _ _ _ (T2.setTop (mkF m 155 #[.val (.int p1), .val (.int p2), .val (.int p3), .val (.int p4), .val (.ref a4), .val (.int v0), .val (.int v1), .val (.int v2), .val (.int v3), .val (.int v4), .val (.int v5), .val (.int x), .val (.int y), .val (.int (mn32 x y)), .val (.int (mx32 x y)), .val (.int (-2128831035 : Int32)), .unset, .unset] [(.int (mn32 x y)), (.int v0), (.int (0 : Int32)), (.int (-2128831035 : Int32))]))
    refine Go.via (fun t_ k_ => XS.iload H2.here hx rfl (hb hby at_155) rfl k_) ?_
    show Go _ _ _ _ (T2.setTop (mkF m 157 #[.val (.int p1), .val (.int p2), .val (.int p3), .val (.int p4), .val (.ref a4), .val (.int v0), .val (.int v1), .val (.int v2), .val (.int v3), .val (.int v4), .val (.int v5), .val (.int x), .val (.int y), .val (.int (mn32 x y)), .val (.int (mx32 x y)), .val (.int (-2128831035 : Int32)), .unset, .unset] [(.int (mx32 x y)), (.int (mn32 x y)), (.int v0), (.int (0 : Int32)), (.int (-2128831035 : Int32))]))
    refine own_callS H2 hx hZ (y := (⟨"com/example/perekaz/perekaz/TextLinesHashPinLaw", "take", "(IIIII)I"⟩ : MethodName)) hown (hw _ (List.mem_of_getElem? (i := 10) rfl)) (hw _ (List.mem_of_getElem? (i := 11) rfl)) (hw _ (List.mem_of_getElem? (i := 12) rfl)) (hw _ (List.mem_of_getElem? (i := 13) rfl)) (by decide) (rmTake l Z a0 hw (-2128831035 : Int32) (0 : Int32) v0 (mn32 x y) (mx32 x y) hj n0) (g := (mkF m 157 #[.val (.int p1), .val (.int p2), .val (.int p3), .val (.int p4), .val (.ref a4), .val (.int v0), .val (.int v1), .val (.int v2), .val (.int v3), .val (.int v4), .val (.int v5), .val (.int x), .val (.int y), .val (.int (mn32 x y)), .val (.int (mx32 x y)), .val (.int (-2128831035 : Int32)), .unset, .unset] [(.int (mx32 x y)), (.int (mn32 x y)), (.int v0), (.int (0 : Int32)), (.int (-2128831035 : Int32))])) rfl (by rw [hml]; rfl) (argsL := [(.int (-2128831035 : Int32)), (.int (0 : Int32)), (.int v0), (.int (mn32 x y)), (.int (mx32 x y))]) (rest := []) (lenOf pd_1 rfl) rfl 0 (Nat.le_of_eq rfl) (hb hby at_157) (by decide) (by decide) (by decide) (by decide) ?_
    rintro _ T3 _ ⟨rfl, rfl⟩ H3
    show Go _ _ _ _ (T3.setTop (mkF m 160 #[.val (.int p1), .val (.int p2), .val (.int p3), .val (.int p4), .val (.ref a4), .val (.int v0), .val (.int v1), .val (.int v2), .val (.int v3), .val (.int v4), .val (.int v5), .val (.int x), .val (.int y), .val (.int (mn32 x y)), .val (.int (mx32 x y)), .val (.int (-2128831035 : Int32)), .unset, .unset] [(.int (tk (-2128831035 : Int32) (0 : Int32) v0 (mn32 x y) (mx32 x y)))]))
    refine Go.via (fun t_ k_ => XS.istore H3.here hx rfl (hb hby at_160) rfl (l' := #[.val (.int p1), .val (.int p2), .val (.int p3), .val (.int p4), .val (.ref a4), .val (.int v0), .val (.int v1), .val (.int v2), .val (.int v3), .val (.int v4), .val (.int v5), .val (.int x), .val (.int y), .val (.int (mn32 x y)), .val (.int (mx32 x y)), .val (.int (tk (-2128831035 : Int32) (0 : Int32) v0 (mn32 x y) (mx32 x y))), .unset, .unset]) rfl k_) ?_
    show Go _ _ _ _ (T3.setTop (mkF m 162 #[.val (.int p1), .val (.int p2), .val (.int p3), .val (.int p4), .val (.ref a4), .val (.int v0), .val (.int v1), .val (.int v2), .val (.int v3), .val (.int v4), .val (.int v5), .val (.int x), .val (.int y), .val (.int (mn32 x y)), .val (.int (mx32 x y)), .val (.int (tk (-2128831035 : Int32) (0 : Int32) v0 (mn32 x y) (mx32 x y))), .unset, .unset] []))
    refine Go.via (fun t_ k_ => XS.iload H3.here hx rfl (hb hby at_162) rfl k_) ?_
    show Go _ _ _ _ (T3.setTop (mkF m 164 #[.val (.int p1), .val (.int p2), .val (.int p3), .val (.int p4), .val (.ref a4), .val (.int v0), .val (.int v1), .val (.int v2), .val (.int v3), .val (.int v4), .val (.int v5), .val (.int x), .val (.int y), .val (.int (mn32 x y)), .val (.int (mx32 x y)), .val (.int (tk (-2128831035 : Int32) (0 : Int32) v0 (mn32 x y) (mx32 x y))), .unset, .unset] [(.int (tk (-2128831035 : Int32) (0 : Int32) v0 (mn32 x y) (mx32 x y)))]))
    refine Go.via (fun t_ k_ => XS.iconst H3.here hx rfl (hb hby at_164) k_) ?_
    show Go _ _ _ _ (T3.setTop (mkF m 165 #[.val (.int p1), .val (.int p2), .val (.int p3), .val (.int p4), .val (.ref a4), .val (.int v0), .val (.int v1), .val (.int v2), .val (.int v3), .val (.int v4), .val (.int v5), .val (.int x), .val (.int y), .val (.int (mn32 x y)), .val (.int (mx32 x y)), .val (.int (tk (-2128831035 : Int32) (0 : Int32) v0 (mn32 x y) (mx32 x y))), .unset, .unset] [(.int (1 : Int32)), (.int (tk (-2128831035 : Int32) (0 : Int32) v0 (mn32 x y) (mx32 x y)))]))
    refine Go.via (fun t_ k_ => XS.iload H3.here hx rfl (hb hby at_165) rfl k_) ?_
    show Go _ _ _ _ (T3.setTop (mkF m 167 #[.val (.int p1), .val (.int p2), .val (.int p3), .val (.int p4), .val (.ref a4), .val (.int v0), .val (.int v1), .val (.int v2), .val (.int v3), .val (.int v4), .val (.int v5), .val (.int x), .val (.int y), .val (.int (mn32 x y)), .val (.int (mx32 x y)), .val (.int (tk (-2128831035 : Int32) (0 : Int32) v0 (mn32 x y) (mx32 x y))), .unset, .unset] [(.int v1), (.int (1 : Int32)), (.int (tk (-2128831035 : Int32) (0 : Int32) v0 (mn32 x y) (mx32 x y)))]))
    refine Go.via (fun t_ k_ => XS.iload H3.here hx rfl (hb hby at_167) rfl k_) ?_
    show Go _ _ _ _ (T3.setTop (mkF m 169 #[.val (.int p1), .val (.int p2), .val (.int p3), .val (.int p4), .val (.ref a4), .val (.int v0), .val (.int v1), .val (.int v2), .val (.int v3), .val (.int v4), .val (.int v5), .val (.int x), .val (.int y), .val (.int (mn32 x y)), .val (.int (mx32 x y)), .val (.int (tk (-2128831035 : Int32) (0 : Int32) v0 (mn32 x y) (mx32 x y))), .unset, .unset] [(.int (mn32 x y)), (.int v1), (.int (1 : Int32)), (.int (tk (-2128831035 : Int32) (0 : Int32) v0 (mn32 x y) (mx32 x y)))]))
    refine Go.via (fun t_ k_ => XS.iload H3.here hx rfl (hb hby at_169) rfl k_) ?_
    show Go _ _ _ _ (T3.setTop (mkF m 171 #[.val (.int p1), .val (.int p2), .val (.int p3), .val (.int p4), .val (.ref a4), .val (.int v0), .val (.int v1), .val (.int v2), .val (.int v3), .val (.int v4), .val (.int v5), .val (.int x), .val (.int y), .val (.int (mn32 x y)), .val (.int (mx32 x y)), .val (.int (tk (-2128831035 : Int32) (0 : Int32) v0 (mn32 x y) (mx32 x y))), .unset, .unset] [(.int (mx32 x y)), (.int (mn32 x y)), (.int v1), (.int (1 : Int32)), (.int (tk (-2128831035 : Int32) (0 : Int32) v0 (mn32 x y) (mx32 x y)))]))
    refine own_callS H3 hx hZ (y := (⟨"com/example/perekaz/perekaz/TextLinesHashPinLaw", "take", "(IIIII)I"⟩ : MethodName)) hown (hw _ (List.mem_of_getElem? (i := 10) rfl)) (hw _ (List.mem_of_getElem? (i := 11) rfl)) (hw _ (List.mem_of_getElem? (i := 12) rfl)) (hw _ (List.mem_of_getElem? (i := 13) rfl)) (by decide) (rmTake l Z a0 hw (tk (-2128831035 : Int32) (0 : Int32) v0 (mn32 x y) (mx32 x y)) (1 : Int32) v1 (mn32 x y) (mx32 x y) hj n0) (g := (mkF m 171 #[.val (.int p1), .val (.int p2), .val (.int p3), .val (.int p4), .val (.ref a4), .val (.int v0), .val (.int v1), .val (.int v2), .val (.int v3), .val (.int v4), .val (.int v5), .val (.int x), .val (.int y), .val (.int (mn32 x y)), .val (.int (mx32 x y)), .val (.int (tk (-2128831035 : Int32) (0 : Int32) v0 (mn32 x y) (mx32 x y))), .unset, .unset] [(.int (mx32 x y)), (.int (mn32 x y)), (.int v1), (.int (1 : Int32)), (.int (tk (-2128831035 : Int32) (0 : Int32) v0 (mn32 x y) (mx32 x y)))])) rfl (by rw [hml]; rfl) (argsL := [(.int (tk (-2128831035 : Int32) (0 : Int32) v0 (mn32 x y) (mx32 x y))), (.int (1 : Int32)), (.int v1), (.int (mn32 x y)), (.int (mx32 x y))]) (rest := []) (lenOf pd_1 rfl) rfl 0 (Nat.le_of_eq rfl) (hb hby at_171) (by decide) (by decide) (by decide) (by decide) ?_
    rintro _ T4 _ ⟨rfl, rfl⟩ H4
    show Go _ _ _ _ (T4.setTop (mkF m 174 #[.val (.int p1), .val (.int p2), .val (.int p3), .val (.int p4), .val (.ref a4), .val (.int v0), .val (.int v1), .val (.int v2), .val (.int v3), .val (.int v4), .val (.int v5), .val (.int x), .val (.int y), .val (.int (mn32 x y)), .val (.int (mx32 x y)), .val (.int (tk (-2128831035 : Int32) (0 : Int32) v0 (mn32 x y) (mx32 x y))), .unset, .unset] [(.int (tk (tk (-2128831035 : Int32) (0 : Int32) v0 (mn32 x y) (mx32 x y)) (1 : Int32) v1 (mn32 x y) (mx32 x y)))]))
    refine Go.via (fun t_ k_ => XS.istore H4.here hx rfl (hb hby at_174) rfl (l' := #[.val (.int p1), .val (.int p2), .val (.int p3), .val (.int p4), .val (.ref a4), .val (.int v0), .val (.int v1), .val (.int v2), .val (.int v3), .val (.int v4), .val (.int v5), .val (.int x), .val (.int y), .val (.int (mn32 x y)), .val (.int (mx32 x y)), .val (.int (tk (tk (-2128831035 : Int32) (0 : Int32) v0 (mn32 x y) (mx32 x y)) (1 : Int32) v1 (mn32 x y) (mx32 x y))), .unset, .unset]) rfl k_) ?_
    show Go _ _ _ _ (T4.setTop (mkF m 176 #[.val (.int p1), .val (.int p2), .val (.int p3), .val (.int p4), .val (.ref a4), .val (.int v0), .val (.int v1), .val (.int v2), .val (.int v3), .val (.int v4), .val (.int v5), .val (.int x), .val (.int y), .val (.int (mn32 x y)), .val (.int (mx32 x y)), .val (.int (tk (tk (-2128831035 : Int32) (0 : Int32) v0 (mn32 x y) (mx32 x y)) (1 : Int32) v1 (mn32 x y) (mx32 x y))), .unset, .unset] []))
    refine Go.via (fun t_ k_ => XS.iload H4.here hx rfl (hb hby at_176) rfl k_) ?_
    show Go _ _ _ _ (T4.setTop (mkF m 178 #[.val (.int p1), .val (.int p2), .val (.int p3), .val (.int p4), .val (.ref a4), .val (.int v0), .val (.int v1), .val (.int v2), .val (.int v3), .val (.int v4), .val (.int v5), .val (.int x), .val (.int y), .val (.int (mn32 x y)), .val (.int (mx32 x y)), .val (.int (tk (tk (-2128831035 : Int32) (0 : Int32) v0 (mn32 x y) (mx32 x y)) (1 : Int32) v1 (mn32 x y) (mx32 x y))), .unset, .unset] [(.int (tk (tk (-2128831035 : Int32) (0 : Int32) v0 (mn32 x y) (mx32 x y)) (1 : Int32) v1 (mn32 x y) (mx32 x y)))]))
    refine Go.via (fun t_ k_ => XS.iconst H4.here hx rfl (hb hby at_178) k_) ?_
    show Go _ _ _ _ (T4.setTop (mkF m 179 #[.val (.int p1), .val (.int p2), .val (.int p3), .val (.int p4), .val (.ref a4), .val (.int v0), .val (.int v1), .val (.int v2), .val (.int v3), .val (.int v4), .val (.int v5), .val (.int x), .val (.int y), .val (.int (mn32 x y)), .val (.int (mx32 x y)), .val (.int (tk (tk (-2128831035 : Int32) (0 : Int32) v0 (mn32 x y) (mx32 x y)) (1 : Int32) v1 (mn32 x y) (mx32 x y))), .unset, .unset] [(.int (2 : Int32)), (.int (tk (tk (-2128831035 : Int32) (0 : Int32) v0 (mn32 x y) (mx32 x y)) (1 : Int32) v1 (mn32 x y) (mx32 x y)))]))
    refine Go.via (fun t_ k_ => XS.iload H4.here hx rfl (hb hby at_179) rfl k_) ?_
    show Go _ _ _ _ (T4.setTop (mkF m 181 #[.val (.int p1), .val (.int p2), .val (.int p3), .val (.int p4), .val (.ref a4), .val (.int v0), .val (.int v1), .val (.int v2), .val (.int v3), .val (.int v4), .val (.int v5), .val (.int x), .val (.int y), .val (.int (mn32 x y)), .val (.int (mx32 x y)), .val (.int (tk (tk (-2128831035 : Int32) (0 : Int32) v0 (mn32 x y) (mx32 x y)) (1 : Int32) v1 (mn32 x y) (mx32 x y))), .unset, .unset] [(.int v2), (.int (2 : Int32)), (.int (tk (tk (-2128831035 : Int32) (0 : Int32) v0 (mn32 x y) (mx32 x y)) (1 : Int32) v1 (mn32 x y) (mx32 x y)))]))
    refine Go.via (fun t_ k_ => XS.iload H4.here hx rfl (hb hby at_181) rfl k_) ?_
    show Go _ _ _ _ (T4.setTop (mkF m 183 #[.val (.int p1), .val (.int p2), .val (.int p3), .val (.int p4), .val (.ref a4), .val (.int v0), .val (.int v1), .val (.int v2), .val (.int v3), .val (.int v4), .val (.int v5), .val (.int x), .val (.int y), .val (.int (mn32 x y)), .val (.int (mx32 x y)), .val (.int (tk (tk (-2128831035 : Int32) (0 : Int32) v0 (mn32 x y) (mx32 x y)) (1 : Int32) v1 (mn32 x y) (mx32 x y))), .unset, .unset] [(.int (mn32 x y)), (.int v2), (.int (2 : Int32)), (.int (tk (tk (-2128831035 : Int32) (0 : Int32) v0 (mn32 x y) (mx32 x y)) (1 : Int32) v1 (mn32 x y) (mx32 x y)))]))
    refine Go.via (fun t_ k_ => XS.iload H4.here hx rfl (hb hby at_183) rfl k_) ?_
    show Go _ _ _ _ (T4.setTop (mkF m 185 #[.val (.int p1), .val (.int p2), .val (.int p3), .val (.int p4), .val (.ref a4), .val (.int v0), .val (.int v1), .val (.int v2), .val (.int v3), .val (.int v4), .val (.int v5), .val (.int x), .val (.int y), .val (.int (mn32 x y)), .val (.int (mx32 x y)), .val (.int (tk (tk (-2128831035 : Int32) (0 : Int32) v0 (mn32 x y) (mx32 x y)) (1 : Int32) v1 (mn32 x y) (mx32 x y))), .unset, .unset] [(.int (mx32 x y)), (.int (mn32 x y)), (.int v2), (.int (2 : Int32)), (.int (tk (tk (-2128831035 : Int32) (0 : Int32) v0 (mn32 x y) (mx32 x y)) (1 : Int32) v1 (mn32 x y) (mx32 x y)))]))
    refine own_callS H4 hx hZ (y := (⟨"com/example/perekaz/perekaz/TextLinesHashPinLaw", "take", "(IIIII)I"⟩ : MethodName)) hown (hw _ (List.mem_of_getElem? (i := 10) rfl)) (hw _ (List.mem_of_getElem? (i := 11) rfl)) (hw _ (List.mem_of_getElem? (i := 12) rfl)) (hw _ (List.mem_of_getElem? (i := 13) rfl)) (by decide) (rmTake l Z a0 hw (tk (tk (-2128831035 : Int32) (0 : Int32) v0 (mn32 x y) (mx32 x y)) (1 : Int32) v1 (mn32 x y) (mx32 x y)) (2 : Int32) v2 (mn32 x y) (mx32 x y) hj n0) (g := (mkF m 185 #[.val (.int p1), .val (.int p2), .val (.int p3), .val (.int p4), .val (.ref a4), .val (.int v0), .val (.int v1), .val (.int v2), .val (.int v3), .val (.int v4), .val (.int v5), .val (.int x), .val (.int y), .val (.int (mn32 x y)), .val (.int (mx32 x y)), .val (.int (tk (tk (-2128831035 : Int32) (0 : Int32) v0 (mn32 x y) (mx32 x y)) (1 : Int32) v1 (mn32 x y) (mx32 x y))), .unset, .unset] [(.int (mx32 x y)), (.int (mn32 x y)), (.int v2), (.int (2 : Int32)), (.int (tk (tk (-2128831035 : Int32) (0 : Int32) v0 (mn32 x y) (mx32 x y)) (1 : Int32) v1 (mn32 x y) (mx32 x y)))])) rfl (by rw [hml]; rfl) (argsL := [(.int (tk (tk (-2128831035 : Int32) (0 : Int32) v0 (mn32 x y) (mx32 x y)) (1 : Int32) v1 (mn32 x y) (mx32 x y))), (.int (2 : Int32)), (.int v2), (.int (mn32 x y)), (.int (mx32 x y))]) (rest := []) (lenOf pd_1 rfl) rfl 0 (Nat.le_of_eq rfl) (hb hby at_185) (by decide) (by decide) (by decide) (by decide) ?_
    rintro _ T5 _ ⟨rfl, rfl⟩ H5
    show Go _ _ _ _ (T5.setTop (mkF m 188 #[.val (.int p1), .val (.int p2), .val (.int p3), .val (.int p4), .val (.ref a4), .val (.int v0), .val (.int v1), .val (.int v2), .val (.int v3), .val (.int v4), .val (.int v5), .val (.int x), .val (.int y), .val (.int (mn32 x y)), .val (.int (mx32 x y)), .val (.int (tk (tk (-2128831035 : Int32) (0 : Int32) v0 (mn32 x y) (mx32 x y)) (1 : Int32) v1 (mn32 x y) (mx32 x y))), .unset, .unset] [(.int (tk (tk (tk (-2128831035 : Int32) (0 : Int32) v0 (mn32 x y) (mx32 x y)) (1 : Int32) v1 (mn32 x y) (mx32 x y)) (2 : Int32) v2 (mn32 x y) (mx32 x y)))]))
    refine Go.via (fun t_ k_ => XS.istore H5.here hx rfl (hb hby at_188) rfl (l' := #[.val (.int p1), .val (.int p2), .val (.int p3), .val (.int p4), .val (.ref a4), .val (.int v0), .val (.int v1), .val (.int v2), .val (.int v3), .val (.int v4), .val (.int v5), .val (.int x), .val (.int y), .val (.int (mn32 x y)), .val (.int (mx32 x y)), .val (.int (tk (tk (tk (-2128831035 : Int32) (0 : Int32) v0 (mn32 x y) (mx32 x y)) (1 : Int32) v1 (mn32 x y) (mx32 x y)) (2 : Int32) v2 (mn32 x y) (mx32 x y))), .unset, .unset]) rfl k_) ?_
    show Go _ _ _ _ (T5.setTop (mkF m 190 #[.val (.int p1), .val (.int p2), .val (.int p3), .val (.int p4), .val (.ref a4), .val (.int v0), .val (.int v1), .val (.int v2), .val (.int v3), .val (.int v4), .val (.int v5), .val (.int x), .val (.int y), .val (.int (mn32 x y)), .val (.int (mx32 x y)), .val (.int (tk (tk (tk (-2128831035 : Int32) (0 : Int32) v0 (mn32 x y) (mx32 x y)) (1 : Int32) v1 (mn32 x y) (mx32 x y)) (2 : Int32) v2 (mn32 x y) (mx32 x y))), .unset, .unset] []))
    refine Go.via (fun t_ k_ => XS.iload H5.here hx rfl (hb hby at_190) rfl k_) ?_
    show Go _ _ _ _ (T5.setTop (mkF m 192 #[.val (.int p1), .val (.int p2), .val (.int p3), .val (.int p4), .val (.ref a4), .val (.int v0), .val (.int v1), .val (.int v2), .val (.int v3), .val (.int v4), .val (.int v5), .val (.int x), .val (.int y), .val (.int (mn32 x y)), .val (.int (mx32 x y)), .val (.int (tk (tk (tk (-2128831035 : Int32) (0 : Int32) v0 (mn32 x y) (mx32 x y)) (1 : Int32) v1 (mn32 x y) (mx32 x y)) (2 : Int32) v2 (mn32 x y) (mx32 x y))), .unset, .unset] [(.int (tk (tk (tk (-2128831035 : Int32) (0 : Int32) v0 (mn32 x y) (mx32 x y)) (1 : Int32) v1 (mn32 x y) (mx32 x y)) (2 : Int32) v2 (mn32 x y) (mx32 x y)))]))
    refine Go.via (fun t_ k_ => XS.iconst H5.here hx rfl (hb hby at_192) k_) ?_
    show Go _ _ _ _ (T5.setTop (mkF m 193 #[.val (.int p1), .val (.int p2), .val (.int p3), .val (.int p4), .val (.ref a4), .val (.int v0), .val (.int v1), .val (.int v2), .val (.int v3), .val (.int v4), .val (.int v5), .val (.int x), .val (.int y), .val (.int (mn32 x y)), .val (.int (mx32 x y)), .val (.int (tk (tk (tk (-2128831035 : Int32) (0 : Int32) v0 (mn32 x y) (mx32 x y)) (1 : Int32) v1 (mn32 x y) (mx32 x y)) (2 : Int32) v2 (mn32 x y) (mx32 x y))), .unset, .unset] [(.int (3 : Int32)), (.int (tk (tk (tk (-2128831035 : Int32) (0 : Int32) v0 (mn32 x y) (mx32 x y)) (1 : Int32) v1 (mn32 x y) (mx32 x y)) (2 : Int32) v2 (mn32 x y) (mx32 x y)))]))
    refine Go.via (fun t_ k_ => XS.iload H5.here hx rfl (hb hby at_193) rfl k_) ?_
    show Go _ _ _ _ (T5.setTop (mkF m 195 #[.val (.int p1), .val (.int p2), .val (.int p3), .val (.int p4), .val (.ref a4), .val (.int v0), .val (.int v1), .val (.int v2), .val (.int v3), .val (.int v4), .val (.int v5), .val (.int x), .val (.int y), .val (.int (mn32 x y)), .val (.int (mx32 x y)), .val (.int (tk (tk (tk (-2128831035 : Int32) (0 : Int32) v0 (mn32 x y) (mx32 x y)) (1 : Int32) v1 (mn32 x y) (mx32 x y)) (2 : Int32) v2 (mn32 x y) (mx32 x y))), .unset, .unset] [(.int v3), (.int (3 : Int32)), (.int (tk (tk (tk (-2128831035 : Int32) (0 : Int32) v0 (mn32 x y) (mx32 x y)) (1 : Int32) v1 (mn32 x y) (mx32 x y)) (2 : Int32) v2 (mn32 x y) (mx32 x y)))]))
    refine Go.via (fun t_ k_ => XS.iload H5.here hx rfl (hb hby at_195) rfl k_) ?_
    show Go _ _ _ _ (T5.setTop (mkF m 197 #[.val (.int p1), .val (.int p2), .val (.int p3), .val (.int p4), .val (.ref a4), .val (.int v0), .val (.int v1), .val (.int v2), .val (.int v3), .val (.int v4), .val (.int v5), .val (.int x), .val (.int y), .val (.int (mn32 x y)), .val (.int (mx32 x y)), .val (.int (tk (tk (tk (-2128831035 : Int32) (0 : Int32) v0 (mn32 x y) (mx32 x y)) (1 : Int32) v1 (mn32 x y) (mx32 x y)) (2 : Int32) v2 (mn32 x y) (mx32 x y))), .unset, .unset] [(.int (mn32 x y)), (.int v3), (.int (3 : Int32)), (.int (tk (tk (tk (-2128831035 : Int32) (0 : Int32) v0 (mn32 x y) (mx32 x y)) (1 : Int32) v1 (mn32 x y) (mx32 x y)) (2 : Int32) v2 (mn32 x y) (mx32 x y)))]))
    refine Go.via (fun t_ k_ => XS.iload H5.here hx rfl (hb hby at_197) rfl k_) ?_
    show Go _ _ _ _ (T5.setTop (mkF m 199 #[.val (.int p1), .val (.int p2), .val (.int p3), .val (.int p4), .val (.ref a4), .val (.int v0), .val (.int v1), .val (.int v2), .val (.int v3), .val (.int v4), .val (.int v5), .val (.int x), .val (.int y), .val (.int (mn32 x y)), .val (.int (mx32 x y)), .val (.int (tk (tk (tk (-2128831035 : Int32) (0 : Int32) v0 (mn32 x y) (mx32 x y)) (1 : Int32) v1 (mn32 x y) (mx32 x y)) (2 : Int32) v2 (mn32 x y) (mx32 x y))), .unset, .unset] [(.int (mx32 x y)), (.int (mn32 x y)), (.int v3), (.int (3 : Int32)), (.int (tk (tk (tk (-2128831035 : Int32) (0 : Int32) v0 (mn32 x y) (mx32 x y)) (1 : Int32) v1 (mn32 x y) (mx32 x y)) (2 : Int32) v2 (mn32 x y) (mx32 x y)))]))
    refine own_callS H5 hx hZ (y := (⟨"com/example/perekaz/perekaz/TextLinesHashPinLaw", "take", "(IIIII)I"⟩ : MethodName)) hown (hw _ (List.mem_of_getElem? (i := 10) rfl)) (hw _ (List.mem_of_getElem? (i := 11) rfl)) (hw _ (List.mem_of_getElem? (i := 12) rfl)) (hw _ (List.mem_of_getElem? (i := 13) rfl)) (by decide) (rmTake l Z a0 hw (tk (tk (tk (-2128831035 : Int32) (0 : Int32) v0 (mn32 x y) (mx32 x y)) (1 : Int32) v1 (mn32 x y) (mx32 x y)) (2 : Int32) v2 (mn32 x y) (mx32 x y)) (3 : Int32) v3 (mn32 x y) (mx32 x y) hj n0) (g := (mkF m 199 #[.val (.int p1), .val (.int p2), .val (.int p3), .val (.int p4), .val (.ref a4), .val (.int v0), .val (.int v1), .val (.int v2), .val (.int v3), .val (.int v4), .val (.int v5), .val (.int x), .val (.int y), .val (.int (mn32 x y)), .val (.int (mx32 x y)), .val (.int (tk (tk (tk (-2128831035 : Int32) (0 : Int32) v0 (mn32 x y) (mx32 x y)) (1 : Int32) v1 (mn32 x y) (mx32 x y)) (2 : Int32) v2 (mn32 x y) (mx32 x y))), .unset, .unset] [(.int (mx32 x y)), (.int (mn32 x y)), (.int v3), (.int (3 : Int32)), (.int (tk (tk (tk (-2128831035 : Int32) (0 : Int32) v0 (mn32 x y) (mx32 x y)) (1 : Int32) v1 (mn32 x y) (mx32 x y)) (2 : Int32) v2 (mn32 x y) (mx32 x y)))])) rfl (by rw [hml]; rfl) (argsL := [(.int (tk (tk (tk (-2128831035 : Int32) (0 : Int32) v0 (mn32 x y) (mx32 x y)) (1 : Int32) v1 (mn32 x y) (mx32 x y)) (2 : Int32) v2 (mn32 x y) (mx32 x y))), (.int (3 : Int32)), (.int v3), (.int (mn32 x y)), (.int (mx32 x y))]) (rest := []) (lenOf pd_1 rfl) rfl 0 (Nat.le_of_eq rfl) (hb hby at_199) (by decide) (by decide) (by decide) (by decide) ?_
    rintro _ T6 _ ⟨rfl, rfl⟩ H6
    show Go _ _ _ _ (T6.setTop (mkF m 202 #[.val (.int p1), .val (.int p2), .val (.int p3), .val (.int p4), .val (.ref a4), .val (.int v0), .val (.int v1), .val (.int v2), .val (.int v3), .val (.int v4), .val (.int v5), .val (.int x), .val (.int y), .val (.int (mn32 x y)), .val (.int (mx32 x y)), .val (.int (tk (tk (tk (-2128831035 : Int32) (0 : Int32) v0 (mn32 x y) (mx32 x y)) (1 : Int32) v1 (mn32 x y) (mx32 x y)) (2 : Int32) v2 (mn32 x y) (mx32 x y))), .unset, .unset] [(.int (tk (tk (tk (tk (-2128831035 : Int32) (0 : Int32) v0 (mn32 x y) (mx32 x y)) (1 : Int32) v1 (mn32 x y) (mx32 x y)) (2 : Int32) v2 (mn32 x y) (mx32 x y)) (3 : Int32) v3 (mn32 x y) (mx32 x y)))]))
    refine Go.via (fun t_ k_ => XS.istore H6.here hx rfl (hb hby at_202) rfl (l' := #[.val (.int p1), .val (.int p2), .val (.int p3), .val (.int p4), .val (.ref a4), .val (.int v0), .val (.int v1), .val (.int v2), .val (.int v3), .val (.int v4), .val (.int v5), .val (.int x), .val (.int y), .val (.int (mn32 x y)), .val (.int (mx32 x y)), .val (.int (tk (tk (tk (tk (-2128831035 : Int32) (0 : Int32) v0 (mn32 x y) (mx32 x y)) (1 : Int32) v1 (mn32 x y) (mx32 x y)) (2 : Int32) v2 (mn32 x y) (mx32 x y)) (3 : Int32) v3 (mn32 x y) (mx32 x y))), .unset, .unset]) rfl k_) ?_
    show Go _ _ _ _ (T6.setTop (mkF m 204 #[.val (.int p1), .val (.int p2), .val (.int p3), .val (.int p4), .val (.ref a4), .val (.int v0), .val (.int v1), .val (.int v2), .val (.int v3), .val (.int v4), .val (.int v5), .val (.int x), .val (.int y), .val (.int (mn32 x y)), .val (.int (mx32 x y)), .val (.int (tk (tk (tk (tk (-2128831035 : Int32) (0 : Int32) v0 (mn32 x y) (mx32 x y)) (1 : Int32) v1 (mn32 x y) (mx32 x y)) (2 : Int32) v2 (mn32 x y) (mx32 x y)) (3 : Int32) v3 (mn32 x y) (mx32 x y))), .unset, .unset] []))
    refine Go.via (fun t_ k_ => XS.iload H6.here hx rfl (hb hby at_204) rfl k_) ?_
    show Go _ _ _ _ (T6.setTop (mkF m 206 #[.val (.int p1), .val (.int p2), .val (.int p3), .val (.int p4), .val (.ref a4), .val (.int v0), .val (.int v1), .val (.int v2), .val (.int v3), .val (.int v4), .val (.int v5), .val (.int x), .val (.int y), .val (.int (mn32 x y)), .val (.int (mx32 x y)), .val (.int (tk (tk (tk (tk (-2128831035 : Int32) (0 : Int32) v0 (mn32 x y) (mx32 x y)) (1 : Int32) v1 (mn32 x y) (mx32 x y)) (2 : Int32) v2 (mn32 x y) (mx32 x y)) (3 : Int32) v3 (mn32 x y) (mx32 x y))), .unset, .unset] [(.int (tk (tk (tk (tk (-2128831035 : Int32) (0 : Int32) v0 (mn32 x y) (mx32 x y)) (1 : Int32) v1 (mn32 x y) (mx32 x y)) (2 : Int32) v2 (mn32 x y) (mx32 x y)) (3 : Int32) v3 (mn32 x y) (mx32 x y)))]))
    refine Go.via (fun t_ k_ => XS.iconst H6.here hx rfl (hb hby at_206) k_) ?_
    show Go _ _ _ _ (T6.setTop (mkF m 207 #[.val (.int p1), .val (.int p2), .val (.int p3), .val (.int p4), .val (.ref a4), .val (.int v0), .val (.int v1), .val (.int v2), .val (.int v3), .val (.int v4), .val (.int v5), .val (.int x), .val (.int y), .val (.int (mn32 x y)), .val (.int (mx32 x y)), .val (.int (tk (tk (tk (tk (-2128831035 : Int32) (0 : Int32) v0 (mn32 x y) (mx32 x y)) (1 : Int32) v1 (mn32 x y) (mx32 x y)) (2 : Int32) v2 (mn32 x y) (mx32 x y)) (3 : Int32) v3 (mn32 x y) (mx32 x y))), .unset, .unset] [(.int (4 : Int32)), (.int (tk (tk (tk (tk (-2128831035 : Int32) (0 : Int32) v0 (mn32 x y) (mx32 x y)) (1 : Int32) v1 (mn32 x y) (mx32 x y)) (2 : Int32) v2 (mn32 x y) (mx32 x y)) (3 : Int32) v3 (mn32 x y) (mx32 x y)))]))
    refine Go.via (fun t_ k_ => XS.iload H6.here hx rfl (hb hby at_207) rfl k_) ?_
    show Go _ _ _ _ (T6.setTop (mkF m 209 #[.val (.int p1), .val (.int p2), .val (.int p3), .val (.int p4), .val (.ref a4), .val (.int v0), .val (.int v1), .val (.int v2), .val (.int v3), .val (.int v4), .val (.int v5), .val (.int x), .val (.int y), .val (.int (mn32 x y)), .val (.int (mx32 x y)), .val (.int (tk (tk (tk (tk (-2128831035 : Int32) (0 : Int32) v0 (mn32 x y) (mx32 x y)) (1 : Int32) v1 (mn32 x y) (mx32 x y)) (2 : Int32) v2 (mn32 x y) (mx32 x y)) (3 : Int32) v3 (mn32 x y) (mx32 x y))), .unset, .unset] [(.int v4), (.int (4 : Int32)), (.int (tk (tk (tk (tk (-2128831035 : Int32) (0 : Int32) v0 (mn32 x y) (mx32 x y)) (1 : Int32) v1 (mn32 x y) (mx32 x y)) (2 : Int32) v2 (mn32 x y) (mx32 x y)) (3 : Int32) v3 (mn32 x y) (mx32 x y)))]))
    refine Go.via (fun t_ k_ => XS.iload H6.here hx rfl (hb hby at_209) rfl k_) ?_
    show Go _ _ _ _ (T6.setTop (mkF m 211 #[.val (.int p1), .val (.int p2), .val (.int p3), .val (.int p4), .val (.ref a4), .val (.int v0), .val (.int v1), .val (.int v2), .val (.int v3), .val (.int v4), .val (.int v5), .val (.int x), .val (.int y), .val (.int (mn32 x y)), .val (.int (mx32 x y)), .val (.int (tk (tk (tk (tk (-2128831035 : Int32) (0 : Int32) v0 (mn32 x y) (mx32 x y)) (1 : Int32) v1 (mn32 x y) (mx32 x y)) (2 : Int32) v2 (mn32 x y) (mx32 x y)) (3 : Int32) v3 (mn32 x y) (mx32 x y))), .unset, .unset] [(.int (mn32 x y)), (.int v4), (.int (4 : Int32)), (.int (tk (tk (tk (tk (-2128831035 : Int32) (0 : Int32) v0 (mn32 x y) (mx32 x y)) (1 : Int32) v1 (mn32 x y) (mx32 x y)) (2 : Int32) v2 (mn32 x y) (mx32 x y)) (3 : Int32) v3 (mn32 x y) (mx32 x y)))]))
    refine Go.via (fun t_ k_ => XS.iload H6.here hx rfl (hb hby at_211) rfl k_) ?_
    show Go _ _ _ _ (T6.setTop (mkF m 213 #[.val (.int p1), .val (.int p2), .val (.int p3), .val (.int p4), .val (.ref a4), .val (.int v0), .val (.int v1), .val (.int v2), .val (.int v3), .val (.int v4), .val (.int v5), .val (.int x), .val (.int y), .val (.int (mn32 x y)), .val (.int (mx32 x y)), .val (.int (tk (tk (tk (tk (-2128831035 : Int32) (0 : Int32) v0 (mn32 x y) (mx32 x y)) (1 : Int32) v1 (mn32 x y) (mx32 x y)) (2 : Int32) v2 (mn32 x y) (mx32 x y)) (3 : Int32) v3 (mn32 x y) (mx32 x y))), .unset, .unset] [(.int (mx32 x y)), (.int (mn32 x y)), (.int v4), (.int (4 : Int32)), (.int (tk (tk (tk (tk (-2128831035 : Int32) (0 : Int32) v0 (mn32 x y) (mx32 x y)) (1 : Int32) v1 (mn32 x y) (mx32 x y)) (2 : Int32) v2 (mn32 x y) (mx32 x y)) (3 : Int32) v3 (mn32 x y) (mx32 x y)))]))
    refine own_callS H6 hx hZ (y := (⟨"com/example/perekaz/perekaz/TextLinesHashPinLaw", "take", "(IIIII)I"⟩ : MethodName)) hown (hw _ (List.mem_of_getElem? (i := 10) rfl)) (hw _ (List.mem_of_getElem? (i := 11) rfl)) (hw _ (List.mem_of_getElem? (i := 12) rfl)) (hw _ (List.mem_of_getElem? (i := 13) rfl)) (by decide) (rmTake l Z a0 hw (tk (tk (tk (tk (-2128831035 : Int32) (0 : Int32) v0 (mn32 x y) (mx32 x y)) (1 : Int32) v1 (mn32 x y) (mx32 x y)) (2 : Int32) v2 (mn32 x y) (mx32 x y)) (3 : Int32) v3 (mn32 x y) (mx32 x y)) (4 : Int32) v4 (mn32 x y) (mx32 x y) hj n0) (g := (mkF m 213 #[.val (.int p1), .val (.int p2), .val (.int p3), .val (.int p4), .val (.ref a4), .val (.int v0), .val (.int v1), .val (.int v2), .val (.int v3), .val (.int v4), .val (.int v5), .val (.int x), .val (.int y), .val (.int (mn32 x y)), .val (.int (mx32 x y)), .val (.int (tk (tk (tk (tk (-2128831035 : Int32) (0 : Int32) v0 (mn32 x y) (mx32 x y)) (1 : Int32) v1 (mn32 x y) (mx32 x y)) (2 : Int32) v2 (mn32 x y) (mx32 x y)) (3 : Int32) v3 (mn32 x y) (mx32 x y))), .unset, .unset] [(.int (mx32 x y)), (.int (mn32 x y)), (.int v4), (.int (4 : Int32)), (.int (tk (tk (tk (tk (-2128831035 : Int32) (0 : Int32) v0 (mn32 x y) (mx32 x y)) (1 : Int32) v1 (mn32 x y) (mx32 x y)) (2 : Int32) v2 (mn32 x y) (mx32 x y)) (3 : Int32) v3 (mn32 x y) (mx32 x y)))])) rfl (by rw [hml]; rfl) (argsL := [(.int (tk (tk (tk (tk (-2128831035 : Int32) (0 : Int32) v0 (mn32 x y) (mx32 x y)) (1 : Int32) v1 (mn32 x y) (mx32 x y)) (2 : Int32) v2 (mn32 x y) (mx32 x y)) (3 : Int32) v3 (mn32 x y) (mx32 x y))), (.int (4 : Int32)), (.int v4), (.int (mn32 x y)), (.int (mx32 x y))]) (rest := []) (lenOf pd_1 rfl) rfl 0 (Nat.le_of_eq rfl) (hb hby at_213) (by decide) (by decide) (by decide) (by decide) ?_
    rintro _ T7 _ ⟨rfl, rfl⟩ H7
    show Go _ _ _ _ (T7.setTop (mkF m 216 #[.val (.int p1), .val (.int p2), .val (.int p3), .val (.int p4), .val (.ref a4), .val (.int v0), .val (.int v1), .val (.int v2), .val (.int v3), .val (.int v4), .val (.int v5), .val (.int x), .val (.int y), .val (.int (mn32 x y)), .val (.int (mx32 x y)), .val (.int (tk (tk (tk (tk (-2128831035 : Int32) (0 : Int32) v0 (mn32 x y) (mx32 x y)) (1 : Int32) v1 (mn32 x y) (mx32 x y)) (2 : Int32) v2 (mn32 x y) (mx32 x y)) (3 : Int32) v3 (mn32 x y) (mx32 x y))), .unset, .unset] [(.int (tk (tk (tk (tk (tk (-2128831035 : Int32) (0 : Int32) v0 (mn32 x y) (mx32 x y)) (1 : Int32) v1 (mn32 x y) (mx32 x y)) (2 : Int32) v2 (mn32 x y) (mx32 x y)) (3 : Int32) v3 (mn32 x y) (mx32 x y)) (4 : Int32) v4 (mn32 x y) (mx32 x y)))]))
    refine Go.via (fun t_ k_ => XS.istore H7.here hx rfl (hb hby at_216) rfl (l' := #[.val (.int p1), .val (.int p2), .val (.int p3), .val (.int p4), .val (.ref a4), .val (.int v0), .val (.int v1), .val (.int v2), .val (.int v3), .val (.int v4), .val (.int v5), .val (.int x), .val (.int y), .val (.int (mn32 x y)), .val (.int (mx32 x y)), .val (.int (tk (tk (tk (tk (tk (-2128831035 : Int32) (0 : Int32) v0 (mn32 x y) (mx32 x y)) (1 : Int32) v1 (mn32 x y) (mx32 x y)) (2 : Int32) v2 (mn32 x y) (mx32 x y)) (3 : Int32) v3 (mn32 x y) (mx32 x y)) (4 : Int32) v4 (mn32 x y) (mx32 x y))), .unset, .unset]) rfl k_) ?_
    show Go _ _ _ _ (T7.setTop (mkF m 218 #[.val (.int p1), .val (.int p2), .val (.int p3), .val (.int p4), .val (.ref a4), .val (.int v0), .val (.int v1), .val (.int v2), .val (.int v3), .val (.int v4), .val (.int v5), .val (.int x), .val (.int y), .val (.int (mn32 x y)), .val (.int (mx32 x y)), .val (.int (tk (tk (tk (tk (tk (-2128831035 : Int32) (0 : Int32) v0 (mn32 x y) (mx32 x y)) (1 : Int32) v1 (mn32 x y) (mx32 x y)) (2 : Int32) v2 (mn32 x y) (mx32 x y)) (3 : Int32) v3 (mn32 x y) (mx32 x y)) (4 : Int32) v4 (mn32 x y) (mx32 x y))), .unset, .unset] []))
    refine Go.via (fun t_ k_ => XS.iload H7.here hx rfl (hb hby at_218) rfl k_) ?_
    show Go _ _ _ _ (T7.setTop (mkF m 220 #[.val (.int p1), .val (.int p2), .val (.int p3), .val (.int p4), .val (.ref a4), .val (.int v0), .val (.int v1), .val (.int v2), .val (.int v3), .val (.int v4), .val (.int v5), .val (.int x), .val (.int y), .val (.int (mn32 x y)), .val (.int (mx32 x y)), .val (.int (tk (tk (tk (tk (tk (-2128831035 : Int32) (0 : Int32) v0 (mn32 x y) (mx32 x y)) (1 : Int32) v1 (mn32 x y) (mx32 x y)) (2 : Int32) v2 (mn32 x y) (mx32 x y)) (3 : Int32) v3 (mn32 x y) (mx32 x y)) (4 : Int32) v4 (mn32 x y) (mx32 x y))), .unset, .unset] [(.int (tk (tk (tk (tk (tk (-2128831035 : Int32) (0 : Int32) v0 (mn32 x y) (mx32 x y)) (1 : Int32) v1 (mn32 x y) (mx32 x y)) (2 : Int32) v2 (mn32 x y) (mx32 x y)) (3 : Int32) v3 (mn32 x y) (mx32 x y)) (4 : Int32) v4 (mn32 x y) (mx32 x y)))]))
    refine Go.via (fun t_ k_ => XS.iconst H7.here hx rfl (hb hby at_220) k_) ?_
    show Go _ _ _ _ (T7.setTop (mkF m 221 #[.val (.int p1), .val (.int p2), .val (.int p3), .val (.int p4), .val (.ref a4), .val (.int v0), .val (.int v1), .val (.int v2), .val (.int v3), .val (.int v4), .val (.int v5), .val (.int x), .val (.int y), .val (.int (mn32 x y)), .val (.int (mx32 x y)), .val (.int (tk (tk (tk (tk (tk (-2128831035 : Int32) (0 : Int32) v0 (mn32 x y) (mx32 x y)) (1 : Int32) v1 (mn32 x y) (mx32 x y)) (2 : Int32) v2 (mn32 x y) (mx32 x y)) (3 : Int32) v3 (mn32 x y) (mx32 x y)) (4 : Int32) v4 (mn32 x y) (mx32 x y))), .unset, .unset] [(.int (5 : Int32)), (.int (tk (tk (tk (tk (tk (-2128831035 : Int32) (0 : Int32) v0 (mn32 x y) (mx32 x y)) (1 : Int32) v1 (mn32 x y) (mx32 x y)) (2 : Int32) v2 (mn32 x y) (mx32 x y)) (3 : Int32) v3 (mn32 x y) (mx32 x y)) (4 : Int32) v4 (mn32 x y) (mx32 x y)))]))
    refine Go.via (fun t_ k_ => XS.iload H7.here hx rfl (hb hby at_221) rfl k_) ?_
    show Go _ _ _ _ (T7.setTop (mkF m 223 #[.val (.int p1), .val (.int p2), .val (.int p3), .val (.int p4), .val (.ref a4), .val (.int v0), .val (.int v1), .val (.int v2), .val (.int v3), .val (.int v4), .val (.int v5), .val (.int x), .val (.int y), .val (.int (mn32 x y)), .val (.int (mx32 x y)), .val (.int (tk (tk (tk (tk (tk (-2128831035 : Int32) (0 : Int32) v0 (mn32 x y) (mx32 x y)) (1 : Int32) v1 (mn32 x y) (mx32 x y)) (2 : Int32) v2 (mn32 x y) (mx32 x y)) (3 : Int32) v3 (mn32 x y) (mx32 x y)) (4 : Int32) v4 (mn32 x y) (mx32 x y))), .unset, .unset] [(.int v5), (.int (5 : Int32)), (.int (tk (tk (tk (tk (tk (-2128831035 : Int32) (0 : Int32) v0 (mn32 x y) (mx32 x y)) (1 : Int32) v1 (mn32 x y) (mx32 x y)) (2 : Int32) v2 (mn32 x y) (mx32 x y)) (3 : Int32) v3 (mn32 x y) (mx32 x y)) (4 : Int32) v4 (mn32 x y) (mx32 x y)))]))
    refine Go.via (fun t_ k_ => XS.iload H7.here hx rfl (hb hby at_223) rfl k_) ?_
    show Go _ _ _ _ (T7.setTop (mkF m 225 #[.val (.int p1), .val (.int p2), .val (.int p3), .val (.int p4), .val (.ref a4), .val (.int v0), .val (.int v1), .val (.int v2), .val (.int v3), .val (.int v4), .val (.int v5), .val (.int x), .val (.int y), .val (.int (mn32 x y)), .val (.int (mx32 x y)), .val (.int (tk (tk (tk (tk (tk (-2128831035 : Int32) (0 : Int32) v0 (mn32 x y) (mx32 x y)) (1 : Int32) v1 (mn32 x y) (mx32 x y)) (2 : Int32) v2 (mn32 x y) (mx32 x y)) (3 : Int32) v3 (mn32 x y) (mx32 x y)) (4 : Int32) v4 (mn32 x y) (mx32 x y))), .unset, .unset] [(.int (mn32 x y)), (.int v5), (.int (5 : Int32)), (.int (tk (tk (tk (tk (tk (-2128831035 : Int32) (0 : Int32) v0 (mn32 x y) (mx32 x y)) (1 : Int32) v1 (mn32 x y) (mx32 x y)) (2 : Int32) v2 (mn32 x y) (mx32 x y)) (3 : Int32) v3 (mn32 x y) (mx32 x y)) (4 : Int32) v4 (mn32 x y) (mx32 x y)))]))
    refine Go.via (fun t_ k_ => XS.iload H7.here hx rfl (hb hby at_225) rfl k_) ?_
    show Go _ _ _ _ (T7.setTop (mkF m 227 #[.val (.int p1), .val (.int p2), .val (.int p3), .val (.int p4), .val (.ref a4), .val (.int v0), .val (.int v1), .val (.int v2), .val (.int v3), .val (.int v4), .val (.int v5), .val (.int x), .val (.int y), .val (.int (mn32 x y)), .val (.int (mx32 x y)), .val (.int (tk (tk (tk (tk (tk (-2128831035 : Int32) (0 : Int32) v0 (mn32 x y) (mx32 x y)) (1 : Int32) v1 (mn32 x y) (mx32 x y)) (2 : Int32) v2 (mn32 x y) (mx32 x y)) (3 : Int32) v3 (mn32 x y) (mx32 x y)) (4 : Int32) v4 (mn32 x y) (mx32 x y))), .unset, .unset] [(.int (mx32 x y)), (.int (mn32 x y)), (.int v5), (.int (5 : Int32)), (.int (tk (tk (tk (tk (tk (-2128831035 : Int32) (0 : Int32) v0 (mn32 x y) (mx32 x y)) (1 : Int32) v1 (mn32 x y) (mx32 x y)) (2 : Int32) v2 (mn32 x y) (mx32 x y)) (3 : Int32) v3 (mn32 x y) (mx32 x y)) (4 : Int32) v4 (mn32 x y) (mx32 x y)))]))
    refine own_callS H7 hx hZ (y := (⟨"com/example/perekaz/perekaz/TextLinesHashPinLaw", "take", "(IIIII)I"⟩ : MethodName)) hown (hw _ (List.mem_of_getElem? (i := 10) rfl)) (hw _ (List.mem_of_getElem? (i := 11) rfl)) (hw _ (List.mem_of_getElem? (i := 12) rfl)) (hw _ (List.mem_of_getElem? (i := 13) rfl)) (by decide) (rmTake l Z a0 hw (tk (tk (tk (tk (tk (-2128831035 : Int32) (0 : Int32) v0 (mn32 x y) (mx32 x y)) (1 : Int32) v1 (mn32 x y) (mx32 x y)) (2 : Int32) v2 (mn32 x y) (mx32 x y)) (3 : Int32) v3 (mn32 x y) (mx32 x y)) (4 : Int32) v4 (mn32 x y) (mx32 x y)) (5 : Int32) v5 (mn32 x y) (mx32 x y) hj n0) (g := (mkF m 227 #[.val (.int p1), .val (.int p2), .val (.int p3), .val (.int p4), .val (.ref a4), .val (.int v0), .val (.int v1), .val (.int v2), .val (.int v3), .val (.int v4), .val (.int v5), .val (.int x), .val (.int y), .val (.int (mn32 x y)), .val (.int (mx32 x y)), .val (.int (tk (tk (tk (tk (tk (-2128831035 : Int32) (0 : Int32) v0 (mn32 x y) (mx32 x y)) (1 : Int32) v1 (mn32 x y) (mx32 x y)) (2 : Int32) v2 (mn32 x y) (mx32 x y)) (3 : Int32) v3 (mn32 x y) (mx32 x y)) (4 : Int32) v4 (mn32 x y) (mx32 x y))), .unset, .unset] [(.int (mx32 x y)), (.int (mn32 x y)), (.int v5), (.int (5 : Int32)), (.int (tk (tk (tk (tk (tk (-2128831035 : Int32) (0 : Int32) v0 (mn32 x y) (mx32 x y)) (1 : Int32) v1 (mn32 x y) (mx32 x y)) (2 : Int32) v2 (mn32 x y) (mx32 x y)) (3 : Int32) v3 (mn32 x y) (mx32 x y)) (4 : Int32) v4 (mn32 x y) (mx32 x y)))])) rfl (by rw [hml]; rfl) (argsL := [(.int (tk (tk (tk (tk (tk (-2128831035 : Int32) (0 : Int32) v0 (mn32 x y) (mx32 x y)) (1 : Int32) v1 (mn32 x y) (mx32 x y)) (2 : Int32) v2 (mn32 x y) (mx32 x y)) (3 : Int32) v3 (mn32 x y) (mx32 x y)) (4 : Int32) v4 (mn32 x y) (mx32 x y))), (.int (5 : Int32)), (.int v5), (.int (mn32 x y)), (.int (mx32 x y))]) (rest := []) (lenOf pd_1 rfl) rfl 0 (Nat.le_of_eq rfl) (hb hby at_227) (by decide) (by decide) (by decide) (by decide) ?_
    rintro _ T8 _ ⟨rfl, rfl⟩ H8
    show Go _ _ _ _ (T8.setTop (mkF m 230 #[.val (.int p1), .val (.int p2), .val (.int p3), .val (.int p4), .val (.ref a4), .val (.int v0), .val (.int v1), .val (.int v2), .val (.int v3), .val (.int v4), .val (.int v5), .val (.int x), .val (.int y), .val (.int (mn32 x y)), .val (.int (mx32 x y)), .val (.int (tk (tk (tk (tk (tk (-2128831035 : Int32) (0 : Int32) v0 (mn32 x y) (mx32 x y)) (1 : Int32) v1 (mn32 x y) (mx32 x y)) (2 : Int32) v2 (mn32 x y) (mx32 x y)) (3 : Int32) v3 (mn32 x y) (mx32 x y)) (4 : Int32) v4 (mn32 x y) (mx32 x y))), .unset, .unset] [(.int (tk (tk (tk (tk (tk (tk (-2128831035 : Int32) (0 : Int32) v0 (mn32 x y) (mx32 x y)) (1 : Int32) v1 (mn32 x y) (mx32 x y)) (2 : Int32) v2 (mn32 x y) (mx32 x y)) (3 : Int32) v3 (mn32 x y) (mx32 x y)) (4 : Int32) v4 (mn32 x y) (mx32 x y)) (5 : Int32) v5 (mn32 x y) (mx32 x y)))]))
    refine Go.via (fun t_ k_ => XS.istore H8.here hx rfl (hb hby at_230) rfl (l' := #[.val (.int p1), .val (.int p2), .val (.int p3), .val (.int p4), .val (.ref a4), .val (.int v0), .val (.int v1), .val (.int v2), .val (.int v3), .val (.int v4), .val (.int v5), .val (.int x), .val (.int y), .val (.int (mn32 x y)), .val (.int (mx32 x y)), .val (.int (tk (tk (tk (tk (tk (tk (-2128831035 : Int32) (0 : Int32) v0 (mn32 x y) (mx32 x y)) (1 : Int32) v1 (mn32 x y) (mx32 x y)) (2 : Int32) v2 (mn32 x y) (mx32 x y)) (3 : Int32) v3 (mn32 x y) (mx32 x y)) (4 : Int32) v4 (mn32 x y) (mx32 x y)) (5 : Int32) v5 (mn32 x y) (mx32 x y))), .unset, .unset]) rfl k_) ?_
    show Go _ _ _ _ (T8.setTop (mkF m 232 #[.val (.int p1), .val (.int p2), .val (.int p3), .val (.int p4), .val (.ref a4), .val (.int v0), .val (.int v1), .val (.int v2), .val (.int v3), .val (.int v4), .val (.int v5), .val (.int x), .val (.int y), .val (.int (mn32 x y)), .val (.int (mx32 x y)), .val (.int (tk (tk (tk (tk (tk (tk (-2128831035 : Int32) (0 : Int32) v0 (mn32 x y) (mx32 x y)) (1 : Int32) v1 (mn32 x y) (mx32 x y)) (2 : Int32) v2 (mn32 x y) (mx32 x y)) (3 : Int32) v3 (mn32 x y) (mx32 x y)) (4 : Int32) v4 (mn32 x y) (mx32 x y)) (5 : Int32) v5 (mn32 x y) (mx32 x y))), .unset, .unset] []))
    refine Go.via (fun t_ k_ => XS.iconst H8.here hx rfl (hb hby at_232) k_) ?_
    show Go _ _ _ _ (T8.setTop (mkF m 233 #[.val (.int p1), .val (.int p2), .val (.int p3), .val (.int p4), .val (.ref a4), .val (.int v0), .val (.int v1), .val (.int v2), .val (.int v3), .val (.int v4), .val (.int v5), .val (.int x), .val (.int y), .val (.int (mn32 x y)), .val (.int (mx32 x y)), .val (.int (tk (tk (tk (tk (tk (tk (-2128831035 : Int32) (0 : Int32) v0 (mn32 x y) (mx32 x y)) (1 : Int32) v1 (mn32 x y) (mx32 x y)) (2 : Int32) v2 (mn32 x y) (mx32 x y)) (3 : Int32) v3 (mn32 x y) (mx32 x y)) (4 : Int32) v4 (mn32 x y) (mx32 x y)) (5 : Int32) v5 (mn32 x y) (mx32 x y))), .unset, .unset] [(.int (1 : Int32))]))
    refine own_newA H8 hx hZ (aty := .byte) (hw _ (List.mem_of_getElem? (i := 0) rfl)) (g := (mkF m 233 #[.val (.int p1), .val (.int p2), .val (.int p3), .val (.int p4), .val (.ref a4), .val (.int v0), .val (.int v1), .val (.int v2), .val (.int v3), .val (.int v4), .val (.int v5), .val (.int x), .val (.int y), .val (.int (mn32 x y)), .val (.int (mx32 x y)), .val (.int (tk (tk (tk (tk (tk (tk (-2128831035 : Int32) (0 : Int32) v0 (mn32 x y) (mx32 x y)) (1 : Int32) v1 (mn32 x y) (mx32 x y)) (2 : Int32) v2 (mn32 x y) (mx32 x y)) (3 : Int32) v3 (mn32 x y) (mx32 x y)) (4 : Int32) v4 (mn32 x y) (mx32 x y)) (5 : Int32) v5 (mn32 x y) (mx32 x y))), .unset, .unset] [(.int (1 : Int32))])) rfl (hb hby at_233) rfl (by decide) 1 (by decide) rfl 1 (by decide) (by decide) (by decide) (by decide) ?_
    intro T9 h9 a9 ga9 E9 B9 H9
    replace B9 : Ab Z h9 a9 .byte 1 (fun _ => 0) := B9
    have ne_a4_a9 : a4 ≠ a9 := by rw [ga9]; exact Nat.ne_of_lt AB.lt
    have g_a9 : n0 ≤ a9 := by rw [ga9]; exact szj
    have sz9 : n0 ≤ h9.size := Nat.le_trans szj E9.1
    show Go _ _ _ _ (T9.setTop (mkF m 235 #[.val (.int p1), .val (.int p2), .val (.int p3), .val (.int p4), .val (.ref a4), .val (.int v0), .val (.int v1), .val (.int v2), .val (.int v3), .val (.int v4), .val (.int v5), .val (.int x), .val (.int y), .val (.int (mn32 x y)), .val (.int (mx32 x y)), .val (.int (tk (tk (tk (tk (tk (tk (-2128831035 : Int32) (0 : Int32) v0 (mn32 x y) (mx32 x y)) (1 : Int32) v1 (mn32 x y) (mx32 x y)) (2 : Int32) v2 (mn32 x y) (mx32 x y)) (3 : Int32) v3 (mn32 x y) (mx32 x y)) (4 : Int32) v4 (mn32 x y) (mx32 x y)) (5 : Int32) v5 (mn32 x y) (mx32 x y))), .unset, .unset] [(.ref a9)]))
    refine Go.via (fun t_ k_ => XS.astore H9.here hx rfl (hb hby at_235) rfl rfl (l' := #[.val (.int p1), .val (.int p2), .val (.int p3), .val (.int p4), .val (.ref a4), .val (.int v0), .val (.int v1), .val (.int v2), .val (.int v3), .val (.int v4), .val (.int v5), .val (.int x), .val (.int y), .val (.int (mn32 x y)), .val (.int (mx32 x y)), .val (.int (tk (tk (tk (tk (tk (tk (-2128831035 : Int32) (0 : Int32) v0 (mn32 x y) (mx32 x y)) (1 : Int32) v1 (mn32 x y) (mx32 x y)) (2 : Int32) v2 (mn32 x y) (mx32 x y)) (3 : Int32) v3 (mn32 x y) (mx32 x y)) (4 : Int32) v4 (mn32 x y) (mx32 x y)) (5 : Int32) v5 (mn32 x y) (mx32 x y))), .val (.ref a9), .unset]) rfl k_) ?_
    show Go _ _ _ _ (T9.setTop (mkF m 237 #[.val (.int p1), .val (.int p2), .val (.int p3), .val (.int p4), .val (.ref a4), .val (.int v0), .val (.int v1), .val (.int v2), .val (.int v3), .val (.int v4), .val (.int v5), .val (.int x), .val (.int y), .val (.int (mn32 x y)), .val (.int (mx32 x y)), .val (.int (tk (tk (tk (tk (tk (tk (-2128831035 : Int32) (0 : Int32) v0 (mn32 x y) (mx32 x y)) (1 : Int32) v1 (mn32 x y) (mx32 x y)) (2 : Int32) v2 (mn32 x y) (mx32 x y)) (3 : Int32) v3 (mn32 x y) (mx32 x y)) (4 : Int32) v4 (mn32 x y) (mx32 x y)) (5 : Int32) v5 (mn32 x y) (mx32 x y))), .val (.ref a9), .unset] []))
    refine Go.via (fun t_ k_ => XS.aload H9.here hx rfl (hb hby at_237) rfl rfl k_) ?_
    show Go _ _ _ _ (T9.setTop (mkF m 239 #[.val (.int p1), .val (.int p2), .val (.int p3), .val (.int p4), .val (.ref a4), .val (.int v0), .val (.int v1), .val (.int v2), .val (.int v3), .val (.int v4), .val (.int v5), .val (.int x), .val (.int y), .val (.int (mn32 x y)), .val (.int (mx32 x y)), .val (.int (tk (tk (tk (tk (tk (tk (-2128831035 : Int32) (0 : Int32) v0 (mn32 x y) (mx32 x y)) (1 : Int32) v1 (mn32 x y) (mx32 x y)) (2 : Int32) v2 (mn32 x y) (mx32 x y)) (3 : Int32) v3 (mn32 x y) (mx32 x y)) (4 : Int32) v4 (mn32 x y) (mx32 x y)) (5 : Int32) v5 (mn32 x y) (mx32 x y))), .val (.ref a9), .unset] [(.ref a9)]))
    refine Go.via (fun t_ k_ => XS.iconst H9.here hx rfl (hb hby at_239) k_) ?_
    show Go _ _ _ _ (T9.setTop (mkF m 240 #[.val (.int p1), .val (.int p2), .val (.int p3), .val (.int p4), .val (.ref a4), .val (.int v0), .val (.int v1), .val (.int v2), .val (.int v3), .val (.int v4), .val (.int v5), .val (.int x), .val (.int y), .val (.int (mn32 x y)), .val (.int (mx32 x y)), .val (.int (tk (tk (tk (tk (tk (tk (-2128831035 : Int32) (0 : Int32) v0 (mn32 x y) (mx32 x y)) (1 : Int32) v1 (mn32 x y) (mx32 x y)) (2 : Int32) v2 (mn32 x y) (mx32 x y)) (3 : Int32) v3 (mn32 x y) (mx32 x y)) (4 : Int32) v4 (mn32 x y) (mx32 x y)) (5 : Int32) v5 (mn32 x y) (mx32 x y))), .val (.ref a9), .unset] [(.int (0 : Int32)), (.ref a9)]))
    refine Go.via (fun t_ k_ => XS.bipush H9.here hx rfl (hb hby at_240) k_) ?_
    show Go _ _ _ _ (T9.setTop (mkF m 242 #[.val (.int p1), .val (.int p2), .val (.int p3), .val (.int p4), .val (.ref a4), .val (.int v0), .val (.int v1), .val (.int v2), .val (.int v3), .val (.int v4), .val (.int v5), .val (.int x), .val (.int y), .val (.int (mn32 x y)), .val (.int (mx32 x y)), .val (.int (tk (tk (tk (tk (tk (tk (-2128831035 : Int32) (0 : Int32) v0 (mn32 x y) (mx32 x y)) (1 : Int32) v1 (mn32 x y) (mx32 x y)) (2 : Int32) v2 (mn32 x y) (mx32 x y)) (3 : Int32) v3 (mn32 x y) (mx32 x y)) (4 : Int32) v4 (mn32 x y) (mx32 x y)) (5 : Int32) v5 (mn32 x y) (mx32 x y))), .val (.ref a9), .unset] [(.int (97 : Int32)), (.int (0 : Int32)), (.ref a9)]))
    refine own_stBA H9 hx hZ B9 (j := 0) (by decide) (by decide) g_a9 (g := (mkF m 242 #[.val (.int p1), .val (.int p2), .val (.int p3), .val (.int p4), .val (.ref a4), .val (.int v0), .val (.int v1), .val (.int v2), .val (.int v3), .val (.int v4), .val (.int v5), .val (.int x), .val (.int y), .val (.int (mn32 x y)), .val (.int (mx32 x y)), .val (.int (tk (tk (tk (tk (tk (tk (-2128831035 : Int32) (0 : Int32) v0 (mn32 x y) (mx32 x y)) (1 : Int32) v1 (mn32 x y) (mx32 x y)) (2 : Int32) v2 (mn32 x y) (mx32 x y)) (3 : Int32) v3 (mn32 x y) (mx32 x y)) (4 : Int32) v4 (mn32 x y) (mx32 x y)) (5 : Int32) v5 (mn32 x y) (mx32 x y))), .val (.ref a9), .unset] [(.int (97 : Int32)), (.int (0 : Int32)), (.ref a9)])) rfl rfl (hb hby at_242) ?_
    intro T10 h10 W10 B10 H10
    have sz10 : n0 ≤ h10.size := Nat.le_trans sz9 (Keep.of_wr W10).1
    show Go _ _ _ _ (T10.setTop (mkF m 243 #[.val (.int p1), .val (.int p2), .val (.int p3), .val (.int p4), .val (.ref a4), .val (.int v0), .val (.int v1), .val (.int v2), .val (.int v3), .val (.int v4), .val (.int v5), .val (.int x), .val (.int y), .val (.int (mn32 x y)), .val (.int (mx32 x y)), .val (.int (tk (tk (tk (tk (tk (tk (-2128831035 : Int32) (0 : Int32) v0 (mn32 x y) (mx32 x y)) (1 : Int32) v1 (mn32 x y) (mx32 x y)) (2 : Int32) v2 (mn32 x y) (mx32 x y)) (3 : Int32) v3 (mn32 x y) (mx32 x y)) (4 : Int32) v4 (mn32 x y) (mx32 x y)) (5 : Int32) v5 (mn32 x y) (mx32 x y))), .val (.ref a9), .unset] []))
    refine Go.via (fun t_ k_ => XS.aload H10.here hx rfl (hb hby at_243) rfl rfl k_) ?_
    show Go _ _ _ _ (T10.setTop (mkF m 245 #[.val (.int p1), .val (.int p2), .val (.int p3), .val (.int p4), .val (.ref a4), .val (.int v0), .val (.int v1), .val (.int v2), .val (.int v3), .val (.int v4), .val (.int v5), .val (.int x), .val (.int y), .val (.int (mn32 x y)), .val (.int (mx32 x y)), .val (.int (tk (tk (tk (tk (tk (tk (-2128831035 : Int32) (0 : Int32) v0 (mn32 x y) (mx32 x y)) (1 : Int32) v1 (mn32 x y) (mx32 x y)) (2 : Int32) v2 (mn32 x y) (mx32 x y)) (3 : Int32) v3 (mn32 x y) (mx32 x y)) (4 : Int32) v4 (mn32 x y) (mx32 x y)) (5 : Int32) v5 (mn32 x y) (mx32 x y))), .val (.ref a9), .unset] [(.ref a9)]))
    refine Go.via (fun t_ k_ => XS.iconst H10.here hx rfl (hb hby at_245) k_) ?_
    show Go _ _ _ _ (T10.setTop (mkF m 246 #[.val (.int p1), .val (.int p2), .val (.int p3), .val (.int p4), .val (.ref a4), .val (.int v0), .val (.int v1), .val (.int v2), .val (.int v3), .val (.int v4), .val (.int v5), .val (.int x), .val (.int y), .val (.int (mn32 x y)), .val (.int (mx32 x y)), .val (.int (tk (tk (tk (tk (tk (tk (-2128831035 : Int32) (0 : Int32) v0 (mn32 x y) (mx32 x y)) (1 : Int32) v1 (mn32 x y) (mx32 x y)) (2 : Int32) v2 (mn32 x y) (mx32 x y)) (3 : Int32) v3 (mn32 x y) (mx32 x y)) (4 : Int32) v4 (mn32 x y) (mx32 x y)) (5 : Int32) v5 (mn32 x y) (mx32 x y))), .val (.ref a9), .unset] [(.int (0 : Int32)), (.ref a9)]))
    refine Go.via (fun t_ k_ => XS.iconst H10.here hx rfl (hb hby at_246) k_) ?_
    show Go _ _ _ _ (T10.setTop (mkF m 247 #[.val (.int p1), .val (.int p2), .val (.int p3), .val (.int p4), .val (.ref a4), .val (.int v0), .val (.int v1), .val (.int v2), .val (.int v3), .val (.int v4), .val (.int v5), .val (.int x), .val (.int y), .val (.int (mn32 x y)), .val (.int (mx32 x y)), .val (.int (tk (tk (tk (tk (tk (tk (-2128831035 : Int32) (0 : Int32) v0 (mn32 x y) (mx32 x y)) (1 : Int32) v1 (mn32 x y) (mx32 x y)) (2 : Int32) v2 (mn32 x y) (mx32 x y)) (3 : Int32) v3 (mn32 x y) (mx32 x y)) (4 : Int32) v4 (mn32 x y) (mx32 x y)) (5 : Int32) v5 (mn32 x y) (mx32 x y))), .val (.ref a9), .unset] [(.int (1 : Int32)), (.int (0 : Int32)), (.ref a9)]))
    refine own_callS H10 hx hZ (y := (⟨"com/example/perekaz/perekaz/TextLines", "hash", "([BII)I"⟩ : MethodName)) hown (hw _ (List.mem_of_getElem? (i := 18) rfl)) (hw _ (List.mem_of_getElem? (i := 19) rfl)) (hw _ (List.mem_of_getElem? (i := 20) rfl)) (hw _ (List.mem_of_getElem? (i := 21) rfl)) (by decide) (rmHash l Z a0 hw a9 (upd (fun _ => (0 : Int32)) 0 (nar .byte (97 : Int32))) 1 (0 : Int32) (1 : Int32) 0 1 h10 n0 B10 (by decide) (by decide) (by decide) (by decide) (by decide)) (g := (mkF m 247 #[.val (.int p1), .val (.int p2), .val (.int p3), .val (.int p4), .val (.ref a4), .val (.int v0), .val (.int v1), .val (.int v2), .val (.int v3), .val (.int v4), .val (.int v5), .val (.int x), .val (.int y), .val (.int (mn32 x y)), .val (.int (mx32 x y)), .val (.int (tk (tk (tk (tk (tk (tk (-2128831035 : Int32) (0 : Int32) v0 (mn32 x y) (mx32 x y)) (1 : Int32) v1 (mn32 x y) (mx32 x y)) (2 : Int32) v2 (mn32 x y) (mx32 x y)) (3 : Int32) v3 (mn32 x y) (mx32 x y)) (4 : Int32) v4 (mn32 x y) (mx32 x y)) (5 : Int32) v5 (mn32 x y) (mx32 x y))), .val (.ref a9), .unset] [(.int (1 : Int32)), (.int (0 : Int32)), (.ref a9)])) rfl (by rw [hml]; rfl) (argsL := [(.ref a9), (.int (0 : Int32)), (.int (1 : Int32))]) (rest := []) (lenOf pd_2 rfl) rfl 0 (Nat.le_of_eq rfl) (hb hby at_247) (by decide) (by decide) (by decide) (by decide) ?_
    rintro _ T11 _ ⟨rfl, rfl⟩ H11
    show Go _ _ _ _ (T11.setTop (mkF m 250 #[.val (.int p1), .val (.int p2), .val (.int p3), .val (.int p4), .val (.ref a4), .val (.int v0), .val (.int v1), .val (.int v2), .val (.int v3), .val (.int v4), .val (.int v5), .val (.int x), .val (.int y), .val (.int (mn32 x y)), .val (.int (mx32 x y)), .val (.int (tk (tk (tk (tk (tk (tk (-2128831035 : Int32) (0 : Int32) v0 (mn32 x y) (mx32 x y)) (1 : Int32) v1 (mn32 x y) (mx32 x y)) (2 : Int32) v2 (mn32 x y) (mx32 x y)) (3 : Int32) v3 (mn32 x y) (mx32 x y)) (4 : Int32) v4 (mn32 x y) (mx32 x y)) (5 : Int32) v5 (mn32 x y) (mx32 x y))), .val (.ref a9), .unset] [(.int (fnvL (upd (fun _ => (0 : Int32)) 0 (nar .byte (97 : Int32))) (1 - 0) 0 (-2128831035 : Int32)))]))
    refine own_ldcI H11 hx hZ hown (hw _ (List.mem_of_getElem? (i := 24) rfl)) (g := (mkF m 250 #[.val (.int p1), .val (.int p2), .val (.int p3), .val (.int p4), .val (.ref a4), .val (.int v0), .val (.int v1), .val (.int v2), .val (.int v3), .val (.int v4), .val (.int v5), .val (.int x), .val (.int y), .val (.int (mn32 x y)), .val (.int (mx32 x y)), .val (.int (tk (tk (tk (tk (tk (tk (-2128831035 : Int32) (0 : Int32) v0 (mn32 x y) (mx32 x y)) (1 : Int32) v1 (mn32 x y) (mx32 x y)) (2 : Int32) v2 (mn32 x y) (mx32 x y)) (3 : Int32) v3 (mn32 x y) (mx32 x y)) (4 : Int32) v4 (mn32 x y) (mx32 x y)) (5 : Int32) v5 (mn32 x y) (mx32 x y))), .val (.ref a9), .unset] [(.int (fnvL (upd (fun _ => (0 : Int32)) 0 (nar .byte (97 : Int32))) (1 - 0) 0 (-2128831035 : Int32)))])) rfl (hb hby at_250) ?_
    show Go _ _ _ _ (T11.setTop (mkF m 252 #[.val (.int p1), .val (.int p2), .val (.int p3), .val (.int p4), .val (.ref a4), .val (.int v0), .val (.int v1), .val (.int v2), .val (.int v3), .val (.int v4), .val (.int v5), .val (.int x), .val (.int y), .val (.int (mn32 x y)), .val (.int (mx32 x y)), .val (.int (tk (tk (tk (tk (tk (tk (-2128831035 : Int32) (0 : Int32) v0 (mn32 x y) (mx32 x y)) (1 : Int32) v1 (mn32 x y) (mx32 x y)) (2 : Int32) v2 (mn32 x y) (mx32 x y)) (3 : Int32) v3 (mn32 x y) (mx32 x y)) (4 : Int32) v4 (mn32 x y) (mx32 x y)) (5 : Int32) v5 (mn32 x y) (mx32 x y))), .val (.ref a9), .unset] [(.int (-468965076 : Int32)), (.int (fnvL (upd (fun _ => (0 : Int32)) 0 (nar .byte (97 : Int32))) (1 - 0) 0 (-2128831035 : Int32)))]))
    refine Go.via (fun t_ k_ => XS.icmpNo H11.here hx rfl (hb hby at_252) rfl ((teq (show (fnvL (upd (fun _ => (0 : Int32)) 0 (nar .byte (97 : Int32))) (1 - 0) 0 (-2128831035 : Int32)) = (-468965076 : Int32) from (by decide +kernel))).2) k_) ?_
    show Go _ _ _ _ (T11.setTop (mkF m 255 #[.val (.int p1), .val (.int p2), .val (.int p3), .val (.int p4), .val (.ref a4), .val (.int v0), .val (.int v1), .val (.int v2), .val (.int v3), .val (.int v4), .val (.int v5), .val (.int x), .val (.int y), .val (.int (mn32 x y)), .val (.int (mx32 x y)), .val (.int (tk (tk (tk (tk (tk (tk (-2128831035 : Int32) (0 : Int32) v0 (mn32 x y) (mx32 x y)) (1 : Int32) v1 (mn32 x y) (mx32 x y)) (2 : Int32) v2 (mn32 x y) (mx32 x y)) (3 : Int32) v3 (mn32 x y) (mx32 x y)) (4 : Int32) v4 (mn32 x y) (mx32 x y)) (5 : Int32) v5 (mn32 x y) (mx32 x y))), .val (.ref a9), .unset] []))
    refine Go.via (fun t_ k_ => XS.iconst H11.here hx rfl (hb hby at_255) k_) ?_
    show Go _ _ _ _ (T11.setTop (mkF m 256 #[.val (.int p1), .val (.int p2), .val (.int p3), .val (.int p4), .val (.ref a4), .val (.int v0), .val (.int v1), .val (.int v2), .val (.int v3), .val (.int v4), .val (.int v5), .val (.int x), .val (.int y), .val (.int (mn32 x y)), .val (.int (mx32 x y)), .val (.int (tk (tk (tk (tk (tk (tk (-2128831035 : Int32) (0 : Int32) v0 (mn32 x y) (mx32 x y)) (1 : Int32) v1 (mn32 x y) (mx32 x y)) (2 : Int32) v2 (mn32 x y) (mx32 x y)) (3 : Int32) v3 (mn32 x y) (mx32 x y)) (4 : Int32) v4 (mn32 x y) (mx32 x y)) (5 : Int32) v5 (mn32 x y) (mx32 x y))), .val (.ref a9), .unset] [(.int (1 : Int32))]))
    refine Go.via (fun t_ k_ => XS.goto H11.here hx rfl (pc0 := 256) (pc' := 260) rfl (hb hby at_256) (by decide) (by decide) k_) ?_
    show Go _ _ _ _ (T11.setTop (mkF m 260 #[.val (.int p1), .val (.int p2), .val (.int p3), .val (.int p4), .val (.ref a4), .val (.int v0), .val (.int v1), .val (.int v2), .val (.int v3), .val (.int v4), .val (.int v5), .val (.int x), .val (.int y), .val (.int (mn32 x y)), .val (.int (mx32 x y)), .val (.int (tk (tk (tk (tk (tk (tk (-2128831035 : Int32) (0 : Int32) v0 (mn32 x y) (mx32 x y)) (1 : Int32) v1 (mn32 x y) (mx32 x y)) (2 : Int32) v2 (mn32 x y) (mx32 x y)) (3 : Int32) v3 (mn32 x y) (mx32 x y)) (4 : Int32) v4 (mn32 x y) (mx32 x y)) (5 : Int32) v5 (mn32 x y) (mx32 x y))), .val (.ref a9), .unset] [(.int (1 : Int32))]))
    refine Go.via (fun t_ k_ => XS.istore H11.here hx rfl (hb hby at_260) rfl (l' := #[.val (.int p1), .val (.int p2), .val (.int p3), .val (.int p4), .val (.ref a4), .val (.int v0), .val (.int v1), .val (.int v2), .val (.int v3), .val (.int v4), .val (.int v5), .val (.int x), .val (.int y), .val (.int (mn32 x y)), .val (.int (mx32 x y)), .val (.int (tk (tk (tk (tk (tk (tk (-2128831035 : Int32) (0 : Int32) v0 (mn32 x y) (mx32 x y)) (1 : Int32) v1 (mn32 x y) (mx32 x y)) (2 : Int32) v2 (mn32 x y) (mx32 x y)) (3 : Int32) v3 (mn32 x y) (mx32 x y)) (4 : Int32) v4 (mn32 x y) (mx32 x y)) (5 : Int32) v5 (mn32 x y) (mx32 x y))), .val (.ref a9), .val (.int (1 : Int32))]) rfl k_) ?_
    show Go _ _ _ _ (T11.setTop (mkF m 262 #[.val (.int p1), .val (.int p2), .val (.int p3), .val (.int p4), .val (.ref a4), .val (.int v0), .val (.int v1), .val (.int v2), .val (.int v3), .val (.int v4), .val (.int v5), .val (.int x), .val (.int y), .val (.int (mn32 x y)), .val (.int (mx32 x y)), .val (.int (tk (tk (tk (tk (tk (tk (-2128831035 : Int32) (0 : Int32) v0 (mn32 x y) (mx32 x y)) (1 : Int32) v1 (mn32 x y) (mx32 x y)) (2 : Int32) v2 (mn32 x y) (mx32 x y)) (3 : Int32) v3 (mn32 x y) (mx32 x y)) (4 : Int32) v4 (mn32 x y) (mx32 x y)) (5 : Int32) v5 (mn32 x y) (mx32 x y))), .val (.ref a9), .val (.int (1 : Int32))] []))
    refine Go.via (fun t_ k_ => XS.iload H11.here hx rfl (hb hby at_262) rfl k_) ?_
    show Go _ _ _ _ (T11.setTop (mkF m 264 #[.val (.int p1), .val (.int p2), .val (.int p3), .val (.int p4), .val (.ref a4), .val (.int v0), .val (.int v1), .val (.int v2), .val (.int v3), .val (.int v4), .val (.int v5), .val (.int x), .val (.int y), .val (.int (mn32 x y)), .val (.int (mx32 x y)), .val (.int (tk (tk (tk (tk (tk (tk (-2128831035 : Int32) (0 : Int32) v0 (mn32 x y) (mx32 x y)) (1 : Int32) v1 (mn32 x y) (mx32 x y)) (2 : Int32) v2 (mn32 x y) (mx32 x y)) (3 : Int32) v3 (mn32 x y) (mx32 x y)) (4 : Int32) v4 (mn32 x y) (mx32 x y)) (5 : Int32) v5 (mn32 x y) (mx32 x y))), .val (.ref a9), .val (.int (1 : Int32))] [(.int (1 : Int32))]))
    refine Go.via (fun t_ k_ => XS.ifNo H11.here hx rfl (hb hby at_264) rfl ((if0 _ _).trans (feq (show ¬ ((1 : Int32) = (0 : Int32)) from (by decide))).1) k_) ?_
    show Go _ _ _ _ (T11.setTop (mkF m 267 #[.val (.int p1), .val (.int p2), .val (.int p3), .val (.int p4), .val (.ref a4), .val (.int v0), .val (.int v1), .val (.int v2), .val (.int v3), .val (.int v4), .val (.int v5), .val (.int x), .val (.int y), .val (.int (mn32 x y)), .val (.int (mx32 x y)), .val (.int (tk (tk (tk (tk (tk (tk (-2128831035 : Int32) (0 : Int32) v0 (mn32 x y) (mx32 x y)) (1 : Int32) v1 (mn32 x y) (mx32 x y)) (2 : Int32) v2 (mn32 x y) (mx32 x y)) (3 : Int32) v3 (mn32 x y) (mx32 x y)) (4 : Int32) v4 (mn32 x y) (mx32 x y)) (5 : Int32) v5 (mn32 x y) (mx32 x y))), .val (.ref a9), .val (.int (1 : Int32))] []))
    refine Go.via (fun t_ k_ => XS.aload H11.here hx rfl (hb hby at_267) rfl rfl k_) ?_
    show Go _ _ _ _ (T11.setTop (mkF m 269 #[.val (.int p1), .val (.int p2), .val (.int p3), .val (.int p4), .val (.ref a4), .val (.int v0), .val (.int v1), .val (.int v2), .val (.int v3), .val (.int v4), .val (.int v5), .val (.int x), .val (.int y), .val (.int (mn32 x y)), .val (.int (mx32 x y)), .val (.int (tk (tk (tk (tk (tk (tk (-2128831035 : Int32) (0 : Int32) v0 (mn32 x y) (mx32 x y)) (1 : Int32) v1 (mn32 x y) (mx32 x y)) (2 : Int32) v2 (mn32 x y) (mx32 x y)) (3 : Int32) v3 (mn32 x y) (mx32 x y)) (4 : Int32) v4 (mn32 x y) (mx32 x y)) (5 : Int32) v5 (mn32 x y) (mx32 x y))), .val (.ref a9), .val (.int (1 : Int32))] [(.ref a4)]))
    refine Go.via (fun t_ k_ => XS.iload H11.here hx rfl (hb hby at_269) rfl k_) ?_
    show Go _ _ _ _ (T11.setTop (mkF m 271 #[.val (.int p1), .val (.int p2), .val (.int p3), .val (.int p4), .val (.ref a4), .val (.int v0), .val (.int v1), .val (.int v2), .val (.int v3), .val (.int v4), .val (.int v5), .val (.int x), .val (.int y), .val (.int (mn32 x y)), .val (.int (mx32 x y)), .val (.int (tk (tk (tk (tk (tk (tk (-2128831035 : Int32) (0 : Int32) v0 (mn32 x y) (mx32 x y)) (1 : Int32) v1 (mn32 x y) (mx32 x y)) (2 : Int32) v2 (mn32 x y) (mx32 x y)) (3 : Int32) v3 (mn32 x y) (mx32 x y)) (4 : Int32) v4 (mn32 x y) (mx32 x y)) (5 : Int32) v5 (mn32 x y) (mx32 x y))), .val (.ref a9), .val (.int (1 : Int32))] [(.int (mn32 x y)), (.ref a4)]))
    refine Go.via (fun t_ k_ => XS.iload H11.here hx rfl (hb hby at_271) rfl k_) ?_
    show Go _ _ _ _ (T11.setTop (mkF m 273 #[.val (.int p1), .val (.int p2), .val (.int p3), .val (.int p4), .val (.ref a4), .val (.int v0), .val (.int v1), .val (.int v2), .val (.int v3), .val (.int v4), .val (.int v5), .val (.int x), .val (.int y), .val (.int (mn32 x y)), .val (.int (mx32 x y)), .val (.int (tk (tk (tk (tk (tk (tk (-2128831035 : Int32) (0 : Int32) v0 (mn32 x y) (mx32 x y)) (1 : Int32) v1 (mn32 x y) (mx32 x y)) (2 : Int32) v2 (mn32 x y) (mx32 x y)) (3 : Int32) v3 (mn32 x y) (mx32 x y)) (4 : Int32) v4 (mn32 x y) (mx32 x y)) (5 : Int32) v5 (mn32 x y) (mx32 x y))), .val (.ref a9), .val (.int (1 : Int32))] [(.int (mx32 x y)), (.int (mn32 x y)), (.ref a4)]))
    refine own_callS H11 hx hZ (y := (⟨"com/example/perekaz/perekaz/TextLines", "hash", "([BII)I"⟩ : MethodName)) hown (hw _ (List.mem_of_getElem? (i := 18) rfl)) (hw _ (List.mem_of_getElem? (i := 19) rfl)) (hw _ (List.mem_of_getElem? (i := 20) rfl)) (hw _ (List.mem_of_getElem? (i := 21) rfl)) (by decide) (rmHash l Z a0 hw a4 B 6 (mn32 x y) (mx32 x y) f t h10 n0 ((AB.ext E9).other W10 ne_a4_a9) hf ht hft ht6 (by decide)) (g := (mkF m 273 #[.val (.int p1), .val (.int p2), .val (.int p3), .val (.int p4), .val (.ref a4), .val (.int v0), .val (.int v1), .val (.int v2), .val (.int v3), .val (.int v4), .val (.int v5), .val (.int x), .val (.int y), .val (.int (mn32 x y)), .val (.int (mx32 x y)), .val (.int (tk (tk (tk (tk (tk (tk (-2128831035 : Int32) (0 : Int32) v0 (mn32 x y) (mx32 x y)) (1 : Int32) v1 (mn32 x y) (mx32 x y)) (2 : Int32) v2 (mn32 x y) (mx32 x y)) (3 : Int32) v3 (mn32 x y) (mx32 x y)) (4 : Int32) v4 (mn32 x y) (mx32 x y)) (5 : Int32) v5 (mn32 x y) (mx32 x y))), .val (.ref a9), .val (.int (1 : Int32))] [(.int (mx32 x y)), (.int (mn32 x y)), (.ref a4)])) rfl (by rw [hml]; rfl) (argsL := [(.ref a4), (.int (mn32 x y)), (.int (mx32 x y))]) (rest := []) (lenOf pd_2 rfl) rfl 0 (Nat.le_of_eq rfl) (hb hby at_273) (by decide) (by decide) (by decide) (by decide) ?_
    rintro _ T12 _ ⟨rfl, rfl⟩ H12
    show Go _ _ _ _ (T12.setTop (mkF m 276 #[.val (.int p1), .val (.int p2), .val (.int p3), .val (.int p4), .val (.ref a4), .val (.int v0), .val (.int v1), .val (.int v2), .val (.int v3), .val (.int v4), .val (.int v5), .val (.int x), .val (.int y), .val (.int (mn32 x y)), .val (.int (mx32 x y)), .val (.int (tk (tk (tk (tk (tk (tk (-2128831035 : Int32) (0 : Int32) v0 (mn32 x y) (mx32 x y)) (1 : Int32) v1 (mn32 x y) (mx32 x y)) (2 : Int32) v2 (mn32 x y) (mx32 x y)) (3 : Int32) v3 (mn32 x y) (mx32 x y)) (4 : Int32) v4 (mn32 x y) (mx32 x y)) (5 : Int32) v5 (mn32 x y) (mx32 x y))), .val (.ref a9), .val (.int (1 : Int32))] [(.int (fnvL B (t - f) f (-2128831035 : Int32)))]))
    refine Go.via (fun t_ k_ => XS.iload H12.here hx rfl (hb hby at_276) rfl k_) ?_
    show Go _ _ _ _ (T12.setTop (mkF m 278 #[.val (.int p1), .val (.int p2), .val (.int p3), .val (.int p4), .val (.ref a4), .val (.int v0), .val (.int v1), .val (.int v2), .val (.int v3), .val (.int v4), .val (.int v5), .val (.int x), .val (.int y), .val (.int (mn32 x y)), .val (.int (mx32 x y)), .val (.int (tk (tk (tk (tk (tk (tk (-2128831035 : Int32) (0 : Int32) v0 (mn32 x y) (mx32 x y)) (1 : Int32) v1 (mn32 x y) (mx32 x y)) (2 : Int32) v2 (mn32 x y) (mx32 x y)) (3 : Int32) v3 (mn32 x y) (mx32 x y)) (4 : Int32) v4 (mn32 x y) (mx32 x y)) (5 : Int32) v5 (mn32 x y) (mx32 x y))), .val (.ref a9), .val (.int (1 : Int32))] [(.int (tk (tk (tk (tk (tk (tk (-2128831035 : Int32) (0 : Int32) v0 (mn32 x y) (mx32 x y)) (1 : Int32) v1 (mn32 x y) (mx32 x y)) (2 : Int32) v2 (mn32 x y) (mx32 x y)) (3 : Int32) v3 (mn32 x y) (mx32 x y)) (4 : Int32) v4 (mn32 x y) (mx32 x y)) (5 : Int32) v5 (mn32 x y) (mx32 x y))), (.int (fnvL B (t - f) f (-2128831035 : Int32)))]))
    refine Go.via (fun t_ k_ => XS.icmpNo H12.here hx rfl (hb hby at_278) rfl ((teq (show (fnvL B (t - f) f (-2128831035 : Int32)) = (tk (tk (tk (tk (tk (tk (-2128831035 : Int32) (0 : Int32) v0 (mn32 x y) (mx32 x y)) (1 : Int32) v1 (mn32 x y) (mx32 x y)) (2 : Int32) v2 (mn32 x y) (mx32 x y)) (3 : Int32) v3 (mn32 x y) (mx32 x y)) (4 : Int32) v4 (mn32 x y) (mx32 x y)) (5 : Int32) v5 (mn32 x y) (mx32 x y)) from (own_hash B _ _ _ _ _ _ _ _ f t hf ht hft ht6 _ e0 e1 e2 e3 e4 e5))).2) k_) ?_
    show Go _ _ _ _ (T12.setTop (mkF m 281 #[.val (.int p1), .val (.int p2), .val (.int p3), .val (.int p4), .val (.ref a4), .val (.int v0), .val (.int v1), .val (.int v2), .val (.int v3), .val (.int v4), .val (.int v5), .val (.int x), .val (.int y), .val (.int (mn32 x y)), .val (.int (mx32 x y)), .val (.int (tk (tk (tk (tk (tk (tk (-2128831035 : Int32) (0 : Int32) v0 (mn32 x y) (mx32 x y)) (1 : Int32) v1 (mn32 x y) (mx32 x y)) (2 : Int32) v2 (mn32 x y) (mx32 x y)) (3 : Int32) v3 (mn32 x y) (mx32 x y)) (4 : Int32) v4 (mn32 x y) (mx32 x y)) (5 : Int32) v5 (mn32 x y) (mx32 x y))), .val (.ref a9), .val (.int (1 : Int32))] []))
    refine Go.via (fun t_ k_ => XS.iconst H12.here hx rfl (hb hby at_281) k_) ?_
    show Go _ _ _ _ (T12.setTop (mkF m 282 #[.val (.int p1), .val (.int p2), .val (.int p3), .val (.int p4), .val (.ref a4), .val (.int v0), .val (.int v1), .val (.int v2), .val (.int v3), .val (.int v4), .val (.int v5), .val (.int x), .val (.int y), .val (.int (mn32 x y)), .val (.int (mx32 x y)), .val (.int (tk (tk (tk (tk (tk (tk (-2128831035 : Int32) (0 : Int32) v0 (mn32 x y) (mx32 x y)) (1 : Int32) v1 (mn32 x y) (mx32 x y)) (2 : Int32) v2 (mn32 x y) (mx32 x y)) (3 : Int32) v3 (mn32 x y) (mx32 x y)) (4 : Int32) v4 (mn32 x y) (mx32 x y)) (5 : Int32) v5 (mn32 x y) (mx32 x y))), .val (.ref a9), .val (.int (1 : Int32))] [(.int (1 : Int32))]))
    refine Go.via (fun t_ k_ => XS.goto H12.here hx rfl (pc0 := 282) (pc' := 286) rfl (hb hby at_282) (by decide) (by decide) k_) ?_
    show Go _ _ _ _ (T12.setTop (mkF m 286 #[.val (.int p1), .val (.int p2), .val (.int p3), .val (.int p4), .val (.ref a4), .val (.int v0), .val (.int v1), .val (.int v2), .val (.int v3), .val (.int v4), .val (.int v5), .val (.int x), .val (.int y), .val (.int (mn32 x y)), .val (.int (mx32 x y)), .val (.int (tk (tk (tk (tk (tk (tk (-2128831035 : Int32) (0 : Int32) v0 (mn32 x y) (mx32 x y)) (1 : Int32) v1 (mn32 x y) (mx32 x y)) (2 : Int32) v2 (mn32 x y) (mx32 x y)) (3 : Int32) v3 (mn32 x y) (mx32 x y)) (4 : Int32) v4 (mn32 x y) (mx32 x y)) (5 : Int32) v5 (mn32 x y) (mx32 x y))), .val (.ref a9), .val (.int (1 : Int32))] [(.int (1 : Int32))]))
    exact own_retN H12 hx hlk (by simp) hret (hb hby at_286) rfl (by decide) (by decide)
  show Go _ _ _ _ (T0.setTop (mkF m 0 #[.val (.int p1), .val (.int p2), .val (.int p3), .val (.int p4), .unset, .unset, .unset, .unset, .unset, .unset, .unset, .unset, .unset, .unset, .unset, .unset, .unset, .unset] []))
  refine Go.via (fun t_ k_ => XS.bipush H0.here hx rfl (hb hby at_0) k_) ?_
  show Go _ _ _ _ (T0.setTop (mkF m 2 #[.val (.int p1), .val (.int p2), .val (.int p3), .val (.int p4), .unset, .unset, .unset, .unset, .unset, .unset, .unset, .unset, .unset, .unset, .unset, .unset, .unset, .unset] [(.int (6 : Int32))]))
  refine own_newA H0 hx hZ (aty := .byte) (hw _ (List.mem_of_getElem? (i := 0) rfl)) (g := (mkF m 2 #[.val (.int p1), .val (.int p2), .val (.int p3), .val (.int p4), .unset, .unset, .unset, .unset, .unset, .unset, .unset, .unset, .unset, .unset, .unset, .unset, .unset, .unset] [(.int (6 : Int32))])) rfl (hb hby at_2) rfl (by decide) 6 (by decide) rfl 6 (by decide) (by decide) (by decide) (by decide) ?_
  intro T13 h13 a13 ga13 E13 B13 H13
  replace B13 : Ab Z h13 a13 .byte 6 (fun _ => 0) := B13
  have g_a13 : n0 ≤ a13 := by rw [ga13]; exact Z0
  have sz13 : n0 ≤ h13.size := Nat.le_trans Z0 E13.1
  show Go _ _ _ _ (T13.setTop (mkF m 4 #[.val (.int p1), .val (.int p2), .val (.int p3), .val (.int p4), .unset, .unset, .unset, .unset, .unset, .unset, .unset, .unset, .unset, .unset, .unset, .unset, .unset, .unset] [(.ref a13)]))
  refine Go.via (fun t_ k_ => XS.astore H13.here hx rfl (hb hby at_4) rfl rfl (l' := #[.val (.int p1), .val (.int p2), .val (.int p3), .val (.int p4), .val (.ref a13), .unset, .unset, .unset, .unset, .unset, .unset, .unset, .unset, .unset, .unset, .unset, .unset, .unset]) rfl k_) ?_
  show Go _ _ _ _ (T13.setTop (mkF m 6 #[.val (.int p1), .val (.int p2), .val (.int p3), .val (.int p4), .val (.ref a13), .unset, .unset, .unset, .unset, .unset, .unset, .unset, .unset, .unset, .unset, .unset, .unset, .unset] []))
  refine Go.via (fun t_ k_ => XS.aload H13.here hx rfl (hb hby at_6) rfl rfl k_) ?_
  show Go _ _ _ _ (T13.setTop (mkF m 8 #[.val (.int p1), .val (.int p2), .val (.int p3), .val (.int p4), .val (.ref a13), .unset, .unset, .unset, .unset, .unset, .unset, .unset, .unset, .unset, .unset, .unset, .unset, .unset] [(.ref a13)]))
  refine Go.via (fun t_ k_ => XS.iconst H13.here hx rfl (hb hby at_8) k_) ?_
  show Go _ _ _ _ (T13.setTop (mkF m 9 #[.val (.int p1), .val (.int p2), .val (.int p3), .val (.int p4), .val (.ref a13), .unset, .unset, .unset, .unset, .unset, .unset, .unset, .unset, .unset, .unset, .unset, .unset, .unset] [(.int (0 : Int32)), (.ref a13)]))
  refine Go.via (fun t_ k_ => XS.iloadN H13.here hx rfl (hb hby at_9) rfl k_) ?_
  show Go _ _ _ _ (T13.setTop (mkF m 10 #[.val (.int p1), .val (.int p2), .val (.int p3), .val (.int p4), .val (.ref a13), .unset, .unset, .unset, .unset, .unset, .unset, .unset, .unset, .unset, .unset, .unset, .unset, .unset] [(.int p1), (.int (0 : Int32)), (.ref a13)]))
  refine Go.via (fun t_ k_ => XS.i2b H13.here hx rfl (hb hby at_10) rfl k_) ?_
  show Go _ _ _ _ (T13.setTop (mkF m 11 #[.val (.int p1), .val (.int p2), .val (.int p3), .val (.int p4), .val (.ref a13), .unset, .unset, .unset, .unset, .unset, .unset, .unset, .unset, .unset, .unset, .unset, .unset, .unset] [(.int (p1.toInt8.toInt32)), (.int (0 : Int32)), (.ref a13)]))
  refine own_stBA H13 hx hZ B13 (j := 0) (by decide) (by decide) g_a13 (g := (mkF m 11 #[.val (.int p1), .val (.int p2), .val (.int p3), .val (.int p4), .val (.ref a13), .unset, .unset, .unset, .unset, .unset, .unset, .unset, .unset, .unset, .unset, .unset, .unset, .unset] [(.int (p1.toInt8.toInt32)), (.int (0 : Int32)), (.ref a13)])) rfl rfl (hb hby at_11) ?_
  intro T14 h14 W14 B14 H14
  have sz14 : n0 ≤ h14.size := Nat.le_trans sz13 (Keep.of_wr W14).1
  show Go _ _ _ _ (T14.setTop (mkF m 12 #[.val (.int p1), .val (.int p2), .val (.int p3), .val (.int p4), .val (.ref a13), .unset, .unset, .unset, .unset, .unset, .unset, .unset, .unset, .unset, .unset, .unset, .unset, .unset] []))
  refine Go.via (fun t_ k_ => XS.aload H14.here hx rfl (hb hby at_12) rfl rfl k_) ?_
  show Go _ _ _ _ (T14.setTop (mkF m 14 #[.val (.int p1), .val (.int p2), .val (.int p3), .val (.int p4), .val (.ref a13), .unset, .unset, .unset, .unset, .unset, .unset, .unset, .unset, .unset, .unset, .unset, .unset, .unset] [(.ref a13)]))
  refine Go.via (fun t_ k_ => XS.iconst H14.here hx rfl (hb hby at_14) k_) ?_
  show Go _ _ _ _ (T14.setTop (mkF m 15 #[.val (.int p1), .val (.int p2), .val (.int p3), .val (.int p4), .val (.ref a13), .unset, .unset, .unset, .unset, .unset, .unset, .unset, .unset, .unset, .unset, .unset, .unset, .unset] [(.int (1 : Int32)), (.ref a13)]))
  refine Go.via (fun t_ k_ => XS.iloadN H14.here hx rfl (hb hby at_15) rfl k_) ?_
  show Go _ _ _ _ (T14.setTop (mkF m 16 #[.val (.int p1), .val (.int p2), .val (.int p3), .val (.int p4), .val (.ref a13), .unset, .unset, .unset, .unset, .unset, .unset, .unset, .unset, .unset, .unset, .unset, .unset, .unset] [(.int p1), (.int (1 : Int32)), (.ref a13)]))
  refine Go.via (fun t_ k_ => XS.bipush H14.here hx rfl (hb hby at_16) k_) ?_
  show Go _ _ _ _ (T14.setTop (mkF m 18 #[.val (.int p1), .val (.int p2), .val (.int p3), .val (.int p4), .val (.ref a13), .unset, .unset, .unset, .unset, .unset, .unset, .unset, .unset, .unset, .unset, .unset, .unset, .unset] [(.int (8 : Int32)), (.int p1), (.int (1 : Int32)), (.ref a13)]))
  refine Go.via (fun t_ k_ => XS.ishr H14.here hx rfl (hb hby at_18) rfl k_) ?_
  show Go _ _ _ _ (T14.setTop (mkF m 19 #[.val (.int p1), .val (.int p2), .val (.int p3), .val (.int p4), .val (.ref a13), .unset, .unset, .unset, .unset, .unset, .unset, .unset, .unset, .unset, .unset, .unset, .unset, .unset] [(.int (p1 >>> ((8 : Int32) &&& 31))), (.int (1 : Int32)), (.ref a13)]))
  refine Go.via (fun t_ k_ => XS.i2b H14.here hx rfl (hb hby at_19) rfl k_) ?_
  show Go _ _ _ _ (T14.setTop (mkF m 20 #[.val (.int p1), .val (.int p2), .val (.int p3), .val (.int p4), .val (.ref a13), .unset, .unset, .unset, .unset, .unset, .unset, .unset, .unset, .unset, .unset, .unset, .unset, .unset] [(.int ((p1 >>> ((8 : Int32) &&& 31)).toInt8.toInt32)), (.int (1 : Int32)), (.ref a13)]))
  refine own_stBA H14 hx hZ B14 (j := 1) (by decide) (by decide) g_a13 (g := (mkF m 20 #[.val (.int p1), .val (.int p2), .val (.int p3), .val (.int p4), .val (.ref a13), .unset, .unset, .unset, .unset, .unset, .unset, .unset, .unset, .unset, .unset, .unset, .unset, .unset] [(.int ((p1 >>> ((8 : Int32) &&& 31)).toInt8.toInt32)), (.int (1 : Int32)), (.ref a13)])) rfl rfl (hb hby at_20) ?_
  intro T15 h15 W15 B15 H15
  have sz15 : n0 ≤ h15.size := Nat.le_trans sz14 (Keep.of_wr W15).1
  show Go _ _ _ _ (T15.setTop (mkF m 21 #[.val (.int p1), .val (.int p2), .val (.int p3), .val (.int p4), .val (.ref a13), .unset, .unset, .unset, .unset, .unset, .unset, .unset, .unset, .unset, .unset, .unset, .unset, .unset] []))
  refine Go.via (fun t_ k_ => XS.aload H15.here hx rfl (hb hby at_21) rfl rfl k_) ?_
  show Go _ _ _ _ (T15.setTop (mkF m 23 #[.val (.int p1), .val (.int p2), .val (.int p3), .val (.int p4), .val (.ref a13), .unset, .unset, .unset, .unset, .unset, .unset, .unset, .unset, .unset, .unset, .unset, .unset, .unset] [(.ref a13)]))
  refine Go.via (fun t_ k_ => XS.iconst H15.here hx rfl (hb hby at_23) k_) ?_
  show Go _ _ _ _ (T15.setTop (mkF m 24 #[.val (.int p1), .val (.int p2), .val (.int p3), .val (.int p4), .val (.ref a13), .unset, .unset, .unset, .unset, .unset, .unset, .unset, .unset, .unset, .unset, .unset, .unset, .unset] [(.int (2 : Int32)), (.ref a13)]))
  refine Go.via (fun t_ k_ => XS.iloadN H15.here hx rfl (hb hby at_24) rfl k_) ?_
  show Go _ _ _ _ (T15.setTop (mkF m 25 #[.val (.int p1), .val (.int p2), .val (.int p3), .val (.int p4), .val (.ref a13), .unset, .unset, .unset, .unset, .unset, .unset, .unset, .unset, .unset, .unset, .unset, .unset, .unset] [(.int p1), (.int (2 : Int32)), (.ref a13)]))
  refine Go.via (fun t_ k_ => XS.bipush H15.here hx rfl (hb hby at_25) k_) ?_
  show Go _ _ _ _ (T15.setTop (mkF m 27 #[.val (.int p1), .val (.int p2), .val (.int p3), .val (.int p4), .val (.ref a13), .unset, .unset, .unset, .unset, .unset, .unset, .unset, .unset, .unset, .unset, .unset, .unset, .unset] [(.int (16 : Int32)), (.int p1), (.int (2 : Int32)), (.ref a13)]))
  refine Go.via (fun t_ k_ => XS.ishr H15.here hx rfl (hb hby at_27) rfl k_) ?_
  show Go _ _ _ _ (T15.setTop (mkF m 28 #[.val (.int p1), .val (.int p2), .val (.int p3), .val (.int p4), .val (.ref a13), .unset, .unset, .unset, .unset, .unset, .unset, .unset, .unset, .unset, .unset, .unset, .unset, .unset] [(.int (p1 >>> ((16 : Int32) &&& 31))), (.int (2 : Int32)), (.ref a13)]))
  refine Go.via (fun t_ k_ => XS.i2b H15.here hx rfl (hb hby at_28) rfl k_) ?_
  show Go _ _ _ _ (T15.setTop (mkF m 29 #[.val (.int p1), .val (.int p2), .val (.int p3), .val (.int p4), .val (.ref a13), .unset, .unset, .unset, .unset, .unset, .unset, .unset, .unset, .unset, .unset, .unset, .unset, .unset] [(.int ((p1 >>> ((16 : Int32) &&& 31)).toInt8.toInt32)), (.int (2 : Int32)), (.ref a13)]))
  refine own_stBA H15 hx hZ B15 (j := 2) (by decide) (by decide) g_a13 (g := (mkF m 29 #[.val (.int p1), .val (.int p2), .val (.int p3), .val (.int p4), .val (.ref a13), .unset, .unset, .unset, .unset, .unset, .unset, .unset, .unset, .unset, .unset, .unset, .unset, .unset] [(.int ((p1 >>> ((16 : Int32) &&& 31)).toInt8.toInt32)), (.int (2 : Int32)), (.ref a13)])) rfl rfl (hb hby at_29) ?_
  intro T16 h16 W16 B16 H16
  have sz16 : n0 ≤ h16.size := Nat.le_trans sz15 (Keep.of_wr W16).1
  show Go _ _ _ _ (T16.setTop (mkF m 30 #[.val (.int p1), .val (.int p2), .val (.int p3), .val (.int p4), .val (.ref a13), .unset, .unset, .unset, .unset, .unset, .unset, .unset, .unset, .unset, .unset, .unset, .unset, .unset] []))
  refine Go.via (fun t_ k_ => XS.aload H16.here hx rfl (hb hby at_30) rfl rfl k_) ?_
  show Go _ _ _ _ (T16.setTop (mkF m 32 #[.val (.int p1), .val (.int p2), .val (.int p3), .val (.int p4), .val (.ref a13), .unset, .unset, .unset, .unset, .unset, .unset, .unset, .unset, .unset, .unset, .unset, .unset, .unset] [(.ref a13)]))
  refine Go.via (fun t_ k_ => XS.iconst H16.here hx rfl (hb hby at_32) k_) ?_
  show Go _ _ _ _ (T16.setTop (mkF m 33 #[.val (.int p1), .val (.int p2), .val (.int p3), .val (.int p4), .val (.ref a13), .unset, .unset, .unset, .unset, .unset, .unset, .unset, .unset, .unset, .unset, .unset, .unset, .unset] [(.int (3 : Int32)), (.ref a13)]))
  refine Go.via (fun t_ k_ => XS.iloadN H16.here hx rfl (hb hby at_33) rfl k_) ?_
  show Go _ _ _ _ (T16.setTop (mkF m 34 #[.val (.int p1), .val (.int p2), .val (.int p3), .val (.int p4), .val (.ref a13), .unset, .unset, .unset, .unset, .unset, .unset, .unset, .unset, .unset, .unset, .unset, .unset, .unset] [(.int p1), (.int (3 : Int32)), (.ref a13)]))
  refine Go.via (fun t_ k_ => XS.bipush H16.here hx rfl (hb hby at_34) k_) ?_
  show Go _ _ _ _ (T16.setTop (mkF m 36 #[.val (.int p1), .val (.int p2), .val (.int p3), .val (.int p4), .val (.ref a13), .unset, .unset, .unset, .unset, .unset, .unset, .unset, .unset, .unset, .unset, .unset, .unset, .unset] [(.int (24 : Int32)), (.int p1), (.int (3 : Int32)), (.ref a13)]))
  refine Go.via (fun t_ k_ => XS.ishr H16.here hx rfl (hb hby at_36) rfl k_) ?_
  show Go _ _ _ _ (T16.setTop (mkF m 37 #[.val (.int p1), .val (.int p2), .val (.int p3), .val (.int p4), .val (.ref a13), .unset, .unset, .unset, .unset, .unset, .unset, .unset, .unset, .unset, .unset, .unset, .unset, .unset] [(.int (p1 >>> ((24 : Int32) &&& 31))), (.int (3 : Int32)), (.ref a13)]))
  refine Go.via (fun t_ k_ => XS.i2b H16.here hx rfl (hb hby at_37) rfl k_) ?_
  show Go _ _ _ _ (T16.setTop (mkF m 38 #[.val (.int p1), .val (.int p2), .val (.int p3), .val (.int p4), .val (.ref a13), .unset, .unset, .unset, .unset, .unset, .unset, .unset, .unset, .unset, .unset, .unset, .unset, .unset] [(.int ((p1 >>> ((24 : Int32) &&& 31)).toInt8.toInt32)), (.int (3 : Int32)), (.ref a13)]))
  refine own_stBA H16 hx hZ B16 (j := 3) (by decide) (by decide) g_a13 (g := (mkF m 38 #[.val (.int p1), .val (.int p2), .val (.int p3), .val (.int p4), .val (.ref a13), .unset, .unset, .unset, .unset, .unset, .unset, .unset, .unset, .unset, .unset, .unset, .unset, .unset] [(.int ((p1 >>> ((24 : Int32) &&& 31)).toInt8.toInt32)), (.int (3 : Int32)), (.ref a13)])) rfl rfl (hb hby at_38) ?_
  intro T17 h17 W17 B17 H17
  have sz17 : n0 ≤ h17.size := Nat.le_trans sz16 (Keep.of_wr W17).1
  show Go _ _ _ _ (T17.setTop (mkF m 39 #[.val (.int p1), .val (.int p2), .val (.int p3), .val (.int p4), .val (.ref a13), .unset, .unset, .unset, .unset, .unset, .unset, .unset, .unset, .unset, .unset, .unset, .unset, .unset] []))
  refine Go.via (fun t_ k_ => XS.aload H17.here hx rfl (hb hby at_39) rfl rfl k_) ?_
  show Go _ _ _ _ (T17.setTop (mkF m 41 #[.val (.int p1), .val (.int p2), .val (.int p3), .val (.int p4), .val (.ref a13), .unset, .unset, .unset, .unset, .unset, .unset, .unset, .unset, .unset, .unset, .unset, .unset, .unset] [(.ref a13)]))
  refine Go.via (fun t_ k_ => XS.iconst H17.here hx rfl (hb hby at_41) k_) ?_
  show Go _ _ _ _ (T17.setTop (mkF m 42 #[.val (.int p1), .val (.int p2), .val (.int p3), .val (.int p4), .val (.ref a13), .unset, .unset, .unset, .unset, .unset, .unset, .unset, .unset, .unset, .unset, .unset, .unset, .unset] [(.int (4 : Int32)), (.ref a13)]))
  refine Go.via (fun t_ k_ => XS.iloadN H17.here hx rfl (hb hby at_42) rfl k_) ?_
  show Go _ _ _ _ (T17.setTop (mkF m 43 #[.val (.int p1), .val (.int p2), .val (.int p3), .val (.int p4), .val (.ref a13), .unset, .unset, .unset, .unset, .unset, .unset, .unset, .unset, .unset, .unset, .unset, .unset, .unset] [(.int p2), (.int (4 : Int32)), (.ref a13)]))
  refine Go.via (fun t_ k_ => XS.i2b H17.here hx rfl (hb hby at_43) rfl k_) ?_
  show Go _ _ _ _ (T17.setTop (mkF m 44 #[.val (.int p1), .val (.int p2), .val (.int p3), .val (.int p4), .val (.ref a13), .unset, .unset, .unset, .unset, .unset, .unset, .unset, .unset, .unset, .unset, .unset, .unset, .unset] [(.int (p2.toInt8.toInt32)), (.int (4 : Int32)), (.ref a13)]))
  refine own_stBA H17 hx hZ B17 (j := 4) (by decide) (by decide) g_a13 (g := (mkF m 44 #[.val (.int p1), .val (.int p2), .val (.int p3), .val (.int p4), .val (.ref a13), .unset, .unset, .unset, .unset, .unset, .unset, .unset, .unset, .unset, .unset, .unset, .unset, .unset] [(.int (p2.toInt8.toInt32)), (.int (4 : Int32)), (.ref a13)])) rfl rfl (hb hby at_44) ?_
  intro T18 h18 W18 B18 H18
  have sz18 : n0 ≤ h18.size := Nat.le_trans sz17 (Keep.of_wr W18).1
  show Go _ _ _ _ (T18.setTop (mkF m 45 #[.val (.int p1), .val (.int p2), .val (.int p3), .val (.int p4), .val (.ref a13), .unset, .unset, .unset, .unset, .unset, .unset, .unset, .unset, .unset, .unset, .unset, .unset, .unset] []))
  refine Go.via (fun t_ k_ => XS.aload H18.here hx rfl (hb hby at_45) rfl rfl k_) ?_
  show Go _ _ _ _ (T18.setTop (mkF m 47 #[.val (.int p1), .val (.int p2), .val (.int p3), .val (.int p4), .val (.ref a13), .unset, .unset, .unset, .unset, .unset, .unset, .unset, .unset, .unset, .unset, .unset, .unset, .unset] [(.ref a13)]))
  refine Go.via (fun t_ k_ => XS.iconst H18.here hx rfl (hb hby at_47) k_) ?_
  show Go _ _ _ _ (T18.setTop (mkF m 48 #[.val (.int p1), .val (.int p2), .val (.int p3), .val (.int p4), .val (.ref a13), .unset, .unset, .unset, .unset, .unset, .unset, .unset, .unset, .unset, .unset, .unset, .unset, .unset] [(.int (5 : Int32)), (.ref a13)]))
  refine Go.via (fun t_ k_ => XS.iloadN H18.here hx rfl (hb hby at_48) rfl k_) ?_
  show Go _ _ _ _ (T18.setTop (mkF m 49 #[.val (.int p1), .val (.int p2), .val (.int p3), .val (.int p4), .val (.ref a13), .unset, .unset, .unset, .unset, .unset, .unset, .unset, .unset, .unset, .unset, .unset, .unset, .unset] [(.int p2), (.int (5 : Int32)), (.ref a13)]))
  refine Go.via (fun t_ k_ => XS.bipush H18.here hx rfl (hb hby at_49) k_) ?_
  show Go _ _ _ _ (T18.setTop (mkF m 51 #[.val (.int p1), .val (.int p2), .val (.int p3), .val (.int p4), .val (.ref a13), .unset, .unset, .unset, .unset, .unset, .unset, .unset, .unset, .unset, .unset, .unset, .unset, .unset] [(.int (8 : Int32)), (.int p2), (.int (5 : Int32)), (.ref a13)]))
  refine Go.via (fun t_ k_ => XS.ishr H18.here hx rfl (hb hby at_51) rfl k_) ?_
  show Go _ _ _ _ (T18.setTop (mkF m 52 #[.val (.int p1), .val (.int p2), .val (.int p3), .val (.int p4), .val (.ref a13), .unset, .unset, .unset, .unset, .unset, .unset, .unset, .unset, .unset, .unset, .unset, .unset, .unset] [(.int (p2 >>> ((8 : Int32) &&& 31))), (.int (5 : Int32)), (.ref a13)]))
  refine Go.via (fun t_ k_ => XS.i2b H18.here hx rfl (hb hby at_52) rfl k_) ?_
  show Go _ _ _ _ (T18.setTop (mkF m 53 #[.val (.int p1), .val (.int p2), .val (.int p3), .val (.int p4), .val (.ref a13), .unset, .unset, .unset, .unset, .unset, .unset, .unset, .unset, .unset, .unset, .unset, .unset, .unset] [(.int ((p2 >>> ((8 : Int32) &&& 31)).toInt8.toInt32)), (.int (5 : Int32)), (.ref a13)]))
  refine own_stBA H18 hx hZ B18 (j := 5) (by decide) (by decide) g_a13 (g := (mkF m 53 #[.val (.int p1), .val (.int p2), .val (.int p3), .val (.int p4), .val (.ref a13), .unset, .unset, .unset, .unset, .unset, .unset, .unset, .unset, .unset, .unset, .unset, .unset, .unset] [(.int ((p2 >>> ((8 : Int32) &&& 31)).toInt8.toInt32)), (.int (5 : Int32)), (.ref a13)])) rfl rfl (hb hby at_53) ?_
  intro T19 h19 W19 B19 H19
  have sz19 : n0 ≤ h19.size := Nat.le_trans sz18 (Keep.of_wr W19).1
  show Go _ _ _ _ (T19.setTop (mkF m 54 #[.val (.int p1), .val (.int p2), .val (.int p3), .val (.int p4), .val (.ref a13), .unset, .unset, .unset, .unset, .unset, .unset, .unset, .unset, .unset, .unset, .unset, .unset, .unset] []))
  refine Go.via (fun t_ k_ => XS.iloadN H19.here hx rfl (hb hby at_54) rfl k_) ?_
  show Go _ _ _ _ (T19.setTop (mkF m 55 #[.val (.int p1), .val (.int p2), .val (.int p3), .val (.int p4), .val (.ref a13), .unset, .unset, .unset, .unset, .unset, .unset, .unset, .unset, .unset, .unset, .unset, .unset, .unset] [(.int p1)]))
  refine Go.via (fun t_ k_ => XS.sipush H19.here hx rfl (hb hby at_55) k_) ?_
  show Go _ _ _ _ (T19.setTop (mkF m 58 #[.val (.int p1), .val (.int p2), .val (.int p3), .val (.int p4), .val (.ref a13), .unset, .unset, .unset, .unset, .unset, .unset, .unset, .unset, .unset, .unset, .unset, .unset, .unset] [(.int (255 : Int32)), (.int p1)]))
  refine Go.via (fun t_ k_ => XS.iand H19.here hx rfl (hb hby at_58) rfl k_) ?_
  show Go _ _ _ _ (T19.setTop (mkF m 59 #[.val (.int p1), .val (.int p2), .val (.int p3), .val (.int p4), .val (.ref a13), .unset, .unset, .unset, .unset, .unset, .unset, .unset, .unset, .unset, .unset, .unset, .unset, .unset] [(.int (p1 &&& (255 : Int32)))]))
  refine Go.via (fun t_ k_ => XS.istore H19.here hx rfl (hb hby at_59) rfl (l' := #[.val (.int p1), .val (.int p2), .val (.int p3), .val (.int p4), .val (.ref a13), .val (.int (p1 &&& (255 : Int32))), .unset, .unset, .unset, .unset, .unset, .unset, .unset, .unset, .unset, .unset, .unset, .unset]) rfl k_) ?_
  show Go _ _ _ _ (T19.setTop (mkF m 61 #[.val (.int p1), .val (.int p2), .val (.int p3), .val (.int p4), .val (.ref a13), .val (.int (p1 &&& (255 : Int32))), .unset, .unset, .unset, .unset, .unset, .unset, .unset, .unset, .unset, .unset, .unset, .unset] []))
  refine Go.via (fun t_ k_ => XS.iloadN H19.here hx rfl (hb hby at_61) rfl k_) ?_
  show Go _ _ _ _ (T19.setTop (mkF m 62 #[.val (.int p1), .val (.int p2), .val (.int p3), .val (.int p4), .val (.ref a13), .val (.int (p1 &&& (255 : Int32))), .unset, .unset, .unset, .unset, .unset, .unset, .unset, .unset, .unset, .unset, .unset, .unset] [(.int p1)]))
  refine Go.via (fun t_ k_ => XS.bipush H19.here hx rfl (hb hby at_62) k_) ?_
  show Go _ _ _ _ (T19.setTop (mkF m 64 #[.val (.int p1), .val (.int p2), .val (.int p3), .val (.int p4), .val (.ref a13), .val (.int (p1 &&& (255 : Int32))), .unset, .unset, .unset, .unset, .unset, .unset, .unset, .unset, .unset, .unset, .unset, .unset] [(.int (8 : Int32)), (.int p1)]))
  refine Go.via (fun t_ k_ => XS.iushr H19.here hx rfl (hb hby at_64) rfl k_) ?_
  show Go _ _ _ _ (T19.setTop (mkF m 65 #[.val (.int p1), .val (.int p2), .val (.int p3), .val (.int p4), .val (.ref a13), .val (.int (p1 &&& (255 : Int32))), .unset, .unset, .unset, .unset, .unset, .unset, .unset, .unset, .unset, .unset, .unset, .unset] [(.int ((p1.toUInt32 >>> ((8 : Int32) &&& 31).toUInt32).toInt32))]))
  refine Go.via (fun t_ k_ => XS.sipush H19.here hx rfl (hb hby at_65) k_) ?_
  show Go _ _ _ _ (T19.setTop (mkF m 68 #[.val (.int p1), .val (.int p2), .val (.int p3), .val (.int p4), .val (.ref a13), .val (.int (p1 &&& (255 : Int32))), .unset, .unset, .unset, .unset, .unset, .unset, .unset, .unset, .unset, .unset, .unset, .unset] [(.int (255 : Int32)), (.int ((p1.toUInt32 >>> ((8 : Int32) &&& 31).toUInt32).toInt32))]))
  refine Go.via (fun t_ k_ => XS.iand H19.here hx rfl (hb hby at_68) rfl k_) ?_
  show Go _ _ _ _ (T19.setTop (mkF m 69 #[.val (.int p1), .val (.int p2), .val (.int p3), .val (.int p4), .val (.ref a13), .val (.int (p1 &&& (255 : Int32))), .unset, .unset, .unset, .unset, .unset, .unset, .unset, .unset, .unset, .unset, .unset, .unset] [(.int (((p1.toUInt32 >>> ((8 : Int32) &&& 31).toUInt32).toInt32) &&& (255 : Int32)))]))
  refine Go.via (fun t_ k_ => XS.istore H19.here hx rfl (hb hby at_69) rfl (l' := #[.val (.int p1), .val (.int p2), .val (.int p3), .val (.int p4), .val (.ref a13), .val (.int (p1 &&& (255 : Int32))), .val (.int (((p1.toUInt32 >>> ((8 : Int32) &&& 31).toUInt32).toInt32) &&& (255 : Int32))), .unset, .unset, .unset, .unset, .unset, .unset, .unset, .unset, .unset, .unset, .unset]) rfl k_) ?_
  show Go _ _ _ _ (T19.setTop (mkF m 71 #[.val (.int p1), .val (.int p2), .val (.int p3), .val (.int p4), .val (.ref a13), .val (.int (p1 &&& (255 : Int32))), .val (.int (((p1.toUInt32 >>> ((8 : Int32) &&& 31).toUInt32).toInt32) &&& (255 : Int32))), .unset, .unset, .unset, .unset, .unset, .unset, .unset, .unset, .unset, .unset, .unset] []))
  refine Go.via (fun t_ k_ => XS.iloadN H19.here hx rfl (hb hby at_71) rfl k_) ?_
  show Go _ _ _ _ (T19.setTop (mkF m 72 #[.val (.int p1), .val (.int p2), .val (.int p3), .val (.int p4), .val (.ref a13), .val (.int (p1 &&& (255 : Int32))), .val (.int (((p1.toUInt32 >>> ((8 : Int32) &&& 31).toUInt32).toInt32) &&& (255 : Int32))), .unset, .unset, .unset, .unset, .unset, .unset, .unset, .unset, .unset, .unset, .unset] [(.int p1)]))
  refine Go.via (fun t_ k_ => XS.bipush H19.here hx rfl (hb hby at_72) k_) ?_
  show Go _ _ _ _ (T19.setTop (mkF m 74 #[.val (.int p1), .val (.int p2), .val (.int p3), .val (.int p4), .val (.ref a13), .val (.int (p1 &&& (255 : Int32))), .val (.int (((p1.toUInt32 >>> ((8 : Int32) &&& 31).toUInt32).toInt32) &&& (255 : Int32))), .unset, .unset, .unset, .unset, .unset, .unset, .unset, .unset, .unset, .unset, .unset] [(.int (16 : Int32)), (.int p1)]))
  refine Go.via (fun t_ k_ => XS.iushr H19.here hx rfl (hb hby at_74) rfl k_) ?_
  show Go _ _ _ _ (T19.setTop (mkF m 75 #[.val (.int p1), .val (.int p2), .val (.int p3), .val (.int p4), .val (.ref a13), .val (.int (p1 &&& (255 : Int32))), .val (.int (((p1.toUInt32 >>> ((8 : Int32) &&& 31).toUInt32).toInt32) &&& (255 : Int32))), .unset, .unset, .unset, .unset, .unset, .unset, .unset, .unset, .unset, .unset, .unset] [(.int ((p1.toUInt32 >>> ((16 : Int32) &&& 31).toUInt32).toInt32))]))
  refine Go.via (fun t_ k_ => XS.sipush H19.here hx rfl (hb hby at_75) k_) ?_
  show Go _ _ _ _ (T19.setTop (mkF m 78 #[.val (.int p1), .val (.int p2), .val (.int p3), .val (.int p4), .val (.ref a13), .val (.int (p1 &&& (255 : Int32))), .val (.int (((p1.toUInt32 >>> ((8 : Int32) &&& 31).toUInt32).toInt32) &&& (255 : Int32))), .unset, .unset, .unset, .unset, .unset, .unset, .unset, .unset, .unset, .unset, .unset] [(.int (255 : Int32)), (.int ((p1.toUInt32 >>> ((16 : Int32) &&& 31).toUInt32).toInt32))]))
  refine Go.via (fun t_ k_ => XS.iand H19.here hx rfl (hb hby at_78) rfl k_) ?_
  show Go _ _ _ _ (T19.setTop (mkF m 79 #[.val (.int p1), .val (.int p2), .val (.int p3), .val (.int p4), .val (.ref a13), .val (.int (p1 &&& (255 : Int32))), .val (.int (((p1.toUInt32 >>> ((8 : Int32) &&& 31).toUInt32).toInt32) &&& (255 : Int32))), .unset, .unset, .unset, .unset, .unset, .unset, .unset, .unset, .unset, .unset, .unset] [(.int (((p1.toUInt32 >>> ((16 : Int32) &&& 31).toUInt32).toInt32) &&& (255 : Int32)))]))
  refine Go.via (fun t_ k_ => XS.istore H19.here hx rfl (hb hby at_79) rfl (l' := #[.val (.int p1), .val (.int p2), .val (.int p3), .val (.int p4), .val (.ref a13), .val (.int (p1 &&& (255 : Int32))), .val (.int (((p1.toUInt32 >>> ((8 : Int32) &&& 31).toUInt32).toInt32) &&& (255 : Int32))), .val (.int (((p1.toUInt32 >>> ((16 : Int32) &&& 31).toUInt32).toInt32) &&& (255 : Int32))), .unset, .unset, .unset, .unset, .unset, .unset, .unset, .unset, .unset, .unset]) rfl k_) ?_
  show Go _ _ _ _ (T19.setTop (mkF m 81 #[.val (.int p1), .val (.int p2), .val (.int p3), .val (.int p4), .val (.ref a13), .val (.int (p1 &&& (255 : Int32))), .val (.int (((p1.toUInt32 >>> ((8 : Int32) &&& 31).toUInt32).toInt32) &&& (255 : Int32))), .val (.int (((p1.toUInt32 >>> ((16 : Int32) &&& 31).toUInt32).toInt32) &&& (255 : Int32))), .unset, .unset, .unset, .unset, .unset, .unset, .unset, .unset, .unset, .unset] []))
  refine Go.via (fun t_ k_ => XS.iloadN H19.here hx rfl (hb hby at_81) rfl k_) ?_
  show Go _ _ _ _ (T19.setTop (mkF m 82 #[.val (.int p1), .val (.int p2), .val (.int p3), .val (.int p4), .val (.ref a13), .val (.int (p1 &&& (255 : Int32))), .val (.int (((p1.toUInt32 >>> ((8 : Int32) &&& 31).toUInt32).toInt32) &&& (255 : Int32))), .val (.int (((p1.toUInt32 >>> ((16 : Int32) &&& 31).toUInt32).toInt32) &&& (255 : Int32))), .unset, .unset, .unset, .unset, .unset, .unset, .unset, .unset, .unset, .unset] [(.int p1)]))
  refine Go.via (fun t_ k_ => XS.bipush H19.here hx rfl (hb hby at_82) k_) ?_
  show Go _ _ _ _ (T19.setTop (mkF m 84 #[.val (.int p1), .val (.int p2), .val (.int p3), .val (.int p4), .val (.ref a13), .val (.int (p1 &&& (255 : Int32))), .val (.int (((p1.toUInt32 >>> ((8 : Int32) &&& 31).toUInt32).toInt32) &&& (255 : Int32))), .val (.int (((p1.toUInt32 >>> ((16 : Int32) &&& 31).toUInt32).toInt32) &&& (255 : Int32))), .unset, .unset, .unset, .unset, .unset, .unset, .unset, .unset, .unset, .unset] [(.int (24 : Int32)), (.int p1)]))
  refine Go.via (fun t_ k_ => XS.iushr H19.here hx rfl (hb hby at_84) rfl k_) ?_
  show Go _ _ _ _ (T19.setTop (mkF m 85 #[.val (.int p1), .val (.int p2), .val (.int p3), .val (.int p4), .val (.ref a13), .val (.int (p1 &&& (255 : Int32))), .val (.int (((p1.toUInt32 >>> ((8 : Int32) &&& 31).toUInt32).toInt32) &&& (255 : Int32))), .val (.int (((p1.toUInt32 >>> ((16 : Int32) &&& 31).toUInt32).toInt32) &&& (255 : Int32))), .unset, .unset, .unset, .unset, .unset, .unset, .unset, .unset, .unset, .unset] [(.int ((p1.toUInt32 >>> ((24 : Int32) &&& 31).toUInt32).toInt32))]))
  refine Go.via (fun t_ k_ => XS.sipush H19.here hx rfl (hb hby at_85) k_) ?_
  show Go _ _ _ _ (T19.setTop (mkF m 88 #[.val (.int p1), .val (.int p2), .val (.int p3), .val (.int p4), .val (.ref a13), .val (.int (p1 &&& (255 : Int32))), .val (.int (((p1.toUInt32 >>> ((8 : Int32) &&& 31).toUInt32).toInt32) &&& (255 : Int32))), .val (.int (((p1.toUInt32 >>> ((16 : Int32) &&& 31).toUInt32).toInt32) &&& (255 : Int32))), .unset, .unset, .unset, .unset, .unset, .unset, .unset, .unset, .unset, .unset] [(.int (255 : Int32)), (.int ((p1.toUInt32 >>> ((24 : Int32) &&& 31).toUInt32).toInt32))]))
  refine Go.via (fun t_ k_ => XS.iand H19.here hx rfl (hb hby at_88) rfl k_) ?_
  show Go _ _ _ _ (T19.setTop (mkF m 89 #[.val (.int p1), .val (.int p2), .val (.int p3), .val (.int p4), .val (.ref a13), .val (.int (p1 &&& (255 : Int32))), .val (.int (((p1.toUInt32 >>> ((8 : Int32) &&& 31).toUInt32).toInt32) &&& (255 : Int32))), .val (.int (((p1.toUInt32 >>> ((16 : Int32) &&& 31).toUInt32).toInt32) &&& (255 : Int32))), .unset, .unset, .unset, .unset, .unset, .unset, .unset, .unset, .unset, .unset] [(.int (((p1.toUInt32 >>> ((24 : Int32) &&& 31).toUInt32).toInt32) &&& (255 : Int32)))]))
  refine Go.via (fun t_ k_ => XS.istore H19.here hx rfl (hb hby at_89) rfl (l' := #[.val (.int p1), .val (.int p2), .val (.int p3), .val (.int p4), .val (.ref a13), .val (.int (p1 &&& (255 : Int32))), .val (.int (((p1.toUInt32 >>> ((8 : Int32) &&& 31).toUInt32).toInt32) &&& (255 : Int32))), .val (.int (((p1.toUInt32 >>> ((16 : Int32) &&& 31).toUInt32).toInt32) &&& (255 : Int32))), .val (.int (((p1.toUInt32 >>> ((24 : Int32) &&& 31).toUInt32).toInt32) &&& (255 : Int32))), .unset, .unset, .unset, .unset, .unset, .unset, .unset, .unset, .unset]) rfl k_) ?_
  show Go _ _ _ _ (T19.setTop (mkF m 91 #[.val (.int p1), .val (.int p2), .val (.int p3), .val (.int p4), .val (.ref a13), .val (.int (p1 &&& (255 : Int32))), .val (.int (((p1.toUInt32 >>> ((8 : Int32) &&& 31).toUInt32).toInt32) &&& (255 : Int32))), .val (.int (((p1.toUInt32 >>> ((16 : Int32) &&& 31).toUInt32).toInt32) &&& (255 : Int32))), .val (.int (((p1.toUInt32 >>> ((24 : Int32) &&& 31).toUInt32).toInt32) &&& (255 : Int32))), .unset, .unset, .unset, .unset, .unset, .unset, .unset, .unset, .unset] []))
  refine Go.via (fun t_ k_ => XS.iloadN H19.here hx rfl (hb hby at_91) rfl k_) ?_
  show Go _ _ _ _ (T19.setTop (mkF m 92 #[.val (.int p1), .val (.int p2), .val (.int p3), .val (.int p4), .val (.ref a13), .val (.int (p1 &&& (255 : Int32))), .val (.int (((p1.toUInt32 >>> ((8 : Int32) &&& 31).toUInt32).toInt32) &&& (255 : Int32))), .val (.int (((p1.toUInt32 >>> ((16 : Int32) &&& 31).toUInt32).toInt32) &&& (255 : Int32))), .val (.int (((p1.toUInt32 >>> ((24 : Int32) &&& 31).toUInt32).toInt32) &&& (255 : Int32))), .unset, .unset, .unset, .unset, .unset, .unset, .unset, .unset, .unset] [(.int p2)]))
  refine Go.via (fun t_ k_ => XS.sipush H19.here hx rfl (hb hby at_92) k_) ?_
  show Go _ _ _ _ (T19.setTop (mkF m 95 #[.val (.int p1), .val (.int p2), .val (.int p3), .val (.int p4), .val (.ref a13), .val (.int (p1 &&& (255 : Int32))), .val (.int (((p1.toUInt32 >>> ((8 : Int32) &&& 31).toUInt32).toInt32) &&& (255 : Int32))), .val (.int (((p1.toUInt32 >>> ((16 : Int32) &&& 31).toUInt32).toInt32) &&& (255 : Int32))), .val (.int (((p1.toUInt32 >>> ((24 : Int32) &&& 31).toUInt32).toInt32) &&& (255 : Int32))), .unset, .unset, .unset, .unset, .unset, .unset, .unset, .unset, .unset] [(.int (255 : Int32)), (.int p2)]))
  refine Go.via (fun t_ k_ => XS.iand H19.here hx rfl (hb hby at_95) rfl k_) ?_
  show Go _ _ _ _ (T19.setTop (mkF m 96 #[.val (.int p1), .val (.int p2), .val (.int p3), .val (.int p4), .val (.ref a13), .val (.int (p1 &&& (255 : Int32))), .val (.int (((p1.toUInt32 >>> ((8 : Int32) &&& 31).toUInt32).toInt32) &&& (255 : Int32))), .val (.int (((p1.toUInt32 >>> ((16 : Int32) &&& 31).toUInt32).toInt32) &&& (255 : Int32))), .val (.int (((p1.toUInt32 >>> ((24 : Int32) &&& 31).toUInt32).toInt32) &&& (255 : Int32))), .unset, .unset, .unset, .unset, .unset, .unset, .unset, .unset, .unset] [(.int (p2 &&& (255 : Int32)))]))
  refine Go.via (fun t_ k_ => XS.istore H19.here hx rfl (hb hby at_96) rfl (l' := #[.val (.int p1), .val (.int p2), .val (.int p3), .val (.int p4), .val (.ref a13), .val (.int (p1 &&& (255 : Int32))), .val (.int (((p1.toUInt32 >>> ((8 : Int32) &&& 31).toUInt32).toInt32) &&& (255 : Int32))), .val (.int (((p1.toUInt32 >>> ((16 : Int32) &&& 31).toUInt32).toInt32) &&& (255 : Int32))), .val (.int (((p1.toUInt32 >>> ((24 : Int32) &&& 31).toUInt32).toInt32) &&& (255 : Int32))), .val (.int (p2 &&& (255 : Int32))), .unset, .unset, .unset, .unset, .unset, .unset, .unset, .unset]) rfl k_) ?_
  show Go _ _ _ _ (T19.setTop (mkF m 98 #[.val (.int p1), .val (.int p2), .val (.int p3), .val (.int p4), .val (.ref a13), .val (.int (p1 &&& (255 : Int32))), .val (.int (((p1.toUInt32 >>> ((8 : Int32) &&& 31).toUInt32).toInt32) &&& (255 : Int32))), .val (.int (((p1.toUInt32 >>> ((16 : Int32) &&& 31).toUInt32).toInt32) &&& (255 : Int32))), .val (.int (((p1.toUInt32 >>> ((24 : Int32) &&& 31).toUInt32).toInt32) &&& (255 : Int32))), .val (.int (p2 &&& (255 : Int32))), .unset, .unset, .unset, .unset, .unset, .unset, .unset, .unset] []))
  refine Go.via (fun t_ k_ => XS.iloadN H19.here hx rfl (hb hby at_98) rfl k_) ?_
  show Go _ _ _ _ (T19.setTop (mkF m 99 #[.val (.int p1), .val (.int p2), .val (.int p3), .val (.int p4), .val (.ref a13), .val (.int (p1 &&& (255 : Int32))), .val (.int (((p1.toUInt32 >>> ((8 : Int32) &&& 31).toUInt32).toInt32) &&& (255 : Int32))), .val (.int (((p1.toUInt32 >>> ((16 : Int32) &&& 31).toUInt32).toInt32) &&& (255 : Int32))), .val (.int (((p1.toUInt32 >>> ((24 : Int32) &&& 31).toUInt32).toInt32) &&& (255 : Int32))), .val (.int (p2 &&& (255 : Int32))), .unset, .unset, .unset, .unset, .unset, .unset, .unset, .unset] [(.int p2)]))
  refine Go.via (fun t_ k_ => XS.bipush H19.here hx rfl (hb hby at_99) k_) ?_
  show Go _ _ _ _ (T19.setTop (mkF m 101 #[.val (.int p1), .val (.int p2), .val (.int p3), .val (.int p4), .val (.ref a13), .val (.int (p1 &&& (255 : Int32))), .val (.int (((p1.toUInt32 >>> ((8 : Int32) &&& 31).toUInt32).toInt32) &&& (255 : Int32))), .val (.int (((p1.toUInt32 >>> ((16 : Int32) &&& 31).toUInt32).toInt32) &&& (255 : Int32))), .val (.int (((p1.toUInt32 >>> ((24 : Int32) &&& 31).toUInt32).toInt32) &&& (255 : Int32))), .val (.int (p2 &&& (255 : Int32))), .unset, .unset, .unset, .unset, .unset, .unset, .unset, .unset] [(.int (8 : Int32)), (.int p2)]))
  refine Go.via (fun t_ k_ => XS.iushr H19.here hx rfl (hb hby at_101) rfl k_) ?_
  show Go _ _ _ _ (T19.setTop (mkF m 102 #[.val (.int p1), .val (.int p2), .val (.int p3), .val (.int p4), .val (.ref a13), .val (.int (p1 &&& (255 : Int32))), .val (.int (((p1.toUInt32 >>> ((8 : Int32) &&& 31).toUInt32).toInt32) &&& (255 : Int32))), .val (.int (((p1.toUInt32 >>> ((16 : Int32) &&& 31).toUInt32).toInt32) &&& (255 : Int32))), .val (.int (((p1.toUInt32 >>> ((24 : Int32) &&& 31).toUInt32).toInt32) &&& (255 : Int32))), .val (.int (p2 &&& (255 : Int32))), .unset, .unset, .unset, .unset, .unset, .unset, .unset, .unset] [(.int ((p2.toUInt32 >>> ((8 : Int32) &&& 31).toUInt32).toInt32))]))
  refine Go.via (fun t_ k_ => XS.sipush H19.here hx rfl (hb hby at_102) k_) ?_
  show Go _ _ _ _ (T19.setTop (mkF m 105 #[.val (.int p1), .val (.int p2), .val (.int p3), .val (.int p4), .val (.ref a13), .val (.int (p1 &&& (255 : Int32))), .val (.int (((p1.toUInt32 >>> ((8 : Int32) &&& 31).toUInt32).toInt32) &&& (255 : Int32))), .val (.int (((p1.toUInt32 >>> ((16 : Int32) &&& 31).toUInt32).toInt32) &&& (255 : Int32))), .val (.int (((p1.toUInt32 >>> ((24 : Int32) &&& 31).toUInt32).toInt32) &&& (255 : Int32))), .val (.int (p2 &&& (255 : Int32))), .unset, .unset, .unset, .unset, .unset, .unset, .unset, .unset] [(.int (255 : Int32)), (.int ((p2.toUInt32 >>> ((8 : Int32) &&& 31).toUInt32).toInt32))]))
  refine Go.via (fun t_ k_ => XS.iand H19.here hx rfl (hb hby at_105) rfl k_) ?_
  show Go _ _ _ _ (T19.setTop (mkF m 106 #[.val (.int p1), .val (.int p2), .val (.int p3), .val (.int p4), .val (.ref a13), .val (.int (p1 &&& (255 : Int32))), .val (.int (((p1.toUInt32 >>> ((8 : Int32) &&& 31).toUInt32).toInt32) &&& (255 : Int32))), .val (.int (((p1.toUInt32 >>> ((16 : Int32) &&& 31).toUInt32).toInt32) &&& (255 : Int32))), .val (.int (((p1.toUInt32 >>> ((24 : Int32) &&& 31).toUInt32).toInt32) &&& (255 : Int32))), .val (.int (p2 &&& (255 : Int32))), .unset, .unset, .unset, .unset, .unset, .unset, .unset, .unset] [(.int (((p2.toUInt32 >>> ((8 : Int32) &&& 31).toUInt32).toInt32) &&& (255 : Int32)))]))
  refine Go.via (fun t_ k_ => XS.istore H19.here hx rfl (hb hby at_106) rfl (l' := #[.val (.int p1), .val (.int p2), .val (.int p3), .val (.int p4), .val (.ref a13), .val (.int (p1 &&& (255 : Int32))), .val (.int (((p1.toUInt32 >>> ((8 : Int32) &&& 31).toUInt32).toInt32) &&& (255 : Int32))), .val (.int (((p1.toUInt32 >>> ((16 : Int32) &&& 31).toUInt32).toInt32) &&& (255 : Int32))), .val (.int (((p1.toUInt32 >>> ((24 : Int32) &&& 31).toUInt32).toInt32) &&& (255 : Int32))), .val (.int (p2 &&& (255 : Int32))), .val (.int (((p2.toUInt32 >>> ((8 : Int32) &&& 31).toUInt32).toInt32) &&& (255 : Int32))), .unset, .unset, .unset, .unset, .unset, .unset, .unset]) rfl k_) ?_
  show Go _ _ _ _ (T19.setTop (mkF m 108 #[.val (.int p1), .val (.int p2), .val (.int p3), .val (.int p4), .val (.ref a13), .val (.int (p1 &&& (255 : Int32))), .val (.int (((p1.toUInt32 >>> ((8 : Int32) &&& 31).toUInt32).toInt32) &&& (255 : Int32))), .val (.int (((p1.toUInt32 >>> ((16 : Int32) &&& 31).toUInt32).toInt32) &&& (255 : Int32))), .val (.int (((p1.toUInt32 >>> ((24 : Int32) &&& 31).toUInt32).toInt32) &&& (255 : Int32))), .val (.int (p2 &&& (255 : Int32))), .val (.int (((p2.toUInt32 >>> ((8 : Int32) &&& 31).toUInt32).toInt32) &&& (255 : Int32))), .unset, .unset, .unset, .unset, .unset, .unset, .unset] []))
  refine Go.via (fun t_ k_ => XS.iloadN H19.here hx rfl (hb hby at_108) rfl k_) ?_
  show Go _ _ _ _ (T19.setTop (mkF m 109 #[.val (.int p1), .val (.int p2), .val (.int p3), .val (.int p4), .val (.ref a13), .val (.int (p1 &&& (255 : Int32))), .val (.int (((p1.toUInt32 >>> ((8 : Int32) &&& 31).toUInt32).toInt32) &&& (255 : Int32))), .val (.int (((p1.toUInt32 >>> ((16 : Int32) &&& 31).toUInt32).toInt32) &&& (255 : Int32))), .val (.int (((p1.toUInt32 >>> ((24 : Int32) &&& 31).toUInt32).toInt32) &&& (255 : Int32))), .val (.int (p2 &&& (255 : Int32))), .val (.int (((p2.toUInt32 >>> ((8 : Int32) &&& 31).toUInt32).toInt32) &&& (255 : Int32))), .unset, .unset, .unset, .unset, .unset, .unset, .unset] [(.int p3)]))
  refine own_ldcI H19 hx hZ hown (hw _ (List.mem_of_getElem? (i := 1) rfl)) (g := (mkF m 109 #[.val (.int p1), .val (.int p2), .val (.int p3), .val (.int p4), .val (.ref a13), .val (.int (p1 &&& (255 : Int32))), .val (.int (((p1.toUInt32 >>> ((8 : Int32) &&& 31).toUInt32).toInt32) &&& (255 : Int32))), .val (.int (((p1.toUInt32 >>> ((16 : Int32) &&& 31).toUInt32).toInt32) &&& (255 : Int32))), .val (.int (((p1.toUInt32 >>> ((24 : Int32) &&& 31).toUInt32).toInt32) &&& (255 : Int32))), .val (.int (p2 &&& (255 : Int32))), .val (.int (((p2.toUInt32 >>> ((8 : Int32) &&& 31).toUInt32).toInt32) &&& (255 : Int32))), .unset, .unset, .unset, .unset, .unset, .unset, .unset] [(.int p3)])) rfl (hb hby at_109) ?_
  show Go _ _ _ _ (T19.setTop (mkF m 111 #[.val (.int p1), .val (.int p2), .val (.int p3), .val (.int p4), .val (.ref a13), .val (.int (p1 &&& (255 : Int32))), .val (.int (((p1.toUInt32 >>> ((8 : Int32) &&& 31).toUInt32).toInt32) &&& (255 : Int32))), .val (.int (((p1.toUInt32 >>> ((16 : Int32) &&& 31).toUInt32).toInt32) &&& (255 : Int32))), .val (.int (((p1.toUInt32 >>> ((24 : Int32) &&& 31).toUInt32).toInt32) &&& (255 : Int32))), .val (.int (p2 &&& (255 : Int32))), .val (.int (((p2.toUInt32 >>> ((8 : Int32) &&& 31).toUInt32).toInt32) &&& (255 : Int32))), .unset, .unset, .unset, .unset, .unset, .unset, .unset] [(.int (2147483647 : Int32)), (.int p3)]))
  refine Go.via (fun t_ k_ => XS.iand H19.here hx rfl (hb hby at_111) rfl k_) ?_
  show Go _ _ _ _ (T19.setTop (mkF m 112 #[.val (.int p1), .val (.int p2), .val (.int p3), .val (.int p4), .val (.ref a13), .val (.int (p1 &&& (255 : Int32))), .val (.int (((p1.toUInt32 >>> ((8 : Int32) &&& 31).toUInt32).toInt32) &&& (255 : Int32))), .val (.int (((p1.toUInt32 >>> ((16 : Int32) &&& 31).toUInt32).toInt32) &&& (255 : Int32))), .val (.int (((p1.toUInt32 >>> ((24 : Int32) &&& 31).toUInt32).toInt32) &&& (255 : Int32))), .val (.int (p2 &&& (255 : Int32))), .val (.int (((p2.toUInt32 >>> ((8 : Int32) &&& 31).toUInt32).toInt32) &&& (255 : Int32))), .unset, .unset, .unset, .unset, .unset, .unset, .unset] [(.int (p3 &&& (2147483647 : Int32)))]))
  refine Go.via (fun t_ k_ => XS.bipush H19.here hx rfl (hb hby at_112) k_) ?_
  show Go _ _ _ _ (T19.setTop (mkF m 114 #[.val (.int p1), .val (.int p2), .val (.int p3), .val (.int p4), .val (.ref a13), .val (.int (p1 &&& (255 : Int32))), .val (.int (((p1.toUInt32 >>> ((8 : Int32) &&& 31).toUInt32).toInt32) &&& (255 : Int32))), .val (.int (((p1.toUInt32 >>> ((16 : Int32) &&& 31).toUInt32).toInt32) &&& (255 : Int32))), .val (.int (((p1.toUInt32 >>> ((24 : Int32) &&& 31).toUInt32).toInt32) &&& (255 : Int32))), .val (.int (p2 &&& (255 : Int32))), .val (.int (((p2.toUInt32 >>> ((8 : Int32) &&& 31).toUInt32).toInt32) &&& (255 : Int32))), .unset, .unset, .unset, .unset, .unset, .unset, .unset] [(.int (7 : Int32)), (.int (p3 &&& (2147483647 : Int32)))]))
  obtain ⟨lcs20, X20, -, -⟩ := H19.stand
  refine Go.via (fun t_ k_ => iremM X20 hx rfl (hb hby at_114) rfl (by decide) k_) ?_
  show Go _ _ _ _ (T19.setTop (mkF m 115 #[.val (.int p1), .val (.int p2), .val (.int p3), .val (.int p4), .val (.ref a13), .val (.int (p1 &&& (255 : Int32))), .val (.int (((p1.toUInt32 >>> ((8 : Int32) &&& 31).toUInt32).toInt32) &&& (255 : Int32))), .val (.int (((p1.toUInt32 >>> ((16 : Int32) &&& 31).toUInt32).toInt32) &&& (255 : Int32))), .val (.int (((p1.toUInt32 >>> ((24 : Int32) &&& 31).toUInt32).toInt32) &&& (255 : Int32))), .val (.int (p2 &&& (255 : Int32))), .val (.int (((p2.toUInt32 >>> ((8 : Int32) &&& 31).toUInt32).toInt32) &&& (255 : Int32))), .unset, .unset, .unset, .unset, .unset, .unset, .unset] [(.int ((p3 &&& (2147483647 : Int32)) % (7 : Int32)))]))
  refine Go.via (fun t_ k_ => XS.istore H19.here hx rfl (hb hby at_115) rfl (l' := #[.val (.int p1), .val (.int p2), .val (.int p3), .val (.int p4), .val (.ref a13), .val (.int (p1 &&& (255 : Int32))), .val (.int (((p1.toUInt32 >>> ((8 : Int32) &&& 31).toUInt32).toInt32) &&& (255 : Int32))), .val (.int (((p1.toUInt32 >>> ((16 : Int32) &&& 31).toUInt32).toInt32) &&& (255 : Int32))), .val (.int (((p1.toUInt32 >>> ((24 : Int32) &&& 31).toUInt32).toInt32) &&& (255 : Int32))), .val (.int (p2 &&& (255 : Int32))), .val (.int (((p2.toUInt32 >>> ((8 : Int32) &&& 31).toUInt32).toInt32) &&& (255 : Int32))), .val (.int ((p3 &&& (2147483647 : Int32)) % (7 : Int32))), .unset, .unset, .unset, .unset, .unset, .unset]) rfl k_) ?_
  show Go _ _ _ _ (T19.setTop (mkF m 117 #[.val (.int p1), .val (.int p2), .val (.int p3), .val (.int p4), .val (.ref a13), .val (.int (p1 &&& (255 : Int32))), .val (.int (((p1.toUInt32 >>> ((8 : Int32) &&& 31).toUInt32).toInt32) &&& (255 : Int32))), .val (.int (((p1.toUInt32 >>> ((16 : Int32) &&& 31).toUInt32).toInt32) &&& (255 : Int32))), .val (.int (((p1.toUInt32 >>> ((24 : Int32) &&& 31).toUInt32).toInt32) &&& (255 : Int32))), .val (.int (p2 &&& (255 : Int32))), .val (.int (((p2.toUInt32 >>> ((8 : Int32) &&& 31).toUInt32).toInt32) &&& (255 : Int32))), .val (.int ((p3 &&& (2147483647 : Int32)) % (7 : Int32))), .unset, .unset, .unset, .unset, .unset, .unset] []))
  refine Go.via (fun t_ k_ => XS.iloadN H19.here hx rfl (hb hby at_117) rfl k_) ?_
  show Go _ _ _ _ (T19.setTop (mkF m 118 #[.val (.int p1), .val (.int p2), .val (.int p3), .val (.int p4), .val (.ref a13), .val (.int (p1 &&& (255 : Int32))), .val (.int (((p1.toUInt32 >>> ((8 : Int32) &&& 31).toUInt32).toInt32) &&& (255 : Int32))), .val (.int (((p1.toUInt32 >>> ((16 : Int32) &&& 31).toUInt32).toInt32) &&& (255 : Int32))), .val (.int (((p1.toUInt32 >>> ((24 : Int32) &&& 31).toUInt32).toInt32) &&& (255 : Int32))), .val (.int (p2 &&& (255 : Int32))), .val (.int (((p2.toUInt32 >>> ((8 : Int32) &&& 31).toUInt32).toInt32) &&& (255 : Int32))), .val (.int ((p3 &&& (2147483647 : Int32)) % (7 : Int32))), .unset, .unset, .unset, .unset, .unset, .unset] [(.int p4)]))
  refine own_ldcI H19 hx hZ hown (hw _ (List.mem_of_getElem? (i := 1) rfl)) (g := (mkF m 118 #[.val (.int p1), .val (.int p2), .val (.int p3), .val (.int p4), .val (.ref a13), .val (.int (p1 &&& (255 : Int32))), .val (.int (((p1.toUInt32 >>> ((8 : Int32) &&& 31).toUInt32).toInt32) &&& (255 : Int32))), .val (.int (((p1.toUInt32 >>> ((16 : Int32) &&& 31).toUInt32).toInt32) &&& (255 : Int32))), .val (.int (((p1.toUInt32 >>> ((24 : Int32) &&& 31).toUInt32).toInt32) &&& (255 : Int32))), .val (.int (p2 &&& (255 : Int32))), .val (.int (((p2.toUInt32 >>> ((8 : Int32) &&& 31).toUInt32).toInt32) &&& (255 : Int32))), .val (.int ((p3 &&& (2147483647 : Int32)) % (7 : Int32))), .unset, .unset, .unset, .unset, .unset, .unset] [(.int p4)])) rfl (hb hby at_118) ?_
  show Go _ _ _ _ (T19.setTop (mkF m 120 #[.val (.int p1), .val (.int p2), .val (.int p3), .val (.int p4), .val (.ref a13), .val (.int (p1 &&& (255 : Int32))), .val (.int (((p1.toUInt32 >>> ((8 : Int32) &&& 31).toUInt32).toInt32) &&& (255 : Int32))), .val (.int (((p1.toUInt32 >>> ((16 : Int32) &&& 31).toUInt32).toInt32) &&& (255 : Int32))), .val (.int (((p1.toUInt32 >>> ((24 : Int32) &&& 31).toUInt32).toInt32) &&& (255 : Int32))), .val (.int (p2 &&& (255 : Int32))), .val (.int (((p2.toUInt32 >>> ((8 : Int32) &&& 31).toUInt32).toInt32) &&& (255 : Int32))), .val (.int ((p3 &&& (2147483647 : Int32)) % (7 : Int32))), .unset, .unset, .unset, .unset, .unset, .unset] [(.int (2147483647 : Int32)), (.int p4)]))
  refine Go.via (fun t_ k_ => XS.iand H19.here hx rfl (hb hby at_120) rfl k_) ?_
  show Go _ _ _ _ (T19.setTop (mkF m 121 #[.val (.int p1), .val (.int p2), .val (.int p3), .val (.int p4), .val (.ref a13), .val (.int (p1 &&& (255 : Int32))), .val (.int (((p1.toUInt32 >>> ((8 : Int32) &&& 31).toUInt32).toInt32) &&& (255 : Int32))), .val (.int (((p1.toUInt32 >>> ((16 : Int32) &&& 31).toUInt32).toInt32) &&& (255 : Int32))), .val (.int (((p1.toUInt32 >>> ((24 : Int32) &&& 31).toUInt32).toInt32) &&& (255 : Int32))), .val (.int (p2 &&& (255 : Int32))), .val (.int (((p2.toUInt32 >>> ((8 : Int32) &&& 31).toUInt32).toInt32) &&& (255 : Int32))), .val (.int ((p3 &&& (2147483647 : Int32)) % (7 : Int32))), .unset, .unset, .unset, .unset, .unset, .unset] [(.int (p4 &&& (2147483647 : Int32)))]))
  refine Go.via (fun t_ k_ => XS.bipush H19.here hx rfl (hb hby at_121) k_) ?_
  show Go _ _ _ _ (T19.setTop (mkF m 123 #[.val (.int p1), .val (.int p2), .val (.int p3), .val (.int p4), .val (.ref a13), .val (.int (p1 &&& (255 : Int32))), .val (.int (((p1.toUInt32 >>> ((8 : Int32) &&& 31).toUInt32).toInt32) &&& (255 : Int32))), .val (.int (((p1.toUInt32 >>> ((16 : Int32) &&& 31).toUInt32).toInt32) &&& (255 : Int32))), .val (.int (((p1.toUInt32 >>> ((24 : Int32) &&& 31).toUInt32).toInt32) &&& (255 : Int32))), .val (.int (p2 &&& (255 : Int32))), .val (.int (((p2.toUInt32 >>> ((8 : Int32) &&& 31).toUInt32).toInt32) &&& (255 : Int32))), .val (.int ((p3 &&& (2147483647 : Int32)) % (7 : Int32))), .unset, .unset, .unset, .unset, .unset, .unset] [(.int (7 : Int32)), (.int (p4 &&& (2147483647 : Int32)))]))
  obtain ⟨lcs21, X21, -, -⟩ := H19.stand
  refine Go.via (fun t_ k_ => iremM X21 hx rfl (hb hby at_123) rfl (by decide) k_) ?_
  show Go _ _ _ _ (T19.setTop (mkF m 124 #[.val (.int p1), .val (.int p2), .val (.int p3), .val (.int p4), .val (.ref a13), .val (.int (p1 &&& (255 : Int32))), .val (.int (((p1.toUInt32 >>> ((8 : Int32) &&& 31).toUInt32).toInt32) &&& (255 : Int32))), .val (.int (((p1.toUInt32 >>> ((16 : Int32) &&& 31).toUInt32).toInt32) &&& (255 : Int32))), .val (.int (((p1.toUInt32 >>> ((24 : Int32) &&& 31).toUInt32).toInt32) &&& (255 : Int32))), .val (.int (p2 &&& (255 : Int32))), .val (.int (((p2.toUInt32 >>> ((8 : Int32) &&& 31).toUInt32).toInt32) &&& (255 : Int32))), .val (.int ((p3 &&& (2147483647 : Int32)) % (7 : Int32))), .unset, .unset, .unset, .unset, .unset, .unset] [(.int ((p4 &&& (2147483647 : Int32)) % (7 : Int32)))]))
  refine Go.via (fun t_ k_ => XS.istore H19.here hx rfl (hb hby at_124) rfl (l' := #[.val (.int p1), .val (.int p2), .val (.int p3), .val (.int p4), .val (.ref a13), .val (.int (p1 &&& (255 : Int32))), .val (.int (((p1.toUInt32 >>> ((8 : Int32) &&& 31).toUInt32).toInt32) &&& (255 : Int32))), .val (.int (((p1.toUInt32 >>> ((16 : Int32) &&& 31).toUInt32).toInt32) &&& (255 : Int32))), .val (.int (((p1.toUInt32 >>> ((24 : Int32) &&& 31).toUInt32).toInt32) &&& (255 : Int32))), .val (.int (p2 &&& (255 : Int32))), .val (.int (((p2.toUInt32 >>> ((8 : Int32) &&& 31).toUInt32).toInt32) &&& (255 : Int32))), .val (.int ((p3 &&& (2147483647 : Int32)) % (7 : Int32))), .val (.int ((p4 &&& (2147483647 : Int32)) % (7 : Int32))), .unset, .unset, .unset, .unset, .unset]) rfl k_) ?_
  show Go _ _ _ _ (T19.setTop (mkF m 126 #[.val (.int p1), .val (.int p2), .val (.int p3), .val (.int p4), .val (.ref a13), .val (.int (p1 &&& (255 : Int32))), .val (.int (((p1.toUInt32 >>> ((8 : Int32) &&& 31).toUInt32).toInt32) &&& (255 : Int32))), .val (.int (((p1.toUInt32 >>> ((16 : Int32) &&& 31).toUInt32).toInt32) &&& (255 : Int32))), .val (.int (((p1.toUInt32 >>> ((24 : Int32) &&& 31).toUInt32).toInt32) &&& (255 : Int32))), .val (.int (p2 &&& (255 : Int32))), .val (.int (((p2.toUInt32 >>> ((8 : Int32) &&& 31).toUInt32).toInt32) &&& (255 : Int32))), .val (.int ((p3 &&& (2147483647 : Int32)) % (7 : Int32))), .val (.int ((p4 &&& (2147483647 : Int32)) % (7 : Int32))), .unset, .unset, .unset, .unset, .unset] []))
  exact J126 T19 h19 a13 (upd (upd (upd (upd (upd (upd (fun _ => (0 : Int32)) 0 (nar .byte (p1.toInt8.toInt32))) 1 (nar .byte ((p1 >>> ((8 : Int32) &&& 31)).toInt8.toInt32))) 2 (nar .byte ((p1 >>> ((16 : Int32) &&& 31)).toInt8.toInt32))) 3 (nar .byte ((p1 >>> ((24 : Int32) &&& 31)).toInt8.toInt32))) 4 (nar .byte (p2.toInt8.toInt32))) 5 (nar .byte ((p2 >>> ((8 : Int32) &&& 31)).toInt8.toInt32))) (p1 &&& (255 : Int32)) (((p1.toUInt32 >>> ((8 : Int32) &&& 31).toUInt32).toInt32) &&& (255 : Int32)) (((p1.toUInt32 >>> ((16 : Int32) &&& 31).toUInt32).toInt32) &&& (255 : Int32)) (((p1.toUInt32 >>> ((24 : Int32) &&& 31).toUInt32).toInt32) &&& (255 : Int32)) (p2 &&& (255 : Int32)) (((p2.toUInt32 >>> ((8 : Int32) &&& 31).toUInt32).toInt32) &&& (255 : Int32)) ((p3 &&& (2147483647 : Int32)) % (7 : Int32)) ((p4 &&& (2147483647 : Int32)) % (7 : Int32)) H19 B19 sz19 (own_rem p3) (own_rem p4) (own_b p1 p1 (by omega)) (own_b _ _ (own_sh p1 (8 : Int32) 8 (by decide) (by decide) (by decide))) (own_b _ _ (own_sh p1 (16 : Int32) 16 (by decide) (by decide) (by decide))) (own_b _ _ (own_sh p1 (24 : Int32) 24 (by decide) (by decide) (by decide))) (own_b p2 p2 (by omega)) (own_b _ _ (own_sh p2 (8 : Int32) 8 (by decide) (by decide) (by decide)))
set_option maxRecDepth 65536 in
set_option maxHeartbeats 40000000 in
theorem comes_1 {Post : Tables → Env → Array Value → State → Outcome → State → Prop} (hpost : ∀ tb e args s v u, (limb_1_1.after args s (.returned v) u = true ∧ limb_1_2.after args s (.returned v) u = true ∧ True) → FrameEnd s (.returned v) u (Jvm.fieldLocs frame_1_writes args s ++ Jvm.arrayLocs frame_1_arrays args s ++ Jvm.staticLocs frame_1_statics s) 16 128 → Post tb e args s (.returned v) u) :
    ArmFor flags0 classFile x code maxLocals ret World_1 tables_1 room_1 Calls_1 rest_1 Pre_1 Post := by
  intro l hfl _ _ p e ha hc hk s m args below hf hA hF happ hP
  obtain ⟨hcalls, hrest, hpre⟩ := hP
  obtain ⟨-, -, -, hnamed, -, -, -, hat⟩ := (Spec.applies_iff hf).mp happ
  obtain ⟨hg, hn⟩ := and_e (Cond.before_iff.mp (show (Jvm.Cond.and given_1 narrow_1).before args s = true from hpre))
  obtain ⟨g0, g1⟩ := and_e hg
  obtain ⟨i0, r0⟩ := and_e g1
  obtain ⟨i1, r1⟩ := and_e r0
  obtain ⟨i2, r2⟩ := and_e r1
  obtain ⟨w0, w1, w2, w3, rfl⟩ : ∃ w0 w1 w2 w3 : Value, args = #[w0, w1, w2, w3] := by
    have hs : args.size = 4 := by simpa [Cond.value, given_1] using g0
    obtain ⟨L⟩ := args
    match L, hs with
    | [w0, w1, w2, w3], _ => exact ⟨w0, w1, w2, w3, rfl⟩
  have hw := fun d (hd : d ∈ tables_1) => atoms_spec (ws := Jvm.Cond.code x code maxLocals ret :: tables_1) hat d (List.mem_cons_of_mem _ hd)
  have hfit : Fit s := fun {y c} hc i hi => by
    obtain ⟨ha, rfl⟩ := Array.getElem?_eq_some_iff.mp hc
    have q := List.all_eq_true.mp ((Array.all_eq_true_iff_forall_mem.mp hF) _ (Array.getElem_mem ha)) i (List.mem_range.mpr hi)
    simpa [Array.getElem?_eq_getElem hi] using q
  obtain ⟨v0, e0⟩ := is_v i0
  obtain rfl : w0 = (.int v0) := Option.some.inj e0
  obtain ⟨v1, e1⟩ := is_v i1
  obtain rfl : w1 = (.int v1) := Option.some.inj e1
  obtain ⟨v2, e2⟩ := is_v i2
  obtain rfl : w2 = (.int v2) := Option.some.inj e2
  obtain ⟨v3, e3⟩ := is_v r2
  obtain rfl : w3 = (.int v3) := Option.some.inj e3
  obtain ⟨n, o, h1, h2, h3, _, L, rfl, ⟨rfl, N⟩, hq⟩ := rm0 l s _ hw v0 v1 v2 v3 s.heap s.heap.size (Nat.le_refl _) tables_1 p e ha hc hk s m _ below hf ((Spec.applies_iff_loose hf).mp happ).1 ⟨rfl, State.Warmed39.refl s, rfl⟩ trivial
  refine ⟨n, _, h1, h2, h3, hpost _ _ _ _ _ _ ⟨Cond.after_iff.mpr rfl, Cond.after_iff.mpr (eq_i res_at (Term.int_eval (1)) rfl), trivial⟩ ⟨hq.1, hq.2.1, (hq.2.2.sift fun y hy => Or.inr (N y hy)).mono (by decide) (by decide)⟩⟩
theorem main_1_1 : Claimed_1_1 := comes_1 fun _ _ _ _ _ _ h hF => ⟨h.1, hF⟩
theorem main_1_2 : Claimed_1_2 := comes_1 fun _ _ _ _ _ _ h hF => ⟨h.2.1, hF⟩
end Jvm.Pilot.@@N@@
namespace Jvm.Pilot.@@N@@
open Jvm Jvm.ClassFile Sem Op Lib Jvm.Free Jvm.Stand Jvm.Pilot.@@N@@.Jvm.D
/-! MADE BY PROGRAM (witnessworld.py) out of the Statement's table words and the real class files: 12 classes; the members and pool entries that the words name. The judged class is class 1, her method 3. -/
namespace start1
open Jvm.ClassFile
def u (s : String) : CpInfo := .utf8 (stringToUtf16 s)
/-- a pool by its gaps: so many unusable entries, then the entry; so many at the end -/
def gap : Nat → List CpInfo → List CpInfo
  | 0, r => r
  | n + 1, r => .unusable :: gap n r
def poolList (es : List (Nat × CpInfo)) (last : Nat) : List CpInfo := es.foldr (fun e r => gap e.1 (e.2 :: r)) (gap last [])
def pool (es : List (Nat × CpInfo)) (last : Nat) : Array CpInfo := ⟨poolList es last⟩
def fileOf (pool : Array CpInfo) (this : Nat) (attrs : Array Attribute := #[]) (ms : Array MethodInfo := #[]) (fl : Nat := 33) (sup : Nat := 0) (ifs : Array Nat := #[]) (fds : Array FieldInfo := #[]) : ClassFile where
  minorVersion := 0
  majorVersion := 65
  constantPool := pool
  accessFlags := fl
  thisClass := this
  superClass := sup
  interfaces := ifs
  fields := fds
  methods := ms
  attributes := attrs
def plain (name : String) (sup : Option ClassId) : Class where
  name := name
  kind := .ordinary
  loader := none
  accessFlags := 33
  super := sup
  interfaces := #[]
  cf := none
  fields := #[]
  methods := #[]
  instanceTypes := #[]
  staticTypes := #[]
  resolved := #[]
  callSites := []
  init := .initialized
  statics := none
  mirror := none

def pool0 : Array CpInfo := pool [(5, u "<init>"), (0, u "()V"), (1, .class_ 10), (1, u "java/lang/Object")] 113

def k0m0 : Method := { name := "<init>", desc := "()V", sig := { parameters := [], returnType := none }, accessFlags := 1, code := none }
/-- java/lang/Object -/
def k0 : Class := { plain "java/lang/Object" none with
  accessFlags := 33
  interfaces := #[]
  cf := some (fileOf pool0 8 #[] #[{ accessFlags := 1, nameIndex := 5, descriptorIndex := 6, attributes := #[] }] 33 0 #[] #[])
  fields := #[]
  methods := #[k0m0]
  instanceTypes := #[]
  staticTypes := #[]
  resolved := Array.replicate 124 none
  statics := none }

def pool1 : Array CpInfo := pool [(2, .class_ 4), (1, u "java/lang/Object"), (0, u "<init>"), (0, u "()V"), (0, .integer 16777619), (0, .methodref 9 10), (0, .class_ 11), (0, .nameAndType 12 13), (0, u "com/example/perekaz/perekaz/TextLinesHashPinLaw"), (0, u "step"), (0, u "(II)I"), (0, .integer 2147483647), (0, .methodref 16 17), (0, .class_ 18), (0, .nameAndType 19 13), (0, u "java/lang/Math"), (0, u "min"), (0, .methodref 16 21), (0, .nameAndType 22 13), (0, u "max"), (0, .integer 2166136261), (0, .methodref 9 25), (0, .nameAndType 26 27), (0, u "take"), (0, u "(IIIII)I"), (0, .methodref 29 30), (0, .class_ 31), (0, .nameAndType 32 33), (0, u "com/example/perekaz/perekaz/TextLines"), (0, u "hash"), (0, u "([BII)I"), (0, .integer 3826002220), (3, u "law"), (0, u "(IIII)Z")] 4

def k1m0 : Method := { name := "<init>", desc := "()V", sig := { parameters := [], returnType := none }, accessFlags := 1, code := none }
def k1c1 : Code := { maxStack := 2, maxLocals := 2, code := method_2_code, exceptionTable := #[], attributes := #[] }
def k1m1 : Method := { name := "step", desc := "(II)I", sig := { parameters := [.int, .int], returnType := some .int }, accessFlags := 10, code := some k1c1 }
def k1c2 : Code := { maxStack := 2, maxLocals := 5, code := method_3_code, exceptionTable := #[], attributes := #[] }
def k1m2 : Method := { name := "take", desc := "(IIIII)I", sig := { parameters := [.int, .int, .int, .int, .int], returnType := some .int }, accessFlags := 10, code := some k1c2 }
def k1c3 : Code := { maxStack := 5, maxLocals := 18, code := code, exceptionTable := #[], attributes := #[] }
def k1m3 : Method := { name := "law", desc := "(IIII)Z", sig := { parameters := [.int, .int, .int, .int], returnType := some .boolean }, accessFlags := 9, code := some k1c3 }
/-- com/example/perekaz/perekaz/TextLinesHashPinLaw -/
def k1 : Class := { plain "com/example/perekaz/perekaz/TextLinesHashPinLaw" (some 0) with
  accessFlags := 49
  interfaces := #[]
  cf := some (fileOf pool1 9 #[] #[{ accessFlags := 1, nameIndex := 5, descriptorIndex := 6, attributes := #[] }, { accessFlags := 10, nameIndex := 12, descriptorIndex := 13, attributes := #[] }, { accessFlags := 10, nameIndex := 26, descriptorIndex := 27, attributes := #[] }, { accessFlags := 9, nameIndex := 38, descriptorIndex := 39, attributes := #[] }] 49 2 #[] #[])
  fields := #[]
  methods := #[k1m0, k1m1, k1m2, k1m3]
  instanceTypes := #[]
  staticTypes := #[]
  resolved := Array.replicate 44 none
  statics := none }

def pool2 : Array CpInfo := pool [(1, .class_ 2), (0, u "java/lang/Math"), (1, .class_ 6), (1, u "java/lang/Object"), (0, u "<init>"), (0, u "()V"), (89, .class_ 100), (1, u "java/lang/Math$RandomNumberGeneratorHolder"), (71, u "negativeZeroFloatBits"), (0, u "J"), (2, u "negativeZeroDoubleBits"), (21, u "max"), (2, u "min"), (43, u "$assertionsDisabled"), (0, u "Z"), (88, u "(II)I"), (2, u "twoToTheDoubleScaleDown"), (0, u "D"), (4, u "twoToTheDoubleScaleUp"), (9, u "E"), (3, u "PI"), (2, u "TAU"), (2, u "DEGREES_TO_RADIANS"), (0, u "RADIANS_TO_DEGREES")] 94

def k2m0 : Method := { name := "<init>", desc := "()V", sig := { parameters := [], returnType := none }, accessFlags := 2, code := none }
def k2c1 : Code := { maxStack := 2, maxLocals := 2, code := jdk_29_method_65_code, exceptionTable := #[], attributes := #[] }
def k2m1 : Method := { name := "max", desc := "(II)I", sig := { parameters := [.int, .int], returnType := some .int }, accessFlags := 9, code := some k2c1 }
def k2c2 : Code := { maxStack := 2, maxLocals := 2, code := jdk_29_method_69_code, exceptionTable := #[], attributes := #[] }
def k2m2 : Method := { name := "min", desc := "(II)I", sig := { parameters := [.int, .int], returnType := some .int }, accessFlags := 9, code := some k2c2 }
/-- java/lang/Math -/
def k2 : Class := { plain "java/lang/Math" (some 0) with
  accessFlags := 49
  interfaces := #[]
  cf := some (fileOf pool2 1 #[.nestMembers #[98]] #[{ accessFlags := 2, nameIndex := 7, descriptorIndex := 8, attributes := #[] }, { accessFlags := 9, nameIndex := 198, descriptorIndex := 335, attributes := #[] }, { accessFlags := 9, nameIndex := 201, descriptorIndex := 335, attributes := #[] }] 49 4 #[] #[{ accessFlags := 25, nameIndex := 354, descriptorIndex := 339, attributes := #[] }, { accessFlags := 25, nameIndex := 358, descriptorIndex := 339, attributes := #[] }, { accessFlags := 25, nameIndex := 361, descriptorIndex := 339, attributes := #[] }, { accessFlags := 26, nameIndex := 364, descriptorIndex := 339, attributes := #[] }, { accessFlags := 26, nameIndex := 365, descriptorIndex := 339, attributes := #[] }, { accessFlags := 26, nameIndex := 172, descriptorIndex := 173, attributes := #[] }, { accessFlags := 26, nameIndex := 176, descriptorIndex := 173, attributes := #[] }, { accessFlags := 8, nameIndex := 344, descriptorIndex := 339, attributes := #[] }, { accessFlags := 8, nameIndex := 338, descriptorIndex := 339, attributes := #[] }, { accessFlags := 4120, nameIndex := 245, descriptorIndex := 246, attributes := #[] }])
  fields := #[{ name := "E", type := .double, accessFlags := 25, slot := 0, constantValue := 0 }, { name := "PI", type := .double, accessFlags := 25, slot := 1, constantValue := 0 }, { name := "TAU", type := .double, accessFlags := 25, slot := 2, constantValue := 0 }, { name := "DEGREES_TO_RADIANS", type := .double, accessFlags := 26, slot := 3, constantValue := 0 }, { name := "RADIANS_TO_DEGREES", type := .double, accessFlags := 26, slot := 4, constantValue := 0 }, { name := "negativeZeroFloatBits", type := .long, accessFlags := 26, slot := 5, constantValue := 0 }, { name := "negativeZeroDoubleBits", type := .long, accessFlags := 26, slot := 6, constantValue := 0 }, { name := "twoToTheDoubleScaleUp", type := .double, accessFlags := 8, slot := 7, constantValue := 0 }, { name := "twoToTheDoubleScaleDown", type := .double, accessFlags := 8, slot := 8, constantValue := 0 }, { name := "$assertionsDisabled", type := .boolean, accessFlags := 4120, slot := 9, constantValue := 0 }]
  methods := #[k2m0, k2m1, k2m2]
  instanceTypes := #[]
  staticTypes := #[.double, .double, .double, .double, .double, .long, .long, .double, .double, .boolean]
  resolved := Array.replicate 460 none
  statics := none }

def pool3 : Array CpInfo := pool [(1, .class_ 2), (0, u "java/lang/AutoCloseable"), (0, .class_ 4), (0, u "java/lang/Object")] 7

/-- java/lang/AutoCloseable -/
def k3 : Class := { plain "java/lang/AutoCloseable" (some 0) with
  accessFlags := 1537
  interfaces := #[]
  cf := some (fileOf pool3 1 #[] #[] 1537 3 #[] #[])
  fields := #[]
  methods := #[]
  instanceTypes := #[]
  staticTypes := #[]
  resolved := Array.replicate 12 none
  statics := none }

def pool4 : Array CpInfo := pool [(1, .class_ 2), (0, u "java/io/Closeable"), (0, .class_ 4), (0, u "java/lang/Object"), (0, .class_ 6), (0, u "java/lang/AutoCloseable")] 7

/-- java/io/Closeable -/
def k4 : Class := { plain "java/io/Closeable" (some 0) with
  accessFlags := 1537
  interfaces := #[3]
  cf := some (fileOf pool4 1 #[] #[] 1537 3 #[5] #[])
  fields := #[]
  methods := #[]
  instanceTypes := #[]
  staticTypes := #[]
  resolved := Array.replicate 14 none
  statics := none }

def pool5 : Array CpInfo := pool [(2, .class_ 4), (1, u "java/lang/Object"), (3, .class_ 10), (1, u "com/example/perekaz/perekaz/TextLines"), (0, u "file"), (0, u "Ljava/nio/file/Path;"), (2, u "in"), (0, u "Ljava/nio/channels/SeekableByteChannel;"), (2, u "buffer"), (0, u "[B"), (40, u "next"), (0, u "I"), (2, u "start"), (0, .integer 2166136261), (2, u "filled"), (0, .integer 16777619), (6, u "end"), (2, u "hash"), (0, u "([BII)I"), (4, u "plain"), (0, u "Z"), (2, u "number"), (2, u "base"), (0, u "J"), (26, u "BYTE_ORDER_MARK"), (44, .class_ 167), (0, u "java/io/Closeable"), (0, u "BLOCK"), (2, u "SMALL_BLOCK"), (1, u "NOT_UTF_8"), (0, u "Ljava/lang/String;"), (2, u "HASH_BASIS"), (0, u "HASH_PRIME")] 19

def k5c0 : Code := { maxStack := 3, maxLocals := 5, code := prog_212_method_13_code, exceptionTable := #[], attributes := #[] }
def k5m0 : Method := { name := "hash", desc := "([BII)I", sig := { parameters := [(.array .byte), .int, .int], returnType := some .int }, accessFlags := 8, code := some k5c0 }
/-- com/example/perekaz/perekaz/TextLines -/
def k5 : Class := { plain "com/example/perekaz/perekaz/TextLines" (some 0) with
  accessFlags := 48
  interfaces := #[4]
  cf := some (fileOf pool5 8 #[] #[{ accessFlags := 8, nameIndex := 80, descriptorIndex := 81, attributes := #[] }] 48 2 #[166] #[{ accessFlags := 26, nameIndex := 168, descriptorIndex := 62, attributes := #[] }, { accessFlags := 26, nameIndex := 171, descriptorIndex := 62, attributes := #[] }, { accessFlags := 24, nameIndex := 121, descriptorIndex := 20, attributes := #[] }, { accessFlags := 24, nameIndex := 173, descriptorIndex := 174, attributes := #[] }, { accessFlags := 26, nameIndex := 177, descriptorIndex := 62, attributes := #[] }, { accessFlags := 26, nameIndex := 178, descriptorIndex := 62, attributes := #[] }, { accessFlags := 18, nameIndex := 11, descriptorIndex := 12, attributes := #[] }, { accessFlags := 18, nameIndex := 15, descriptorIndex := 16, attributes := #[] }, { accessFlags := 2, nameIndex := 19, descriptorIndex := 20, attributes := #[] }, { accessFlags := 2, nameIndex := 93, descriptorIndex := 94, attributes := #[] }, { accessFlags := 2, nameIndex := 69, descriptorIndex := 62, attributes := #[] }, { accessFlags := 2, nameIndex := 65, descriptorIndex := 62, attributes := #[] }, { accessFlags := 2, nameIndex := 77, descriptorIndex := 62, attributes := #[] }, { accessFlags := 2, nameIndex := 61, descriptorIndex := 62, attributes := #[] }, { accessFlags := 2, nameIndex := 90, descriptorIndex := 62, attributes := #[] }, { accessFlags := 2, nameIndex := 80, descriptorIndex := 62, attributes := #[] }, { accessFlags := 2, nameIndex := 86, descriptorIndex := 87, attributes := #[] }])
  fields := #[{ name := "BLOCK", type := .int, accessFlags := 26, slot := 0, constantValue := 0 }, { name := "SMALL_BLOCK", type := .int, accessFlags := 26, slot := 1, constantValue := 0 }, { name := "BYTE_ORDER_MARK", type := (.array .byte), accessFlags := 24, slot := 2, constantValue := 0 }, { name := "NOT_UTF_8", type := (.object "java/lang/String"), accessFlags := 24, slot := 3, constantValue := 0 }, { name := "HASH_BASIS", type := .int, accessFlags := 26, slot := 4, constantValue := 0 }, { name := "HASH_PRIME", type := .int, accessFlags := 26, slot := 5, constantValue := 0 }, { name := "file", type := (.object "java/nio/file/Path"), accessFlags := 18, slot := 0, constantValue := 0 }, { name := "in", type := (.object "java/nio/channels/SeekableByteChannel"), accessFlags := 18, slot := 1, constantValue := 0 }, { name := "buffer", type := (.array .byte), accessFlags := 2, slot := 2, constantValue := 0 }, { name := "base", type := .long, accessFlags := 2, slot := 3, constantValue := 0 }, { name := "filled", type := .int, accessFlags := 2, slot := 4, constantValue := 0 }, { name := "start", type := .int, accessFlags := 2, slot := 5, constantValue := 0 }, { name := "end", type := .int, accessFlags := 2, slot := 6, constantValue := 0 }, { name := "next", type := .int, accessFlags := 2, slot := 7, constantValue := 0 }, { name := "number", type := .int, accessFlags := 2, slot := 8, constantValue := 0 }, { name := "hash", type := .int, accessFlags := 2, slot := 9, constantValue := 0 }, { name := "plain", type := .boolean, accessFlags := 2, slot := 10, constantValue := 0 }]
  methods := #[k5m0]
  instanceTypes := #[(.object "java/nio/file/Path"), (.object "java/nio/channels/SeekableByteChannel"), (.array .byte), .long, .int, .int, .int, .int, .int, .int, .boolean]
  staticTypes := #[.int, .int, (.array .byte), (.object "java/lang/String"), .int, .int]
  resolved := Array.replicate 198 none
  statics := none }

def pool6 : Array CpInfo := pool [(1, u "java/lang/Cloneable"), (0, .class_ 1), (0, u "java/lang/Object"), (0, .class_ 3)] 3

/-- java/lang/Cloneable -/
def k6 : Class := { plain "java/lang/Cloneable" (some 0) with
  accessFlags := 1537
  interfaces := #[]
  cf := some (fileOf pool6 2 #[] #[] 1537 4 #[] #[])
  fields := #[]
  methods := #[]
  instanceTypes := #[]
  staticTypes := #[]
  resolved := Array.replicate 8 none
  statics := none }

def pool7 : Array CpInfo := pool [(1, u "java/io/Serializable"), (0, .class_ 1), (0, u "java/lang/Object"), (0, .class_ 3)] 3

/-- java/io/Serializable -/
def k7 : Class := { plain "java/io/Serializable" (some 0) with
  accessFlags := 1537
  interfaces := #[]
  cf := some (fileOf pool7 2 #[] #[] 1537 4 #[] #[])
  fields := #[]
  methods := #[]
  instanceTypes := #[]
  staticTypes := #[]
  resolved := Array.replicate 8 none
  statics := none }

/-- the primitive byte -/
def k8 : Class := { plain "byte" none with kind := .primitive 'B', accessFlags := 0x411 }
/-- [B -/
def k9 : Class := { plain "[B" (some 0) with kind := .array 8 .byte, interfaces := #[6, 7], accessFlags := 1041 }

/-- the primitive int -/
def k10 : Class := { plain "int" none with kind := .primitive 'I', accessFlags := 0x411 }
/-- [I -/
def k11 : Class := { plain "[I" (some 0) with kind := .array 10 .int, interfaces := #[6, 7], accessFlags := 1041 }

def heap : Heap := #[]
def classes : Array Class := #[k0, k1, k2, k3, k4, k5, k6, k7, k8, k9, k10, k11]
def interned : List (Array UInt16 × Addr) := []
def slotsUsed : Nat := 0
def theMethod : MethodId := ⟨1, 3⟩
def args0 : Array Value := #[.int 5, .int 6, .int 7, .int 8]
def aboutOver (below : List Frame) : State where
  vm := { classes := classes, interned := interned.toArray }
  heap := heap
  slotsUsed := slotsUsed
  threads := #[{ frames := .invoking theMethod args0 :: below }]
def below0 : List Frame := [.native { method := ⟨0, 0⟩, args := #[] }]
def about1 : State := aboutOver below0
def p0 : Program := .bare "" "" ""
def e0 : Env := launch0.env 0 0 0
theorem w_frames : about1.frames = Frame.invoking theMethod args0 :: below0 := rfl
set_option maxRecDepth 65536 in
theorem w_args : argsFit about1.vm theMethod args0 = true := by decide +kernel
set_option maxRecDepth 65536 in
theorem w_heap : heapFits about1 = true := by decide +kernel
set_option maxRecDepth 65536 in
theorem w_runnable : about1.curStatus? = some .runnable := by decide +kernel
set_option maxRecDepth 65536 in
theorem w_alone : about1.alone = true := by decide +kernel
set_option maxRecDepth 65536 in
theorem w_named : about1.methodNamed? x = some theMethod := by decide +kernel
set_option maxRecDepth 65536 in
theorem w_hears : about1.hears theMethod below0 = true := by decide +kernel
set_option maxRecDepth 65536 in
theorem w_ripe : about1.ripe theMethod args0 below0 = true := by decide +kernel
theorem w_running : about1.status = .running := rfl
set_option maxRecDepth 65536 in
theorem w_room : about1.hasRoom e0.platform room_1 = true :=
  launch0.hasRoom_least _ room_1 (by decide +kernel) (by decide +kernel) (by decide +kernel) (by decide +kernel) (by decide +kernel) (by decide +kernel)
theorem allAtoms_all (ts : List Jvm.Cond) (a : Array Jvm.Value) (st : Jvm.State) : (allAtoms ts).before a st = ts.all (fun c => c.before a st) := by
  induction ts with
  | nil => rfl
  | cons c t ih =>
    show (Jvm.Cond.and c (allAtoms t)).before a st = _
    rw [Jvm.Cond.before_and, ih, List.all_cons]
def words1 : List Jvm.Cond := Jvm.Cond.code x code maxLocals ret :: tables_1
/-- a 'code' word, met by the world's own term for the bytes: nothing is compared byte by byte -/
theorem code_word {y : MethodName} {bytes : ByteArray} {mx : Nat} {rt : Option FieldType} {a : Array Value} {s : State} {m : MethodId} {meth : Method} {c : Code} (h1 : s.methodNamed? y = some m) (h2 : s.vm.method? m = some meth) (h3 : meth.code = some c) (h4 : c.code = bytes)
    (h5 : (c.maxLocals == mx && c.exceptionTable.isEmpty && decide (c.maxStack ≤ mostOperands) && decide (meth.sig.returnType = rt) && !meth.locks && decide (parseMethodDescriptor y.desc = some meth.sig)) = true) : (Jvm.Cond.code y bytes mx rt).before a s = true := by
  simp only [Bool.and_eq_true, beq_iff_eq, Bool.not_eq_true', decide_eq_true_eq] at h5
  obtain ⟨⟨⟨⟨⟨g1, g2⟩, g3⟩, g4⟩, g5⟩, g6⟩ := h5
  simp [Cond.before, Cond.holds, Cond.value, h1, h2, h3, h4, g1, g2, g3, g4, g5, g6]
def isCode : Jvm.Cond → Bool
  | .code _ _ _ _ => true
  | _ => false
theorem all_split {L : List Jvm.Cond} {P : Jvm.Cond → Bool} (h1 : L.all (fun c => isCode c || P c) = true) (h2 : ∀ c ∈ L.filter isCode, P c = true) : L.all P = true := by
  refine List.all_eq_true.mpr fun c hc => ?_
  have h := List.all_eq_true.mp h1 c hc
  rcases Bool.eq_false_or_eq_true (isCode c) with hi | hi
  · exact h2 c (List.mem_filter.mpr ⟨hc, hi⟩)
  · simpa [hi] using h
set_option maxRecDepth 65536 in
theorem w_c0 : (Jvm.Cond.code x code maxLocals ret).before args0 about1 = true := code_word (m := ⟨1, 3⟩) (meth := k1m3) (c := k1c3) (by decide +kernel) rfl rfl rfl (by decide +kernel)
set_option maxRecDepth 65536 in
theorem w_c1 : (Jvm.Cond.code ({ cls := "java/lang/Math", name := "min", desc := "(II)I" } : Jvm.MethodName) jdk_29_method_69_code (2 : Nat) (Option.some Jvm.ClassFile.FieldType.int)).before args0 about1 = true := code_word (m := ⟨2, 2⟩) (meth := k2m2) (c := k2c2) (by decide +kernel) rfl rfl rfl (by decide +kernel)
set_option maxRecDepth 65536 in
theorem w_c2 : (Jvm.Cond.code ({ cls := "java/lang/Math", name := "max", desc := "(II)I" } : Jvm.MethodName) jdk_29_method_65_code (2 : Nat) (Option.some Jvm.ClassFile.FieldType.int)).before args0 about1 = true := code_word (m := ⟨2, 1⟩) (meth := k2m1) (c := k2c1) (by decide +kernel) rfl rfl rfl (by decide +kernel)
set_option maxRecDepth 65536 in
theorem w_c3 : (Jvm.Cond.code ({ cls := "com/example/perekaz/perekaz/TextLinesHashPinLaw", name := "take", desc := "(IIIII)I" } : Jvm.MethodName) method_3_code (5 : Nat) (Option.some Jvm.ClassFile.FieldType.int)).before args0 about1 = true := code_word (m := ⟨1, 2⟩) (meth := k1m2) (c := k1c2) (by decide +kernel) rfl rfl rfl (by decide +kernel)
set_option maxRecDepth 65536 in
theorem w_c4 : (Jvm.Cond.code ({ cls := "com/example/perekaz/perekaz/TextLinesHashPinLaw", name := "step", desc := "(II)I" } : Jvm.MethodName) method_2_code (2 : Nat) (Option.some Jvm.ClassFile.FieldType.int)).before args0 about1 = true := code_word (m := ⟨1, 1⟩) (meth := k1m1) (c := k1c1) (by decide +kernel) rfl rfl rfl (by decide +kernel)
set_option maxRecDepth 65536 in
theorem w_c5 : (Jvm.Cond.code ({ cls := "com/example/perekaz/perekaz/TextLines", name := "hash", desc := "([BII)I" } : Jvm.MethodName) prog_212_method_13_code (5 : Nat) (Option.some Jvm.ClassFile.FieldType.int)).before args0 about1 = true := code_word (m := ⟨5, 0⟩) (meth := k5m0) (c := k5c0) (by decide +kernel) rfl rfl rfl (by decide +kernel)
def codes1 : List Jvm.Cond := [Jvm.Cond.code x code maxLocals ret, Jvm.Cond.code ({ cls := "java/lang/Math", name := "min", desc := "(II)I" } : Jvm.MethodName) jdk_29_method_69_code (2 : Nat) (Option.some Jvm.ClassFile.FieldType.int), Jvm.Cond.code ({ cls := "java/lang/Math", name := "max", desc := "(II)I" } : Jvm.MethodName) jdk_29_method_65_code (2 : Nat) (Option.some Jvm.ClassFile.FieldType.int), Jvm.Cond.code ({ cls := "com/example/perekaz/perekaz/TextLinesHashPinLaw", name := "take", desc := "(IIIII)I" } : Jvm.MethodName) method_3_code (5 : Nat) (Option.some Jvm.ClassFile.FieldType.int), Jvm.Cond.code ({ cls := "com/example/perekaz/perekaz/TextLinesHashPinLaw", name := "step", desc := "(II)I" } : Jvm.MethodName) method_2_code (2 : Nat) (Option.some Jvm.ClassFile.FieldType.int), Jvm.Cond.code ({ cls := "com/example/perekaz/perekaz/TextLines", name := "hash", desc := "([BII)I" } : Jvm.MethodName) prog_212_method_13_code (5 : Nat) (Option.some Jvm.ClassFile.FieldType.int)]
set_option maxRecDepth 65536 in
theorem codes_eq : words1.filter isCode = codes1 := rfl
theorem w_codes : ∀ c ∈ words1.filter isCode, c.before args0 about1 = true := by
  rw [codes_eq]
  intro c hc
  simp only [codes1, List.mem_cons, List.not_mem_nil, or_false] at hc
  rcases hc with rfl | rfl | rfl | rfl | rfl | rfl
  · exact w_c0
  · exact w_c1
  · exact w_c2
  · exact w_c3
  · exact w_c4
  · exact w_c5
set_option maxRecDepth 65536 in
theorem w_t1 : (words1.take 24).all (fun c => isCode c || c.before args0 about1) = true := by decide +kernel
set_option maxRecDepth 65536 in
theorem w_t2 : (words1.drop 24).all (fun c => isCode c || c.before args0 about1) = true := by decide +kernel
theorem w_tables : (allAtoms (Jvm.Cond.code x code maxLocals ret :: tables_1)).before args0 about1 = true := by
  rw [allAtoms_all]
  show words1.all (fun c => c.before args0 about1) = true
  refine all_split ?_ w_codes
  rw [← List.take_append_drop 24 words1, List.all_append, w_t1, w_t2]
  rfl
set_option maxRecDepth 65536 in
theorem w_case : (Jvm.Cond.and given_1 narrow_1).before args0 about1 = true := by decide +kernel
theorem w_applies : (headSpec (Jvm.Cond.code x code maxLocals ret :: tables_1) room_1).applies x e0.platform about1 = true :=
  (Spec.applies_iff w_frames).mpr ⟨w_running, w_runnable, w_alone, w_named, w_hears, w_ripe, w_room, w_tables⟩
theorem atStart : AtStart classFile x code maxLocals ret World_1 tables_1 room_1 Calls_1 rest_1 Pre_1 launch0 p0 e0 about1 theMethod args0 below0 :=
  ⟨lists_1, trivial, launch0.admits_env _ _ _, launch0.least_env, fairChoices_fair.cas, fairChoices_fair.clock, w_frames, w_args, w_heap, w_applies, trivial, trivial, w_case⟩
end start1
theorem witness_1 : WitnessClaimed_1 := ⟨start1.p0, start1.e0, start1.about1, start1.theMethod, start1.args0, start1.below0, start1.atStart⟩
end Jvm.Pilot.@@N@@
