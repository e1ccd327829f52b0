import JvmDerived
import JvmDerived.Pilot.@@N@@Statement
import JvmDerived.Pilot.@@N@@Code
set_option linter.unusedVariables false
set_option linter.unusedSimpArgs false
namespace Jvm.Pilot.@@N@@
open Jvm Jvm.ClassFile Sem Op Lib Jvm.Free Jvm.Stand Jvm.LawKit Jvm.RoadKit Bundle Jvm.Pilot.@@N@@.Jvm.D
/-! THE WALK IN CONTINUATION FORM. Here: the run stands in T, its heap is h, nothing old was written. Go: from the state F the run ends as Q says. CM: a callee's contract. -/
def Here (p : Program) (l : Launch) (e : Env) (R : Room) (s : State) (m : MethodId) (args : Array Value) (below : List Frame) (meth : Method) (c : Code) (n0 : Nat) (T : State) (h : Heap) (k n : Nat) : Prop :=
  ∃ locs, Stand p l e R s m args below meth c T locs k n ∧ T.heap = h ∧ Fr n0 locs
def Fini (below : List Frame) (s : State) (n0 : Nat) (Q : Option Value → Heap → Prop) (K N : Nat) (t : State) (o : Outcome) : Prop :=
  t.status = .running ∧ Ended t below o ∧ ∃ v L, o = .returned v ∧ (Q v t.heap ∧ Fr n0 L) ∧ FrameEnd s o t L K N
def Go (p : Program) (e : Env) (below : List Frame) (Φ : State → Outcome → Prop) (F : State) : Prop :=
  ∃ t o, Steps p.tables e below F t ∧ Φ t o
def CM (l : Launch) (Z : State) (y : MethodName) (code : ByteArray) (maxL : Nat) (ret : Option FieldType) (R : Room) (as : Array Value) (h0 : Heap) (n0 : Nat) (Q : Option Value → Heap → Prop) : Prop :=
  ∀ ws, MetFree l y (head1 (Jvm.Cond.code y code maxL ret :: ws) R) (fun a U => a = as ∧ Z.Warmed39 U.vm ∧ U.heap = h0) (fun _ _ _ _ _ => True) (fun _ U o U' => ∃ v L, o = .returned v ∧ (Q v U'.heap ∧ Fr n0 L) ∧ FrameEnd U o U' L R.cells R.slots)
section Own
variable {p : Program} {l : Launch} {e : Env} {R : Room} {s : State} {m : MethodId} {args : Array Value} {below : List Frame} {meth : Method} {c : Code} {T : State} {h : Heap} {k n n0 K N : Nat} {Q : Option Value → Heap → Prop} {Z : State} {a0 : Array Value} {Φ : State → Outcome → Prop}
theorem Here.here (H : Here p l e R s m args below meth c n0 T h k n) : At T m c below := by obtain ⟨_, X, _, _⟩ := H; exact X.here
theorem Here.stand (H : Here p l e R s m args below meth c n0 T h k n) : ∃ locs, Stand p l e R s m args below meth c T locs k n ∧ T.heap = h ∧ Fr n0 locs := H
theorem Go.via {F F' : State} (st : ∀ t, Steps p.tables e below F' t → Steps p.tables e below F t) (g : Go p e below Φ F') : Go p e below Φ F := by
  obtain ⟨t, o, h1, r⟩ := g; exact ⟨t, o, st t h1, r⟩
theorem own_enter {y : MethodName} {code : ByteArray} {maxL : Nat} {ret : Option FieldType} {as : Array Value} {h0 : Heap} (hpl : plainFor y = true)
    (body : ∀ (p : Program) (e : Env) (s : State) (m : MethodId) (below : List Frame) (meth : Method) (c : Code) (T : State), p.tables.exec = Jvm.exec → c.code = code → c.maxLocals = maxL → s.vm.findClass y.cls = some m.cls → meth.name = y.name → Z.Warmed39 s.vm → meth.sig.returnType = ret → meth.locks = false → Here p l e R s m as below meth c n0 T h0 0 0 → Go p e below (Fini below s n0 Q R.cells R.slots) (T.setTop (entryFrame m as maxL))) :
    CM l Z y code maxL ret R as h0 n0 Q := by
  intro ws
  refine MetFree.of_bodySF hpl hisR ?_
  intro p e s m args below meth c s₁ Bd hml0 hP hK
  obtain ⟨rfl, hZ, hh⟩ := hP
  exact body p e s m below meth c s₁ Bd.exec Bd.bytes hml0 (findClass_of_methodNamed Bd.named) (name_of_methodNamed Bd.named Bd.method).1 hZ Bd.returns Bd.notSynchronized ⟨[], Stand.of_body Bd, by rw [← hh, Bd.state]; rfl, Fr.nil n0⟩
theorem Here.leave (H : Here p l e R s m args below meth c n0 T h k n) (hlk : meth.locks = false) {v : Option Value} (hv : meth.sig.returnType = none → v = none) (hQ : Q v h) (hk : k ≤ K) (hn : n ≤ N) {F : State}
    (st : ∀ fs, (∀ (f : JFrame) (acts : List Action), f.method = m → f.locked = none → f.entered = [] → (doReturn e (T.setTop f) acts v).1 = T.setFrames fs) → Steps p.tables e below F (T.setFrames fs)) : Go p e below (Fini below s n0 Q K N) F := by
  obtain ⟨locs, X, rfl, F0⟩ := H
  obtain ⟨fs, hr, hrun, hended, hW, hsame⟩ := X.leave (v := v) hv hlk
  exact ⟨_, _, st fs hr, hrun, hended, v, locs, rfl, ⟨hQ, F0⟩, ⟨_, rfl⟩, hW, hsame.mono hk hn⟩
theorem own_retV (H : Here p l e R s m args below meth c n0 T h k n) (hx : p.tables.exec = Jvm.exec) (hlk : meth.locks = false) (hret : meth.sig.returnType = none) {pc : Nat} {Ls : Array Slot} (hd : decode c.code pc = .ok (.return_, 1)) (hQ : Q none h) (hk : k ≤ K) (hn : n ≤ N) :
    Go p e below (Fini below s n0 Q K N) (T.setTop (mkF m pc Ls [])) := by
  obtain ⟨locs, X, r1, r2⟩ := H.stand
  exact H.leave hlk (fun _ => rfl) hQ hk hn fun fs hr => X.returnOut hx hret hd hr
theorem own_retI (H : Here p l e R s m args below meth c n0 T h k n) (hx : p.tables.exec = Jvm.exec) (hlk : meth.locks = false) (hret : meth.sig.returnType = some .int) {pc : Nat} {Ls : Array Slot} {z : Int32} {rest : List Value} (hd : decode c.code pc = .ok (.ireturn, 1)) (hQ : Q (some (.int z)) h) (hk : k ≤ K) (hn : n ≤ N) :
    Go p e below (Fini below s n0 Q K N) (T.setTop (mkF m pc Ls (.int z :: rest))) := by
  obtain ⟨locs, X, r1, r2⟩ := H.stand
  exact H.leave hlk (fun q => by rw [hret] at q; cases q) hQ hk hn fun fs hr => retOut X hx hret rfl (Or.inl ⟨rfl, Or.inl rfl, z, rfl⟩) hd hr
theorem own_retN (H : Here p l e R s m args below meth c n0 T h k n) (hx : p.tables.exec = Jvm.exec) (hlk : meth.locks = false) {t : FieldType} (ht : t = .boolean ∨ t = .byte ∨ t = .char ∨ t = .short) (hret : meth.sig.returnType = some t) {pc : Nat} {Ls : Array Slot} {z : Int32} {rest : List Value} (hd : decode c.code pc = .ok (.ireturn, 1)) (hQ : Q (some (.int (nar t z))) h) (hk : k ≤ K) (hn : n ≤ N) :
    Go p e below (Fini below s n0 Q K N) (T.setTop (mkF m pc Ls (.int z :: rest))) := by
  obtain ⟨locs, X, r1, r2⟩ := H.stand
  exact H.leave hlk (fun q => by rw [hret] at q; cases q) hQ hk hn fun fs hr => retN X hx hret ht hd hr
theorem own_retL (H : Here p l e R s m args below meth c n0 T h k n) (hx : p.tables.exec = Jvm.exec) (hlk : meth.locks = false) (hret : meth.sig.returnType = some .long) {pc : Nat} {Ls : Array Slot} {z : Int64} {rest : List Value} (hd : decode c.code pc = .ok (.lreturn, 1)) (hQ : Q (some (.long z)) h) (hk : k ≤ K) (hn : n ≤ N) :
    Go p e below (Fini below s n0 Q K N) (T.setTop (mkF m pc Ls (.long z :: rest))) := by
  obtain ⟨locs, X, r1, r2⟩ := H.stand
  exact H.leave hlk (fun q => by rw [hret] at q; cases q) hQ hk hn fun fs hr => retOut X hx hret rfl (Or.inr (Or.inl ⟨rfl, rfl, z, rfl⟩)) hd hr
theorem own_retA (H : Here p l e R s m args below meth c n0 T h k n) (hx : p.tables.exec = Jvm.exec) (hlk : meth.locks = false) {t : FieldType} (ht : t.isReference = true) (hret : meth.sig.returnType = some t) {pc : Nat} {Ls : Array Slot} {w : Value} {rest : List Value} (hn' : narrow t w = w) (hw : w.isRef = true) (hd : decode c.code pc = .ok (.areturn, 1)) (hQ : Q (some w) h) (hk : k ≤ K) (hn : n ≤ N) :
    Go p e below (Fini below s n0 Q K N) (T.setTop (mkF m pc Ls (w :: rest))) := by
  obtain ⟨locs, X, r1, r2⟩ := H.stand
  exact H.leave hlk (fun q => by rw [hret] at q; cases q) hQ hk hn fun fs hr => retOut X hx hret hn' (Or.inr (Or.inr (Or.inr (Or.inr ⟨rfl, ht, hw⟩)))) hd hr
/-! calls -/
theorem own_callS (H : Here p l e R s m args below meth c n0 T h k n) (hx : p.tables.exec = Jvm.exec) (hZ : Z.Warmed39 s.vm) {own : String} {index : Nat} {y : MethodName} {bytes : ByteArray} {maxL : Nat} {ret : Option FieldType} {rm : Room} {argsL rest : List Value} {Q' : Option Value → Heap → Prop}
    (hown : s.vm.findClass own = some m.cls) (w1 : (Jvm.Cond.methodLink own index y).before a0 Z = true) (w2 : (Jvm.Cond.static y).before a0 Z = true) (w3 : (Jvm.Cond.initialized y.cls).before a0 Z = true) (w4 : (Jvm.Cond.code y bytes maxL ret).before a0 Z = true)
    (hy : y.cls ≠ "java/lang/invoke/MethodHandle" ∧ y.cls ≠ "java/lang/invoke/VarHandle") (hM : CM l Z y bytes maxL ret rm argsL.toArray h n0 Q')
    {g : JFrame} (hg : g.method = m) (hsize : g.locals.size = c.maxLocals) (hlen : ∀ sig, parseMethodDescriptor y.desc = some sig → argsL.length = sig.parameters.length)
    (hstack : g.stack = argsL.reverse ++ rest) (W : Nat) (hW : 2 * g.monitorRoom + (rest.map fun v => v.category).sum ≤ W) (hd : decode c.code g.pc = .ok (.invokestatic index, 3))
    (hf : rm.frames + 1 ≤ R.frames) (hl : W + (maxL + 11) + rm.locals ≤ R.locals) (hc : k + rm.cells ≤ R.cells) (hs : n + rm.slots ≤ R.slots)
    (next : ∀ v T' h', Q' v h' → Here p l e R s m args below meth c n0 T' h' (k + rm.cells) (n + rm.slots) → Go p e below Φ (T'.setTop { g with pc := g.pc + 3, stack := v.toList ++ rest })) :
    Go p e below Φ (T.setTop g) := by
  obtain ⟨locs, X, rfl, F⟩ := H
  obtain ⟨v, _, ⟨T3, L3, k3, n3⟩, -, X3, ⟨Lc3, hQ3, l3, y3, z3⟩, st3⟩ := Jvm.LawKit.callS X hx (y := y) hown (mvT hZ w1) (mvT hZ w2) (mvT hZ w3) (mvT hZ w4) hy (backOf (W := W) (Q := fun v h L => Q' v h ∧ Fr n0 L) (hM []) hZ w4 w3 hf hl) (g := g) hg hsize (argsL := argsL) (rest := rest) hlen hstack hW hd (fun _ _ => ⟨rfl, rfl, hc, hs⟩)
  dsimp only [Pt.U, Pt.locs, Pt.cells, Pt.slots] at X3 l3 y3 z3 st3 hQ3
  subst l3 y3 z3
  exact Go.via st3 (next v T3 T3.heap hQ3.1 ⟨_, X3, rfl, F.app hQ3.2⟩)
theorem own_callI (H : Here p l e R s m args below meth c n0 T h k n) (hx : p.tables.exec = Jvm.exec) (hZ : Z.Warmed39 s.vm) {own : String} {index : Nat} {y : MethodName} {bytes : ByteArray} {maxL : Nat} {rm : Room} {a : Addr} {argsL rest : List Value} {Q' : Option Value → Heap → Prop}
    (hy1 : y.name = "<init>") (hown : s.vm.findClass own = some m.cls) (w1 : (Jvm.Cond.methodLink own index y).before a0 Z = true) (w2 : (Jvm.Cond.instanceMethod y).before a0 Z = true) (w3 : (Jvm.Cond.initialized y.cls).before a0 Z = true) (w4 : (Jvm.Cond.code y bytes maxL none).before a0 Z = true)
    (hy : y.cls ≠ "java/lang/invoke/MethodHandle" ∧ y.cls ≠ "java/lang/invoke/VarHandle") (hM : CM l Z y bytes maxL none rm (Value.ref a :: argsL).toArray h n0 Q')
    {g : JFrame} (hg : g.method = m) (hsize : g.locals.size = c.maxLocals) (hlen : ∀ sig, parseMethodDescriptor y.desc = some sig → argsL.length = sig.parameters.length)
    (hstack : g.stack = argsL.reverse ++ .ref a :: rest) (W : Nat) (hW : 2 * g.monitorRoom + (rest.map fun v => v.category).sum ≤ W) (hd : decode c.code g.pc = .ok (.invokespecial index, 3))
    (hf : rm.frames + 1 ≤ R.frames) (hl : W + (maxL + 11) + rm.locals ≤ R.locals) (hc : k + rm.cells ≤ R.cells) (hs : n + rm.slots ≤ R.slots)
    (next : ∀ v T' h', Q' v h' → Here p l e R s m args below meth c n0 T' h' (k + rm.cells) (n + rm.slots) → Go p e below Φ (T'.setTop { g with pc := g.pc + 3, stack := v.toList ++ rest })) :
    Go p e below Φ (T.setTop g) := by
  obtain ⟨locs, X, rfl, F⟩ := H
  obtain ⟨v, _, ⟨T3, L3, k3, n3⟩, -, X3, ⟨Lc3, hQ3, l3, y3, z3⟩, st3⟩ := X.specialBack hx (y := y) hy1 hown (mvT hZ w1) (mvT hZ w2) (mvT hZ w4) hy (backOf (W := W) (Q := fun v h L => Q' v h ∧ Fr n0 L) (hM []) hZ w4 w3 hf hl) (g := g) hg hsize (Steps.refl _) (a := a) (argsL := argsL) (rest := rest) hlen hstack hW hd (fun _ _ => ⟨rfl, rfl, hc, hs⟩)
  dsimp only [Pt.U, Pt.locs, Pt.cells, Pt.slots] at X3 l3 y3 z3 st3 hQ3
  subst l3 y3 z3
  exact Go.via (fun t q => st3.trans q) (next v T3 T3.heap hQ3.1 ⟨_, X3, rfl, F.app hQ3.2⟩)
theorem own_callV (H : Here p l e R s m args below meth c n0 T h k n) (hx : p.tables.exec = Jvm.exec) (hZ : Z.Warmed39 s.vm) {own C : String} {index : Nat} {y : MethodName} {bytes : ByteArray} {maxL : Nat} {ret : Option FieldType} {rm : Room} {a : Addr} {argsL rest : List Value} {Q' : Option Value → Heap → Prop}
    (hown : s.vm.findClass own = some m.cls) (w1 : (Jvm.Cond.methodLink own index y).before a0 Z = true) (w2 : (Jvm.Cond.declares y).before a0 Z = true) (w3 : (Jvm.Cond.selects C y y).before a0 Z = true) (w4 : (Jvm.Cond.instanceMethod y).before a0 Z = true) (w5 : (Jvm.Cond.initialized y.cls).before a0 Z = true) (w6 : (Jvm.Cond.code y bytes maxL ret).before a0 Z = true)
    (hy : y.cls ≠ "java/lang/invoke/MethodHandle" ∧ y.cls ≠ "java/lang/invoke/VarHandle") (hE : Exa Z h a C) (hM : CM l Z y bytes maxL ret rm (Value.ref a :: argsL).toArray h n0 Q')
    {g : JFrame} (hg : g.method = m) (hsize : g.locals.size = c.maxLocals) (hlen : ∀ sig, parseMethodDescriptor y.desc = some sig → argsL.length = sig.parameters.length)
    (hstack : g.stack = argsL.reverse ++ .ref a :: rest) (W : Nat) (hW : 2 * g.monitorRoom + (rest.map fun v => v.category).sum ≤ W) (hd : decode c.code g.pc = .ok (.invokevirtual index, 3))
    (hf : rm.frames + 1 ≤ R.frames) (hl : W + (maxL + 11) + rm.locals ≤ R.locals) (hc : k + rm.cells ≤ R.cells) (hs : n + rm.slots ≤ R.slots)
    (next : ∀ v T' h', Q' v h' → Here p l e R s m args below meth c n0 T' h' (k + rm.cells) (n + rm.slots) → Go p e below Φ (T'.setTop { g with pc := g.pc + 3, stack := v.toList ++ rest })) :
    Go p e below Φ (T.setTop g) := by
  obtain ⟨locs, X, rfl, F⟩ := H
  obtain ⟨cq, kq, qa, qb, qc⟩ := isOf hZ rfl hE
  obtain ⟨v, _, ⟨T3, L3, k3, n3⟩, -, X3, ⟨Lc3, hQ3, l3, y3, z3⟩, st3⟩ := X.virtualBack hx (y := y) (z := y) hown (mvT hZ w1) (mvT hZ w2) (notFace_of_selects (args := #[]) (mvT hZ w3)) (mvT hZ w3) (mvT hZ w4) hy (backOf (W := W) (Q := fun v h L => Q' v h ∧ Fr n0 L) (hM []) hZ w6 w5 hf hl) qa qc (g := g) hg hsize (Steps.refl _) (argsL := argsL) (rest := rest) hlen hstack hW hd (fun _ _ => ⟨rfl, rfl, hc, hs⟩)
  dsimp only [Pt.U, Pt.locs, Pt.cells, Pt.slots] at X3 l3 y3 z3 st3 hQ3
  subst l3 y3 z3
  exact Go.via (fun t q => st3.trans q) (next v T3 T3.heap hQ3.1 ⟨_, X3, rfl, F.app hQ3.2⟩)
/-! fields, objects -/
theorem own_getF (H : Here p l e R s m args below meth c n0 T h k n) (hx : p.tables.exec = Jvm.exec) (hZ : Z.Warmed39 s.vm) {own O nm d : String} {index : Nat} (hown : s.vm.findClass own = some m.cls) (w : (Jvm.Cond.fieldLink own index O nm d).before a0 Z = true)
    {a : Addr} {v : Value} (F : Fld Z h a O nm d v) {g : JFrame} (hg : g.method = m) {rest : List Value} (hs : g.stack = .ref a :: rest) (hd : decode c.code g.pc = .ok (.getfield index, 3))
    (next : ∀ T', Here p l e R s m args below meth c n0 T' h k n → Go p e below Φ (T'.setTop { g with pc := g.pc + 3, stack := v :: rest })) : Go p e below Φ (T.setTop g) := by
  obtain ⟨locs, X, r1, r2⟩ := H.stand
  obtain ⟨T', X', e', st⟩ := getF X hx hZ hown (host := "") (Or.inl w) Via.refl r1 F hg hs hd
  exact Go.via st (next T' ⟨_, X', e', r2⟩)
theorem own_putF (H : Here p l e R s m args below meth c n0 T h k n) (hx : p.tables.exec = Jvm.exec) (hZ : Z.Warmed39 s.vm) {own O nm d C : String} {index kk : Nat} {ty : FieldType} (hown : s.vm.findClass own = some m.cls) (w : (Jvm.Cond.fieldLink own index O nm d).before a0 Z = true)
    {a : Addr} {v old : Value} (F : Fld Z h a O nm d old) (E : Exa Z h a C) (L : (Jvm.Cond.lays C O nm d).before a0 Z = true ∨ ((Jvm.Cond.laysFinal C O nm d).before a0 Z = true ∧ own = O ∧ meth.name = "<init>")) (wi : (Jvm.Cond.instantiable C kk).before a0 Z = true) (ha : n0 ≤ a)
    (hty : parseFieldDescriptor d = some ty) (hn : narrow ty v = v) (hf : fits ty v = true) {g : JFrame} (hg : g.method = m) {rest : List Value} (hs : g.stack = v :: .ref a :: rest) (hd : decode c.code g.pc = .ok (.putfield index, 3))
    (next : ∀ T' h', Wr h h' a (Jvm.RoadKit.slotOf Z O nm d) v → Here p l e R s m args below meth c n0 T' h' k n → Go p e below Φ (T'.setTop { g with pc := g.pc + 3, stack := rest })) : Go p e below Φ (T.setTop g) := by
  obtain ⟨locs, X, r1, r2⟩ := H.stand
  obtain ⟨T', h', X', e', W, st⟩ := putF X hx hZ hown (host := "") (Or.inl w) Via.refl r1 F E L wi hty hn hf hg hs hd
  exact Go.via st (next T' h' W ⟨_, X', e', Fr.snoc X' r2 ha⟩)
theorem own_putFN (H : Here p l e R s m args below meth c n0 T h k n) (hx : p.tables.exec = Jvm.exec) (hZ : Z.Warmed39 s.vm) {own O nm d C : String} {index kk : Nat} {ty : FieldType} (hown : s.vm.findClass own = some m.cls) (w : (Jvm.Cond.fieldLink own index O nm d).before a0 Z = true)
    {a : Addr} {v v' old : Value} (F : Fld Z h a O nm d old) (E : Exa Z h a C) (L : (Jvm.Cond.lays C O nm d).before a0 Z = true ∨ ((Jvm.Cond.laysFinal C O nm d).before a0 Z = true ∧ own = O ∧ meth.name = "<init>")) (wi : (Jvm.Cond.instantiable C kk).before a0 Z = true) (ha : n0 ≤ a)
    (hty : parseFieldDescriptor d = some ty) (hn : narrow ty v = v') (hf : fits ty v' = true) {g : JFrame} (hg : g.method = m) {rest : List Value} (hs : g.stack = v :: .ref a :: rest) (hd : decode c.code g.pc = .ok (.putfield index, 3))
    (next : ∀ T' h', Wr h h' a (Jvm.RoadKit.slotOf Z O nm d) v' → Here p l e R s m args below meth c n0 T' h' k n → Go p e below Φ (T'.setTop { g with pc := g.pc + 3, stack := rest })) : Go p e below Φ (T.setTop g) := by
  obtain ⟨locs, X, r1, r2⟩ := H.stand
  obtain ⟨T', h', X', e', W, st⟩ := putFN X hx hZ hown w Via.refl r1 F E L wi hty hn hf hg hs hd
  exact Go.via st (next T' h' W ⟨_, X', e', Fr.snoc X' r2 ha⟩)
theorem own_newO (H : Here p l e R s m args below meth c n0 T h k n) (hx : p.tables.exec = Jvm.exec) (hZ : Z.Warmed39 s.vm) {own C : String} {index sl : Nat} (hown : s.vm.findClass own = some m.cls) (w : (Jvm.Cond.classLink own index C).before a0 Z = true) (wi : (Jvm.Cond.instantiable C sl).before a0 Z = true) (wz : (Jvm.Cond.initialized C).before a0 Z = true)
    {g : JFrame} (hg : g.method = m) (hd : decode c.code g.pc = .ok (.new index, 3)) (hc : k + 1 ≤ R.cells) (hl : n + sl ≤ R.slots)
    (next : ∀ T' h' a, a = h.size → Ext h h' → Exa Z h' a C → (∀ {O nm d : String} {ty : FieldType}, Laid Z a0 C O nm d → parseFieldDescriptor d = some ty → Fld Z h' a O nm d (defaultValue ty)) → Here p l e R s m args below meth c n0 T' h' (k + 1) (n + sl) → Go p e below Φ (T'.setTop { g with pc := g.pc + 3, stack := .ref a :: g.stack })) : Go p e below Φ (T.setTop g) := by
  obtain ⟨locs, X, r1, r2⟩ := H.stand
  obtain ⟨T', h', X', e', E, A, D, -, st⟩ := newO X hx hZ hown w wi wz r1 hg hd hc hl
  exact Go.via st (next T' h' _ rfl E A D ⟨_, X', e', r2⟩)
/-! arrays -/
theorem own_newP (H : Here p l e R s m args below meth c n0 T h k n) (hx : p.tables.exec = Jvm.exec) (hZ : Z.Warmed39 s.vm) {aty : ArrayType} (w : (Jvm.Cond.arrayClass (newarray.typeOf aty)).before a0 Z = true) {g : JFrame} (hg : g.method = m) (hd : decode c.code g.pc = .ok (.newarray aty, 2)) {z : Int32} {rest : List Value} (hs : g.stack = .int z :: rest)
    (hn : ¬ z < 0) (cap : Nat) (hcap : z.toNatClampNeg ≤ cap) (hb : cap * 8 ≤ 536870912) (hc : k + 1 ≤ R.cells) (hl : n + cap ≤ R.slots)
    (next : ∀ T' h' a cA, a = h.size → Ext h h' → Arr Z h' a (newA cA (newarray.typeOf aty) z) (newarray.typeOf aty) → Here p l e R s m args below meth c n0 T' h' (k + 1) (n + cap) → Go p e below Φ (T'.setTop { g with pc := g.pc + 2, stack := .ref a :: rest })) : Go p e below Φ (T.setTop g) := by
  obtain ⟨locs, X, r1, r2⟩ := H.stand
  obtain ⟨T', h', cA, X', e', E, A, st⟩ := newP X hx hZ w r1 hg hd hs hn hcap hb hc hl
  exact Go.via st (next T' h' _ cA rfl E A ⟨_, X', e', r2⟩)
theorem own_stI (H : Here p l e R s m args below meth c n0 T h k n) (hx : p.tables.exec = Jvm.exec) (hZ : Z.Warmed39 s.vm) {a : Addr} {cl : Cell} (A : Arr Z h a cl .int) {j x : Int32} (hj : ¬ (j < 0 ∨ cl.slots.size ≤ j.toNatClampNeg)) (ha : n0 ≤ a) {g : JFrame} (hg : g.method = m) {rest : List Value} (hs : g.stack = .int x :: .int j :: .ref a :: rest) (hd : decode c.code g.pc = .ok (.iastore, 1))
    (next : ∀ T' h', Wr h h' a j.toNatClampNeg (.int x) → Here p l e R s m args below meth c n0 T' h' k n → Go p e below Φ (T'.setTop { g with pc := g.pc + 1, stack := rest })) : Go p e below Φ (T.setTop g) := by
  obtain ⟨locs, X, r1, r2⟩ := H.stand
  obtain ⟨T', h', X', e', W, st⟩ := stI X hx hZ r1 A hj hg hs hd
  exact Go.via st (next T' h' W ⟨_, X', e', Fr.snoc X' r2 ha⟩)
theorem own_stB (H : Here p l e R s m args below meth c n0 T h k n) (hx : p.tables.exec = Jvm.exec) (hZ : Z.Warmed39 s.vm) {a : Addr} {cl : Cell} (A : Arr Z h a cl .byte) {j x : Int32} (hj : ¬ (j < 0 ∨ cl.slots.size ≤ j.toNatClampNeg)) (ha : n0 ≤ a) {g : JFrame} (hg : g.method = m) {rest : List Value} (hs : g.stack = .int x :: .int j :: .ref a :: rest) (hd : decode c.code g.pc = .ok (.bastore, 1))
    (next : ∀ T' h', Wr h h' a j.toNatClampNeg (.int (nar .byte x)) → Here p l e R s m args below meth c n0 T' h' k n → Go p e below Φ (T'.setTop { g with pc := g.pc + 1, stack := rest })) : Go p e below Φ (T.setTop g) := by
  obtain ⟨locs, X, r1, r2⟩ := H.stand
  obtain ⟨T', h', X', e', W, st⟩ := stB X hx hZ r1 A hj hg hs hd
  exact Go.via st (next T' h' W ⟨_, X', e', Fr.snoc X' r2 ha⟩)
theorem own_len (H : Here p l e R s m args below meth c n0 T h k n) (hx : p.tables.exec = Jvm.exec) (hZ : Z.Warmed39 s.vm) {a : Addr} {cl : Cell} {ty : FieldType} (A : Arr Z h a cl ty) {g : JFrame} (hg : g.method = m) {rest : List Value} (hs : g.stack = .ref a :: rest) (hd : decode c.code g.pc = .ok (.arraylength, 1))
    (next : Go p e below Φ (T.setTop { g with pc := g.pc + 1, stack := .int cl.slots.size.toInt32 :: rest })) : Go p e below Φ (T.setTop g) := by
  obtain ⟨locs, X, r1, r2⟩ := H.stand
  exact Go.via (fun t q => X.arraylength hx (by rw [r1]; exact A.1) (State.isArrayOf_alike hZ.alike A.2.1) hg hs hd t q) next
theorem own_ldI (H : Here p l e R s m args below meth c n0 T h k n) (hx : p.tables.exec = Jvm.exec) (hZ : Z.Warmed39 s.vm) {a : Addr} {cl : Cell} (A : Arr Z h a cl .int) {j : Int32} {v : Value} (hj : ¬ (j < 0 ∨ cl.slots.size ≤ j.toNatClampNeg)) (hv : cl.slots[j.toNatClampNeg]? = some v) {g : JFrame} (hg : g.method = m) {rest : List Value} (hs : g.stack = .int j :: .ref a :: rest) (hd : decode c.code g.pc = .ok (.iaload, 1))
    (next : Go p e below Φ (T.setTop { g with pc := g.pc + 1, stack := v :: rest })) : Go p e below Φ (T.setTop g) := by
  obtain ⟨locs, X, r1, r2⟩ := H.stand
  exact Go.via (fun t q => X.iaload hx (by rw [r1]; exact A.1) (State.isArrayOf_alike hZ.alike A.2.1) A.2.2 hj hv hg hs hd t q) next
theorem own_ldB (H : Here p l e R s m args below meth c n0 T h k n) (hx : p.tables.exec = Jvm.exec) (hZ : Z.Warmed39 s.vm) {a : Addr} {cl : Cell} (A : Arr Z h a cl .byte) {j : Int32} {v : Value} (hj : ¬ (j < 0 ∨ cl.slots.size ≤ j.toNatClampNeg)) (hv : cl.slots[j.toNatClampNeg]? = some v) {g : JFrame} (hg : g.method = m) {rest : List Value} (hs : g.stack = .int j :: .ref a :: rest) (hd : decode c.code g.pc = .ok (.baload, 1))
    (next : Go p e below Φ (T.setTop { g with pc := g.pc + 1, stack := v :: rest })) : Go p e below Φ (T.setTop g) := by
  obtain ⟨locs, X, r1, r2⟩ := H.stand
  exact Go.via (fun t q => X.baloadBytes hx (by rw [r1]; exact A.1) (State.isArrayOf_alike hZ.alike A.2.1) A.2.2 hj hv hg hs hd t q) next
/-! arrays of ints by a function of the place -/
def upd (B : Nat → Int32) (j : Nat) (v : Int32) : Nat → Int32 := fun i => if i = j then v else B i
theorem upd_hit {B : Nat → Int32} {j : Nat} {v : Int32} : upd B j v j = v := if_pos rfl
theorem upd_miss {B : Nat → Int32} {i j : Nat} {v : Int32} (q : i ≠ j) : upd B j v i = B i := if_neg q
def Ab (Z : State) (h : Heap) (a : Addr) (ty : FieldType) (n : Nat) (B : Nat → Int32) : Prop := ∃ c : Cell, Arr Z h a c ty ∧ c.slots.size = n ∧ ∀ i, i < n → c.slots[i]? = some (.int (B i))
theorem Ab.lt {a : Addr} {ty : FieldType} {B : Nat → Int32} (F : Ab Z h a ty n B) : a < h.size := by obtain ⟨c, A, -⟩ := F; exact A.lt
theorem Ab.ext {h' : Heap} {a : Addr} {ty : FieldType} {B : Nat → Int32} (F : Ab Z h a ty n B) (E : Ext h h') : Ab Z h' a ty n B := by obtain ⟨c, A, r⟩ := F; exact ⟨c, A.ext E, r⟩
theorem Ab.other {h' : Heap} {a b : Addr} {sl : Nat} {v : Value} {ty : FieldType} {B : Nat → Int32} (F : Ab Z h b ty n B) (W : Wr h h' a sl v) (q : b ≠ a) : Ab Z h' b ty n B := by obtain ⟨c, A, r⟩ := F; exact ⟨c, A.other W q, r⟩
theorem Ab.keep {h' : Heap} {a : Addr} {ws : List Addr} {ty : FieldType} {B : Nat → Int32} (F : Ab Z h a ty n B) (Kp : Keep h h' ws) (q : a ∉ ws) : Ab Z h' a ty n B := by obtain ⟨c, A, r⟩ := F; exact ⟨c, ⟨Kp.2.1 a c A.1 q, A.2⟩, r⟩
theorem Ab.set {h' : Heap} {a : Addr} {j : Nat} {v : Int32} {ty : FieldType} {B : Nat → Int32} (F : Ab Z h a ty n B) (W : Wr h h' a j (.int v)) : Ab Z h' a ty n (upd B j v) := by
  obtain ⟨c, A, S, G⟩ := F
  obtain ⟨c', q1, -, -, q4, -, q6, q7⟩ := wr_at W A.1
  obtain ⟨rfl, q8, -⟩ := q7 rfl
  refine ⟨_, A.same W, q4.trans S, fun i hi => ?_⟩
  by_cases q : i = j
  · subst q; rw [q8, upd_hit]
  · rw [q6 i q, G i hi, upd_miss q]
theorem Ab.new {a : Addr} {ty : FieldType} {kk : ClassId} {z : Int32} (A : Arr Z h a (newA kk ty z) ty) (hz : z.toNatClampNeg = n) (hd : defaultValue ty = .int 0) : Ab Z h a ty n (fun _ => 0) := by
  refine ⟨_, A, (sz_new _ _ _).trans hz, fun i hi => ?_⟩
  have hz' : z.toNatClampNeg < 2 ^ 31 := by
    by_cases q : z < 0
    · have : z.toNatClampNeg ≤ 0 := by rw [Int32.lt_iff_toInt_lt] at q; have e0 : (0 : Int32).toInt = 0 := rfl; have : z.toNatClampNeg = z.toInt.toNat := rfl; omega
      omega
    · exact (back32 q).2
  have e1 : i.toInt32.toNatClampNeg = i := by
    have q := idx_in (i := i) (n := i + 1) (Nat.lt_succ_self i) (by omega)
    have q2 : i.toInt32.toInt = i := len_toInt (by omega)
    have := nat_of (j := i.toInt32) (fun z => q (Or.inl z))
    omega
  have q0 : ¬ (i.toInt32 < 0 ∨ z.toNatClampNeg ≤ i.toInt32.toNatClampNeg) := by
    rw [hz, e1]
    intro q
    rcases q with q | q
    · have q3 : i.toInt32.toInt = i := len_toInt (by omega)
      rw [Int32.lt_iff_toInt_lt, q3] at q
      have e0 : (0 : Int32).toInt = 0 := rfl
      omega
    · omega
  have g := get_new (cA := kk) (ty := ty) (n := z) (k := i.toInt32) q0
  rw [e1] at g
  rw [g, hd]
theorem own_idx {J : Int32} {j : Nat} (e : J.toInt = (j : Int)) : ¬ J < 0 ∧ J.toNatClampNeg = j := by
  have h0 : ¬ J < 0 := by rw [Int32.lt_iff_toInt_lt]; have e0 : (0 : Int32).toInt = 0 := rfl; omega
  have := nat_of h0
  exact ⟨h0, by omega⟩
theorem own_in {c : Cell} {J : Int32} {j N' : Nat} (e : J.toInt = (j : Int)) (S : c.slots.size = N') (hj : j < N') : ¬ (J < 0 ∨ c.slots.size ≤ J.toNatClampNeg) := by
  obtain ⟨q1, q2⟩ := own_idx e
  rw [q2, S]; intro q; rcases q with q | q
  · exact q1 q
  · omega
theorem own_newA (H : Here p l e R s m args below meth c n0 T h k n) (hx : p.tables.exec = Jvm.exec) (hZ : Z.Warmed39 s.vm) {aty : ArrayType} (w : (Jvm.Cond.arrayClass (newarray.typeOf aty)).before a0 Z = true) {g : JFrame} (hg : g.method = m) (hd : decode c.code g.pc = .ok (.newarray aty, 2)) {z : Int32} {rest : List Value} (hs : g.stack = .int z :: rest)
    (hn : ¬ z < 0) (N' : Nat) (hz : z.toNatClampNeg = N') (hdv : defaultValue (newarray.typeOf aty) = .int 0) (cap : Nat) (hcap : N' ≤ cap) (hb : cap * 8 ≤ 536870912) (hc : k + 1 ≤ R.cells) (hl : n + cap ≤ R.slots)
    (next : ∀ T' h' a, a = h.size → Ext h h' → Ab Z h' a (newarray.typeOf aty) N' (fun _ => 0) → Here p l e R s m args below meth c n0 T' h' (k + 1) (n + cap) → Go p e below Φ (T'.setTop { g with pc := g.pc + 2, stack := .ref a :: rest })) : Go p e below Φ (T.setTop g) :=
  own_newP H hx hZ w hg hd hs hn cap (by rw [hz]; exact hcap) hb hc hl fun T' h' a cA q1 q2 q3 q4 => next T' h' a q1 q2 (Ab.new q3 hz hdv) q4
theorem own_stIA (H : Here p l e R s m args below meth c n0 T h k n) (hx : p.tables.exec = Jvm.exec) (hZ : Z.Warmed39 s.vm) {a : Addr} {N' : Nat} {B : Nat → Int32} (A : Ab Z h a .int N' B) {J x : Int32} {j : Nat} (ej : J.toInt = (j : Int)) (hj : j < N') (ha : n0 ≤ a) {g : JFrame} (hg : g.method = m) {rest : List Value} (hs : g.stack = .int x :: .int J :: .ref a :: rest) (hd : decode c.code g.pc = .ok (.iastore, 1))
    (next : ∀ T' h', Wr h h' a j (.int x) → Ab Z h' a .int N' (upd B j x) → Here p l e R s m args below meth c n0 T' h' k n → Go p e below Φ (T'.setTop { g with pc := g.pc + 1, stack := rest })) : Go p e below Φ (T.setTop g) := by
  have A' := A
  obtain ⟨cl, A0, S, G⟩ := A
  refine own_stI H hx hZ A0 (own_in ej S hj) ha hg hs hd fun T' h' W H' => ?_
  rw [(own_idx ej).2] at W
  exact next T' h' W (A'.set W) H'
theorem own_stBA (H : Here p l e R s m args below meth c n0 T h k n) (hx : p.tables.exec = Jvm.exec) (hZ : Z.Warmed39 s.vm) {a : Addr} {N' : Nat} {B : Nat → Int32} (A : Ab Z h a .byte N' B) {J x : Int32} {j : Nat} (ej : J.toInt = (j : Int)) (hj : j < N') (ha : n0 ≤ a) {g : JFrame} (hg : g.method = m) {rest : List Value} (hs : g.stack = .int x :: .int J :: .ref a :: rest) (hd : decode c.code g.pc = .ok (.bastore, 1))
    (next : ∀ T' h', Wr h h' a j (.int (nar .byte x)) → Ab Z h' a .byte N' (upd B j (nar .byte x)) → Here p l e R s m args below meth c n0 T' h' k n → Go p e below Φ (T'.setTop { g with pc := g.pc + 1, stack := rest })) : Go p e below Φ (T.setTop g) := by
  have A' := A
  obtain ⟨cl, A0, S, G⟩ := A
  refine own_stB H hx hZ A0 (own_in ej S hj) ha hg hs hd fun T' h' W H' => ?_
  rw [(own_idx ej).2] at W
  exact next T' h' W (A'.set W) H'
theorem own_ldIA (H : Here p l e R s m args below meth c n0 T h k n) (hx : p.tables.exec = Jvm.exec) (hZ : Z.Warmed39 s.vm) {a : Addr} {N' : Nat} {B : Nat → Int32} (A : Ab Z h a .int N' B) {J : Int32} {j : Nat} (ej : J.toInt = (j : Int)) (hj : j < N') {g : JFrame} (hg : g.method = m) {rest : List Value} (hs : g.stack = .int J :: .ref a :: rest) (hd : decode c.code g.pc = .ok (.iaload, 1))
    (next : Go p e below Φ (T.setTop { g with pc := g.pc + 1, stack := .int (B j) :: rest })) : Go p e below Φ (T.setTop g) := by
  obtain ⟨cl, A0, S, G⟩ := A
  exact own_ldI H hx hZ A0 (own_in ej S hj) (by rw [(own_idx ej).2]; exact G j hj) hg hs hd next
theorem own_ldBA (H : Here p l e R s m args below meth c n0 T h k n) (hx : p.tables.exec = Jvm.exec) (hZ : Z.Warmed39 s.vm) {a : Addr} {N' : Nat} {B : Nat → Int32} (A : Ab Z h a .byte N' B) {J : Int32} {j : Nat} (ej : J.toInt = (j : Int)) (hj : j < N') {g : JFrame} (hg : g.method = m) {rest : List Value} (hs : g.stack = .int J :: .ref a :: rest) (hd : decode c.code g.pc = .ok (.baload, 1))
    (next : Go p e below Φ (T.setTop { g with pc := g.pc + 1, stack := .int (B j) :: rest })) : Go p e below Φ (T.setTop g) := by
  obtain ⟨cl, A0, S, G⟩ := A
  exact own_ldB H hx hZ A0 (own_in ej S hj) (by rw [(own_idx ej).2]; exact G j hj) hg hs hd next
theorem own_lenA (H : Here p l e R s m args below meth c n0 T h k n) (hx : p.tables.exec = Jvm.exec) (hZ : Z.Warmed39 s.vm) {a : Addr} {N' : Nat} {B : Nat → Int32} {ty : FieldType} (A : Ab Z h a ty N' B) {z : Int32} (hz : N'.toInt32 = z) {g : JFrame} (hg : g.method = m) {rest : List Value} (hs : g.stack = .ref a :: rest) (hd : decode c.code g.pc = .ok (.arraylength, 1))
    (next : Go p e below Φ (T.setTop { g with pc := g.pc + 1, stack := .int z :: rest })) : Go p e below Φ (T.setTop g) := by
  obtain ⟨cl, A0, S, G⟩ := A
  subst S; subst hz
  exact own_len H hx hZ A0 hg hs hd next
/-! instanceof, checkcast, statics, references in arrays -/
theorem own_instY (H : Here p l e R s m args below meth c n0 T h k n) (hx : p.tables.exec = Jvm.exec) (hZ : Z.Warmed39 s.vm) {own C : String} {index : Nat} (hown : s.vm.findClass own = some m.cls) (w : (Jvm.Cond.classLink own index C).before a0 Z = true) {a : Addr} (F : Ins Z h a C true)
    {g : JFrame} (hg : g.method = m) {rest : List Value} (hs : g.stack = .ref a :: rest) (hd : decode c.code g.pc = .ok (.instanceof index, 3))
    (next : ∀ T', Here p l e R s m args below meth c n0 T' h k n → Go p e below Φ (T'.setTop { g with pc := g.pc + 3, stack := .int 1 :: rest })) : Go p e below Φ (T.setTop g) := by
  obtain ⟨locs, X, r1, r2⟩ := H.stand
  obtain ⟨T', X', e', st⟩ := instY X hx hZ hown w r1 F hg hs hd
  exact Go.via st (next T' ⟨_, X', e', r2⟩)
theorem own_instNo (H : Here p l e R s m args below meth c n0 T h k n) (hx : p.tables.exec = Jvm.exec) (hZ : Z.Warmed39 s.vm) {own C D : String} {index : Nat} (hown : s.vm.findClass own = some m.cls) (w : (Jvm.Cond.classLink own index C).before a0 Z = true) {a : Addr} (E : Exa Z h a D) (F : ∃ c t, Z.vm.findClass D = some c ∧ Z.vm.findClass C = some t ∧ Z.vm.assignable c t = false)
    {g : JFrame} (hg : g.method = m) {rest : List Value} (hs : g.stack = .ref a :: rest) (hd : decode c.code g.pc = .ok (.instanceof index, 3))
    (next : ∀ T', Here p l e R s m args below meth c n0 T' h k n → Go p e below Φ (T'.setTop { g with pc := g.pc + 3, stack := .int 0 :: rest })) : Go p e below Φ (T.setTop g) := by
  obtain ⟨locs, X, r1, r2⟩ := H.stand
  obtain ⟨T', X', e', st⟩ := instNo X hx hZ hown w r1 E F hg hs hd
  exact Go.via st (next T' ⟨_, X', e', r2⟩)
theorem own_instNull (H : Here p l e R s m args below meth c n0 T h k n) (hx : p.tables.exec = Jvm.exec) {index : Nat} {g : JFrame} (hg : g.method = m) {rest : List Value} (hs : g.stack = .null :: rest) (hd : decode c.code g.pc = .ok (.instanceof index, 3))
    (next : Go p e below Φ (T.setTop { g with pc := g.pc + 3, stack := .int 0 :: rest })) : Go p e below Φ (T.setTop g) := by
  obtain ⟨locs, X, r1, r2⟩ := H.stand
  exact Go.via (X.instanceofNull hx hg hs hd) next
theorem own_castY (H : Here p l e R s m args below meth c n0 T h k n) (hx : p.tables.exec = Jvm.exec) (hZ : Z.Warmed39 s.vm) {own C : String} {index : Nat} (hown : s.vm.findClass own = some m.cls) (w : (Jvm.Cond.classLink own index C).before a0 Z = true) {a : Addr} (F : Ins Z h a C true)
    {g : JFrame} (hg : g.method = m) {rest : List Value} (hs : g.stack = .ref a :: rest) (hd : decode c.code g.pc = .ok (.checkcast index, 3))
    (next : ∀ T', Here p l e R s m args below meth c n0 T' h k n → Go p e below Φ (T'.setTop { g with pc := g.pc + 3 })) : Go p e below Φ (T.setTop g) := by
  obtain ⟨locs, X, r1, r2⟩ := H.stand
  obtain ⟨T', X', e', st⟩ := castY X hx hZ hown w r1 F hg hs hd
  exact Go.via st (next T' ⟨_, X', e', r2⟩)
theorem own_getS (H : Here p l e R s m args below meth c n0 T h k n) (hx : p.tables.exec = Jvm.exec) (hZ : Z.Warmed39 s.vm) {own O nm d : String} {index : Nat} (hown : s.vm.findClass own = some m.cls) (w : (Jvm.Cond.fieldLink own index O nm d).before a0 Z = true) {v : Value} (F : Sta Z h O nm d v)
    {g : JFrame} (hg : g.method = m) (hd : decode c.code g.pc = .ok (.getstatic index, 3))
    (next : ∀ T', Here p l e R s m args below meth c n0 T' h k n → Go p e below Φ (T'.setTop { g with pc := g.pc + 3, stack := v :: g.stack })) : Go p e below Φ (T.setTop g) := by
  obtain ⟨locs, X, r1, r2⟩ := H.stand
  obtain ⟨T', X', e', st⟩ := getS (host := "") X hx hZ hown w Via.refl r1 F hg hd
  exact Go.via st (next T' ⟨_, X', e', r2⟩)
theorem own_ldR (H : Here p l e R s m args below meth c n0 T h k n) (hx : p.tables.exec = Jvm.exec) (hZ : Z.Warmed39 s.vm) {a : Addr} {cl : Cell} {ty : FieldType} (A : Arr Z h a cl ty) (hty : ty.isReference = true) {J : Int32} {j : Nat} {v : Value} (ej : J.toInt = (j : Int)) (hj : j < cl.slots.size) (hv : cl.slots[j]? = some v) {g : JFrame} (hg : g.method = m) {rest : List Value} (hs : g.stack = .int J :: .ref a :: rest) (hd : decode c.code g.pc = .ok (.aaload, 1))
    (next : Go p e below Φ (T.setTop { g with pc := g.pc + 1, stack := v :: rest })) : Go p e below Φ (T.setTop g) := by
  obtain ⟨locs, X, r1, r2⟩ := H.stand
  exact Go.via (fun t q => X.aaload hx (by rw [r1]; exact A.1) (State.isArrayOf_alike hZ.alike A.2.1) hty A.2.2 (own_in ej rfl hj) (by rw [(own_idx ej).2]; exact hv) hg hs hd t q) next
/-! constants -/
theorem own_ldcI (H : Here p l e R s m args below meth c n0 T h k n) (hx : p.tables.exec = Jvm.exec) (hZ : Z.Warmed39 s.vm) {own : String} {index : Nat} {v : Int32} (hown : s.vm.findClass own = some m.cls) (w : (Jvm.Cond.constant own index v).before a0 Z = true) {g : JFrame} (hg : g.method = m) (hd : decode c.code g.pc = .ok (.ldc index, 2))
    (next : Go p e below Φ (T.setTop { g with pc := g.pc + 2, stack := .int v :: g.stack })) : Go p e below Φ (T.setTop g) := by
  obtain ⟨locs, X, r1, r2⟩ := H.stand
  exact Go.via (X.ldcInt hx hown (mvT hZ w) hg hd) next
theorem own_ldcL (H : Here p l e R s m args below meth c n0 T h k n) (hx : p.tables.exec = Jvm.exec) (hZ : Z.Warmed39 s.vm) {own : String} {index : Nat} {v : Int64} (hown : s.vm.findClass own = some m.cls) (w : (Jvm.Cond.constantLong own index v).before a0 Z = true) {g : JFrame} (hg : g.method = m) (hd : decode c.code g.pc = .ok (.ldc2_w index, 3))
    (next : Go p e below Φ (T.setTop { g with pc := g.pc + 3, stack := .long v :: g.stack })) : Go p e below Φ (T.setTop g) := by
  obtain ⟨locs, X, r1, r2⟩ := H.stand
  exact Go.via (X.ldc2Long hx hown (mvT hZ w) hg hd) next
/-! comparisons of longs -/
theorem own_llt {x y : Int64} (q : x < y) : ifCond.holds .lt (lcmpW x y) = true ∧ ifCond.holds .ge (lcmpW x y) = false := by
  have := (lw_lt x y).mpr q; rw [if0, if0]; exact ⟨(tlt this).1, (tlt this).2.1⟩
theorem own_nlt {x y : Int64} (q : ¬ x < y) : ifCond.holds .lt (lcmpW x y) = false ∧ ifCond.holds .ge (lcmpW x y) = true := by
  have : ¬ lcmpW x y < 0 := fun z => q ((lw_lt x y).mp z); rw [if0, if0]; exact ⟨(flt this).1, (flt this).2.1⟩
theorem own_lgt {x y : Int64} (q : y < x) : ifCond.holds .gt (lcmpW x y) = true ∧ ifCond.holds .le (lcmpW x y) = false := by
  have := (lw_gt x y).mpr q; rw [if0, if0]; exact ⟨(tlt this).2.2.1, (tlt this).2.2.2⟩
theorem own_ngt {x y : Int64} (q : ¬ y < x) : ifCond.holds .gt (lcmpW x y) = false ∧ ifCond.holds .le (lcmpW x y) = true := by
  have : ¬ 0 < lcmpW x y := fun z => q ((lw_gt x y).mp z); rw [if0, if0]; exact ⟨(flt this).2.2.1, (flt this).2.2.2⟩
theorem own_leq {x y : Int64} (q : x = y) : ifCond.holds .eq (lcmpW x y) = true ∧ ifCond.holds .ne (lcmpW x y) = false := by
  have := (lw_eq x y).mpr q; rw [if0, if0]; exact ⟨(teq this).1, (teq this).2⟩
theorem own_neq {x y : Int64} (q : ¬ x = y) : ifCond.holds .eq (lcmpW x y) = false ∧ ifCond.holds .ne (lcmpW x y) = true := by
  have : ¬ lcmpW x y = 0 := fun z => q ((lw_eq x y).mp z); rw [if0, if0]; exact ⟨(feq this).1, (feq this).2⟩
end Own
/-! LITERALS: a walk that may intern. The Stand is over the start with re-based tables; Lb keeps the books. -/
def FiniW (below : List Frame) (s : State) (n0 : Nat) (Q : Option Value → Heap → Prop) (K N : Nat) (t : State) (o : Outcome) : Prop :=
  t.status = .running ∧ Ended t below o ∧ ∃ v L, o = .returned v ∧ (Q v t.heap ∧ Fr n0 L) ∧ ReturnedEndW s o t L K N
def Lb (Z s : State) (vm0 : Vm) (h : Heap) (Ts : List String) : Prop := (∃ k0, s.Since vm0 k0 ∧ k0 ≤ h.size) ∧ IB Z vm0 Ts
section OwnS
variable {p : Program} {l : Launch} {e : Env} {R : Room} {s : State} {m : MethodId} {args : Array Value} {below : List Frame} {meth : Method} {c : Code} {T : State} {h : Heap} {k n n0 K N : Nat} {Q : Option Value → Heap → Prop} {Z : State} {a0 : Array Value} {Φ : State → Outcome → Prop} {vm0 : Vm} {Ts : List String}
theorem Lb.grow {h' : Heap} (B : Lb Z s vm0 h Ts) (q : h.size ≤ h'.size) : Lb Z s vm0 h' Ts := by
  obtain ⟨⟨k0, b1, b2⟩, b3⟩ := B; exact ⟨⟨k0, b1, Nat.le_trans b2 q⟩, b3⟩
theorem own_enterW {y : MethodName} {code : ByteArray} {maxL : Nat} {ret : Option FieldType} {as : Array Value} {h0 : Heap} {ws : List Jvm.Cond} (hpl : plainFor y = true) (hn0 : n0 = Z.heap.size) (hh0 : h0 = Z.heap)
    (body : ∀ (p : Program) (e : Env) (m : MethodId) (below : List Frame) (meth : Method) (c : Code) (T : State), p.tables.exec = Jvm.exec → c.code = code → c.maxLocals = maxL → (Z.setVm Z.vm).vm.findClass y.cls = some m.cls → meth.name = y.name → Z.Warmed39 (Z.setVm Z.vm).vm → meth.sig.returnType = ret → meth.locks = false → Here p l e R (Z.setVm Z.vm) m as below meth c n0 T h0 0 0 → Lb Z Z Z.vm h0 [] → Go p e below (FiniW below Z n0 Q R.cells R.slots) (T.setTop (entryFrame m as maxL))) :
    MetFree l y (head1 (Jvm.Cond.code y code maxL ret :: ws) R) (fun a U => a = as ∧ U = Z) (fun _ _ _ _ _ => True) (fun _ U o U' => ∃ v L, o = .returned v ∧ (Q v U'.heap ∧ Fr n0 L) ∧ ReturnedEndW U o U' L R.cells R.slots) := by
  refine MetFree.of_bodySF hpl hisR ?_
  intro p e s m args below meth c s₁ Bd hml0 hP hK
  obtain ⟨rfl, rfl⟩ := hP
  subst hn0 hh0
  exact body p e m below meth c s₁ Bd.exec Bd.bytes hml0 (findClass_of_methodNamed Bd.named) (name_of_methodNamed Bd.named Bd.method).1 (State.Warmed39.refl _) Bd.returns Bd.notSynchronized ⟨[], Stand.of_body Bd, by rw [Bd.state]; rfl, Fr.nil _⟩ ⟨⟨_, (State.WarmedH.refl _).since _, Nat.le_refl _⟩, IB.start⟩
theorem own_retNW (H : Here p l e R (s.setVm vm0) m args below meth c n0 T h k n) (LB : Lb Z s vm0 h Ts) (hx : p.tables.exec = Jvm.exec) (hlk : meth.locks = false) {t : FieldType} (ht : t = .boolean ∨ t = .byte ∨ t = .char ∨ t = .short) (hret : meth.sig.returnType = some t) {pc : Nat} {Ls : Array Slot} {z : Int32} {rest : List Value} (hd : decode c.code pc = .ok (.ireturn, 1)) (hQ : Q (some (.int (nar t z))) h) (hk : k ≤ K) (hn : n ≤ N) :
    Go p e below (FiniW below s n0 Q K N) (T.setTop (mkF m pc Ls (.int z :: rest))) := by
  obtain ⟨locs, X, rfl, F0⟩ := H
  obtain ⟨⟨k0, b1, b2⟩, b3⟩ := LB
  obtain ⟨fs, hr, hrun, hended, q1, q2, q3, q4⟩ := X.leaveW (v := some (.int (nar t z))) b1 b2 (fun q => by rw [hret] at q; cases q) hlk
  exact ⟨_, _, retN X hx hret ht hd hr, hrun, hended, _, locs, rfl, ⟨hQ, F0⟩, q1, q2, q3, q4.mono hk hn⟩
theorem own_Arv {a : Addr} {kk : ClassId} {z : Int32} {bs : List Int32} (F : Arv Z h a kk .byte z (bs.map Value.int) (.int 0)) (hz : z.toNatClampNeg = bs.length) : Ab Z h a .byte bs.length (fun j => bs.getD j 0) := by
  obtain ⟨cl, A, -, S, -, G, -⟩ := F
  refine ⟨cl, A, S.trans hz, fun i hi => ?_⟩
  rw [G i (by rw [S, hz]; exact hi)]
  congr 1
  show _ = Value.int (bs.getD i 0)
  rw [List.getD_eq_getElem?_getD, List.getElem?_map, List.getD_eq_getElem?_getD]
  cases bs[i]? <;> rfl
theorem own_ldcS (H : Here p l e R (Z.setVm vm0) m args below meth c n0 T h k n) (LB : Lb Z Z vm0 h Ts) (hn0 : n0 = Z.heap.size) (hx : p.tables.exec = Jvm.exec) (hZ : Z.Warmed39 (Z.setVm vm0).vm) {own text : String} {index : Nat} (hown : (Z.setVm vm0).vm.findClass own = some m.cls) (w : (Jvm.Cond.stringLink own index text).before a0 Z = true) (wS : ∀ a ∈ Bundle.stringAtoms, a.before a0 Z = true)
    (hnot : text ∉ Ts) (hh : Jvm.Lit.constHeld Z own index) (hcw : Jvm.Lit.compactW.before a0 Z = true) (bs : List Int32) (z : Int32) (ht : (∀ c ∈ text.toList, c.toNat < 256) ∧ text.toList.map (fun c => Value.int (Jvm.Lit.byteI c.toNat.toUInt16)) = bs.map Value.int) (hz : ¬ z < 0) (hl : z.toNatClampNeg = bs.length)
    {g : JFrame} (hg : g.method = m) (hd : decode c.code g.pc = .ok (.ldc index, 2)) (nn : Nat) (hn : 4 * text.toList.length ≤ nn) (hbig : nn ≤ 536870912) (hc : k + 2 ≤ R.cells) (hl' : n + (nn + 4) ≤ R.slots)
    (next : ∀ a b T' h', Ext h h' → Exa Z h' a "java/lang/String" → Fld Z h' a "java/lang/String" "coder" "B" (.int 0) → Fld Z h' a "java/lang/String" "value" "[B" (.ref b) → Ab Z h' b .byte bs.length (fun j => bs.getD j 0) → Lb Z Z T'.vm h' (text :: Ts) → Z.Warmed39 (Z.setVm T'.vm).vm → (Z.setVm T'.vm).vm.findClass own = some m.cls → Here p l e R (Z.setVm T'.vm) m args below meth c n0 T' h' (k + 2) (n + (nn + 4)) → Go p e below Φ (T'.setTop { g with pc := g.pc + 2, stack := .ref a :: g.stack })) : Go p e below Φ (T.setTop g) := by
  obtain ⟨locs, X, r1, r2⟩ := H.stand
  obtain ⟨⟨k0, b1, b2⟩, b3⟩ := LB
  obtain ⟨a, T', h', k1, b, kk, X', e', E, s1, s2, hZ', hown', E', C', V', K', -, -, I', st⟩ := ldcSV X hx hZ hown w wS r1 b1 b2 (hn0 ▸ r2) (fun _ _ q => q) b3 hnot hh hcw ht hz (by rw [hl, List.length_map]) hg hd hn hbig hc hl'
  exact Go.via st (next a b T' h' E E' C' V' (own_Arv K' hl) ⟨⟨k1, s1, s2⟩, I'⟩ hZ' hown' ⟨_, X', e', r2⟩)
end OwnS
theorem nar0 : nar .boolean 0 = 0 := rfl
theorem nar1 : nar .boolean 1 = 1 := rfl
theorem own_nc {x : Int32} (h : 0 ≤ x.toInt ∧ x.toInt < 65536) : x.toUInt32.toUInt16.toUInt32.toInt32 = x := by
  apply Int32.toInt_inj.mp
  have := c_i2c x
  omega
theorem own_nb (b : Int32) : 0 ≤ (b &&& (255 : Int32)).toInt ∧ (b &&& (255 : Int32)).toInt < 65536 := by
  have := c_mask b 255 8 (by decide) (by decide)
  omega
theorem own_nc1 (b : Int32) : nar .char ((b &&& (255 : Int32)).toUInt32.toUInt16.toUInt32.toInt32) = b &&& (255 : Int32) := by
  rw [own_nc (own_nb b)]; exact own_nc (own_nb b)
theorem own_nc2 (b : Int32) : nar .char (b &&& (255 : Int32)) = b &&& (255 : Int32) := own_nc (own_nb b)
theorem own_lt {J T : Int32} {j t : Nat} (e : J.toInt = (j : Int)) (e' : T.toInt = (t : Int)) (h : j < t) : J < T := by
  rw [Int32.lt_iff_toInt_lt]; omega
theorem own_nneg {J : Int32} {j : Nat} (e : J.toInt = (j : Int)) : ¬ J < 0 := (own_idx e).1
theorem d6_0 : decode jdk_41_method_11_code 0 = .ok (.iload_n 0, 1) := by decide +kernel
theorem d6_1 : decode jdk_41_method_11_code 1 = .ok (.ifCond .lt 8, 3) := by decide +kernel
theorem d6_4 : decode jdk_41_method_11_code 4 = .ok (.iload_n 0, 1) := by decide +kernel
theorem d6_5 : decode jdk_41_method_11_code 5 = .ok (.iload_n 1, 1) := by decide +kernel
theorem d6_6 : decode jdk_41_method_11_code 6 = .ok (.if_icmp .lt 10, 3) := by decide +kernel
theorem d6_9 : decode jdk_41_method_11_code 9 = .ok (.aload_n 2, 1) := by decide +kernel
theorem d6_10 : decode jdk_41_method_11_code 10 = .ok (.iload_n 0, 1) := by decide +kernel
theorem d6_11 : decode jdk_41_method_11_code 11 = .ok (.iload_n 1, 1) := by decide +kernel
theorem d6_12 : decode jdk_41_method_11_code 12 = .ok (.invokestatic 95, 3) := by decide +kernel
theorem d6_15 : decode jdk_41_method_11_code 15 = .ok (.athrow, 1) := by decide +kernel
theorem d6_16 : decode jdk_41_method_11_code 16 = .ok (.iload_n 0, 1) := by decide +kernel
theorem d6_17 : decode jdk_41_method_11_code 17 = .ok (.ireturn, 1) := by decide +kernel
theorem ef_rmPC (m : MethodId) (x0 : Int32) (x1 : Int32) (x2 : Addr) : entryFrame m #[(.int x0), (.int x1), (.ref x2)] 3 = mkF m 0 #[.val (.int x0), .val (.int x1), .val (.ref x2)] [] := by first | (simp [entryFrame, mkF, argsToLocals, Value.category]; done) | rfl
set_option maxRecDepth 65536 in
set_option maxHeartbeats 40000000 in
theorem rmPC (l : Launch) (Z : State) (a0 : Array Value) (hw : ∀ d ∈ tables_1, d.before a0 Z = true) (i z : Int32) (f : Addr) (j n : Nat) (h0 : Heap) (n0 : Nat) (hi : i.toInt = (j : Int)) (hn : z.toInt = (n : Int)) (hj : j < n) :
    CM l Z (⟨"jdk/internal/util/Preconditions", "checkIndex", "(IILjava/util/function/BiFunction;)I"⟩ : MethodName) jdk_41_method_11_code 3 (some .int) ({ frames := 0, cells := 0, slots := 0, locals := 0 } : Room) #[(.int i), (.int z), (.ref f)] h0 n0 (fun v h => v = some (.int i) ∧ h0 = h) := by
  refine own_enter (by decide +kernel) ?_
  intro p e s m below meth c T0 hx hby hml hown hnm hZ hret hlk H0
  replace hown : s.vm.findClass "jdk/internal/util/Preconditions" = some m.cls := hown
  replace hret : meth.sig.returnType = some .int := hret
  refine Go.via (fun t_ k_ => castTop (ef_rmPC m i z f) k_) ?_
  show Go _ _ _ _ (T0.setTop (mkF m 0 #[.val (.int i), .val (.int z), .val (.ref f)] []))
  refine Go.via (fun t_ k_ => XS.iloadN H0.here hx rfl (hb hby d6_0) rfl k_) ?_
  show Go _ _ _ _ (T0.setTop (mkF m 1 #[.val (.int i), .val (.int z), .val (.ref f)] [(.int i)]))
  refine Go.via (fun t_ k_ => XS.ifNo H0.here hx rfl (hb hby d6_1) rfl ((if0 _ _).trans (flt (show ¬ (i < (0 : Int32)) from (own_nneg hi))).1) k_) ?_
  show Go _ _ _ _ (T0.setTop (mkF m 4 #[.val (.int i), .val (.int z), .val (.ref f)] []))
  refine Go.via (fun t_ k_ => XS.iloadN H0.here hx rfl (hb hby d6_4) rfl k_) ?_
  show Go _ _ _ _ (T0.setTop (mkF m 5 #[.val (.int i), .val (.int z), .val (.ref f)] [(.int i)]))
  refine Go.via (fun t_ k_ => XS.iloadN H0.here hx rfl (hb hby d6_5) rfl k_) ?_
  show Go _ _ _ _ (T0.setTop (mkF m 6 #[.val (.int i), .val (.int z), .val (.ref f)] [(.int z), (.int i)]))
  refine Go.via (fun t_ k_ => XS.icmpYes H0.here hx rfl (pc0 := 6) (pc' := 16) rfl (hb hby d6_6) rfl ((tlt (show i < z from (own_lt hi hn hj))).1) (by decide) (by decide) k_) ?_
  show Go _ _ _ _ (T0.setTop (mkF m 16 #[.val (.int i), .val (.int z), .val (.ref f)] []))
  refine Go.via (fun t_ k_ => XS.iloadN H0.here hx rfl (hb hby d6_16) rfl k_) ?_
  show Go _ _ _ _ (T0.setTop (mkF m 17 #[.val (.int i), .val (.int z), .val (.ref f)] [(.int i)]))
  exact own_retI H0 hx hlk hret (hb hby d6_17) ⟨rfl, rfl⟩ (by decide) (by decide)
theorem ef_rmPCn (m : MethodId) (x0 : Int32) (x1 : Int32) : entryFrame m #[(.int x0), (.int x1), .null] 3 = mkF m 0 #[.val (.int x0), .val (.int x1), .val .null] [] := by first | (simp [entryFrame, mkF, argsToLocals, Value.category]; done) | rfl
set_option maxRecDepth 65536 in
set_option maxHeartbeats 40000000 in
theorem rmPCn (l : Launch) (Z : State) (a0 : Array Value) (hw : ∀ d ∈ tables_1, d.before a0 Z = true) (i z : Int32) (j n : Nat) (h0 : Heap) (n0 : Nat) (hi : i.toInt = (j : Int)) (hn : z.toInt = (n : Int)) (hj : j < n) :
    CM l Z (⟨"jdk/internal/util/Preconditions", "checkIndex", "(IILjava/util/function/BiFunction;)I"⟩ : MethodName) jdk_41_method_11_code 3 (some .int) ({ frames := 0, cells := 0, slots := 0, locals := 0 } : Room) #[(.int i), (.int z), .null] h0 n0 (fun v h => v = some (.int i) ∧ h0 = h) := by
  refine own_enter (by decide +kernel) ?_
  intro p e s m below meth c T0 hx hby hml hown hnm hZ hret hlk H0
  replace hown : s.vm.findClass "jdk/internal/util/Preconditions" = some m.cls := hown
  replace hret : meth.sig.returnType = some .int := hret
  refine Go.via (fun t_ k_ => castTop (ef_rmPCn m i z) k_) ?_
  show Go _ _ _ _ (T0.setTop (mkF m 0 #[.val (.int i), .val (.int z), .val .null] []))
  refine Go.via (fun t_ k_ => XS.iloadN H0.here hx rfl (hb hby d6_0) rfl k_) ?_
  show Go _ _ _ _ (T0.setTop (mkF m 1 #[.val (.int i), .val (.int z), .val .null] [(.int i)]))
  refine Go.via (fun t_ k_ => XS.ifNo H0.here hx rfl (hb hby d6_1) rfl ((if0 _ _).trans (flt (show ¬ (i < (0 : Int32)) from (own_nneg hi))).1) k_) ?_
  show Go _ _ _ _ (T0.setTop (mkF m 4 #[.val (.int i), .val (.int z), .val .null] []))
  refine Go.via (fun t_ k_ => XS.iloadN H0.here hx rfl (hb hby d6_4) rfl k_) ?_
  show Go _ _ _ _ (T0.setTop (mkF m 5 #[.val (.int i), .val (.int z), .val .null] [(.int i)]))
  refine Go.via (fun t_ k_ => XS.iloadN H0.here hx rfl (hb hby d6_5) rfl k_) ?_
  show Go _ _ _ _ (T0.setTop (mkF m 6 #[.val (.int i), .val (.int z), .val .null] [(.int z), (.int i)]))
  refine Go.via (fun t_ k_ => XS.icmpYes H0.here hx rfl (pc0 := 6) (pc' := 16) rfl (hb hby d6_6) rfl ((tlt (show i < z from (own_lt hi hn hj))).1) (by decide) (by decide) k_) ?_
  show Go _ _ _ _ (T0.setTop (mkF m 16 #[.val (.int i), .val (.int z), .val .null] []))
  refine Go.via (fun t_ k_ => XS.iloadN H0.here hx rfl (hb hby d6_16) rfl k_) ?_
  show Go _ _ _ _ (T0.setTop (mkF m 17 #[.val (.int i), .val (.int z), .val .null] [(.int i)]))
  exact own_retI H0 hx hlk hret (hb hby d6_17) ⟨rfl, rfl⟩ (by decide) (by decide)
theorem d5_0 : decode jdk_42_method_155_code 0 = .ok (.iload_n 0, 1) := by decide +kernel
theorem d5_1 : decode jdk_42_method_155_code 1 = .ok (.iload_n 1, 1) := by decide +kernel
theorem d5_2 : decode jdk_42_method_155_code 2 = .ok (.getstatic 1053, 3) := by decide +kernel
theorem d5_5 : decode jdk_42_method_155_code 5 = .ok (.invokestatic 1059, 3) := by decide +kernel
theorem d5_8 : decode jdk_42_method_155_code 8 = .ok (.pop, 1) := by decide +kernel
theorem d5_9 : decode jdk_42_method_155_code 9 = .ok (.return_, 1) := by decide +kernel
theorem ef_rmCI (m : MethodId) (x0 : Int32) (x1 : Int32) : entryFrame m #[(.int x0), (.int x1)] 2 = mkF m 0 #[.val (.int x0), .val (.int x1)] [] := by first | (simp [entryFrame, mkF, argsToLocals, Value.category]; done) | rfl
theorem pd_0 : parseMethodDescriptor "(IILjava/util/function/BiFunction;)I" = some ⟨[.int, .int, (.object "java/util/function/BiFunction")], some .int⟩ := by decide +kernel
set_option maxRecDepth 65536 in
set_option maxHeartbeats 40000000 in
theorem rmCI (l : Launch) (Z : State) (a0 : Array Value) (hw : ∀ d ∈ tables_1, d.before a0 Z = true) (i z : Int32) (f : Addr) (j n : Nat) (h0 : Heap) (n0 : Nat) (hi : i.toInt = (j : Int)) (hn : z.toInt = (n : Int)) (hj : j < n) (SF : Sta Z h0 "jdk/internal/util/Preconditions" "SIOOBE_FORMATTER" "Ljava/util/function/BiFunction;" (.ref f)) :
    CM l Z (⟨"java/lang/String", "checkIndex", "(II)V"⟩ : MethodName) jdk_42_method_155_code 2 none ({ frames := 1, cells := 0, slots := 0, locals := 14 } : Room) #[(.int i), (.int z)] h0 n0 (fun v h => v = none ∧ h0 = h) := by
  refine own_enter (by decide +kernel) ?_
  intro p e s m below meth c T0 hx hby hml hown hnm hZ hret hlk H0
  replace hown : s.vm.findClass "java/lang/String" = some m.cls := hown
  replace hret : meth.sig.returnType = none := hret
  refine Go.via (fun t_ k_ => castTop (ef_rmCI m i z) k_) ?_
  show Go _ _ _ _ (T0.setTop (mkF m 0 #[.val (.int i), .val (.int z)] []))
  refine Go.via (fun t_ k_ => XS.iloadN H0.here hx rfl (hb hby d5_0) rfl k_) ?_
  show Go _ _ _ _ (T0.setTop (mkF m 1 #[.val (.int i), .val (.int z)] [(.int i)]))
  refine Go.via (fun t_ k_ => XS.iloadN H0.here hx rfl (hb hby d5_1) rfl k_) ?_
  show Go _ _ _ _ (T0.setTop (mkF m 2 #[.val (.int i), .val (.int z)] [(.int z), (.int i)]))
  refine own_getS H0 hx hZ hown (hw _ (List.mem_of_getElem? (i := 33) rfl)) SF (g := (mkF m 2 #[.val (.int i), .val (.int z)] [(.int z), (.int i)])) rfl (hb hby d5_2) ?_
  intro T1 H1
  show Go _ _ _ _ (T1.setTop (mkF m 5 #[.val (.int i), .val (.int z)] [(.ref f), (.int z), (.int i)]))
  refine own_callS H1 hx hZ (y := (⟨"jdk/internal/util/Preconditions", "checkIndex", "(IILjava/util/function/BiFunction;)I"⟩ : MethodName)) hown (hw _ (List.mem_of_getElem? (i := 35) rfl)) (hw _ (List.mem_of_getElem? (i := 36) rfl)) (hw _ (List.mem_of_getElem? (i := 34) rfl)) (hw _ (List.mem_of_getElem? (i := 37) rfl)) (by decide) (rmPC l Z a0 hw i z f j n h0 n0 hi hn hj) (g := (mkF m 5 #[.val (.int i), .val (.int z)] [(.ref f), (.int z), (.int i)])) rfl (by rw [hml]; rfl) (argsL := [(.int i), (.int z), (.ref f)]) (rest := []) (lenOf pd_0 rfl) rfl 0 (Nat.le_of_eq rfl) (hb hby d5_5) (by decide) (by decide) (by decide) (by decide) ?_
  rintro _ T2 _ ⟨rfl, rfl⟩ H2
  show Go _ _ _ _ (T2.setTop (mkF m 8 #[.val (.int i), .val (.int z)] [(.int i)]))
  refine Go.via (fun t_ k_ => XS.pop H2.here hx rfl (hb hby d5_8) rfl rfl k_) ?_
  show Go _ _ _ _ (T2.setTop (mkF m 9 #[.val (.int i), .val (.int z)] []))
  exact own_retV H2 hx hlk hret (hb hby d5_9) ⟨rfl, rfl⟩ (by decide) (by decide)
theorem ef_rmCIn (m : MethodId) (x0 : Int32) (x1 : Int32) : entryFrame m #[(.int x0), (.int x1)] 2 = mkF m 0 #[.val (.int x0), .val (.int x1)] [] := by first | (simp [entryFrame, mkF, argsToLocals, Value.category]; done) | rfl
set_option maxRecDepth 65536 in
set_option maxHeartbeats 40000000 in
theorem rmCIn (l : Launch) (Z : State) (a0 : Array Value) (hw : ∀ d ∈ tables_1, d.before a0 Z = true) (i z : Int32) (j n : Nat) (h0 : Heap) (n0 : Nat) (hi : i.toInt = (j : Int)) (hn : z.toInt = (n : Int)) (hj : j < n) (SF : Sta Z h0 "jdk/internal/util/Preconditions" "SIOOBE_FORMATTER" "Ljava/util/function/BiFunction;" .null) :
    CM l Z (⟨"java/lang/String", "checkIndex", "(II)V"⟩ : MethodName) jdk_42_method_155_code 2 none ({ frames := 1, cells := 0, slots := 0, locals := 14 } : Room) #[(.int i), (.int z)] h0 n0 (fun v h => v = none ∧ h0 = h) := by
  refine own_enter (by decide +kernel) ?_
  intro p e s m below meth c T0 hx hby hml hown hnm hZ hret hlk H0
  replace hown : s.vm.findClass "java/lang/String" = some m.cls := hown
  replace hret : meth.sig.returnType = none := hret
  refine Go.via (fun t_ k_ => castTop (ef_rmCIn m i z) k_) ?_
  show Go _ _ _ _ (T0.setTop (mkF m 0 #[.val (.int i), .val (.int z)] []))
  refine Go.via (fun t_ k_ => XS.iloadN H0.here hx rfl (hb hby d5_0) rfl k_) ?_
  show Go _ _ _ _ (T0.setTop (mkF m 1 #[.val (.int i), .val (.int z)] [(.int i)]))
  refine Go.via (fun t_ k_ => XS.iloadN H0.here hx rfl (hb hby d5_1) rfl k_) ?_
  show Go _ _ _ _ (T0.setTop (mkF m 2 #[.val (.int i), .val (.int z)] [(.int z), (.int i)]))
  refine own_getS H0 hx hZ hown (hw _ (List.mem_of_getElem? (i := 33) rfl)) SF (g := (mkF m 2 #[.val (.int i), .val (.int z)] [(.int z), (.int i)])) rfl (hb hby d5_2) ?_
  intro T1 H1
  show Go _ _ _ _ (T1.setTop (mkF m 5 #[.val (.int i), .val (.int z)] [.null, (.int z), (.int i)]))
  refine own_callS H1 hx hZ (y := (⟨"jdk/internal/util/Preconditions", "checkIndex", "(IILjava/util/function/BiFunction;)I"⟩ : MethodName)) hown (hw _ (List.mem_of_getElem? (i := 35) rfl)) (hw _ (List.mem_of_getElem? (i := 36) rfl)) (hw _ (List.mem_of_getElem? (i := 34) rfl)) (hw _ (List.mem_of_getElem? (i := 37) rfl)) (by decide) (rmPCn l Z a0 hw i z j n h0 n0 hi hn hj) (g := (mkF m 5 #[.val (.int i), .val (.int z)] [.null, (.int z), (.int i)])) rfl (by rw [hml]; rfl) (argsL := [(.int i), (.int z), .null]) (rest := []) (lenOf pd_0 rfl) rfl 0 (Nat.le_of_eq rfl) (hb hby d5_5) (by decide) (by decide) (by decide) (by decide) ?_
  rintro _ T2 _ ⟨rfl, rfl⟩ H2
  show Go _ _ _ _ (T2.setTop (mkF m 8 #[.val (.int i), .val (.int z)] [(.int i)]))
  refine Go.via (fun t_ k_ => XS.pop H2.here hx rfl (hb hby d5_8) rfl rfl k_) ?_
  show Go _ _ _ _ (T2.setTop (mkF m 9 #[.val (.int i), .val (.int z)] []))
  exact own_retV H2 hx hlk hret (hb hby d5_9) ⟨rfl, rfl⟩ (by decide) (by decide)
theorem rmCIa (l : Launch) (Z : State) (a0 : Array Value) (hw : ∀ d ∈ tables_1, d.before a0 Z = true) (i z : Int32) (f : Value) (hf : f.isRef = true) (j n : Nat) (h0 : Heap) (n0 : Nat) (hi : i.toInt = (j : Int)) (hn : z.toInt = (n : Int)) (hj : j < n) (SF : Sta Z h0 "jdk/internal/util/Preconditions" "SIOOBE_FORMATTER" "Ljava/util/function/BiFunction;" f) :
    CM l Z (⟨"java/lang/String", "checkIndex", "(II)V"⟩ : MethodName) jdk_42_method_155_code 2 none ({ frames := 1, cells := 0, slots := 0, locals := 14 } : Room) #[(.int i), (.int z)] h0 n0 (fun v h => v = none ∧ h0 = h) := by
  rcases ref_cases hf with rfl | ⟨b, rfl⟩
  · exact rmCIn l Z a0 hw i z j n h0 n0 hi hn hj SF
  · exact rmCI l Z a0 hw i z b j n h0 n0 hi hn hj SF
theorem d4_0 : decode jdk_43_method_2_code 0 = .ok (.iload_n 1, 1) := by decide +kernel
theorem d4_1 : decode jdk_43_method_2_code 1 = .ok (.aload_n 0, 1) := by decide +kernel
theorem d4_2 : decode jdk_43_method_2_code 2 = .ok (.arraylength, 1) := by decide +kernel
theorem d4_3 : decode jdk_43_method_2_code 3 = .ok (.invokestatic 9, 3) := by decide +kernel
theorem d4_6 : decode jdk_43_method_2_code 6 = .ok (.aload_n 0, 1) := by decide +kernel
theorem d4_7 : decode jdk_43_method_2_code 7 = .ok (.iload_n 1, 1) := by decide +kernel
theorem d4_8 : decode jdk_43_method_2_code 8 = .ok (.baload, 1) := by decide +kernel
theorem d4_9 : decode jdk_43_method_2_code 9 = .ok (.sipush 255, 3) := by decide +kernel
theorem d4_12 : decode jdk_43_method_2_code 12 = .ok (.iand, 1) := by decide +kernel
theorem d4_13 : decode jdk_43_method_2_code 13 = .ok (.i2c, 1) := by decide +kernel
theorem d4_14 : decode jdk_43_method_2_code 14 = .ok (.ireturn, 1) := by decide +kernel
theorem ef_rmLC (m : MethodId) (x0 : Addr) (x1 : Int32) : entryFrame m #[(.ref x0), (.int x1)] 2 = mkF m 0 #[.val (.ref x0), .val (.int x1)] [] := by first | (simp [entryFrame, mkF, argsToLocals, Value.category]; done) | rfl
theorem pd_1 : parseMethodDescriptor "(II)V" = some ⟨[.int, .int], none⟩ := by decide +kernel
set_option maxRecDepth 65536 in
set_option maxHeartbeats 40000000 in
theorem rmLC (l : Launch) (Z : State) (a0 : Array Value) (hw : ∀ d ∈ tables_1, d.before a0 Z = true) (b : Addr) (B : Nat → Int32) (i z : Int32) (f : Value) (j n : Nat) (h0 : Heap) (n0 : Nat) (AB : Ab Z h0 b .byte n B) (hz : n.toInt32 = z) (hf : f.isRef = true) (hi : i.toInt = (j : Int)) (hn : z.toInt = (n : Int)) (hj : j < n) (SF : Sta Z h0 "jdk/internal/util/Preconditions" "SIOOBE_FORMATTER" "Ljava/util/function/BiFunction;" f) :
    CM l Z (⟨"java/lang/StringLatin1", "charAt", "([BI)C"⟩ : MethodName) jdk_43_method_2_code 2 (some .char) ({ frames := 2, cells := 0, slots := 0, locals := 27 } : Room) #[(.ref b), (.int i)] h0 n0 (fun v h => v = some (.int ((B j) &&& (255 : Int32))) ∧ h0 = h) := by
  refine own_enter (by decide +kernel) ?_
  intro p e s m below meth c T0 hx hby hml hown hnm hZ hret hlk H0
  replace hown : s.vm.findClass "java/lang/StringLatin1" = some m.cls := hown
  replace hret : meth.sig.returnType = some .char := hret
  refine Go.via (fun t_ k_ => castTop (ef_rmLC m b i) k_) ?_
  show Go _ _ _ _ (T0.setTop (mkF m 0 #[.val (.ref b), .val (.int i)] []))
  refine Go.via (fun t_ k_ => XS.iloadN H0.here hx rfl (hb hby d4_0) rfl k_) ?_
  show Go _ _ _ _ (T0.setTop (mkF m 1 #[.val (.ref b), .val (.int i)] [(.int i)]))
  refine Go.via (fun t_ k_ => XS.aloadN H0.here hx rfl (hb hby d4_1) rfl rfl k_) ?_
  show Go _ _ _ _ (T0.setTop (mkF m 2 #[.val (.ref b), .val (.int i)] [(.ref b), (.int i)]))
  refine own_lenA H0 hx hZ AB (z := z) hz (g := (mkF m 2 #[.val (.ref b), .val (.int i)] [(.ref b), (.int i)])) rfl rfl (hb hby d4_2) ?_
  show Go _ _ _ _ (T0.setTop (mkF m 3 #[.val (.ref b), .val (.int i)] [(.int z), (.int i)]))
  refine own_callS H0 hx hZ (y := (⟨"java/lang/String", "checkIndex", "(II)V"⟩ : MethodName)) hown (hw _ (List.mem_of_getElem? (i := 30) rfl)) (hw _ (List.mem_of_getElem? (i := 31) rfl)) (hw _ (List.mem_of_getElem? (i := 1) rfl)) (hw _ (List.mem_of_getElem? (i := 32) rfl)) (by decide) (rmCIa l Z a0 hw i z f hf j n h0 n0 hi hn hj SF) (g := (mkF m 3 #[.val (.ref b), .val (.int i)] [(.int z), (.int i)])) rfl (by rw [hml]; rfl) (argsL := [(.int i), (.int z)]) (rest := []) (lenOf pd_1 rfl) rfl 0 (Nat.le_of_eq rfl) (hb hby d4_3) (by decide) (by decide) (by decide) (by decide) ?_
  rintro _ T1 _ ⟨rfl, rfl⟩ H1
  show Go _ _ _ _ (T1.setTop (mkF m 6 #[.val (.ref b), .val (.int i)] []))
  refine Go.via (fun t_ k_ => XS.aloadN H1.here hx rfl (hb hby d4_6) rfl rfl k_) ?_
  show Go _ _ _ _ (T1.setTop (mkF m 7 #[.val (.ref b), .val (.int i)] [(.ref b)]))
  refine Go.via (fun t_ k_ => XS.iloadN H1.here hx rfl (hb hby d4_7) rfl k_) ?_
  show Go _ _ _ _ (T1.setTop (mkF m 8 #[.val (.ref b), .val (.int i)] [(.int i), (.ref b)]))
  refine own_ldBA H1 hx hZ AB (j := j) hi hj (g := (mkF m 8 #[.val (.ref b), .val (.int i)] [(.int i), (.ref b)])) rfl rfl (hb hby d4_8) ?_
  show Go _ _ _ _ (T1.setTop (mkF m 9 #[.val (.ref b), .val (.int i)] [(.int (B j))]))
  refine Go.via (fun t_ k_ => XS.sipush H1.here hx rfl (hb hby d4_9) k_) ?_
  show Go _ _ _ _ (T1.setTop (mkF m 12 #[.val (.ref b), .val (.int i)] [(.int (255 : Int32)), (.int (B j))]))
  refine Go.via (fun t_ k_ => XS.iand H1.here hx rfl (hb hby d4_12) rfl k_) ?_
  show Go _ _ _ _ (T1.setTop (mkF m 13 #[.val (.ref b), .val (.int i)] [(.int ((B j) &&& (255 : Int32)))]))
  refine Go.via (fun t_ k_ => XS.i2c H1.here hx rfl (hb hby d4_13) rfl k_) ?_
  show Go _ _ _ _ (T1.setTop (mkF m 14 #[.val (.ref b), .val (.int i)] [(.int (((B j) &&& (255 : Int32)).toUInt32.toUInt16.toUInt32.toInt32))]))
  exact own_retN H1 hx hlk (by simp) hret (hb hby d4_14) ⟨by rw [own_nc1], rfl⟩ (by decide) (by decide)
theorem d3_0 : decode jdk_42_method_154_code 0 = .ok (.getstatic 38, 3) := by decide +kernel
theorem d3_3 : decode jdk_42_method_154_code 3 = .ok (.ifCond .eq 14, 3) := by decide +kernel
theorem d3_6 : decode jdk_42_method_154_code 6 = .ok (.aload_n 0, 1) := by decide +kernel
theorem d3_7 : decode jdk_42_method_154_code 7 = .ok (.getfield 15, 3) := by decide +kernel
theorem d3_10 : decode jdk_42_method_154_code 10 = .ok (.ifCond .ne 7, 3) := by decide +kernel
theorem d3_13 : decode jdk_42_method_154_code 13 = .ok (.iconst 1, 1) := by decide +kernel
theorem d3_14 : decode jdk_42_method_154_code 14 = .ok (.goto 4, 3) := by decide +kernel
theorem d3_17 : decode jdk_42_method_154_code 17 = .ok (.iconst 0, 1) := by decide +kernel
theorem d3_18 : decode jdk_42_method_154_code 18 = .ok (.ireturn, 1) := by decide +kernel
theorem ef_rmIL (m : MethodId) (x0 : Addr) : entryFrame m #[(.ref x0)] 1 = mkF m 0 #[.val (.ref x0)] [] := by first | (simp [entryFrame, mkF, argsToLocals, Value.category]; done) | rfl
set_option maxRecDepth 65536 in
set_option maxHeartbeats 40000000 in
theorem rmIL (l : Launch) (Z : State) (a0 : Array Value) (hw : ∀ d ∈ tables_1, d.before a0 Z = true) (a : Addr) (cs : Int32) (h0 : Heap) (n0 : Nat) (FC : Fld Z h0 a "java/lang/String" "coder" "B" (.int (0 : Int32))) (SC : Sta Z h0 "java/lang/String" "COMPACT_STRINGS" "Z" (.int cs)) (hcs : ¬ cs = 0) :
    CM l Z (⟨"java/lang/String", "isLatin1", "()Z"⟩ : MethodName) jdk_42_method_154_code 1 (some .boolean) ({ frames := 0, cells := 0, slots := 0, locals := 0 } : Room) #[(.ref a)] h0 n0 (fun v h => v = some (.int (1 : Int32)) ∧ h0 = h) := by
  refine own_enter (by decide +kernel) ?_
  intro p e s m below meth c T0 hx hby hml hown hnm hZ hret hlk H0
  replace hown : s.vm.findClass "java/lang/String" = some m.cls := hown
  replace hret : meth.sig.returnType = some .boolean := hret
  refine Go.via (fun t_ k_ => castTop (ef_rmIL m a) k_) ?_
  show Go _ _ _ _ (T0.setTop (mkF m 0 #[.val (.ref a)] []))
  refine own_getS H0 hx hZ hown (hw _ (List.mem_of_getElem? (i := 23) rfl)) SC (g := (mkF m 0 #[.val (.ref a)] [])) rfl (hb hby d3_0) ?_
  intro T1 H1
  show Go _ _ _ _ (T1.setTop (mkF m 3 #[.val (.ref a)] [(.int cs)]))
  refine Go.via (fun t_ k_ => XS.ifNo H1.here hx rfl (hb hby d3_3) rfl ((if0 _ _).trans (feq (show ¬ (cs = (0 : Int32)) from hcs)).1) k_) ?_
  show Go _ _ _ _ (T1.setTop (mkF m 6 #[.val (.ref a)] []))
  refine Go.via (fun t_ k_ => XS.aloadN H1.here hx rfl (hb hby d3_6) rfl rfl k_) ?_
  show Go _ _ _ _ (T1.setTop (mkF m 7 #[.val (.ref a)] [(.ref a)]))
  refine own_getF H1 hx hZ hown (hw _ (List.mem_of_getElem? (i := 24) rfl)) FC (g := (mkF m 7 #[.val (.ref a)] [(.ref a)])) rfl rfl (hb hby d3_7) ?_
  intro T2 H2
  show Go _ _ _ _ (T2.setTop (mkF m 10 #[.val (.ref a)] [(.int (0 : Int32))]))
  refine Go.via (fun t_ k_ => XS.ifNo H2.here hx rfl (hb hby d3_10) rfl ((if0 _ _).trans (teq (show (0 : Int32) = (0 : Int32) from (by decide))).2) k_) ?_
  show Go _ _ _ _ (T2.setTop (mkF m 13 #[.val (.ref a)] []))
  refine Go.via (fun t_ k_ => XS.iconst H2.here hx rfl (hb hby d3_13) k_) ?_
  show Go _ _ _ _ (T2.setTop (mkF m 14 #[.val (.ref a)] [(.int (1 : Int32))]))
  refine Go.via (fun t_ k_ => XS.goto H2.here hx rfl (pc0 := 14) (pc' := 18) rfl (hb hby d3_14) (by decide) (by decide) k_) ?_
  show Go _ _ _ _ (T2.setTop (mkF m 18 #[.val (.ref a)] [(.int (1 : Int32))]))
  exact own_retN H2 hx hlk (by simp) hret (hb hby d3_18) ⟨rfl, rfl⟩ (by decide) (by decide)
theorem d2_0 : decode jdk_42_method_56_code 0 = .ok (.aload_n 0, 1) := by decide +kernel
theorem d2_1 : decode jdk_42_method_56_code 1 = .ok (.invokevirtual 492, 3) := by decide +kernel
theorem d2_4 : decode jdk_42_method_56_code 4 = .ok (.ifCond .eq 12, 3) := by decide +kernel
theorem d2_7 : decode jdk_42_method_56_code 7 = .ok (.aload_n 0, 1) := by decide +kernel
theorem d2_8 : decode jdk_42_method_56_code 8 = .ok (.getfield 9, 3) := by decide +kernel
theorem d2_11 : decode jdk_42_method_56_code 11 = .ok (.iload_n 1, 1) := by decide +kernel
theorem d2_12 : decode jdk_42_method_56_code 12 = .ok (.invokestatic 495, 3) := by decide +kernel
theorem d2_15 : decode jdk_42_method_56_code 15 = .ok (.ireturn, 1) := by decide +kernel
theorem d2_16 : decode jdk_42_method_56_code 16 = .ok (.aload_n 0, 1) := by decide +kernel
theorem d2_17 : decode jdk_42_method_56_code 17 = .ok (.getfield 9, 3) := by decide +kernel
theorem d2_20 : decode jdk_42_method_56_code 20 = .ok (.iload_n 1, 1) := by decide +kernel
theorem d2_21 : decode jdk_42_method_56_code 21 = .ok (.invokestatic 498, 3) := by decide +kernel
theorem d2_24 : decode jdk_42_method_56_code 24 = .ok (.ireturn, 1) := by decide +kernel
theorem ef_rmCh (m : MethodId) (x0 : Addr) (x1 : Int32) : entryFrame m #[(.ref x0), (.int x1)] 2 = mkF m 0 #[.val (.ref x0), .val (.int x1)] [] := by first | (simp [entryFrame, mkF, argsToLocals, Value.category]; done) | rfl
theorem pd_2 : parseMethodDescriptor "()Z" = some ⟨[], some .boolean⟩ := by decide +kernel
theorem pd_3 : parseMethodDescriptor "([BI)C" = some ⟨[(.array .byte), .int], some .char⟩ := by decide +kernel
set_option maxRecDepth 65536 in
set_option maxHeartbeats 40000000 in
theorem rmCh (l : Launch) (Z : State) (a0 : Array Value) (hw : ∀ d ∈ tables_1, d.before a0 Z = true) (a b : Addr) (B : Nat → Int32) (i z cs : Int32) (f : Value) (j n : Nat) (h0 : Heap) (n0 : Nat) (E : Exa Z h0 a "java/lang/String") (FC : Fld Z h0 a "java/lang/String" "coder" "B" (.int (0 : Int32))) (FV : Fld Z h0 a "java/lang/String" "value" "[B" (.ref b)) (AB : Ab Z h0 b .byte n B) (hz : n.toInt32 = z) (hf : f.isRef = true) (hi : i.toInt = (j : Int)) (hn : z.toInt = (n : Int)) (hj : j < n) (SC : Sta Z h0 "java/lang/String" "COMPACT_STRINGS" "Z" (.int cs)) (hcs : ¬ cs = 0) (SF : Sta Z h0 "jdk/internal/util/Preconditions" "SIOOBE_FORMATTER" "Ljava/util/function/BiFunction;" f) :
    CM l Z (⟨"java/lang/String", "charAt", "(I)C"⟩ : MethodName) jdk_42_method_56_code 2 (some .char) ({ frames := 3, cells := 0, slots := 0, locals := 40 } : Room) #[(.ref a), (.int i)] h0 n0 (fun v h => v = some (.int ((B j) &&& (255 : Int32))) ∧ h0 = h) := by
  refine own_enter (by decide +kernel) ?_
  intro p e s m below meth c T0 hx hby hml hown hnm hZ hret hlk H0
  replace hown : s.vm.findClass "java/lang/String" = some m.cls := hown
  replace hret : meth.sig.returnType = some .char := hret
  refine Go.via (fun t_ k_ => castTop (ef_rmCh m a i) k_) ?_
  show Go _ _ _ _ (T0.setTop (mkF m 0 #[.val (.ref a), .val (.int i)] []))
  refine Go.via (fun t_ k_ => XS.aloadN H0.here hx rfl (hb hby d2_0) rfl rfl k_) ?_
  show Go _ _ _ _ (T0.setTop (mkF m 1 #[.val (.ref a), .val (.int i)] [(.ref a)]))
  refine own_callV H0 hx hZ (C := "java/lang/String") (y := (⟨"java/lang/String", "isLatin1", "()Z"⟩ : MethodName)) (a := a) hown (hw _ (List.mem_of_getElem? (i := 18) rfl)) (hw _ (List.mem_of_getElem? (i := 19) rfl)) (hw _ (List.mem_of_getElem? (i := 21) rfl)) (hw _ (List.mem_of_getElem? (i := 20) rfl)) (hw _ (List.mem_of_getElem? (i := 1) rfl)) (hw _ (List.mem_of_getElem? (i := 22) rfl)) (by decide) E (rmIL l Z a0 hw a cs h0 n0 FC SC hcs) (g := (mkF m 1 #[.val (.ref a), .val (.int i)] [(.ref a)])) rfl (by rw [hml]; rfl) (argsL := []) (rest := []) (lenOf pd_2 rfl) rfl 0 (Nat.le_of_eq rfl) (hb hby d2_1) (by decide) (by decide) (by decide) (by decide) ?_
  rintro _ T1 _ ⟨rfl, rfl⟩ H1
  show Go _ _ _ _ (T1.setTop (mkF m 4 #[.val (.ref a), .val (.int i)] [(.int (1 : Int32))]))
  refine Go.via (fun t_ k_ => XS.ifNo H1.here hx rfl (hb hby d2_4) rfl ((if0 _ _).trans (feq (show ¬ ((1 : Int32) = (0 : Int32)) from (by decide))).1) k_) ?_
  show Go _ _ _ _ (T1.setTop (mkF m 7 #[.val (.ref a), .val (.int i)] []))
  refine Go.via (fun t_ k_ => XS.aloadN H1.here hx rfl (hb hby d2_7) rfl rfl k_) ?_
  show Go _ _ _ _ (T1.setTop (mkF m 8 #[.val (.ref a), .val (.int i)] [(.ref a)]))
  refine own_getF H1 hx hZ hown (hw _ (List.mem_of_getElem? (i := 25) rfl)) FV (g := (mkF m 8 #[.val (.ref a), .val (.int i)] [(.ref a)])) rfl rfl (hb hby d2_8) ?_
  intro T2 H2
  show Go _ _ _ _ (T2.setTop (mkF m 11 #[.val (.ref a), .val (.int i)] [(.ref b)]))
  refine Go.via (fun t_ k_ => XS.iloadN H2.here hx rfl (hb hby d2_11) rfl k_) ?_
  show Go _ _ _ _ (T2.setTop (mkF m 12 #[.val (.ref a), .val (.int i)] [(.int i), (.ref b)]))
  refine own_callS H2 hx hZ (y := (⟨"java/lang/StringLatin1", "charAt", "([BI)C"⟩ : MethodName)) hown (hw _ (List.mem_of_getElem? (i := 26) rfl)) (hw _ (List.mem_of_getElem? (i := 27) rfl)) (hw _ (List.mem_of_getElem? (i := 28) rfl)) (hw _ (List.mem_of_getElem? (i := 29) rfl)) (by decide) (rmLC l Z a0 hw b B i z f j n h0 n0 AB hz hf hi hn hj SF) (g := (mkF m 12 #[.val (.ref a), .val (.int i)] [(.int i), (.ref b)])) rfl (by rw [hml]; rfl) (argsL := [(.ref b), (.int i)]) (rest := []) (lenOf pd_3 rfl) rfl 0 (Nat.le_of_eq rfl) (hb hby d2_12) (by decide) (by decide) (by decide) (by decide) ?_
  rintro _ T3 _ ⟨rfl, rfl⟩ H3
  show Go _ _ _ _ (T3.setTop (mkF m 15 #[.val (.ref a), .val (.int i)] [(.int ((B j) &&& (255 : Int32)))]))
  exact own_retN H3 hx hlk (by simp) hret (hb hby d2_15) ⟨by rw [own_nc2], rfl⟩ (by decide) (by decide)
def hexF (c : Int32) : Int32 := if ¬ c < 48 ∧ ¬ 57 < c then c - 48 else if ¬ c < 97 ∧ ¬ 102 < c then c - 97 + 10 else if ¬ c < 65 ∧ ¬ 70 < c then c - 65 + 10 else -1
theorem own_c (x : Int32) : ∃ n : Nat, (x.toUInt32.toUInt16.toUInt32.toInt32).toInt = (n : Int) ∧ n < 65536 := by
  have := c_i2c x
  exact ⟨(x.toUInt32.toUInt16.toUInt32.toInt32).toInt.toNat, by omega, by omega⟩
theorem own_lti {c d : Int32} {n m : Nat} (hc : c.toInt = (n : Int)) (hd : d.toInt = (m : Int)) : c < d ↔ n < m := by
  rw [Int32.lt_iff_toInt_lt, hc, hd]; omega
theorem own_of {c : Int32} {n : Nat} (hc : c.toInt = (n : Int)) (hn : n < 65536) : c = Int32.ofNat n := by
  apply Int32.toInt_inj.mp; rw [hc, Int32.toInt_ofNat_of_lt (by omega)]
theorem own_hex {c : Int32} {n : Nat} (hc : c.toInt = (n : Int)) (hn : n < 65536) (h : ¬ hexF c = -1) : ∃ j : Nat, j < 16 ∧ (hexF c).toInt = (j : Int) ∧ (c = (((fun j => List.getD [(48 : Int32), (49 : Int32), (50 : Int32), (51 : Int32), (52 : Int32), (53 : Int32), (54 : Int32), (55 : Int32), (56 : Int32), (57 : Int32), (97 : Int32), (98 : Int32), (99 : Int32), (100 : Int32), (101 : Int32), (102 : Int32)] j 0) j) &&& (255 : Int32)) ∨ c = (((fun j => List.getD [(48 : Int32), (49 : Int32), (50 : Int32), (51 : Int32), (52 : Int32), (53 : Int32), (54 : Int32), (55 : Int32), (56 : Int32), (57 : Int32), (65 : Int32), (66 : Int32), (67 : Int32), (68 : Int32), (69 : Int32), (70 : Int32)] j 0) j) &&& (255 : Int32))) := by
  by_cases q : n < 128
  · have hd : ∀ k : Fin 128, ¬ hexF (Int32.ofNat k.1) = -1 → ∃ j : Fin 16, (hexF (Int32.ofNat k.1)).toInt = (j.1 : Int) ∧ (Int32.ofNat k.1 = (((fun j => List.getD [(48 : Int32), (49 : Int32), (50 : Int32), (51 : Int32), (52 : Int32), (53 : Int32), (54 : Int32), (55 : Int32), (56 : Int32), (57 : Int32), (97 : Int32), (98 : Int32), (99 : Int32), (100 : Int32), (101 : Int32), (102 : Int32)] j 0) j.1) &&& (255 : Int32)) ∨ Int32.ofNat k.1 = (((fun j => List.getD [(48 : Int32), (49 : Int32), (50 : Int32), (51 : Int32), (52 : Int32), (53 : Int32), (54 : Int32), (55 : Int32), (56 : Int32), (57 : Int32), (65 : Int32), (66 : Int32), (67 : Int32), (68 : Int32), (69 : Int32), (70 : Int32)] j 0) j.1) &&& (255 : Int32))) := by decide +kernel
    have e := own_of hc hn
    rw [e] at h ⊢
    obtain ⟨j, h1, h2⟩ := hd ⟨n, q⟩ h
    exact ⟨j.1, j.2, h1, h2⟩
  · exfalso
    apply h
    have a1 : (57 : Int32) < c := (own_lti (n := 57) (by decide) hc).mpr (by omega)
    have a2 : (102 : Int32) < c := (own_lti (n := 102) (by decide) hc).mpr (by omega)
    have a3 : (70 : Int32) < c := (own_lti (n := 70) (by decide) hc).mpr (by omega)
    unfold hexF
    rw [if_neg (fun z => z.2 a1), if_neg (fun z => z.2 a2), if_neg (fun z => z.2 a3)]
theorem own_m15 (x : Int32) : ∃ d : Nat, (x &&& (15 : Int32)).toInt = (d : Int) ∧ d < 16 := by
  have e := c_mask x 15 4 (by decide) (by decide)
  exact ⟨(x &&& 15).toInt.toNat, by omega, by omega⟩
theorem own_low {x : Int32} {d : Nat} (hx : x.toInt = (d : Int)) (hd : d < 16) : hexF (((fun j => List.getD [(48 : Int32), (49 : Int32), (50 : Int32), (51 : Int32), (52 : Int32), (53 : Int32), (54 : Int32), (55 : Int32), (56 : Int32), (57 : Int32), (97 : Int32), (98 : Int32), (99 : Int32), (100 : Int32), (101 : Int32), (102 : Int32)] j 0) d) &&& (255 : Int32)) = x := by
  have q : ∀ k : Fin 16, hexF (((fun j => List.getD [(48 : Int32), (49 : Int32), (50 : Int32), (51 : Int32), (52 : Int32), (53 : Int32), (54 : Int32), (55 : Int32), (56 : Int32), (57 : Int32), (97 : Int32), (98 : Int32), (99 : Int32), (100 : Int32), (101 : Int32), (102 : Int32)] j 0) k.1) &&& (255 : Int32)) = Int32.ofNat k.1 := by decide +kernel
  rw [own_of hx (by omega)]; exact q ⟨d, hd⟩
theorem own_up {x : Int32} {d : Nat} (hx : x.toInt = (d : Int)) (hd : d < 16) : hexF (((fun j => List.getD [(48 : Int32), (49 : Int32), (50 : Int32), (51 : Int32), (52 : Int32), (53 : Int32), (54 : Int32), (55 : Int32), (56 : Int32), (57 : Int32), (65 : Int32), (66 : Int32), (67 : Int32), (68 : Int32), (69 : Int32), (70 : Int32)] j 0) d) &&& (255 : Int32)) = x := by
  have q : ∀ k : Fin 16, hexF (((fun j => List.getD [(48 : Int32), (49 : Int32), (50 : Int32), (51 : Int32), (52 : Int32), (53 : Int32), (54 : Int32), (55 : Int32), (56 : Int32), (57 : Int32), (65 : Int32), (66 : Int32), (67 : Int32), (68 : Int32), (69 : Int32), (70 : Int32)] j 0) k.1) &&& (255 : Int32)) = Int32.ofNat k.1 := by decide +kernel
  rw [own_of hx (by omega)]; exact q ⟨d, hd⟩
theorem d1_0 : decode prog_31_method_5_code 0 = .ok (.iload_n 0, 1) := by decide +kernel
theorem d1_1 : decode prog_31_method_5_code 1 = .ok (.bipush 48, 2) := by decide +kernel
theorem d1_3 : decode prog_31_method_5_code 3 = .ok (.if_icmp .lt 17, 3) := by decide +kernel
theorem d1_6 : decode prog_31_method_5_code 6 = .ok (.iload_n 0, 1) := by decide +kernel
theorem d1_7 : decode prog_31_method_5_code 7 = .ok (.bipush 57, 2) := by decide +kernel
theorem d1_9 : decode prog_31_method_5_code 9 = .ok (.if_icmp .gt 11, 3) := by decide +kernel
theorem d1_12 : decode prog_31_method_5_code 12 = .ok (.iload_n 0, 1) := by decide +kernel
theorem d1_13 : decode prog_31_method_5_code 13 = .ok (.bipush 48, 2) := by decide +kernel
theorem d1_15 : decode prog_31_method_5_code 15 = .ok (.isub, 1) := by decide +kernel
theorem d1_16 : decode prog_31_method_5_code 16 = .ok (.istore_n 1, 1) := by decide +kernel
theorem d1_17 : decode prog_31_method_5_code 17 = .ok (.goto 51, 3) := by decide +kernel
theorem d1_20 : decode prog_31_method_5_code 20 = .ok (.iload_n 0, 1) := by decide +kernel
theorem d1_21 : decode prog_31_method_5_code 21 = .ok (.bipush 97, 2) := by decide +kernel
theorem d1_23 : decode prog_31_method_5_code 23 = .ok (.if_icmp .lt 20, 3) := by decide +kernel
theorem d1_26 : decode prog_31_method_5_code 26 = .ok (.iload_n 0, 1) := by decide +kernel
theorem d1_27 : decode prog_31_method_5_code 27 = .ok (.bipush 102, 2) := by decide +kernel
theorem d1_29 : decode prog_31_method_5_code 29 = .ok (.if_icmp .gt 14, 3) := by decide +kernel
theorem d1_32 : decode prog_31_method_5_code 32 = .ok (.iload_n 0, 1) := by decide +kernel
theorem d1_33 : decode prog_31_method_5_code 33 = .ok (.bipush 97, 2) := by decide +kernel
theorem d1_35 : decode prog_31_method_5_code 35 = .ok (.isub, 1) := by decide +kernel
theorem d1_36 : decode prog_31_method_5_code 36 = .ok (.bipush 10, 2) := by decide +kernel
theorem d1_38 : decode prog_31_method_5_code 38 = .ok (.iadd, 1) := by decide +kernel
theorem d1_39 : decode prog_31_method_5_code 39 = .ok (.istore_n 1, 1) := by decide +kernel
theorem d1_40 : decode prog_31_method_5_code 40 = .ok (.goto 28, 3) := by decide +kernel
theorem d1_43 : decode prog_31_method_5_code 43 = .ok (.iload_n 0, 1) := by decide +kernel
theorem d1_44 : decode prog_31_method_5_code 44 = .ok (.bipush 65, 2) := by decide +kernel
theorem d1_46 : decode prog_31_method_5_code 46 = .ok (.if_icmp .lt 20, 3) := by decide +kernel
theorem d1_49 : decode prog_31_method_5_code 49 = .ok (.iload_n 0, 1) := by decide +kernel
theorem d1_50 : decode prog_31_method_5_code 50 = .ok (.bipush 70, 2) := by decide +kernel
theorem d1_52 : decode prog_31_method_5_code 52 = .ok (.if_icmp .gt 14, 3) := by decide +kernel
theorem d1_55 : decode prog_31_method_5_code 55 = .ok (.iload_n 0, 1) := by decide +kernel
theorem d1_56 : decode prog_31_method_5_code 56 = .ok (.bipush 65, 2) := by decide +kernel
theorem d1_58 : decode prog_31_method_5_code 58 = .ok (.isub, 1) := by decide +kernel
theorem d1_59 : decode prog_31_method_5_code 59 = .ok (.bipush 10, 2) := by decide +kernel
theorem d1_61 : decode prog_31_method_5_code 61 = .ok (.iadd, 1) := by decide +kernel
theorem d1_62 : decode prog_31_method_5_code 62 = .ok (.istore_n 1, 1) := by decide +kernel
theorem d1_63 : decode prog_31_method_5_code 63 = .ok (.goto 5, 3) := by decide +kernel
theorem d1_66 : decode prog_31_method_5_code 66 = .ok (.iconst (-1), 1) := by decide +kernel
theorem d1_67 : decode prog_31_method_5_code 67 = .ok (.istore_n 1, 1) := by decide +kernel
theorem d1_68 : decode prog_31_method_5_code 68 = .ok (.iload_n 1, 1) := by decide +kernel
theorem d1_69 : decode prog_31_method_5_code 69 = .ok (.ireturn, 1) := by decide +kernel
theorem ef_rmX (m : MethodId) (x0 : Int32) : entryFrame m #[(.int x0)] 2 = mkF m 0 #[.val (.int x0), .unset] [] := by first | (simp [entryFrame, mkF, argsToLocals, Value.category]; done) | rfl
set_option maxRecDepth 65536 in
set_option maxHeartbeats 40000000 in
theorem rmX (l : Launch) (Z : State) (a0 : Array Value) (hw : ∀ d ∈ tables_1, d.before a0 Z = true) (p1 : Int32) (h0 : Heap) (n0 : Nat)  :
    CM l Z (⟨"com/example/tidy_balancer/tidybalancer/model/KeySpace", "hexDigit", "(C)I"⟩ : MethodName) prog_31_method_5_code 2 (some .int) ({ frames := 0, cells := 0, slots := 0, locals := 0 } : Room) #[(.int p1)] h0 n0 (fun v h => v = some (.int (hexF p1)) ∧ h0 = h) := by
  refine own_enter (by decide +kernel) ?_
  intro p e s m below meth c T0 hx hby hml hown hnm hZ hret hlk H0
  replace hown : s.vm.findClass "com/example/tidy_balancer/tidybalancer/model/KeySpace" = some m.cls := hown
  replace hret : meth.sig.returnType = some .int := hret
  refine Go.via (fun t_ k_ => castTop (ef_rmX m p1) k_) ?_
  show Go _ _ _ _ (T0.setTop (mkF m 0 #[.val (.int p1), .unset] []))
  refine Go.via (fun t_ k_ => XS.iloadN H0.here hx rfl (hb hby d1_0) rfl k_) ?_
  show Go _ _ _ _ (T0.setTop (mkF m 1 #[.val (.int p1), .unset] [(.int p1)]))
  refine Go.via (fun t_ k_ => XS.bipush H0.here hx rfl (hb hby d1_1) k_) ?_
  show Go _ _ _ _ (T0.setTop (mkF m 3 #[.val (.int p1), .unset] [(.int (48 : Int32)), (.int p1)]))
  by_cases hc3 : p1 < (48 : Int32)
  · refine Go.via (fun t_ k_ => XS.icmpYes H0.here hx rfl (pc0 := 3) (pc' := 20) rfl (hb hby d1_3) rfl ((tlt hc3).1) (by decide) (by decide) k_) ?_
    show Go _ _ _ _ (T0.setTop (mkF m 20 #[.val (.int p1), .unset] []))
    refine Go.via (fun t_ k_ => XS.iloadN H0.here hx rfl (hb hby d1_20) rfl k_) ?_
    show Go _ _ _ _ (T0.setTop (mkF m 21 #[.val (.int p1), .unset] [(.int p1)]))
    refine Go.via (fun t_ k_ => XS.bipush H0.here hx rfl (hb hby d1_21) k_) ?_
    show Go _ _ _ _ (T0.setTop (mkF m 23 #[.val (.int p1), .unset] [(.int (97 : Int32)), (.int p1)]))
    by_cases hc23 : p1 < (97 : Int32)
    · refine Go.via (fun t_ k_ => XS.icmpYes H0.here hx rfl (pc0 := 23) (pc' := 43) rfl (hb hby d1_23) rfl ((tlt hc23).1) (by decide) (by decide) k_) ?_
      show Go _ _ _ _ (T0.setTop (mkF m 43 #[.val (.int p1), .unset] []))
      refine Go.via (fun t_ k_ => XS.iloadN H0.here hx rfl (hb hby d1_43) rfl k_) ?_
      show Go _ _ _ _ (T0.setTop (mkF m 44 #[.val (.int p1), .unset] [(.int p1)]))
      refine Go.via (fun t_ k_ => XS.bipush H0.here hx rfl (hb hby d1_44) k_) ?_
      show Go _ _ _ _ (T0.setTop (mkF m 46 #[.val (.int p1), .unset] [(.int (65 : Int32)), (.int p1)]))
      by_cases hc46 : p1 < (65 : Int32)
      · refine Go.via (fun t_ k_ => XS.icmpYes H0.here hx rfl (pc0 := 46) (pc' := 66) rfl (hb hby d1_46) rfl ((tlt hc46).1) (by decide) (by decide) k_) ?_
        show Go _ _ _ _ (T0.setTop (mkF m 66 #[.val (.int p1), .unset] []))
        refine Go.via (fun t_ k_ => XS.iconst H0.here hx rfl (hb hby d1_66) k_) ?_
        show Go _ _ _ _ (T0.setTop (mkF m 67 #[.val (.int p1), .unset] [(.int (-1 : Int32))]))
        refine Go.via (fun t_ k_ => XS.istoreN H0.here hx rfl (hb hby d1_67) rfl (l' := #[.val (.int p1), .val (.int (-1 : Int32))]) rfl k_) ?_
        show Go _ _ _ _ (T0.setTop (mkF m 68 #[.val (.int p1), .val (.int (-1 : Int32))] []))
        refine Go.via (fun t_ k_ => XS.iloadN H0.here hx rfl (hb hby d1_68) rfl k_) ?_
        show Go _ _ _ _ (T0.setTop (mkF m 69 #[.val (.int p1), .val (.int (-1 : Int32))] [(.int (-1 : Int32))]))
        exact own_retI H0 hx hlk hret (hb hby d1_69) ⟨by simp [hexF, eq_true hc3, eq_true hc23, eq_true hc46], rfl⟩ (by decide) (by decide)
      · refine Go.via (fun t_ k_ => XS.icmpNo H0.here hx rfl (hb hby d1_46) rfl ((flt hc46).1) k_) ?_
        show Go _ _ _ _ (T0.setTop (mkF m 49 #[.val (.int p1), .unset] []))
        refine Go.via (fun t_ k_ => XS.iloadN H0.here hx rfl (hb hby d1_49) rfl k_) ?_
        show Go _ _ _ _ (T0.setTop (mkF m 50 #[.val (.int p1), .unset] [(.int p1)]))
        refine Go.via (fun t_ k_ => XS.bipush H0.here hx rfl (hb hby d1_50) k_) ?_
        show Go _ _ _ _ (T0.setTop (mkF m 52 #[.val (.int p1), .unset] [(.int (70 : Int32)), (.int p1)]))
        by_cases hc52 : (70 : Int32) < p1
        · refine Go.via (fun t_ k_ => XS.icmpYes H0.here hx rfl (pc0 := 52) (pc' := 66) rfl (hb hby d1_52) rfl ((tlt hc52).2.2.1) (by decide) (by decide) k_) ?_
          show Go _ _ _ _ (T0.setTop (mkF m 66 #[.val (.int p1), .unset] []))
          refine Go.via (fun t_ k_ => XS.iconst H0.here hx rfl (hb hby d1_66) k_) ?_
          show Go _ _ _ _ (T0.setTop (mkF m 67 #[.val (.int p1), .unset] [(.int (-1 : Int32))]))
          refine Go.via (fun t_ k_ => XS.istoreN H0.here hx rfl (hb hby d1_67) rfl (l' := #[.val (.int p1), .val (.int (-1 : Int32))]) rfl k_) ?_
          show Go _ _ _ _ (T0.setTop (mkF m 68 #[.val (.int p1), .val (.int (-1 : Int32))] []))
          refine Go.via (fun t_ k_ => XS.iloadN H0.here hx rfl (hb hby d1_68) rfl k_) ?_
          show Go _ _ _ _ (T0.setTop (mkF m 69 #[.val (.int p1), .val (.int (-1 : Int32))] [(.int (-1 : Int32))]))
          exact own_retI H0 hx hlk hret (hb hby d1_69) ⟨by simp [hexF, eq_true hc3, eq_true hc23, eq_false hc46, eq_true hc52], rfl⟩ (by decide) (by decide)
        · refine Go.via (fun t_ k_ => XS.icmpNo H0.here hx rfl (hb hby d1_52) rfl ((flt hc52).2.2.1) k_) ?_
          show Go _ _ _ _ (T0.setTop (mkF m 55 #[.val (.int p1), .unset] []))
          refine Go.via (fun t_ k_ => XS.iloadN H0.here hx rfl (hb hby d1_55) rfl k_) ?_
          show Go _ _ _ _ (T0.setTop (mkF m 56 #[.val (.int p1), .unset] [(.int p1)]))
          refine Go.via (fun t_ k_ => XS.bipush H0.here hx rfl (hb hby d1_56) k_) ?_
          show Go _ _ _ _ (T0.setTop (mkF m 58 #[.val (.int p1), .unset] [(.int (65 : Int32)), (.int p1)]))
          refine Go.via (fun t_ k_ => XS.isub H0.here hx rfl (hb hby d1_58) rfl k_) ?_
          show Go _ _ _ _ (T0.setTop (mkF m 59 #[.val (.int p1), .unset] [(.int (p1 - (65 : Int32)))]))
          refine Go.via (fun t_ k_ => XS.bipush H0.here hx rfl (hb hby d1_59) k_) ?_
          show Go _ _ _ _ (T0.setTop (mkF m 61 #[.val (.int p1), .unset] [(.int (10 : Int32)), (.int (p1 - (65 : Int32)))]))
          refine Go.via (fun t_ k_ => XS.iadd H0.here hx rfl (hb hby d1_61) rfl k_) ?_
          show Go _ _ _ _ (T0.setTop (mkF m 62 #[.val (.int p1), .unset] [(.int ((p1 - (65 : Int32)) + (10 : Int32)))]))
          refine Go.via (fun t_ k_ => XS.istoreN H0.here hx rfl (hb hby d1_62) rfl (l' := #[.val (.int p1), .val (.int ((p1 - (65 : Int32)) + (10 : Int32)))]) rfl k_) ?_
          show Go _ _ _ _ (T0.setTop (mkF m 63 #[.val (.int p1), .val (.int ((p1 - (65 : Int32)) + (10 : Int32)))] []))
          refine Go.via (fun t_ k_ => XS.goto H0.here hx rfl (pc0 := 63) (pc' := 68) rfl (hb hby d1_63) (by decide) (by decide) k_) ?_
          show Go _ _ _ _ (T0.setTop (mkF m 68 #[.val (.int p1), .val (.int ((p1 - (65 : Int32)) + (10 : Int32)))] []))
          refine Go.via (fun t_ k_ => XS.iloadN H0.here hx rfl (hb hby d1_68) rfl k_) ?_
          show Go _ _ _ _ (T0.setTop (mkF m 69 #[.val (.int p1), .val (.int ((p1 - (65 : Int32)) + (10 : Int32)))] [(.int ((p1 - (65 : Int32)) + (10 : Int32)))]))
          exact own_retI H0 hx hlk hret (hb hby d1_69) ⟨by simp [hexF, eq_true hc3, eq_true hc23, eq_false hc46, eq_false hc52], rfl⟩ (by decide) (by decide)
    · refine Go.via (fun t_ k_ => XS.icmpNo H0.here hx rfl (hb hby d1_23) rfl ((flt hc23).1) k_) ?_
      show Go _ _ _ _ (T0.setTop (mkF m 26 #[.val (.int p1), .unset] []))
      refine Go.via (fun t_ k_ => XS.iloadN H0.here hx rfl (hb hby d1_26) rfl k_) ?_
      show Go _ _ _ _ (T0.setTop (mkF m 27 #[.val (.int p1), .unset] [(.int p1)]))
      refine Go.via (fun t_ k_ => XS.bipush H0.here hx rfl (hb hby d1_27) k_) ?_
      show Go _ _ _ _ (T0.setTop (mkF m 29 #[.val (.int p1), .unset] [(.int (102 : Int32)), (.int p1)]))
      by_cases hc29 : (102 : Int32) < p1
      · refine Go.via (fun t_ k_ => XS.icmpYes H0.here hx rfl (pc0 := 29) (pc' := 43) rfl (hb hby d1_29) rfl ((tlt hc29).2.2.1) (by decide) (by decide) k_) ?_
        show Go _ _ _ _ (T0.setTop (mkF m 43 #[.val (.int p1), .unset] []))
        refine Go.via (fun t_ k_ => XS.iloadN H0.here hx rfl (hb hby d1_43) rfl k_) ?_
        show Go _ _ _ _ (T0.setTop (mkF m 44 #[.val (.int p1), .unset] [(.int p1)]))
        refine Go.via (fun t_ k_ => XS.bipush H0.here hx rfl (hb hby d1_44) k_) ?_
        show Go _ _ _ _ (T0.setTop (mkF m 46 #[.val (.int p1), .unset] [(.int (65 : Int32)), (.int p1)]))
        by_cases hc46 : p1 < (65 : Int32)
        · refine Go.via (fun t_ k_ => XS.icmpYes H0.here hx rfl (pc0 := 46) (pc' := 66) rfl (hb hby d1_46) rfl ((tlt hc46).1) (by decide) (by decide) k_) ?_
          show Go _ _ _ _ (T0.setTop (mkF m 66 #[.val (.int p1), .unset] []))
          refine Go.via (fun t_ k_ => XS.iconst H0.here hx rfl (hb hby d1_66) k_) ?_
          show Go _ _ _ _ (T0.setTop (mkF m 67 #[.val (.int p1), .unset] [(.int (-1 : Int32))]))
          refine Go.via (fun t_ k_ => XS.istoreN H0.here hx rfl (hb hby d1_67) rfl (l' := #[.val (.int p1), .val (.int (-1 : Int32))]) rfl k_) ?_
          show Go _ _ _ _ (T0.setTop (mkF m 68 #[.val (.int p1), .val (.int (-1 : Int32))] []))
          refine Go.via (fun t_ k_ => XS.iloadN H0.here hx rfl (hb hby d1_68) rfl k_) ?_
          show Go _ _ _ _ (T0.setTop (mkF m 69 #[.val (.int p1), .val (.int (-1 : Int32))] [(.int (-1 : Int32))]))
          exact own_retI H0 hx hlk hret (hb hby d1_69) ⟨by simp [hexF, eq_true hc3, eq_false hc23, eq_true hc29, eq_true hc46], rfl⟩ (by decide) (by decide)
        · refine Go.via (fun t_ k_ => XS.icmpNo H0.here hx rfl (hb hby d1_46) rfl ((flt hc46).1) k_) ?_
          show Go _ _ _ _ (T0.setTop (mkF m 49 #[.val (.int p1), .unset] []))
          refine Go.via (fun t_ k_ => XS.iloadN H0.here hx rfl (hb hby d1_49) rfl k_) ?_
          show Go _ _ _ _ (T0.setTop (mkF m 50 #[.val (.int p1), .unset] [(.int p1)]))
          refine Go.via (fun t_ k_ => XS.bipush H0.here hx rfl (hb hby d1_50) k_) ?_
          show Go _ _ _ _ (T0.setTop (mkF m 52 #[.val (.int p1), .unset] [(.int (70 : Int32)), (.int p1)]))
          by_cases hc52 : (70 : Int32) < p1
          · refine Go.via (fun t_ k_ => XS.icmpYes H0.here hx rfl (pc0 := 52) (pc' := 66) rfl (hb hby d1_52) rfl ((tlt hc52).2.2.1) (by decide) (by decide) k_) ?_
            show Go _ _ _ _ (T0.setTop (mkF m 66 #[.val (.int p1), .unset] []))
            refine Go.via (fun t_ k_ => XS.iconst H0.here hx rfl (hb hby d1_66) k_) ?_
            show Go _ _ _ _ (T0.setTop (mkF m 67 #[.val (.int p1), .unset] [(.int (-1 : Int32))]))
            refine Go.via (fun t_ k_ => XS.istoreN H0.here hx rfl (hb hby d1_67) rfl (l' := #[.val (.int p1), .val (.int (-1 : Int32))]) rfl k_) ?_
            show Go _ _ _ _ (T0.setTop (mkF m 68 #[.val (.int p1), .val (.int (-1 : Int32))] []))
            refine Go.via (fun t_ k_ => XS.iloadN H0.here hx rfl (hb hby d1_68) rfl k_) ?_
            show Go _ _ _ _ (T0.setTop (mkF m 69 #[.val (.int p1), .val (.int (-1 : Int32))] [(.int (-1 : Int32))]))
            exact own_retI H0 hx hlk hret (hb hby d1_69) ⟨by simp [hexF, eq_true hc3, eq_false hc23, eq_true hc29, eq_false hc46, eq_true hc52], rfl⟩ (by decide) (by decide)
          · refine Go.via (fun t_ k_ => XS.icmpNo H0.here hx rfl (hb hby d1_52) rfl ((flt hc52).2.2.1) k_) ?_
            show Go _ _ _ _ (T0.setTop (mkF m 55 #[.val (.int p1), .unset] []))
            refine Go.via (fun t_ k_ => XS.iloadN H0.here hx rfl (hb hby d1_55) rfl k_) ?_
            show Go _ _ _ _ (T0.setTop (mkF m 56 #[.val (.int p1), .unset] [(.int p1)]))
            refine Go.via (fun t_ k_ => XS.bipush H0.here hx rfl (hb hby d1_56) k_) ?_
            show Go _ _ _ _ (T0.setTop (mkF m 58 #[.val (.int p1), .unset] [(.int (65 : Int32)), (.int p1)]))
            refine Go.via (fun t_ k_ => XS.isub H0.here hx rfl (hb hby d1_58) rfl k_) ?_
            show Go _ _ _ _ (T0.setTop (mkF m 59 #[.val (.int p1), .unset] [(.int (p1 - (65 : Int32)))]))
            refine Go.via (fun t_ k_ => XS.bipush H0.here hx rfl (hb hby d1_59) k_) ?_
            show Go _ _ _ _ (T0.setTop (mkF m 61 #[.val (.int p1), .unset] [(.int (10 : Int32)), (.int (p1 - (65 : Int32)))]))
            refine Go.via (fun t_ k_ => XS.iadd H0.here hx rfl (hb hby d1_61) rfl k_) ?_
            show Go _ _ _ _ (T0.setTop (mkF m 62 #[.val (.int p1), .unset] [(.int ((p1 - (65 : Int32)) + (10 : Int32)))]))
            refine Go.via (fun t_ k_ => XS.istoreN H0.here hx rfl (hb hby d1_62) rfl (l' := #[.val (.int p1), .val (.int ((p1 - (65 : Int32)) + (10 : Int32)))]) rfl k_) ?_
            show Go _ _ _ _ (T0.setTop (mkF m 63 #[.val (.int p1), .val (.int ((p1 - (65 : Int32)) + (10 : Int32)))] []))
            refine Go.via (fun t_ k_ => XS.goto H0.here hx rfl (pc0 := 63) (pc' := 68) rfl (hb hby d1_63) (by decide) (by decide) k_) ?_
            show Go _ _ _ _ (T0.setTop (mkF m 68 #[.val (.int p1), .val (.int ((p1 - (65 : Int32)) + (10 : Int32)))] []))
            refine Go.via (fun t_ k_ => XS.iloadN H0.here hx rfl (hb hby d1_68) rfl k_) ?_
            show Go _ _ _ _ (T0.setTop (mkF m 69 #[.val (.int p1), .val (.int ((p1 - (65 : Int32)) + (10 : Int32)))] [(.int ((p1 - (65 : Int32)) + (10 : Int32)))]))
            exact own_retI H0 hx hlk hret (hb hby d1_69) ⟨by simp [hexF, eq_true hc3, eq_false hc23, eq_true hc29, eq_false hc46, eq_false hc52], rfl⟩ (by decide) (by decide)
      · refine Go.via (fun t_ k_ => XS.icmpNo H0.here hx rfl (hb hby d1_29) rfl ((flt hc29).2.2.1) k_) ?_
        show Go _ _ _ _ (T0.setTop (mkF m 32 #[.val (.int p1), .unset] []))
        refine Go.via (fun t_ k_ => XS.iloadN H0.here hx rfl (hb hby d1_32) rfl k_) ?_
        show Go _ _ _ _ (T0.setTop (mkF m 33 #[.val (.int p1), .unset] [(.int p1)]))
        refine Go.via (fun t_ k_ => XS.bipush H0.here hx rfl (hb hby d1_33) k_) ?_
        show Go _ _ _ _ (T0.setTop (mkF m 35 #[.val (.int p1), .unset] [(.int (97 : Int32)), (.int p1)]))
        refine Go.via (fun t_ k_ => XS.isub H0.here hx rfl (hb hby d1_35) rfl k_) ?_
        show Go _ _ _ _ (T0.setTop (mkF m 36 #[.val (.int p1), .unset] [(.int (p1 - (97 : Int32)))]))
        refine Go.via (fun t_ k_ => XS.bipush H0.here hx rfl (hb hby d1_36) k_) ?_
        show Go _ _ _ _ (T0.setTop (mkF m 38 #[.val (.int p1), .unset] [(.int (10 : Int32)), (.int (p1 - (97 : Int32)))]))
        refine Go.via (fun t_ k_ => XS.iadd H0.here hx rfl (hb hby d1_38) rfl k_) ?_
        show Go _ _ _ _ (T0.setTop (mkF m 39 #[.val (.int p1), .unset] [(.int ((p1 - (97 : Int32)) + (10 : Int32)))]))
        refine Go.via (fun t_ k_ => XS.istoreN H0.here hx rfl (hb hby d1_39) rfl (l' := #[.val (.int p1), .val (.int ((p1 - (97 : Int32)) + (10 : Int32)))]) rfl k_) ?_
        show Go _ _ _ _ (T0.setTop (mkF m 40 #[.val (.int p1), .val (.int ((p1 - (97 : Int32)) + (10 : Int32)))] []))
        refine Go.via (fun t_ k_ => XS.goto H0.here hx rfl (pc0 := 40) (pc' := 68) rfl (hb hby d1_40) (by decide) (by decide) k_) ?_
        show Go _ _ _ _ (T0.setTop (mkF m 68 #[.val (.int p1), .val (.int ((p1 - (97 : Int32)) + (10 : Int32)))] []))
        refine Go.via (fun t_ k_ => XS.iloadN H0.here hx rfl (hb hby d1_68) rfl k_) ?_
        show Go _ _ _ _ (T0.setTop (mkF m 69 #[.val (.int p1), .val (.int ((p1 - (97 : Int32)) + (10 : Int32)))] [(.int ((p1 - (97 : Int32)) + (10 : Int32)))]))
        exact own_retI H0 hx hlk hret (hb hby d1_69) ⟨by simp [hexF, eq_true hc3, eq_false hc23, eq_false hc29], rfl⟩ (by decide) (by decide)
  · refine Go.via (fun t_ k_ => XS.icmpNo H0.here hx rfl (hb hby d1_3) rfl ((flt hc3).1) k_) ?_
    show Go _ _ _ _ (T0.setTop (mkF m 6 #[.val (.int p1), .unset] []))
    refine Go.via (fun t_ k_ => XS.iloadN H0.here hx rfl (hb hby d1_6) rfl k_) ?_
    show Go _ _ _ _ (T0.setTop (mkF m 7 #[.val (.int p1), .unset] [(.int p1)]))
    refine Go.via (fun t_ k_ => XS.bipush H0.here hx rfl (hb hby d1_7) k_) ?_
    show Go _ _ _ _ (T0.setTop (mkF m 9 #[.val (.int p1), .unset] [(.int (57 : Int32)), (.int p1)]))
    by_cases hc9 : (57 : Int32) < p1
    · refine Go.via (fun t_ k_ => XS.icmpYes H0.here hx rfl (pc0 := 9) (pc' := 20) rfl (hb hby d1_9) rfl ((tlt hc9).2.2.1) (by decide) (by decide) k_) ?_
      show Go _ _ _ _ (T0.setTop (mkF m 20 #[.val (.int p1), .unset] []))
      refine Go.via (fun t_ k_ => XS.iloadN H0.here hx rfl (hb hby d1_20) rfl k_) ?_
      show Go _ _ _ _ (T0.setTop (mkF m 21 #[.val (.int p1), .unset] [(.int p1)]))
      refine Go.via (fun t_ k_ => XS.bipush H0.here hx rfl (hb hby d1_21) k_) ?_
      show Go _ _ _ _ (T0.setTop (mkF m 23 #[.val (.int p1), .unset] [(.int (97 : Int32)), (.int p1)]))
      by_cases hc23 : p1 < (97 : Int32)
      · refine Go.via (fun t_ k_ => XS.icmpYes H0.here hx rfl (pc0 := 23) (pc' := 43) rfl (hb hby d1_23) rfl ((tlt hc23).1) (by decide) (by decide) k_) ?_
        show Go _ _ _ _ (T0.setTop (mkF m 43 #[.val (.int p1), .unset] []))
        refine Go.via (fun t_ k_ => XS.iloadN H0.here hx rfl (hb hby d1_43) rfl k_) ?_
        show Go _ _ _ _ (T0.setTop (mkF m 44 #[.val (.int p1), .unset] [(.int p1)]))
        refine Go.via (fun t_ k_ => XS.bipush H0.here hx rfl (hb hby d1_44) k_) ?_
        show Go _ _ _ _ (T0.setTop (mkF m 46 #[.val (.int p1), .unset] [(.int (65 : Int32)), (.int p1)]))
        by_cases hc46 : p1 < (65 : Int32)
        · refine Go.via (fun t_ k_ => XS.icmpYes H0.here hx rfl (pc0 := 46) (pc' := 66) rfl (hb hby d1_46) rfl ((tlt hc46).1) (by decide) (by decide) k_) ?_
          show Go _ _ _ _ (T0.setTop (mkF m 66 #[.val (.int p1), .unset] []))
          refine Go.via (fun t_ k_ => XS.iconst H0.here hx rfl (hb hby d1_66) k_) ?_
          show Go _ _ _ _ (T0.setTop (mkF m 67 #[.val (.int p1), .unset] [(.int (-1 : Int32))]))
          refine Go.via (fun t_ k_ => XS.istoreN H0.here hx rfl (hb hby d1_67) rfl (l' := #[.val (.int p1), .val (.int (-1 : Int32))]) rfl k_) ?_
          show Go _ _ _ _ (T0.setTop (mkF m 68 #[.val (.int p1), .val (.int (-1 : Int32))] []))
          refine Go.via (fun t_ k_ => XS.iloadN H0.here hx rfl (hb hby d1_68) rfl k_) ?_
          show Go _ _ _ _ (T0.setTop (mkF m 69 #[.val (.int p1), .val (.int (-1 : Int32))] [(.int (-1 : Int32))]))
          exact own_retI H0 hx hlk hret (hb hby d1_69) ⟨by simp [hexF, eq_false hc3, eq_true hc9, eq_true hc23, eq_true hc46], rfl⟩ (by decide) (by decide)
        · refine Go.via (fun t_ k_ => XS.icmpNo H0.here hx rfl (hb hby d1_46) rfl ((flt hc46).1) k_) ?_
          show Go _ _ _ _ (T0.setTop (mkF m 49 #[.val (.int p1), .unset] []))
          refine Go.via (fun t_ k_ => XS.iloadN H0.here hx rfl (hb hby d1_49) rfl k_) ?_
          show Go _ _ _ _ (T0.setTop (mkF m 50 #[.val (.int p1), .unset] [(.int p1)]))
          refine Go.via (fun t_ k_ => XS.bipush H0.here hx rfl (hb hby d1_50) k_) ?_
          show Go _ _ _ _ (T0.setTop (mkF m 52 #[.val (.int p1), .unset] [(.int (70 : Int32)), (.int p1)]))
          by_cases hc52 : (70 : Int32) < p1
          · refine Go.via (fun t_ k_ => XS.icmpYes H0.here hx rfl (pc0 := 52) (pc' := 66) rfl (hb hby d1_52) rfl ((tlt hc52).2.2.1) (by decide) (by decide) k_) ?_
            show Go _ _ _ _ (T0.setTop (mkF m 66 #[.val (.int p1), .unset] []))
            refine Go.via (fun t_ k_ => XS.iconst H0.here hx rfl (hb hby d1_66) k_) ?_
            show Go _ _ _ _ (T0.setTop (mkF m 67 #[.val (.int p1), .unset] [(.int (-1 : Int32))]))
            refine Go.via (fun t_ k_ => XS.istoreN H0.here hx rfl (hb hby d1_67) rfl (l' := #[.val (.int p1), .val (.int (-1 : Int32))]) rfl k_) ?_
            show Go _ _ _ _ (T0.setTop (mkF m 68 #[.val (.int p1), .val (.int (-1 : Int32))] []))
            refine Go.via (fun t_ k_ => XS.iloadN H0.here hx rfl (hb hby d1_68) rfl k_) ?_
            show Go _ _ _ _ (T0.setTop (mkF m 69 #[.val (.int p1), .val (.int (-1 : Int32))] [(.int (-1 : Int32))]))
            exact own_retI H0 hx hlk hret (hb hby d1_69) ⟨by simp [hexF, eq_false hc3, eq_true hc9, eq_true hc23, eq_false hc46, eq_true hc52], rfl⟩ (by decide) (by decide)
          · refine Go.via (fun t_ k_ => XS.icmpNo H0.here hx rfl (hb hby d1_52) rfl ((flt hc52).2.2.1) k_) ?_
            show Go _ _ _ _ (T0.setTop (mkF m 55 #[.val (.int p1), .unset] []))
            refine Go.via (fun t_ k_ => XS.iloadN H0.here hx rfl (hb hby d1_55) rfl k_) ?_
            show Go _ _ _ _ (T0.setTop (mkF m 56 #[.val (.int p1), .unset] [(.int p1)]))
            refine Go.via (fun t_ k_ => XS.bipush H0.here hx rfl (hb hby d1_56) k_) ?_
            show Go _ _ _ _ (T0.setTop (mkF m 58 #[.val (.int p1), .unset] [(.int (65 : Int32)), (.int p1)]))
            refine Go.via (fun t_ k_ => XS.isub H0.here hx rfl (hb hby d1_58) rfl k_) ?_
            show Go _ _ _ _ (T0.setTop (mkF m 59 #[.val (.int p1), .unset] [(.int (p1 - (65 : Int32)))]))
            refine Go.via (fun t_ k_ => XS.bipush H0.here hx rfl (hb hby d1_59) k_) ?_
            show Go _ _ _ _ (T0.setTop (mkF m 61 #[.val (.int p1), .unset] [(.int (10 : Int32)), (.int (p1 - (65 : Int32)))]))
            refine Go.via (fun t_ k_ => XS.iadd H0.here hx rfl (hb hby d1_61) rfl k_) ?_
            show Go _ _ _ _ (T0.setTop (mkF m 62 #[.val (.int p1), .unset] [(.int ((p1 - (65 : Int32)) + (10 : Int32)))]))
            refine Go.via (fun t_ k_ => XS.istoreN H0.here hx rfl (hb hby d1_62) rfl (l' := #[.val (.int p1), .val (.int ((p1 - (65 : Int32)) + (10 : Int32)))]) rfl k_) ?_
            show Go _ _ _ _ (T0.setTop (mkF m 63 #[.val (.int p1), .val (.int ((p1 - (65 : Int32)) + (10 : Int32)))] []))
            refine Go.via (fun t_ k_ => XS.goto H0.here hx rfl (pc0 := 63) (pc' := 68) rfl (hb hby d1_63) (by decide) (by decide) k_) ?_
            show Go _ _ _ _ (T0.setTop (mkF m 68 #[.val (.int p1), .val (.int ((p1 - (65 : Int32)) + (10 : Int32)))] []))
            refine Go.via (fun t_ k_ => XS.iloadN H0.here hx rfl (hb hby d1_68) rfl k_) ?_
            show Go _ _ _ _ (T0.setTop (mkF m 69 #[.val (.int p1), .val (.int ((p1 - (65 : Int32)) + (10 : Int32)))] [(.int ((p1 - (65 : Int32)) + (10 : Int32)))]))
            exact own_retI H0 hx hlk hret (hb hby d1_69) ⟨by simp [hexF, eq_false hc3, eq_true hc9, eq_true hc23, eq_false hc46, eq_false hc52], rfl⟩ (by decide) (by decide)
      · refine Go.via (fun t_ k_ => XS.icmpNo H0.here hx rfl (hb hby d1_23) rfl ((flt hc23).1) k_) ?_
        show Go _ _ _ _ (T0.setTop (mkF m 26 #[.val (.int p1), .unset] []))
        refine Go.via (fun t_ k_ => XS.iloadN H0.here hx rfl (hb hby d1_26) rfl k_) ?_
        show Go _ _ _ _ (T0.setTop (mkF m 27 #[.val (.int p1), .unset] [(.int p1)]))
        refine Go.via (fun t_ k_ => XS.bipush H0.here hx rfl (hb hby d1_27) k_) ?_
        show Go _ _ _ _ (T0.setTop (mkF m 29 #[.val (.int p1), .unset] [(.int (102 : Int32)), (.int p1)]))
        by_cases hc29 : (102 : Int32) < p1
        · refine Go.via (fun t_ k_ => XS.icmpYes H0.here hx rfl (pc0 := 29) (pc' := 43) rfl (hb hby d1_29) rfl ((tlt hc29).2.2.1) (by decide) (by decide) k_) ?_
          show Go _ _ _ _ (T0.setTop (mkF m 43 #[.val (.int p1), .unset] []))
          refine Go.via (fun t_ k_ => XS.iloadN H0.here hx rfl (hb hby d1_43) rfl k_) ?_
          show Go _ _ _ _ (T0.setTop (mkF m 44 #[.val (.int p1), .unset] [(.int p1)]))
          refine Go.via (fun t_ k_ => XS.bipush H0.here hx rfl (hb hby d1_44) k_) ?_
          show Go _ _ _ _ (T0.setTop (mkF m 46 #[.val (.int p1), .unset] [(.int (65 : Int32)), (.int p1)]))
          by_cases hc46 : p1 < (65 : Int32)
          · refine Go.via (fun t_ k_ => XS.icmpYes H0.here hx rfl (pc0 := 46) (pc' := 66) rfl (hb hby d1_46) rfl ((tlt hc46).1) (by decide) (by decide) k_) ?_
            show Go _ _ _ _ (T0.setTop (mkF m 66 #[.val (.int p1), .unset] []))
            refine Go.via (fun t_ k_ => XS.iconst H0.here hx rfl (hb hby d1_66) k_) ?_
            show Go _ _ _ _ (T0.setTop (mkF m 67 #[.val (.int p1), .unset] [(.int (-1 : Int32))]))
            refine Go.via (fun t_ k_ => XS.istoreN H0.here hx rfl (hb hby d1_67) rfl (l' := #[.val (.int p1), .val (.int (-1 : Int32))]) rfl k_) ?_
            show Go _ _ _ _ (T0.setTop (mkF m 68 #[.val (.int p1), .val (.int (-1 : Int32))] []))
            refine Go.via (fun t_ k_ => XS.iloadN H0.here hx rfl (hb hby d1_68) rfl k_) ?_
            show Go _ _ _ _ (T0.setTop (mkF m 69 #[.val (.int p1), .val (.int (-1 : Int32))] [(.int (-1 : Int32))]))
            exact own_retI H0 hx hlk hret (hb hby d1_69) ⟨by simp [hexF, eq_false hc3, eq_true hc9, eq_false hc23, eq_true hc29, eq_true hc46], rfl⟩ (by decide) (by decide)
          · refine Go.via (fun t_ k_ => XS.icmpNo H0.here hx rfl (hb hby d1_46) rfl ((flt hc46).1) k_) ?_
            show Go _ _ _ _ (T0.setTop (mkF m 49 #[.val (.int p1), .unset] []))
            refine Go.via (fun t_ k_ => XS.iloadN H0.here hx rfl (hb hby d1_49) rfl k_) ?_
            show Go _ _ _ _ (T0.setTop (mkF m 50 #[.val (.int p1), .unset] [(.int p1)]))
            refine Go.via (fun t_ k_ => XS.bipush H0.here hx rfl (hb hby d1_50) k_) ?_
            show Go _ _ _ _ (T0.setTop (mkF m 52 #[.val (.int p1), .unset] [(.int (70 : Int32)), (.int p1)]))
            by_cases hc52 : (70 : Int32) < p1
            · refine Go.via (fun t_ k_ => XS.icmpYes H0.here hx rfl (pc0 := 52) (pc' := 66) rfl (hb hby d1_52) rfl ((tlt hc52).2.2.1) (by decide) (by decide) k_) ?_
              show Go _ _ _ _ (T0.setTop (mkF m 66 #[.val (.int p1), .unset] []))
              refine Go.via (fun t_ k_ => XS.iconst H0.here hx rfl (hb hby d1_66) k_) ?_
              show Go _ _ _ _ (T0.setTop (mkF m 67 #[.val (.int p1), .unset] [(.int (-1 : Int32))]))
              refine Go.via (fun t_ k_ => XS.istoreN H0.here hx rfl (hb hby d1_67) rfl (l' := #[.val (.int p1), .val (.int (-1 : Int32))]) rfl k_) ?_
              show Go _ _ _ _ (T0.setTop (mkF m 68 #[.val (.int p1), .val (.int (-1 : Int32))] []))
              refine Go.via (fun t_ k_ => XS.iloadN H0.here hx rfl (hb hby d1_68) rfl k_) ?_
              show Go _ _ _ _ (T0.setTop (mkF m 69 #[.val (.int p1), .val (.int (-1 : Int32))] [(.int (-1 : Int32))]))
              exact own_retI H0 hx hlk hret (hb hby d1_69) ⟨by simp [hexF, eq_false hc3, eq_true hc9, eq_false hc23, eq_true hc29, eq_false hc46, eq_true hc52], rfl⟩ (by decide) (by decide)
            · refine Go.via (fun t_ k_ => XS.icmpNo H0.here hx rfl (hb hby d1_52) rfl ((flt hc52).2.2.1) k_) ?_
              show Go _ _ _ _ (T0.setTop (mkF m 55 #[.val (.int p1), .unset] []))
              refine Go.via (fun t_ k_ => XS.iloadN H0.here hx rfl (hb hby d1_55) rfl k_) ?_
              show Go _ _ _ _ (T0.setTop (mkF m 56 #[.val (.int p1), .unset] [(.int p1)]))
              refine Go.via (fun t_ k_ => XS.bipush H0.here hx rfl (hb hby d1_56) k_) ?_
              show Go _ _ _ _ (T0.setTop (mkF m 58 #[.val (.int p1), .unset] [(.int (65 : Int32)), (.int p1)]))
              refine Go.via (fun t_ k_ => XS.isub H0.here hx rfl (hb hby d1_58) rfl k_) ?_
              show Go _ _ _ _ (T0.setTop (mkF m 59 #[.val (.int p1), .unset] [(.int (p1 - (65 : Int32)))]))
              refine Go.via (fun t_ k_ => XS.bipush H0.here hx rfl (hb hby d1_59) k_) ?_
              show Go _ _ _ _ (T0.setTop (mkF m 61 #[.val (.int p1), .unset] [(.int (10 : Int32)), (.int (p1 - (65 : Int32)))]))
              refine Go.via (fun t_ k_ => XS.iadd H0.here hx rfl (hb hby d1_61) rfl k_) ?_
              show Go _ _ _ _ (T0.setTop (mkF m 62 #[.val (.int p1), .unset] [(.int ((p1 - (65 : Int32)) + (10 : Int32)))]))
              refine Go.via (fun t_ k_ => XS.istoreN H0.here hx rfl (hb hby d1_62) rfl (l' := #[.val (.int p1), .val (.int ((p1 - (65 : Int32)) + (10 : Int32)))]) rfl k_) ?_
              show Go _ _ _ _ (T0.setTop (mkF m 63 #[.val (.int p1), .val (.int ((p1 - (65 : Int32)) + (10 : Int32)))] []))
              refine Go.via (fun t_ k_ => XS.goto H0.here hx rfl (pc0 := 63) (pc' := 68) rfl (hb hby d1_63) (by decide) (by decide) k_) ?_
              show Go _ _ _ _ (T0.setTop (mkF m 68 #[.val (.int p1), .val (.int ((p1 - (65 : Int32)) + (10 : Int32)))] []))
              refine Go.via (fun t_ k_ => XS.iloadN H0.here hx rfl (hb hby d1_68) rfl k_) ?_
              show Go _ _ _ _ (T0.setTop (mkF m 69 #[.val (.int p1), .val (.int ((p1 - (65 : Int32)) + (10 : Int32)))] [(.int ((p1 - (65 : Int32)) + (10 : Int32)))]))
              exact own_retI H0 hx hlk hret (hb hby d1_69) ⟨by simp [hexF, eq_false hc3, eq_true hc9, eq_false hc23, eq_true hc29, eq_false hc46, eq_false hc52], rfl⟩ (by decide) (by decide)
        · refine Go.via (fun t_ k_ => XS.icmpNo H0.here hx rfl (hb hby d1_29) rfl ((flt hc29).2.2.1) k_) ?_
          show Go _ _ _ _ (T0.setTop (mkF m 32 #[.val (.int p1), .unset] []))
          refine Go.via (fun t_ k_ => XS.iloadN H0.here hx rfl (hb hby d1_32) rfl k_) ?_
          show Go _ _ _ _ (T0.setTop (mkF m 33 #[.val (.int p1), .unset] [(.int p1)]))
          refine Go.via (fun t_ k_ => XS.bipush H0.here hx rfl (hb hby d1_33) k_) ?_
          show Go _ _ _ _ (T0.setTop (mkF m 35 #[.val (.int p1), .unset] [(.int (97 : Int32)), (.int p1)]))
          refine Go.via (fun t_ k_ => XS.isub H0.here hx rfl (hb hby d1_35) rfl k_) ?_
          show Go _ _ _ _ (T0.setTop (mkF m 36 #[.val (.int p1), .unset] [(.int (p1 - (97 : Int32)))]))
          refine Go.via (fun t_ k_ => XS.bipush H0.here hx rfl (hb hby d1_36) k_) ?_
          show Go _ _ _ _ (T0.setTop (mkF m 38 #[.val (.int p1), .unset] [(.int (10 : Int32)), (.int (p1 - (97 : Int32)))]))
          refine Go.via (fun t_ k_ => XS.iadd H0.here hx rfl (hb hby d1_38) rfl k_) ?_
          show Go _ _ _ _ (T0.setTop (mkF m 39 #[.val (.int p1), .unset] [(.int ((p1 - (97 : Int32)) + (10 : Int32)))]))
          refine Go.via (fun t_ k_ => XS.istoreN H0.here hx rfl (hb hby d1_39) rfl (l' := #[.val (.int p1), .val (.int ((p1 - (97 : Int32)) + (10 : Int32)))]) rfl k_) ?_
          show Go _ _ _ _ (T0.setTop (mkF m 40 #[.val (.int p1), .val (.int ((p1 - (97 : Int32)) + (10 : Int32)))] []))
          refine Go.via (fun t_ k_ => XS.goto H0.here hx rfl (pc0 := 40) (pc' := 68) rfl (hb hby d1_40) (by decide) (by decide) k_) ?_
          show Go _ _ _ _ (T0.setTop (mkF m 68 #[.val (.int p1), .val (.int ((p1 - (97 : Int32)) + (10 : Int32)))] []))
          refine Go.via (fun t_ k_ => XS.iloadN H0.here hx rfl (hb hby d1_68) rfl k_) ?_
          show Go _ _ _ _ (T0.setTop (mkF m 69 #[.val (.int p1), .val (.int ((p1 - (97 : Int32)) + (10 : Int32)))] [(.int ((p1 - (97 : Int32)) + (10 : Int32)))]))
          exact own_retI H0 hx hlk hret (hb hby d1_69) ⟨by simp [hexF, eq_false hc3, eq_true hc9, eq_false hc23, eq_false hc29], rfl⟩ (by decide) (by decide)
    · refine Go.via (fun t_ k_ => XS.icmpNo H0.here hx rfl (hb hby d1_9) rfl ((flt hc9).2.2.1) k_) ?_
      show Go _ _ _ _ (T0.setTop (mkF m 12 #[.val (.int p1), .unset] []))
      refine Go.via (fun t_ k_ => XS.iloadN H0.here hx rfl (hb hby d1_12) rfl k_) ?_
      show Go _ _ _ _ (T0.setTop (mkF m 13 #[.val (.int p1), .unset] [(.int p1)]))
      refine Go.via (fun t_ k_ => XS.bipush H0.here hx rfl (hb hby d1_13) k_) ?_
      show Go _ _ _ _ (T0.setTop (mkF m 15 #[.val (.int p1), .unset] [(.int (48 : Int32)), (.int p1)]))
      refine Go.via (fun t_ k_ => XS.isub H0.here hx rfl (hb hby d1_15) rfl k_) ?_
      show Go _ _ _ _ (T0.setTop (mkF m 16 #[.val (.int p1), .unset] [(.int (p1 - (48 : Int32)))]))
      refine Go.via (fun t_ k_ => XS.istoreN H0.here hx rfl (hb hby d1_16) rfl (l' := #[.val (.int p1), .val (.int (p1 - (48 : Int32)))]) rfl k_) ?_
      show Go _ _ _ _ (T0.setTop (mkF m 17 #[.val (.int p1), .val (.int (p1 - (48 : Int32)))] []))
      refine Go.via (fun t_ k_ => XS.goto H0.here hx rfl (pc0 := 17) (pc' := 68) rfl (hb hby d1_17) (by decide) (by decide) k_) ?_
      show Go _ _ _ _ (T0.setTop (mkF m 68 #[.val (.int p1), .val (.int (p1 - (48 : Int32)))] []))
      refine Go.via (fun t_ k_ => XS.iloadN H0.here hx rfl (hb hby d1_68) rfl k_) ?_
      show Go _ _ _ _ (T0.setTop (mkF m 69 #[.val (.int p1), .val (.int (p1 - (48 : Int32)))] [(.int (p1 - (48 : Int32)))]))
      exact own_retI H0 hx hlk hret (hb hby d1_69) ⟨by simp [hexF, eq_false hc3, eq_false hc9], rfl⟩ (by decide) (by decide)
theorem ef_rm0 (m : MethodId) (x0 : Int32) (x1 : Int32) : entryFrame m #[(.int x0), (.int x1)] maxLocals = mkF m 0 #[.val (.int x0), .val (.int x1), .unset, .unset, .unset, .unset, .unset, .unset, .unset] [] := by first | (simp [entryFrame, mkF, argsToLocals, Value.category, maxLocals]; done) | rfl
theorem pd_4 : parseMethodDescriptor "(I)C" = some ⟨[.int], some .char⟩ := by decide +kernel
theorem pd_5 : parseMethodDescriptor "(C)I" = some ⟨[.char], some .int⟩ := by decide +kernel
set_option maxRecDepth 65536 in
set_option maxHeartbeats 40000000 in
theorem rm0 (l : Launch) (Z : State) (a0 : Array Value) (hw : ∀ d ∈ tables_1, d.before a0 Z = true) (p1 p2 cs : Int32) (f : Value) (h0 : Heap) (n0 : Nat) (hn0 : n0 = Z.heap.size) (hh0 : h0 = Z.heap) (wS : ∀ a ∈ Bundle.stringAtoms, a.before a0 Z = true) (hheld : ∀ p ∈ consts_1, Jvm.Lit.constHeld Z p.1 p.2) (hcw : Jvm.Lit.compactW.before a0 Z = true) (hcs : ¬ cs = 0) (hf : f.isRef = true) (OL : Old Z n0 h0) (SC : Sta Z Z.heap "java/lang/String" "COMPACT_STRINGS" "Z" (.int cs)) (SF : Sta Z Z.heap "jdk/internal/util/Preconditions" "SIOOBE_FORMATTER" "Ljava/util/function/BiFunction;" f) :
    ∀ ws, MetFree l x (head1 (Jvm.Cond.code x code maxLocals ret :: ws) room_1) (fun a U => a = #[(.int p1), (.int p2)] ∧ U = Z) (fun _ _ _ _ _ => True) (fun _ U o U' => ∃ v L, o = .returned v ∧ ((fun v h => v = some (.int (1 : Int32))) v U'.heap ∧ Fr n0 L) ∧ ReturnedEndW U o U' L room_1.cells room_1.slots) := by
  intro ws
  refine own_enterW (Q := (fun v h => v = some (.int (1 : Int32)))) (by decide +kernel) hn0 hh0 ?_
  intro p e m below meth c T0 hx hby hml hown hnm hZ hret hlk H0 LB
  replace hown : (Z.setVm Z.vm).vm.findClass "com/example/tidy_balancer/tidybalancer/model/KeySpaceHexDigitPinLaw" = some m.cls := hown
  replace hret : meth.sig.returnType = some .boolean := hret
  replace hml : c.maxLocals = 9 := hml
  refine Go.via (fun t_ k_ => castTop (ef_rm0 m p1 p2) k_) ?_
  show Go _ _ _ _ (T0.setTop (mkF m 0 #[.val (.int p1), .val (.int p2), .unset, .unset, .unset, .unset, .unset, .unset, .unset] []))
  refine own_ldcS H0 LB hn0 hx hZ hown (hw _ (List.mem_of_getElem? (i := 0) rfl)) wS (by decide) (hheld ("com/example/tidy_balancer/tidybalancer/model/KeySpaceHexDigitPinLaw", 7) (List.mem_of_getElem? (i := 0) rfl)) hcw [(48 : Int32), (49 : Int32), (50 : Int32), (51 : Int32), (52 : Int32), (53 : Int32), (54 : Int32), (55 : Int32), (56 : Int32), (57 : Int32), (97 : Int32), (98 : Int32), (99 : Int32), (100 : Int32), (101 : Int32), (102 : Int32)] (16 : Int32) ⟨by decide, by decide⟩ (by decide) (by decide) (g := (mkF m 0 #[.val (.int p1), .val (.int p2), .unset, .unset, .unset, .unset, .unset, .unset, .unset] [])) rfl (hb hby at_0) 64 (by decide) (by decide) (by decide) (by decide) ?_
  intro a1 b1 T1 h1 E1 A1 C1 V1 B1 LB1 hZ hown H1
  show Go _ _ _ _ (T1.setTop (mkF m 2 #[.val (.int p1), .val (.int p2), .unset, .unset, .unset, .unset, .unset, .unset, .unset] [(.ref a1)]))
  refine Go.via (fun t_ k_ => XS.astoreN H1.here hx rfl (hb hby at_2) rfl rfl (l' := #[.val (.int p1), .val (.int p2), .val (.ref a1), .unset, .unset, .unset, .unset, .unset, .unset]) rfl k_) ?_
  show Go _ _ _ _ (T1.setTop (mkF m 3 #[.val (.int p1), .val (.int p2), .val (.ref a1), .unset, .unset, .unset, .unset, .unset, .unset] []))
  refine own_ldcS H1 LB1 hn0 hx hZ hown (hw _ (List.mem_of_getElem? (i := 8) rfl)) wS (by decide) (hheld ("com/example/tidy_balancer/tidybalancer/model/KeySpaceHexDigitPinLaw", 9) (List.mem_of_getElem? (i := 1) rfl)) hcw [(48 : Int32), (49 : Int32), (50 : Int32), (51 : Int32), (52 : Int32), (53 : Int32), (54 : Int32), (55 : Int32), (56 : Int32), (57 : Int32), (65 : Int32), (66 : Int32), (67 : Int32), (68 : Int32), (69 : Int32), (70 : Int32)] (16 : Int32) ⟨by decide, by decide⟩ (by decide) (by decide) (g := (mkF m 3 #[.val (.int p1), .val (.int p2), .val (.ref a1), .unset, .unset, .unset, .unset, .unset, .unset] [])) rfl (hb hby at_3) 64 (by decide) (by decide) (by decide) (by decide) ?_
  intro a2 b2 T2 h2 E2 A2 C2 V2 B2 LB2 hZ hown H2
  show Go _ _ _ _ (T2.setTop (mkF m 5 #[.val (.int p1), .val (.int p2), .val (.ref a1), .unset, .unset, .unset, .unset, .unset, .unset] [(.ref a2)]))
  refine Go.via (fun t_ k_ => XS.astoreN H2.here hx rfl (hb hby at_5) rfl rfl (l' := #[.val (.int p1), .val (.int p2), .val (.ref a1), .val (.ref a2), .unset, .unset, .unset, .unset, .unset]) rfl k_) ?_
  show Go _ _ _ _ (T2.setTop (mkF m 6 #[.val (.int p1), .val (.int p2), .val (.ref a1), .val (.ref a2), .unset, .unset, .unset, .unset, .unset] []))
  have J76 : ∀ (Tj : State) (cc r : Int32), Here p l e room_1 (Z.setVm T2.vm) m #[(.int p1), (.int p2)] below meth c n0 Tj h2 4 136 → Go p e below (FiniW below Z n0 (fun v h => v = some (.int (1 : Int32))) room_1.cells room_1.slots) (Tj.setTop (mkF m 76 #[.val (.int p1), .val (.int p2), .val (.ref a1), .val (.ref a2), .val (.int cc), .val (.int r), .val (.int (1 : Int32)), .unset, .unset] [])) := by
    intro Tj cc r Hj 
    obtain ⟨d, hd, hd16⟩ := own_m15 p2
    show Go _ _ _ _ (Tj.setTop (mkF m 76 #[.val (.int p1), .val (.int p2), .val (.ref a1), .val (.ref a2), .val (.int cc), .val (.int r), .val (.int (1 : Int32)), .unset, .unset] []))
    refine Go.via (fun t_ k_ => XS.iloadN Hj.here hx rfl (hb hby at_76) rfl k_) ?_
    show Go _ _ _ _ (Tj.setTop (mkF m 77 #[.val (.int p1), .val (.int p2), .val (.ref a1), .val (.ref a2), .val (.int cc), .val (.int r), .val (.int (1 : Int32)), .unset, .unset] [(.int p2)]))
    refine Go.via (fun t_ k_ => XS.bipush Hj.here hx rfl (hb hby at_77) k_) ?_
    show Go _ _ _ _ (Tj.setTop (mkF m 79 #[.val (.int p1), .val (.int p2), .val (.ref a1), .val (.ref a2), .val (.int cc), .val (.int r), .val (.int (1 : Int32)), .unset, .unset] [(.int (15 : Int32)), (.int p2)]))
    refine Go.via (fun t_ k_ => XS.iand Hj.here hx rfl (hb hby at_79) rfl k_) ?_
    show Go _ _ _ _ (Tj.setTop (mkF m 80 #[.val (.int p1), .val (.int p2), .val (.ref a1), .val (.ref a2), .val (.int cc), .val (.int r), .val (.int (1 : Int32)), .unset, .unset] [(.int (p2 &&& (15 : Int32)))]))
    refine Go.via (fun t_ k_ => XS.istore Hj.here hx rfl (hb hby at_80) rfl (l' := #[.val (.int p1), .val (.int p2), .val (.ref a1), .val (.ref a2), .val (.int cc), .val (.int r), .val (.int (1 : Int32)), .val (.int (p2 &&& (15 : Int32))), .unset]) rfl k_) ?_
    show Go _ _ _ _ (Tj.setTop (mkF m 82 #[.val (.int p1), .val (.int p2), .val (.ref a1), .val (.ref a2), .val (.int cc), .val (.int r), .val (.int (1 : Int32)), .val (.int (p2 &&& (15 : Int32))), .unset] []))
    refine Go.via (fun t_ k_ => XS.aloadN Hj.here hx rfl (hb hby at_82) rfl rfl k_) ?_
    show Go _ _ _ _ (Tj.setTop (mkF m 83 #[.val (.int p1), .val (.int p2), .val (.ref a1), .val (.ref a2), .val (.int cc), .val (.int r), .val (.int (1 : Int32)), .val (.int (p2 &&& (15 : Int32))), .unset] [(.ref a1)]))
    refine Go.via (fun t_ k_ => XS.iload Hj.here hx rfl (hb hby at_83) rfl k_) ?_
    show Go _ _ _ _ (Tj.setTop (mkF m 85 #[.val (.int p1), .val (.int p2), .val (.ref a1), .val (.ref a2), .val (.int cc), .val (.int r), .val (.int (1 : Int32)), .val (.int (p2 &&& (15 : Int32))), .unset] [(.int (p2 &&& (15 : Int32))), (.ref a1)]))
    refine own_callV Hj hx hZ (C := "java/lang/String") (y := (⟨"java/lang/String", "charAt", "(I)C"⟩ : MethodName)) (a := a1) hown (hw _ (List.mem_of_getElem? (i := 13) rfl)) (hw _ (List.mem_of_getElem? (i := 14) rfl)) (hw _ (List.mem_of_getElem? (i := 16) rfl)) (hw _ (List.mem_of_getElem? (i := 15) rfl)) (hw _ (List.mem_of_getElem? (i := 1) rfl)) (hw _ (List.mem_of_getElem? (i := 17) rfl)) (by decide) (A1.ext E2) (rmCh l Z a0 hw a1 b1 (fun j => List.getD [(48 : Int32), (49 : Int32), (50 : Int32), (51 : Int32), (52 : Int32), (53 : Int32), (54 : Int32), (55 : Int32), (56 : Int32), (57 : Int32), (97 : Int32), (98 : Int32), (99 : Int32), (100 : Int32), (101 : Int32), (102 : Int32)] j 0) (p2 &&& (15 : Int32)) (16 : Int32) cs f d 16 h2 n0 (A1.ext E2) (C1.ext E2) (V1.ext E2) (B1.ext E2) (by decide) hf hd (by decide) hd16 (SC.ext ((OL.ext E1).ext E2).2) hcs (SF.ext ((OL.ext E1).ext E2).2)) (g := (mkF m 85 #[.val (.int p1), .val (.int p2), .val (.ref a1), .val (.ref a2), .val (.int cc), .val (.int r), .val (.int (1 : Int32)), .val (.int (p2 &&& (15 : Int32))), .unset] [(.int (p2 &&& (15 : Int32))), (.ref a1)])) rfl (by rw [hml]; rfl) (argsL := [(.int (p2 &&& (15 : Int32)))]) (rest := []) (lenOf pd_4 rfl) rfl 0 (Nat.le_of_eq rfl) (hb hby at_85) (by decide) (by decide) (by decide) (by decide) ?_
    rintro _ T3 _ ⟨rfl, rfl⟩ H3
    show Go _ _ _ _ (T3.setTop (mkF m 88 #[.val (.int p1), .val (.int p2), .val (.ref a1), .val (.ref a2), .val (.int cc), .val (.int r), .val (.int (1 : Int32)), .val (.int (p2 &&& (15 : Int32))), .unset] [(.int (((fun j => List.getD [(48 : Int32), (49 : Int32), (50 : Int32), (51 : Int32), (52 : Int32), (53 : Int32), (54 : Int32), (55 : Int32), (56 : Int32), (57 : Int32), (97 : Int32), (98 : Int32), (99 : Int32), (100 : Int32), (101 : Int32), (102 : Int32)] j 0) d) &&& (255 : Int32)))]))
    refine own_callS H3 hx hZ (y := (⟨"com/example/tidy_balancer/tidybalancer/model/KeySpace", "hexDigit", "(C)I"⟩ : MethodName)) hown (hw _ (List.mem_of_getElem? (i := 9) rfl)) (hw _ (List.mem_of_getElem? (i := 10) rfl)) (hw _ (List.mem_of_getElem? (i := 11) rfl)) (hw _ (List.mem_of_getElem? (i := 12) rfl)) (by decide) (rmX l Z a0 hw (((fun j => List.getD [(48 : Int32), (49 : Int32), (50 : Int32), (51 : Int32), (52 : Int32), (53 : Int32), (54 : Int32), (55 : Int32), (56 : Int32), (57 : Int32), (97 : Int32), (98 : Int32), (99 : Int32), (100 : Int32), (101 : Int32), (102 : Int32)] j 0) d) &&& (255 : Int32)) h2 n0) (g := (mkF m 88 #[.val (.int p1), .val (.int p2), .val (.ref a1), .val (.ref a2), .val (.int cc), .val (.int r), .val (.int (1 : Int32)), .val (.int (p2 &&& (15 : Int32))), .unset] [(.int (((fun j => List.getD [(48 : Int32), (49 : Int32), (50 : Int32), (51 : Int32), (52 : Int32), (53 : Int32), (54 : Int32), (55 : Int32), (56 : Int32), (57 : Int32), (97 : Int32), (98 : Int32), (99 : Int32), (100 : Int32), (101 : Int32), (102 : Int32)] j 0) d) &&& (255 : Int32)))])) rfl (by rw [hml]; rfl) (argsL := [(.int (((fun j => List.getD [(48 : Int32), (49 : Int32), (50 : Int32), (51 : Int32), (52 : Int32), (53 : Int32), (54 : Int32), (55 : Int32), (56 : Int32), (57 : Int32), (97 : Int32), (98 : Int32), (99 : Int32), (100 : Int32), (101 : Int32), (102 : Int32)] j 0) d) &&& (255 : Int32)))]) (rest := []) (lenOf pd_5 rfl) rfl 0 (Nat.le_of_eq rfl) (hb hby at_88) (by decide) (by decide) (by decide) (by decide) ?_
    rintro _ T4 _ ⟨rfl, rfl⟩ H4
    show Go _ _ _ _ (T4.setTop (mkF m 91 #[.val (.int p1), .val (.int p2), .val (.ref a1), .val (.ref a2), .val (.int cc), .val (.int r), .val (.int (1 : Int32)), .val (.int (p2 &&& (15 : Int32))), .unset] [(.int (hexF (((fun j => List.getD [(48 : Int32), (49 : Int32), (50 : Int32), (51 : Int32), (52 : Int32), (53 : Int32), (54 : Int32), (55 : Int32), (56 : Int32), (57 : Int32), (97 : Int32), (98 : Int32), (99 : Int32), (100 : Int32), (101 : Int32), (102 : Int32)] j 0) d) &&& (255 : Int32))))]))
    refine Go.via (fun t_ k_ => XS.iload H4.here hx rfl (hb hby at_91) rfl k_) ?_
    show Go _ _ _ _ (T4.setTop (mkF m 93 #[.val (.int p1), .val (.int p2), .val (.ref a1), .val (.ref a2), .val (.int cc), .val (.int r), .val (.int (1 : Int32)), .val (.int (p2 &&& (15 : Int32))), .unset] [(.int (p2 &&& (15 : Int32))), (.int (hexF (((fun j => List.getD [(48 : Int32), (49 : Int32), (50 : Int32), (51 : Int32), (52 : Int32), (53 : Int32), (54 : Int32), (55 : Int32), (56 : Int32), (57 : Int32), (97 : Int32), (98 : Int32), (99 : Int32), (100 : Int32), (101 : Int32), (102 : Int32)] j 0) d) &&& (255 : Int32))))]))
    refine Go.via (fun t_ k_ => XS.icmpNo H4.here hx rfl (hb hby at_93) rfl ((teq (show (hexF (((fun j => List.getD [(48 : Int32), (49 : Int32), (50 : Int32), (51 : Int32), (52 : Int32), (53 : Int32), (54 : Int32), (55 : Int32), (56 : Int32), (57 : Int32), (97 : Int32), (98 : Int32), (99 : Int32), (100 : Int32), (101 : Int32), (102 : Int32)] j 0) d) &&& (255 : Int32))) = (p2 &&& (15 : Int32)) from (own_low hd hd16))).2) k_) ?_
    show Go _ _ _ _ (T4.setTop (mkF m 96 #[.val (.int p1), .val (.int p2), .val (.ref a1), .val (.ref a2), .val (.int cc), .val (.int r), .val (.int (1 : Int32)), .val (.int (p2 &&& (15 : Int32))), .unset] []))
    refine Go.via (fun t_ k_ => XS.aloadN H4.here hx rfl (hb hby at_96) rfl rfl k_) ?_
    show Go _ _ _ _ (T4.setTop (mkF m 97 #[.val (.int p1), .val (.int p2), .val (.ref a1), .val (.ref a2), .val (.int cc), .val (.int r), .val (.int (1 : Int32)), .val (.int (p2 &&& (15 : Int32))), .unset] [(.ref a2)]))
    refine Go.via (fun t_ k_ => XS.iload H4.here hx rfl (hb hby at_97) rfl k_) ?_
    show Go _ _ _ _ (T4.setTop (mkF m 99 #[.val (.int p1), .val (.int p2), .val (.ref a1), .val (.ref a2), .val (.int cc), .val (.int r), .val (.int (1 : Int32)), .val (.int (p2 &&& (15 : Int32))), .unset] [(.int (p2 &&& (15 : Int32))), (.ref a2)]))
    refine own_callV H4 hx hZ (C := "java/lang/String") (y := (⟨"java/lang/String", "charAt", "(I)C"⟩ : MethodName)) (a := a2) hown (hw _ (List.mem_of_getElem? (i := 13) rfl)) (hw _ (List.mem_of_getElem? (i := 14) rfl)) (hw _ (List.mem_of_getElem? (i := 16) rfl)) (hw _ (List.mem_of_getElem? (i := 15) rfl)) (hw _ (List.mem_of_getElem? (i := 1) rfl)) (hw _ (List.mem_of_getElem? (i := 17) rfl)) (by decide) A2 (rmCh l Z a0 hw a2 b2 (fun j => List.getD [(48 : Int32), (49 : Int32), (50 : Int32), (51 : Int32), (52 : Int32), (53 : Int32), (54 : Int32), (55 : Int32), (56 : Int32), (57 : Int32), (65 : Int32), (66 : Int32), (67 : Int32), (68 : Int32), (69 : Int32), (70 : Int32)] j 0) (p2 &&& (15 : Int32)) (16 : Int32) cs f d 16 h2 n0 A2 C2 V2 B2 (by decide) hf hd (by decide) hd16 (SC.ext ((OL.ext E1).ext E2).2) hcs (SF.ext ((OL.ext E1).ext E2).2)) (g := (mkF m 99 #[.val (.int p1), .val (.int p2), .val (.ref a1), .val (.ref a2), .val (.int cc), .val (.int r), .val (.int (1 : Int32)), .val (.int (p2 &&& (15 : Int32))), .unset] [(.int (p2 &&& (15 : Int32))), (.ref a2)])) rfl (by rw [hml]; rfl) (argsL := [(.int (p2 &&& (15 : Int32)))]) (rest := []) (lenOf pd_4 rfl) rfl 0 (Nat.le_of_eq rfl) (hb hby at_99) (by decide) (by decide) (by decide) (by decide) ?_
    rintro _ T5 _ ⟨rfl, rfl⟩ H5
    show Go _ _ _ _ (T5.setTop (mkF m 102 #[.val (.int p1), .val (.int p2), .val (.ref a1), .val (.ref a2), .val (.int cc), .val (.int r), .val (.int (1 : Int32)), .val (.int (p2 &&& (15 : Int32))), .unset] [(.int (((fun j => List.getD [(48 : Int32), (49 : Int32), (50 : Int32), (51 : Int32), (52 : Int32), (53 : Int32), (54 : Int32), (55 : Int32), (56 : Int32), (57 : Int32), (65 : Int32), (66 : Int32), (67 : Int32), (68 : Int32), (69 : Int32), (70 : Int32)] j 0) d) &&& (255 : Int32)))]))
    refine own_callS H5 hx hZ (y := (⟨"com/example/tidy_balancer/tidybalancer/model/KeySpace", "hexDigit", "(C)I"⟩ : MethodName)) hown (hw _ (List.mem_of_getElem? (i := 9) rfl)) (hw _ (List.mem_of_getElem? (i := 10) rfl)) (hw _ (List.mem_of_getElem? (i := 11) rfl)) (hw _ (List.mem_of_getElem? (i := 12) rfl)) (by decide) (rmX l Z a0 hw (((fun j => List.getD [(48 : Int32), (49 : Int32), (50 : Int32), (51 : Int32), (52 : Int32), (53 : Int32), (54 : Int32), (55 : Int32), (56 : Int32), (57 : Int32), (65 : Int32), (66 : Int32), (67 : Int32), (68 : Int32), (69 : Int32), (70 : Int32)] j 0) d) &&& (255 : Int32)) h2 n0) (g := (mkF m 102 #[.val (.int p1), .val (.int p2), .val (.ref a1), .val (.ref a2), .val (.int cc), .val (.int r), .val (.int (1 : Int32)), .val (.int (p2 &&& (15 : Int32))), .unset] [(.int (((fun j => List.getD [(48 : Int32), (49 : Int32), (50 : Int32), (51 : Int32), (52 : Int32), (53 : Int32), (54 : Int32), (55 : Int32), (56 : Int32), (57 : Int32), (65 : Int32), (66 : Int32), (67 : Int32), (68 : Int32), (69 : Int32), (70 : Int32)] j 0) d) &&& (255 : Int32)))])) rfl (by rw [hml]; rfl) (argsL := [(.int (((fun j => List.getD [(48 : Int32), (49 : Int32), (50 : Int32), (51 : Int32), (52 : Int32), (53 : Int32), (54 : Int32), (55 : Int32), (56 : Int32), (57 : Int32), (65 : Int32), (66 : Int32), (67 : Int32), (68 : Int32), (69 : Int32), (70 : Int32)] j 0) d) &&& (255 : Int32)))]) (rest := []) (lenOf pd_5 rfl) rfl 0 (Nat.le_of_eq rfl) (hb hby at_102) (by decide) (by decide) (by decide) (by decide) ?_
    rintro _ T6 _ ⟨rfl, rfl⟩ H6
    show Go _ _ _ _ (T6.setTop (mkF m 105 #[.val (.int p1), .val (.int p2), .val (.ref a1), .val (.ref a2), .val (.int cc), .val (.int r), .val (.int (1 : Int32)), .val (.int (p2 &&& (15 : Int32))), .unset] [(.int (hexF (((fun j => List.getD [(48 : Int32), (49 : Int32), (50 : Int32), (51 : Int32), (52 : Int32), (53 : Int32), (54 : Int32), (55 : Int32), (56 : Int32), (57 : Int32), (65 : Int32), (66 : Int32), (67 : Int32), (68 : Int32), (69 : Int32), (70 : Int32)] j 0) d) &&& (255 : Int32))))]))
    refine Go.via (fun t_ k_ => XS.iload H6.here hx rfl (hb hby at_105) rfl k_) ?_
    show Go _ _ _ _ (T6.setTop (mkF m 107 #[.val (.int p1), .val (.int p2), .val (.ref a1), .val (.ref a2), .val (.int cc), .val (.int r), .val (.int (1 : Int32)), .val (.int (p2 &&& (15 : Int32))), .unset] [(.int (p2 &&& (15 : Int32))), (.int (hexF (((fun j => List.getD [(48 : Int32), (49 : Int32), (50 : Int32), (51 : Int32), (52 : Int32), (53 : Int32), (54 : Int32), (55 : Int32), (56 : Int32), (57 : Int32), (65 : Int32), (66 : Int32), (67 : Int32), (68 : Int32), (69 : Int32), (70 : Int32)] j 0) d) &&& (255 : Int32))))]))
    refine Go.via (fun t_ k_ => XS.icmpNo H6.here hx rfl (hb hby at_107) rfl ((teq (show (hexF (((fun j => List.getD [(48 : Int32), (49 : Int32), (50 : Int32), (51 : Int32), (52 : Int32), (53 : Int32), (54 : Int32), (55 : Int32), (56 : Int32), (57 : Int32), (65 : Int32), (66 : Int32), (67 : Int32), (68 : Int32), (69 : Int32), (70 : Int32)] j 0) d) &&& (255 : Int32))) = (p2 &&& (15 : Int32)) from (own_up hd hd16))).2) k_) ?_
    show Go _ _ _ _ (T6.setTop (mkF m 110 #[.val (.int p1), .val (.int p2), .val (.ref a1), .val (.ref a2), .val (.int cc), .val (.int r), .val (.int (1 : Int32)), .val (.int (p2 &&& (15 : Int32))), .unset] []))
    refine Go.via (fun t_ k_ => XS.iconst H6.here hx rfl (hb hby at_110) k_) ?_
    show Go _ _ _ _ (T6.setTop (mkF m 111 #[.val (.int p1), .val (.int p2), .val (.ref a1), .val (.ref a2), .val (.int cc), .val (.int r), .val (.int (1 : Int32)), .val (.int (p2 &&& (15 : Int32))), .unset] [(.int (1 : Int32))]))
    refine Go.via (fun t_ k_ => XS.goto H6.here hx rfl (pc0 := 111) (pc' := 115) rfl (hb hby at_111) (by decide) (by decide) k_) ?_
    show Go _ _ _ _ (T6.setTop (mkF m 115 #[.val (.int p1), .val (.int p2), .val (.ref a1), .val (.ref a2), .val (.int cc), .val (.int r), .val (.int (1 : Int32)), .val (.int (p2 &&& (15 : Int32))), .unset] [(.int (1 : Int32))]))
    refine Go.via (fun t_ k_ => XS.istore H6.here hx rfl (hb hby at_115) rfl (l' := #[.val (.int p1), .val (.int p2), .val (.ref a1), .val (.ref a2), .val (.int cc), .val (.int r), .val (.int (1 : Int32)), .val (.int (p2 &&& (15 : Int32))), .val (.int (1 : Int32))]) rfl k_) ?_
    show Go _ _ _ _ (T6.setTop (mkF m 117 #[.val (.int p1), .val (.int p2), .val (.ref a1), .val (.ref a2), .val (.int cc), .val (.int r), .val (.int (1 : Int32)), .val (.int (p2 &&& (15 : Int32))), .val (.int (1 : Int32))] []))
    refine Go.via (fun t_ k_ => XS.iload H6.here hx rfl (hb hby at_117) rfl k_) ?_
    show Go _ _ _ _ (T6.setTop (mkF m 119 #[.val (.int p1), .val (.int p2), .val (.ref a1), .val (.ref a2), .val (.int cc), .val (.int r), .val (.int (1 : Int32)), .val (.int (p2 &&& (15 : Int32))), .val (.int (1 : Int32))] [(.int (1 : Int32))]))
    refine Go.via (fun t_ k_ => XS.ifNo H6.here hx rfl (hb hby at_119) rfl ((if0 _ _).trans (feq (show ¬ ((1 : Int32) = (0 : Int32)) from (by decide))).1) k_) ?_
    show Go _ _ _ _ (T6.setTop (mkF m 122 #[.val (.int p1), .val (.int p2), .val (.ref a1), .val (.ref a2), .val (.int cc), .val (.int r), .val (.int (1 : Int32)), .val (.int (p2 &&& (15 : Int32))), .val (.int (1 : Int32))] []))
    refine Go.via (fun t_ k_ => XS.iload H6.here hx rfl (hb hby at_122) rfl k_) ?_
    show Go _ _ _ _ (T6.setTop (mkF m 124 #[.val (.int p1), .val (.int p2), .val (.ref a1), .val (.ref a2), .val (.int cc), .val (.int r), .val (.int (1 : Int32)), .val (.int (p2 &&& (15 : Int32))), .val (.int (1 : Int32))] [(.int (1 : Int32))]))
    refine Go.via (fun t_ k_ => XS.ifNo H6.here hx rfl (hb hby at_124) rfl ((if0 _ _).trans (feq (show ¬ ((1 : Int32) = (0 : Int32)) from (by decide))).1) k_) ?_
    show Go _ _ _ _ (T6.setTop (mkF m 127 #[.val (.int p1), .val (.int p2), .val (.ref a1), .val (.ref a2), .val (.int cc), .val (.int r), .val (.int (1 : Int32)), .val (.int (p2 &&& (15 : Int32))), .val (.int (1 : Int32))] []))
    refine Go.via (fun t_ k_ => XS.iconst H6.here hx rfl (hb hby at_127) k_) ?_
    show Go _ _ _ _ (T6.setTop (mkF m 128 #[.val (.int p1), .val (.int p2), .val (.ref a1), .val (.ref a2), .val (.int cc), .val (.int r), .val (.int (1 : Int32)), .val (.int (p2 &&& (15 : Int32))), .val (.int (1 : Int32))] [(.int (1 : Int32))]))
    refine Go.via (fun t_ k_ => XS.goto H6.here hx rfl (pc0 := 128) (pc' := 132) rfl (hb hby at_128) (by decide) (by decide) k_) ?_
    show Go _ _ _ _ (T6.setTop (mkF m 132 #[.val (.int p1), .val (.int p2), .val (.ref a1), .val (.ref a2), .val (.int cc), .val (.int r), .val (.int (1 : Int32)), .val (.int (p2 &&& (15 : Int32))), .val (.int (1 : Int32))] [(.int (1 : Int32))]))
    exact own_retNW H6 LB2 hx hlk (by simp) hret (hb hby at_132) rfl (by decide) (by decide)
  have J10 : ∀ (Tj : State) (cc : Int32) (n : Nat), Here p l e room_1 (Z.setVm T2.vm) m #[(.int p1), (.int p2)] below meth c n0 Tj h2 4 136 → (cc.toInt = (n : Int)) → (n < 65536) → Go p e below (FiniW below Z n0 (fun v h => v = some (.int (1 : Int32))) room_1.cells room_1.slots) (Tj.setTop (mkF m 10 #[.val (.int p1), .val (.int p2), .val (.ref a1), .val (.ref a2), .val (.int cc), .unset, .unset, .unset, .unset] [])) := by
    intro Tj cc n Hj qn hn
    show Go _ _ _ _ (Tj.setTop (mkF m 10 #[.val (.int p1), .val (.int p2), .val (.ref a1), .val (.ref a2), .val (.int cc), .unset, .unset, .unset, .unset] []))
    refine Go.via (fun t_ k_ => XS.iload Hj.here hx rfl (hb hby at_10) rfl k_) ?_
    show Go _ _ _ _ (Tj.setTop (mkF m 12 #[.val (.int p1), .val (.int p2), .val (.ref a1), .val (.ref a2), .val (.int cc), .unset, .unset, .unset, .unset] [(.int cc)]))
    refine own_callS Hj hx hZ (y := (⟨"com/example/tidy_balancer/tidybalancer/model/KeySpace", "hexDigit", "(C)I"⟩ : MethodName)) hown (hw _ (List.mem_of_getElem? (i := 9) rfl)) (hw _ (List.mem_of_getElem? (i := 10) rfl)) (hw _ (List.mem_of_getElem? (i := 11) rfl)) (hw _ (List.mem_of_getElem? (i := 12) rfl)) (by decide) (rmX l Z a0 hw cc h2 n0) (g := (mkF m 12 #[.val (.int p1), .val (.int p2), .val (.ref a1), .val (.ref a2), .val (.int cc), .unset, .unset, .unset, .unset] [(.int cc)])) rfl (by rw [hml]; rfl) (argsL := [(.int cc)]) (rest := []) (lenOf pd_5 rfl) rfl 0 (Nat.le_of_eq rfl) (hb hby at_12) (by decide) (by decide) (by decide) (by decide) ?_
    rintro _ T7 _ ⟨rfl, rfl⟩ H7
    show Go _ _ _ _ (T7.setTop (mkF m 15 #[.val (.int p1), .val (.int p2), .val (.ref a1), .val (.ref a2), .val (.int cc), .unset, .unset, .unset, .unset] [(.int (hexF cc))]))
    refine Go.via (fun t_ k_ => XS.istore H7.here hx rfl (hb hby at_15) rfl (l' := #[.val (.int p1), .val (.int p2), .val (.ref a1), .val (.ref a2), .val (.int cc), .val (.int (hexF cc)), .unset, .unset, .unset]) rfl k_) ?_
    show Go _ _ _ _ (T7.setTop (mkF m 17 #[.val (.int p1), .val (.int p2), .val (.ref a1), .val (.ref a2), .val (.int cc), .val (.int (hexF cc)), .unset, .unset, .unset] []))
    refine Go.via (fun t_ k_ => XS.iload H7.here hx rfl (hb hby at_17) rfl k_) ?_
    show Go _ _ _ _ (T7.setTop (mkF m 19 #[.val (.int p1), .val (.int p2), .val (.ref a1), .val (.ref a2), .val (.int cc), .val (.int (hexF cc)), .unset, .unset, .unset] [(.int (hexF cc))]))
    refine Go.via (fun t_ k_ => XS.iconst H7.here hx rfl (hb hby at_19) k_) ?_
    show Go _ _ _ _ (T7.setTop (mkF m 20 #[.val (.int p1), .val (.int p2), .val (.ref a1), .val (.ref a2), .val (.int cc), .val (.int (hexF cc)), .unset, .unset, .unset] [(.int (-1 : Int32)), (.int (hexF cc))]))
    by_cases hc20 : (hexF cc) = (-1 : Int32)
    · refine Go.via (fun t_ k_ => XS.icmpNo H7.here hx rfl (hb hby at_20) rfl ((teq hc20).2) k_) ?_
      show Go _ _ _ _ (T7.setTop (mkF m 23 #[.val (.int p1), .val (.int p2), .val (.ref a1), .val (.ref a2), .val (.int cc), .val (.int (hexF cc)), .unset, .unset, .unset] []))
      refine Go.via (fun t_ k_ => XS.iconst H7.here hx rfl (hb hby at_23) k_) ?_
      show Go _ _ _ _ (T7.setTop (mkF m 24 #[.val (.int p1), .val (.int p2), .val (.ref a1), .val (.ref a2), .val (.int cc), .val (.int (hexF cc)), .unset, .unset, .unset] [(.int (1 : Int32))]))
      refine Go.via (fun t_ k_ => XS.istore H7.here hx rfl (hb hby at_24) rfl (l' := #[.val (.int p1), .val (.int p2), .val (.ref a1), .val (.ref a2), .val (.int cc), .val (.int (hexF cc)), .val (.int (1 : Int32)), .unset, .unset]) rfl k_) ?_
      show Go _ _ _ _ (T7.setTop (mkF m 26 #[.val (.int p1), .val (.int p2), .val (.ref a1), .val (.ref a2), .val (.int cc), .val (.int (hexF cc)), .val (.int (1 : Int32)), .unset, .unset] []))
      refine Go.via (fun t_ k_ => XS.goto H7.here hx rfl (pc0 := 26) (pc' := 76) rfl (hb hby at_26) (by decide) (by decide) k_) ?_
      show Go _ _ _ _ (T7.setTop (mkF m 76 #[.val (.int p1), .val (.int p2), .val (.ref a1), .val (.ref a2), .val (.int cc), .val (.int (hexF cc)), .val (.int (1 : Int32)), .unset, .unset] []))
      exact J76 T7 _ _ H7
    · refine Go.via (fun t_ k_ => XS.icmpYes H7.here hx rfl (pc0 := 20) (pc' := 29) rfl (hb hby at_20) rfl ((feq hc20).2) (by decide) (by decide) k_) ?_
      show Go _ _ _ _ (T7.setTop (mkF m 29 #[.val (.int p1), .val (.int p2), .val (.ref a1), .val (.ref a2), .val (.int cc), .val (.int (hexF cc)), .unset, .unset, .unset] []))
      obtain ⟨j, hj, hi, hcc⟩ := own_hex qn hn hc20
      refine Go.via (fun t_ k_ => XS.iload H7.here hx rfl (hb hby at_29) rfl k_) ?_
      show Go _ _ _ _ (T7.setTop (mkF m 31 #[.val (.int p1), .val (.int p2), .val (.ref a1), .val (.ref a2), .val (.int cc), .val (.int (hexF cc)), .unset, .unset, .unset] [(.int (hexF cc))]))
      refine Go.via (fun t_ k_ => XS.ifNo H7.here hx rfl (hb hby at_31) rfl ((if0 _ _).trans (flt (show ¬ ((hexF cc) < (0 : Int32)) from (own_nneg hi))).1) k_) ?_
      show Go _ _ _ _ (T7.setTop (mkF m 34 #[.val (.int p1), .val (.int p2), .val (.ref a1), .val (.ref a2), .val (.int cc), .val (.int (hexF cc)), .unset, .unset, .unset] []))
      refine Go.via (fun t_ k_ => XS.iload H7.here hx rfl (hb hby at_34) rfl k_) ?_
      show Go _ _ _ _ (T7.setTop (mkF m 36 #[.val (.int p1), .val (.int p2), .val (.ref a1), .val (.ref a2), .val (.int cc), .val (.int (hexF cc)), .unset, .unset, .unset] [(.int (hexF cc))]))
      refine Go.via (fun t_ k_ => XS.bipush H7.here hx rfl (hb hby at_36) k_) ?_
      show Go _ _ _ _ (T7.setTop (mkF m 38 #[.val (.int p1), .val (.int p2), .val (.ref a1), .val (.ref a2), .val (.int cc), .val (.int (hexF cc)), .unset, .unset, .unset] [(.int (15 : Int32)), (.int (hexF cc))]))
      refine Go.via (fun t_ k_ => XS.icmpNo H7.here hx rfl (hb hby at_38) rfl ((flt (show ¬ ((15 : Int32) < (hexF cc)) from (fun u => absurd ((own_lti (n := 15) (by decide) hi).mp u) (by omega)))).2.2.1) k_) ?_
      show Go _ _ _ _ (T7.setTop (mkF m 41 #[.val (.int p1), .val (.int p2), .val (.ref a1), .val (.ref a2), .val (.int cc), .val (.int (hexF cc)), .unset, .unset, .unset] []))
      refine Go.via (fun t_ k_ => XS.iload H7.here hx rfl (hb hby at_41) rfl k_) ?_
      show Go _ _ _ _ (T7.setTop (mkF m 43 #[.val (.int p1), .val (.int p2), .val (.ref a1), .val (.ref a2), .val (.int cc), .val (.int (hexF cc)), .unset, .unset, .unset] [(.int cc)]))
      refine Go.via (fun t_ k_ => XS.aloadN H7.here hx rfl (hb hby at_43) rfl rfl k_) ?_
      show Go _ _ _ _ (T7.setTop (mkF m 44 #[.val (.int p1), .val (.int p2), .val (.ref a1), .val (.ref a2), .val (.int cc), .val (.int (hexF cc)), .unset, .unset, .unset] [(.ref a1), (.int cc)]))
      refine Go.via (fun t_ k_ => XS.iload H7.here hx rfl (hb hby at_44) rfl k_) ?_
      show Go _ _ _ _ (T7.setTop (mkF m 46 #[.val (.int p1), .val (.int p2), .val (.ref a1), .val (.ref a2), .val (.int cc), .val (.int (hexF cc)), .unset, .unset, .unset] [(.int (hexF cc)), (.ref a1), (.int cc)]))
      refine own_callV H7 hx hZ (C := "java/lang/String") (y := (⟨"java/lang/String", "charAt", "(I)C"⟩ : MethodName)) (a := a1) hown (hw _ (List.mem_of_getElem? (i := 13) rfl)) (hw _ (List.mem_of_getElem? (i := 14) rfl)) (hw _ (List.mem_of_getElem? (i := 16) rfl)) (hw _ (List.mem_of_getElem? (i := 15) rfl)) (hw _ (List.mem_of_getElem? (i := 1) rfl)) (hw _ (List.mem_of_getElem? (i := 17) rfl)) (by decide) (A1.ext E2) (rmCh l Z a0 hw a1 b1 (fun j => List.getD [(48 : Int32), (49 : Int32), (50 : Int32), (51 : Int32), (52 : Int32), (53 : Int32), (54 : Int32), (55 : Int32), (56 : Int32), (57 : Int32), (97 : Int32), (98 : Int32), (99 : Int32), (100 : Int32), (101 : Int32), (102 : Int32)] j 0) (hexF cc) (16 : Int32) cs f j 16 h2 n0 (A1.ext E2) (C1.ext E2) (V1.ext E2) (B1.ext E2) (by decide) hf hi (by decide) hj (SC.ext ((OL.ext E1).ext E2).2) hcs (SF.ext ((OL.ext E1).ext E2).2)) (g := (mkF m 46 #[.val (.int p1), .val (.int p2), .val (.ref a1), .val (.ref a2), .val (.int cc), .val (.int (hexF cc)), .unset, .unset, .unset] [(.int (hexF cc)), (.ref a1), (.int cc)])) rfl (by rw [hml]; rfl) (argsL := [(.int (hexF cc))]) (rest := [(.int cc)]) (lenOf pd_4 rfl) rfl 1 (Nat.le_of_eq rfl) (hb hby at_46) (by decide) (by decide) (by decide) (by decide) ?_
      rintro _ T8 _ ⟨rfl, rfl⟩ H8
      show Go _ _ _ _ (T8.setTop (mkF m 49 #[.val (.int p1), .val (.int p2), .val (.ref a1), .val (.ref a2), .val (.int cc), .val (.int (hexF cc)), .unset, .unset, .unset] [(.int (((fun j => List.getD [(48 : Int32), (49 : Int32), (50 : Int32), (51 : Int32), (52 : Int32), (53 : Int32), (54 : Int32), (55 : Int32), (56 : Int32), (57 : Int32), (97 : Int32), (98 : Int32), (99 : Int32), (100 : Int32), (101 : Int32), (102 : Int32)] j 0) j) &&& (255 : Int32))), (.int cc)]))
      by_cases hc49 : cc = (((fun j => List.getD [(48 : Int32), (49 : Int32), (50 : Int32), (51 : Int32), (52 : Int32), (53 : Int32), (54 : Int32), (55 : Int32), (56 : Int32), (57 : Int32), (97 : Int32), (98 : Int32), (99 : Int32), (100 : Int32), (101 : Int32), (102 : Int32)] j 0) j) &&& (255 : Int32))
      · refine Go.via (fun t_ k_ => XS.icmpYes H8.here hx rfl (pc0 := 49) (pc' := 63) rfl (hb hby at_49) rfl ((teq hc49).1) (by decide) (by decide) k_) ?_
        show Go _ _ _ _ (T8.setTop (mkF m 63 #[.val (.int p1), .val (.int p2), .val (.ref a1), .val (.ref a2), .val (.int cc), .val (.int (hexF cc)), .unset, .unset, .unset] []))
        refine Go.via (fun t_ k_ => XS.iconst H8.here hx rfl (hb hby at_63) k_) ?_
        show Go _ _ _ _ (T8.setTop (mkF m 64 #[.val (.int p1), .val (.int p2), .val (.ref a1), .val (.ref a2), .val (.int cc), .val (.int (hexF cc)), .unset, .unset, .unset] [(.int (1 : Int32))]))
        refine Go.via (fun t_ k_ => XS.goto H8.here hx rfl (pc0 := 64) (pc' := 68) rfl (hb hby at_64) (by decide) (by decide) k_) ?_
        show Go _ _ _ _ (T8.setTop (mkF m 68 #[.val (.int p1), .val (.int p2), .val (.ref a1), .val (.ref a2), .val (.int cc), .val (.int (hexF cc)), .unset, .unset, .unset] [(.int (1 : Int32))]))
        refine Go.via (fun t_ k_ => XS.istore H8.here hx rfl (hb hby at_68) rfl (l' := #[.val (.int p1), .val (.int p2), .val (.ref a1), .val (.ref a2), .val (.int cc), .val (.int (hexF cc)), .val (.int (1 : Int32)), .unset, .unset]) rfl k_) ?_
        show Go _ _ _ _ (T8.setTop (mkF m 70 #[.val (.int p1), .val (.int p2), .val (.ref a1), .val (.ref a2), .val (.int cc), .val (.int (hexF cc)), .val (.int (1 : Int32)), .unset, .unset] []))
        refine Go.via (fun t_ k_ => XS.goto H8.here hx rfl (pc0 := 70) (pc' := 76) rfl (hb hby at_70) (by decide) (by decide) k_) ?_
        show Go _ _ _ _ (T8.setTop (mkF m 76 #[.val (.int p1), .val (.int p2), .val (.ref a1), .val (.ref a2), .val (.int cc), .val (.int (hexF cc)), .val (.int (1 : Int32)), .unset, .unset] []))
        exact J76 T8 _ _ H8
      · refine Go.via (fun t_ k_ => XS.icmpNo H8.here hx rfl (hb hby at_49) rfl ((feq hc49).1) k_) ?_
        show Go _ _ _ _ (T8.setTop (mkF m 52 #[.val (.int p1), .val (.int p2), .val (.ref a1), .val (.ref a2), .val (.int cc), .val (.int (hexF cc)), .unset, .unset, .unset] []))
        refine Go.via (fun t_ k_ => XS.iload H8.here hx rfl (hb hby at_52) rfl k_) ?_
        show Go _ _ _ _ (T8.setTop (mkF m 54 #[.val (.int p1), .val (.int p2), .val (.ref a1), .val (.ref a2), .val (.int cc), .val (.int (hexF cc)), .unset, .unset, .unset] [(.int cc)]))
        refine Go.via (fun t_ k_ => XS.aloadN H8.here hx rfl (hb hby at_54) rfl rfl k_) ?_
        show Go _ _ _ _ (T8.setTop (mkF m 55 #[.val (.int p1), .val (.int p2), .val (.ref a1), .val (.ref a2), .val (.int cc), .val (.int (hexF cc)), .unset, .unset, .unset] [(.ref a2), (.int cc)]))
        refine Go.via (fun t_ k_ => XS.iload H8.here hx rfl (hb hby at_55) rfl k_) ?_
        show Go _ _ _ _ (T8.setTop (mkF m 57 #[.val (.int p1), .val (.int p2), .val (.ref a1), .val (.ref a2), .val (.int cc), .val (.int (hexF cc)), .unset, .unset, .unset] [(.int (hexF cc)), (.ref a2), (.int cc)]))
        refine own_callV H8 hx hZ (C := "java/lang/String") (y := (⟨"java/lang/String", "charAt", "(I)C"⟩ : MethodName)) (a := a2) hown (hw _ (List.mem_of_getElem? (i := 13) rfl)) (hw _ (List.mem_of_getElem? (i := 14) rfl)) (hw _ (List.mem_of_getElem? (i := 16) rfl)) (hw _ (List.mem_of_getElem? (i := 15) rfl)) (hw _ (List.mem_of_getElem? (i := 1) rfl)) (hw _ (List.mem_of_getElem? (i := 17) rfl)) (by decide) A2 (rmCh l Z a0 hw a2 b2 (fun j => List.getD [(48 : Int32), (49 : Int32), (50 : Int32), (51 : Int32), (52 : Int32), (53 : Int32), (54 : Int32), (55 : Int32), (56 : Int32), (57 : Int32), (65 : Int32), (66 : Int32), (67 : Int32), (68 : Int32), (69 : Int32), (70 : Int32)] j 0) (hexF cc) (16 : Int32) cs f j 16 h2 n0 A2 C2 V2 B2 (by decide) hf hi (by decide) hj (SC.ext ((OL.ext E1).ext E2).2) hcs (SF.ext ((OL.ext E1).ext E2).2)) (g := (mkF m 57 #[.val (.int p1), .val (.int p2), .val (.ref a1), .val (.ref a2), .val (.int cc), .val (.int (hexF cc)), .unset, .unset, .unset] [(.int (hexF cc)), (.ref a2), (.int cc)])) rfl (by rw [hml]; rfl) (argsL := [(.int (hexF cc))]) (rest := [(.int cc)]) (lenOf pd_4 rfl) rfl 1 (Nat.le_of_eq rfl) (hb hby at_57) (by decide) (by decide) (by decide) (by decide) ?_
        rintro _ T9 _ ⟨rfl, rfl⟩ H9
        show Go _ _ _ _ (T9.setTop (mkF m 60 #[.val (.int p1), .val (.int p2), .val (.ref a1), .val (.ref a2), .val (.int cc), .val (.int (hexF cc)), .unset, .unset, .unset] [(.int (((fun j => List.getD [(48 : Int32), (49 : Int32), (50 : Int32), (51 : Int32), (52 : Int32), (53 : Int32), (54 : Int32), (55 : Int32), (56 : Int32), (57 : Int32), (65 : Int32), (66 : Int32), (67 : Int32), (68 : Int32), (69 : Int32), (70 : Int32)] j 0) j) &&& (255 : Int32))), (.int cc)]))
        refine Go.via (fun t_ k_ => XS.icmpNo H9.here hx rfl (hb hby at_60) rfl ((teq (show cc = (((fun j => List.getD [(48 : Int32), (49 : Int32), (50 : Int32), (51 : Int32), (52 : Int32), (53 : Int32), (54 : Int32), (55 : Int32), (56 : Int32), (57 : Int32), (65 : Int32), (66 : Int32), (67 : Int32), (68 : Int32), (69 : Int32), (70 : Int32)] j 0) j) &&& (255 : Int32)) from (hcc.resolve_left hc49))).2) k_) ?_
        show Go _ _ _ _ (T9.setTop (mkF m 63 #[.val (.int p1), .val (.int p2), .val (.ref a1), .val (.ref a2), .val (.int cc), .val (.int (hexF cc)), .unset, .unset, .unset] []))
        refine Go.via (fun t_ k_ => XS.iconst H9.here hx rfl (hb hby at_63) k_) ?_
        show Go _ _ _ _ (T9.setTop (mkF m 64 #[.val (.int p1), .val (.int p2), .val (.ref a1), .val (.ref a2), .val (.int cc), .val (.int (hexF cc)), .unset, .unset, .unset] [(.int (1 : Int32))]))
        refine Go.via (fun t_ k_ => XS.goto H9.here hx rfl (pc0 := 64) (pc' := 68) rfl (hb hby at_64) (by decide) (by decide) k_) ?_
        show Go _ _ _ _ (T9.setTop (mkF m 68 #[.val (.int p1), .val (.int p2), .val (.ref a1), .val (.ref a2), .val (.int cc), .val (.int (hexF cc)), .unset, .unset, .unset] [(.int (1 : Int32))]))
        refine Go.via (fun t_ k_ => XS.istore H9.here hx rfl (hb hby at_68) rfl (l' := #[.val (.int p1), .val (.int p2), .val (.ref a1), .val (.ref a2), .val (.int cc), .val (.int (hexF cc)), .val (.int (1 : Int32)), .unset, .unset]) rfl k_) ?_
        show Go _ _ _ _ (T9.setTop (mkF m 70 #[.val (.int p1), .val (.int p2), .val (.ref a1), .val (.ref a2), .val (.int cc), .val (.int (hexF cc)), .val (.int (1 : Int32)), .unset, .unset] []))
        refine Go.via (fun t_ k_ => XS.goto H9.here hx rfl (pc0 := 70) (pc' := 76) rfl (hb hby at_70) (by decide) (by decide) k_) ?_
        show Go _ _ _ _ (T9.setTop (mkF m 76 #[.val (.int p1), .val (.int p2), .val (.ref a1), .val (.ref a2), .val (.int cc), .val (.int (hexF cc)), .val (.int (1 : Int32)), .unset, .unset] []))
        exact J76 T9 _ _ H9
  refine Go.via (fun t_ k_ => XS.iloadN H2.here hx rfl (hb hby at_6) rfl k_) ?_
  show Go _ _ _ _ (T2.setTop (mkF m 7 #[.val (.int p1), .val (.int p2), .val (.ref a1), .val (.ref a2), .unset, .unset, .unset, .unset, .unset] [(.int p1)]))
  refine Go.via (fun t_ k_ => XS.i2c H2.here hx rfl (hb hby at_7) rfl k_) ?_
  show Go _ _ _ _ (T2.setTop (mkF m 8 #[.val (.int p1), .val (.int p2), .val (.ref a1), .val (.ref a2), .unset, .unset, .unset, .unset, .unset] [(.int (p1.toUInt32.toUInt16.toUInt32.toInt32))]))
  refine Go.via (fun t_ k_ => XS.istore H2.here hx rfl (hb hby at_8) rfl (l' := #[.val (.int p1), .val (.int p2), .val (.ref a1), .val (.ref a2), .val (.int (p1.toUInt32.toUInt16.toUInt32.toInt32)), .unset, .unset, .unset, .unset]) rfl k_) ?_
  show Go _ _ _ _ (T2.setTop (mkF m 10 #[.val (.int p1), .val (.int p2), .val (.ref a1), .val (.ref a2), .val (.int (p1.toUInt32.toUInt16.toUInt32.toInt32)), .unset, .unset, .unset, .unset] []))
  obtain ⟨n, qn, hn⟩ := own_c p1
  exact J10 T2 _ n H2 qn hn
theorem not_v_own {args : Array Value} {s : State} {t : Term} (h : t.eval args s none [] s = some (.int (0 : Int32))) : (Jvm.Cond.not (Jvm.Cond.eq t (Term.int (0 : Int32)))).value args s none s [] = some false := by
  simp [Cond.value, h, Term.eval]
set_option maxRecDepth 65536 in
set_option maxHeartbeats 40000000 in
theorem comes_1 {Post : Tables → Env → Array Value → State → Outcome → State → Prop} (hpost : ∀ tb e args s v u, (limb_1_1.after args s (.returned v) u = true ∧ limb_1_2.after args s (.returned v) u = true ∧ True) → ReturnedEndW s (.returned v) u (Jvm.fieldLocs frame_1_writes args s ++ Jvm.arrayLocs frame_1_arrays args s ++ Jvm.staticLocs frame_1_statics s) 8 2112 → Post tb e args s (.returned v) u) :
    ArmFor flags0 classFile x code maxLocals ret World_1 tables_1 room_1 Calls_1 rest_1 Pre_1 Post := by
  intro l hfl _ _ p e ha hc hk s m args below hf hA hF happ hP
  obtain ⟨hcalls, hrest, hpre⟩ := hP
  obtain ⟨-, -, -, hnamed, -, -, -, hat⟩ := (Spec.applies_iff hf).mp happ
  obtain ⟨hg, hn⟩ := and_e (Cond.before_iff.mp (show (Jvm.Cond.and given_1 narrow_1).before args s = true from hpre))
  obtain ⟨g0, g1⟩ := and_e hg
  obtain ⟨i0, r0⟩ := and_e g1
  obtain ⟨w0, w1, rfl⟩ : ∃ w0 w1 : Value, args = #[w0, w1] := by
    have hs : args.size = 2 := by simpa [Cond.value, given_1] using g0
    obtain ⟨L⟩ := args
    match L, hs with
    | [w0, w1], _ => exact ⟨w0, w1, rfl⟩
  have hw := fun d (hd : d ∈ tables_1) => atoms_spec (ws := Jvm.Cond.code x code maxLocals ret :: tables_1) hat d (List.mem_cons_of_mem _ hd)
  have hfit : Fit s := fun {y c} hc i hi => by
    obtain ⟨ha, rfl⟩ := Array.getElem?_eq_some_iff.mp hc
    have q := List.all_eq_true.mp ((Array.all_eq_true_iff_forall_mem.mp hF) _ (Array.getElem_mem ha)) i (List.mem_range.mpr hi)
    simpa [Array.getElem?_eq_getElem hi] using q
  obtain ⟨v0, e0⟩ := is_v i0
  obtain rfl : w0 = (.int v0) := Option.some.inj e0
  obtain ⟨v1, e1⟩ := is_v r0
  obtain rfl : w1 = (.int v1) := Option.some.inj e1
  have hsets := (atoms_of jdkStatics_1 (show (jdkStatics_1.foldr Jvm.Cond.and restOwn_1).before _ s = true from hrest)).1
  obtain ⟨cs, ecs⟩ := is_v (Cond.before_iff.mp (hsets _ (List.mem_of_getElem? (i := 1) rfl)))
  have SC := Sta.start ecs (Or.inl (hsets _ (List.mem_of_getElem? (i := 0) rfl)))
  have hcs : ¬ cs = 0 := fun q => by
    subst q
    have := Cond.before_iff.mp (hsets _ (List.mem_of_getElem? (i := 2) rfl))
    rw [not_v_own ecs] at this
    cases this
  obtain ⟨f, ef, hfr⟩ := isR_v (Cond.before_iff.mp (hsets _ (List.mem_of_getElem? (i := 8) rfl)))
  have SF := Sta.start ef (Or.inl (hsets _ (List.mem_of_getElem? (i := 7) rfl)))
  have wS : ∀ a ∈ Bundle.stringAtoms, a.before #[.int v0, .int v1] s = true := by
    intro d hd
    simp only [Bundle.stringAtoms, List.mem_cons, List.not_mem_nil, or_false] at hd
    rcases hd with rfl | rfl | rfl | rfl | rfl | rfl | rfl
    · exact hw _ (List.mem_of_getElem? (i := 1) rfl)
    · exact hw _ (List.mem_of_getElem? (i := 2) rfl)
    · exact hw _ (List.mem_of_getElem? (i := 3) rfl)
    · exact hw _ (List.mem_of_getElem? (i := 4) rfl)
    · exact hw _ (List.mem_of_getElem? (i := 5) rfl)
    · exact hw _ (List.mem_of_getElem? (i := 6) rfl)
    · exact hw _ (List.mem_of_getElem? (i := 7) rfl)
  have hheld : ∀ p ∈ consts_1, Jvm.Lit.constHeld s p.1 p.2 := hcalls.1
  have hcw : Jvm.Lit.compactW.before #[.int v0, .int v1] s = true := hsets _ (List.mem_of_getElem? (i := 2) rfl)
  obtain ⟨n, o, h1, h2, h3, _, L, rfl, ⟨rfl, N⟩, hq⟩ := rm0 l s _ hw v0 v1 cs f s.heap s.heap.size rfl rfl wS hheld hcw hcs hfr (Old.start s) SC SF tables_1 p e ha hc hk s m _ below hf ((Spec.applies_iff_loose hf).mp happ).1 ⟨rfl, rfl⟩ trivial
  refine ⟨n, _, h1, h2, h3, hpost _ _ _ _ _ _ ⟨Cond.after_iff.mpr rfl, Cond.after_iff.mpr (eq_i res_at (Term.int_eval (1)) rfl), trivial⟩ ⟨hq.1, hq.2.1, hq.2.2.1, (hq.2.2.2.sift fun y hy => Or.inr (N y hy)).mono (by decide) (by decide)⟩⟩
theorem main_1_1 : Claimed_1_1 := comes_1 fun _ _ _ _ _ _ h hF => ⟨h.1, hF⟩
theorem main_1_2 : Claimed_1_2 := comes_1 fun _ _ _ _ _ _ h hF => ⟨h.2.1, hF⟩
end Jvm.Pilot.@@N@@
namespace Jvm.Pilot.@@N@@
open Jvm Jvm.ClassFile Sem Op Lib Jvm.Free Jvm.Stand Jvm.Pilot.@@N@@.Jvm.D
/-! MADE BY PROGRAM (witnessworld.py) out of the Statement's table words and the real class files: 17 classes; the members and pool entries that the words name. The judged class is class 1, her method 1. -/
namespace start1
open Jvm.ClassFile
def u (s : String) : CpInfo := .utf8 (stringToUtf16 s)
/-- a pool by its gaps: so many unusable entries, then the entry; so many at the end -/
def gap : Nat → List CpInfo → List CpInfo
  | 0, r => r
  | n + 1, r => .unusable :: gap n r
def poolList (es : List (Nat × CpInfo)) (last : Nat) : List CpInfo := es.foldr (fun e r => gap e.1 (e.2 :: r)) (gap last [])
def pool (es : List (Nat × CpInfo)) (last : Nat) : Array CpInfo := ⟨poolList es last⟩
def fileOf (pool : Array CpInfo) (this : Nat) (attrs : Array Attribute := #[]) (ms : Array MethodInfo := #[]) (fl : Nat := 33) (sup : Nat := 0) (ifs : Array Nat := #[]) (fds : Array FieldInfo := #[]) : ClassFile where
  minorVersion := 0
  majorVersion := 65
  constantPool := pool
  accessFlags := fl
  thisClass := this
  superClass := sup
  interfaces := ifs
  fields := fds
  methods := ms
  attributes := attrs
def plain (name : String) (sup : Option ClassId) : Class where
  name := name
  kind := .ordinary
  loader := none
  accessFlags := 33
  super := sup
  interfaces := #[]
  cf := none
  fields := #[]
  methods := #[]
  instanceTypes := #[]
  staticTypes := #[]
  resolved := #[]
  callSites := []
  init := .initialized
  statics := none
  mirror := none

def pool0 : Array CpInfo := pool [(5, u "<init>"), (0, u "()V"), (1, .class_ 10), (1, u "java/lang/Object")] 113

def k0m0 : Method := { name := "<init>", desc := "()V", sig := { parameters := [], returnType := none }, accessFlags := 1, code := none }
/-- java/lang/Object -/
def k0 : Class := { plain "java/lang/Object" none with
  accessFlags := 33
  interfaces := #[]
  cf := some (fileOf pool0 8 #[] #[{ accessFlags := 1, nameIndex := 5, descriptorIndex := 6, attributes := #[] }] 33 0 #[] #[])
  fields := #[]
  methods := #[k0m0]
  instanceTypes := #[]
  staticTypes := #[]
  resolved := Array.replicate 124 none
  statics := none }

def pool1 : Array CpInfo := pool [(2, .class_ 4), (1, u "java/lang/Object"), (0, u "<init>"), (0, u "()V"), (0, .string 8), (0, u "0123456789abcdef"), (0, .string 10), (0, u "0123456789ABCDEF"), (0, .methodref 12 13), (0, .class_ 14), (0, .nameAndType 15 16), (0, u "com/example/tidy_balancer/tidybalancer/model/KeySpace"), (0, u "hexDigit"), (0, u "(C)I"), (0, .methodref 18 19), (0, .class_ 20), (0, .nameAndType 21 22), (0, u "java/lang/String"), (0, u "charAt"), (0, u "(I)C"), (0, .class_ 24), (0, u "com/example/tidy_balancer/tidybalancer/model/KeySpaceHexDigitPinLaw"), (2, u "law"), (0, u "(II)Z")] 3

def k1m0 : Method := { name := "<init>", desc := "()V", sig := { parameters := [], returnType := none }, accessFlags := 1, code := none }
def k1c1 : Code := { maxStack := 3, maxLocals := 9, code := code, exceptionTable := #[], attributes := #[] }
def k1m1 : Method := { name := "law", desc := "(II)Z", sig := { parameters := [.int, .int], returnType := some .boolean }, accessFlags := 9, code := some k1c1 }
/-- com/example/tidy_balancer/tidybalancer/model/KeySpaceHexDigitPinLaw -/
def k1 : Class := { plain "com/example/tidy_balancer/tidybalancer/model/KeySpaceHexDigitPinLaw" (some 0) with
  accessFlags := 49
  interfaces := #[]
  cf := some (fileOf pool1 23 #[] #[{ accessFlags := 1, nameIndex := 5, descriptorIndex := 6, attributes := #[] }, { accessFlags := 9, nameIndex := 27, descriptorIndex := 28, attributes := #[] }] 49 2 #[] #[])
  fields := #[]
  methods := #[k1m0, k1m1]
  instanceTypes := #[]
  staticTypes := #[]
  resolved := Array.replicate 32 none
  statics := none }

def pool2 : Array CpInfo := pool [(1, .class_ 2), (0, u "java/io/Serializable"), (0, .class_ 4), (0, u "java/lang/Object")] 2

/-- java/io/Serializable -/
def k2 : Class := { plain "java/io/Serializable" (some 0) with
  accessFlags := 1537
  interfaces := #[]
  cf := some (fileOf pool2 1 #[] #[] 1537 3 #[] #[])
  fields := #[]
  methods := #[]
  instanceTypes := #[]
  staticTypes := #[]
  resolved := Array.replicate 7 none
  statics := none }

def pool3 : Array CpInfo := pool [(1, .class_ 2), (0, u "java/lang/Comparable"), (0, .class_ 4), (0, u "java/lang/Object")] 7

/-- java/lang/Comparable -/
def k3 : Class := { plain "java/lang/Comparable" (some 0) with
  accessFlags := 1537
  interfaces := #[]
  cf := some (fileOf pool3 1 #[] #[] 1537 3 #[] #[])
  fields := #[]
  methods := #[]
  instanceTypes := #[]
  staticTypes := #[]
  resolved := Array.replicate 12 none
  statics := none }

def pool4 : Array CpInfo := pool [(2, .class_ 4), (1, u "java/lang/CharSequence"), (42, .class_ 48), (0, u "java/lang/CharSequence$1CodePointIterator"), (10, .class_ 60), (0, u "java/lang/CharSequence$1CharIterator"), (5, .class_ 67), (0, u "java/lang/Object")] 63

/-- java/lang/CharSequence -/
def k4 : Class := { plain "java/lang/CharSequence" (some 0) with
  accessFlags := 1537
  interfaces := #[]
  cf := some (fileOf pool4 2 #[.nestMembers #[47, 59]] #[] 1537 66 #[] #[])
  fields := #[]
  methods := #[]
  instanceTypes := #[]
  staticTypes := #[]
  resolved := Array.replicate 131 none
  statics := none }

def pool5 : Array CpInfo := pool [(1, .class_ 2), (0, u "java/lang/constant/Constable"), (0, .class_ 4), (0, u "java/lang/Object")] 6

/-- java/lang/constant/Constable -/
def k5 : Class := { plain "java/lang/constant/Constable" (some 0) with
  accessFlags := 1537
  interfaces := #[]
  cf := some (fileOf pool5 1 #[] #[] 1537 3 #[] #[])
  fields := #[]
  methods := #[]
  instanceTypes := #[]
  staticTypes := #[]
  resolved := Array.replicate 11 none
  statics := none }

def pool6 : Array CpInfo := pool [(1, .class_ 2), (0, u "java/lang/constant/ConstantDesc"), (0, .class_ 4), (0, u "java/lang/Object")] 32

/-- java/lang/constant/ConstantDesc -/
def k6 : Class := { plain "java/lang/constant/ConstantDesc" (some 0) with
  accessFlags := 1537
  interfaces := #[]
  cf := some (fileOf pool6 1 #[] #[] 1537 3 #[] #[])
  fields := #[]
  methods := #[]
  instanceTypes := #[]
  staticTypes := #[]
  resolved := Array.replicate 37 none
  statics := none }

def pool7 : Array CpInfo := pool [(2, .class_ 4), (1, u "java/lang/Object"), (0, u "<init>"), (0, u "()V"), (2, .fieldref 10 11), (0, .class_ 12), (0, .nameAndType 13 14), (0, u "java/lang/String"), (0, u "value"), (0, u "[B"), (0, .fieldref 10 16), (0, .nameAndType 17 18), (0, u "coder"), (0, u "B"), (2, u "hash"), (0, u "I"), (2, u "hashIsZero"), (0, u "Z"), (11, .fieldref 10 39), (0, .nameAndType 40 26), (0, u "COMPACT_STRINGS"), (66, .class_ 109), (1, u "java/lang/StringLatin1"), (32, u "()Z"), (220, u "([BI)C"), (27, u "(II)V"), (35, u "(I)C"), (64, .methodref 10 493), (0, .nameAndType 494 142), (0, u "isLatin1"), (0, .methodref 107 496), (0, .nameAndType 497 363), (0, u "charAt"), (3, u "checkIndex"), (73, .class_ 576), (0, u "java/lang/CharSequence"), (22, u "CASE_INSENSITIVE_ORDER"), (0, u "Ljava/util/Comparator;"), (452, .fieldref 1054 1055), (0, .class_ 1056), (0, .nameAndType 1057 1058), (0, u "jdk/internal/util/Preconditions"), (0, u "SIOOBE_FORMATTER"), (0, u "Ljava/util/function/BiFunction;"), (0, .methodref 1054 1060), (0, .nameAndType 501 1061), (0, u "(IILjava/util/function/BiFunction;)I"), (39, u "serialPersistentFields"), (0, u "[Ljava/io/ObjectStreamField;"), (0, .class_ 1104), (0, u "java/lang/String$CaseInsensitiveComparator"), (1, .class_ 1107), (0, u "java/io/Serializable"), (0, .class_ 1109), (0, u "java/lang/Comparable"), (0, .class_ 1111), (0, u "java/lang/constant/Constable"), (0, .class_ 1113), (0, u "java/lang/constant/ConstantDesc"), (2, u "serialVersionUID"), (0, u "J"), (3, u "REPL"), (0, u "C"), (2, u "LATIN1"), (1, u "UTF16")] 323

def k7m0 : Method := { name := "<init>", desc := "()V", sig := { parameters := [], returnType := none }, accessFlags := 1, code := none }
def k7c1 : Code := { maxStack := 2, maxLocals := 2, code := jdk_42_method_56_code, exceptionTable := #[], attributes := #[] }
def k7m1 : Method := { name := "charAt", desc := "(I)C", sig := { parameters := [.int], returnType := some .char }, accessFlags := 1, code := some k7c1 }
def k7c2 : Code := { maxStack := 1, maxLocals := 1, code := jdk_42_method_154_code, exceptionTable := #[], attributes := #[] }
def k7m2 : Method := { name := "isLatin1", desc := "()Z", sig := { parameters := [], returnType := some .boolean }, accessFlags := 0, code := some k7c2 }
def k7c3 : Code := { maxStack := 3, maxLocals := 2, code := jdk_42_method_155_code, exceptionTable := #[], attributes := #[] }
def k7m3 : Method := { name := "checkIndex", desc := "(II)V", sig := { parameters := [.int, .int], returnType := none }, accessFlags := 8, code := some k7c3 }
/-- java/lang/String -/
def k7 : Class := { plain "java/lang/String" (some 0) with
  accessFlags := 49
  interfaces := #[2, 3, 4, 5, 6]
  cf := some (fileOf pool7 10 #[.nestMembers #[1103]] #[{ accessFlags := 1, nameIndex := 5, descriptorIndex := 6, attributes := #[] }, { accessFlags := 1, nameIndex := 497, descriptorIndex := 427, attributes := #[] }, { accessFlags := 0, nameIndex := 494, descriptorIndex := 142, attributes := #[] }, { accessFlags := 8, nameIndex := 501, descriptorIndex := 391, attributes := #[] }] 49 2 #[1106, 1108, 575, 1110, 1112] #[{ accessFlags := 18, nameIndex := 13, descriptorIndex := 14, attributes := #[] }, { accessFlags := 18, nameIndex := 17, descriptorIndex := 18, attributes := #[] }, { accessFlags := 2, nameIndex := 21, descriptorIndex := 22, attributes := #[] }, { accessFlags := 2, nameIndex := 25, descriptorIndex := 26, attributes := #[] }, { accessFlags := 26, nameIndex := 1116, descriptorIndex := 1117, attributes := #[] }, { accessFlags := 24, nameIndex := 40, descriptorIndex := 26, attributes := #[] }, { accessFlags := 26, nameIndex := 1101, descriptorIndex := 1102, attributes := #[] }, { accessFlags := 26, nameIndex := 1121, descriptorIndex := 1122, attributes := #[] }, { accessFlags := 25, nameIndex := 599, descriptorIndex := 600, attributes := #[] }, { accessFlags := 24, nameIndex := 1125, descriptorIndex := 18, attributes := #[] }, { accessFlags := 24, nameIndex := 1127, descriptorIndex := 18, attributes := #[] }])
  fields := #[{ name := "value", type := (.array .byte), accessFlags := 18, slot := 0, constantValue := 0 }, { name := "coder", type := .byte, accessFlags := 18, slot := 1, constantValue := 0 }, { name := "hash", type := .int, accessFlags := 2, slot := 2, constantValue := 0 }, { name := "hashIsZero", type := .boolean, accessFlags := 2, slot := 3, constantValue := 0 }, { name := "serialVersionUID", type := .long, accessFlags := 26, slot := 0, constantValue := 0 }, { name := "COMPACT_STRINGS", type := .boolean, accessFlags := 24, slot := 1, constantValue := 0 }, { name := "serialPersistentFields", type := (.array (.object "java/io/ObjectStreamField")), accessFlags := 26, slot := 2, constantValue := 0 }, { name := "REPL", type := .char, accessFlags := 26, slot := 3, constantValue := 0 }, { name := "CASE_INSENSITIVE_ORDER", type := (.object "java/util/Comparator"), accessFlags := 25, slot := 4, constantValue := 0 }, { name := "LATIN1", type := .byte, accessFlags := 24, slot := 5, constantValue := 0 }, { name := "UTF16", type := .byte, accessFlags := 24, slot := 6, constantValue := 0 }]
  methods := #[k7m0, k7m1, k7m2, k7m3]
  instanceTypes := #[(.array .byte), .byte, .int, .boolean]
  staticTypes := #[.long, .boolean, (.array (.object "java/io/ObjectStreamField")), .char, (.object "java/util/Comparator"), .byte, .byte]
  resolved := Array.replicate 1451 none
  statics := some 0 }

def pool8 : Array CpInfo := pool [(2, .class_ 4), (1, u "java/lang/Object"), (0, u "<init>"), (0, u "()V"), (1, .class_ 10), (1, u "com/example/tidy_balancer/tidybalancer/model/KeySpace"), (40, u "hexDigit"), (0, u "(C)I"), (12, u "LOWEST"), (0, u "J"), (3, u "HIGHEST"), (0, u "PREFIX"), (0, u "Ljava/lang/String;"), (0, u "DIGITS"), (0, u "I")] 28

def k8m0 : Method := { name := "<init>", desc := "()V", sig := { parameters := [], returnType := none }, accessFlags := 2, code := none }
def k8c1 : Code := { maxStack := 2, maxLocals := 2, code := prog_31_method_5_code, exceptionTable := #[], attributes := #[] }
def k8m1 : Method := { name := "hexDigit", desc := "(C)I", sig := { parameters := [.char], returnType := some .int }, accessFlags := 9, code := some k8c1 }
/-- com/example/tidy_balancer/tidybalancer/model/KeySpace -/
def k8 : Class := { plain "com/example/tidy_balancer/tidybalancer/model/KeySpace" (some 0) with
  accessFlags := 49
  interfaces := #[]
  cf := some (fileOf pool8 8 #[] #[{ accessFlags := 2, nameIndex := 5, descriptorIndex := 6, attributes := #[] }, { accessFlags := 9, nameIndex := 51, descriptorIndex := 52, attributes := #[] }] 49 2 #[] #[{ accessFlags := 25, nameIndex := 65, descriptorIndex := 66, attributes := #[] }, { accessFlags := 25, nameIndex := 70, descriptorIndex := 66, attributes := #[] }, { accessFlags := 26, nameIndex := 71, descriptorIndex := 72, attributes := #[] }, { accessFlags := 26, nameIndex := 73, descriptorIndex := 74, attributes := #[] }])
  fields := #[{ name := "LOWEST", type := .long, accessFlags := 25, slot := 0, constantValue := 0 }, { name := "HIGHEST", type := .long, accessFlags := 25, slot := 1, constantValue := 0 }, { name := "PREFIX", type := (.object "java/lang/String"), accessFlags := 26, slot := 2, constantValue := 0 }, { name := "DIGITS", type := .int, accessFlags := 26, slot := 3, constantValue := 0 }]
  methods := #[k8m0, k8m1]
  instanceTypes := #[]
  staticTypes := #[.long, .long, (.object "java/lang/String"), .int]
  resolved := Array.replicate 103 none
  statics := none }

def pool9 : Array CpInfo := pool [(1, .class_ 2), (0, u "java/lang/String"), (1, .class_ 6), (1, u "java/lang/Object"), (0, u "<init>"), (0, u "()V"), (0, .methodref 1 10), (0, .nameAndType 11 12), (0, u "checkIndex"), (0, u "(II)V"), (1, .class_ 16), (1, u "java/lang/StringLatin1"), (36, u "([BI)C"), (67, u "$assertionsDisabled"), (0, u "Z"), (98, .class_ 223), (1, u "java/lang/StringLatin1$LinesSpliterator"), (28, u "charAt"), (137, .class_ 391), (0, u "java/lang/StringLatin1$CharsSpliterator")] 3

def k9m0 : Method := { name := "<init>", desc := "()V", sig := { parameters := [], returnType := none }, accessFlags := 0, code := none }
def k9c1 : Code := { maxStack := 2, maxLocals := 2, code := jdk_43_method_2_code, exceptionTable := #[], attributes := #[] }
def k9m1 : Method := { name := "charAt", desc := "([BI)C", sig := { parameters := [(.array .byte), .int], returnType := some .char }, accessFlags := 9, code := some k9c1 }
/-- java/lang/StringLatin1 -/
def k9 : Class := { plain "java/lang/StringLatin1" (some 0) with
  accessFlags := 48
  interfaces := #[]
  cf := some (fileOf pool9 14 #[.nestMembers #[390, 221]] #[{ accessFlags := 0, nameIndex := 7, descriptorIndex := 8, attributes := #[] }, { accessFlags := 9, nameIndex := 252, descriptorIndex := 53, attributes := #[] }] 48 4 #[] #[{ accessFlags := 4120, nameIndex := 121, descriptorIndex := 122, attributes := #[] }])
  fields := #[{ name := "$assertionsDisabled", type := .boolean, accessFlags := 4120, slot := 0, constantValue := 0 }]
  methods := #[k9m0, k9m1]
  instanceTypes := #[]
  staticTypes := #[.boolean]
  resolved := Array.replicate 395 none
  statics := none }

def pool10 : Array CpInfo := pool [(2, .class_ 4), (1, u "java/lang/Object"), (0, u "<init>"), (0, u "()V"), (17, .class_ 26), (1, u "jdk/internal/util/Preconditions"), (6, u "checkIndex"), (21, .class_ 56), (0, u "jdk/internal/util/Preconditions$4"), (57, .class_ 115), (0, u "jdk/internal/util/Preconditions$1"), (7, u "SIOOBE_FORMATTER"), (0, u "Ljava/util/function/BiFunction;"), (0, .class_ 126), (0, u "jdk/internal/util/Preconditions$2"), (3, u "AIOOBE_FORMATTER"), (0, .class_ 132), (0, u "jdk/internal/util/Preconditions$3"), (3, u "IOOBE_FORMATTER"), (41, u "(IILjava/util/function/BiFunction;)I")] 15

def k10m0 : Method := { name := "<init>", desc := "()V", sig := { parameters := [], returnType := none }, accessFlags := 1, code := none }
def k10c1 : Code := { maxStack := 3, maxLocals := 3, code := jdk_41_method_11_code, exceptionTable := #[], attributes := #[] }
def k10m1 : Method := { name := "checkIndex", desc := "(IILjava/util/function/BiFunction;)I", sig := { parameters := [.int, .int, (.object "java/util/function/BiFunction")], returnType := some .int }, accessFlags := 9, code := some k10c1 }
/-- jdk/internal/util/Preconditions -/
def k10 : Class := { plain "jdk/internal/util/Preconditions" (some 0) with
  accessFlags := 33
  interfaces := #[]
  cf := some (fileOf pool10 24 #[.nestMembers #[55, 131, 125, 114]] #[{ accessFlags := 1, nameIndex := 5, descriptorIndex := 6, attributes := #[] }, { accessFlags := 9, nameIndex := 33, descriptorIndex := 178, attributes := #[] }] 33 2 #[] #[{ accessFlags := 25, nameIndex := 123, descriptorIndex := 124, attributes := #[] }, { accessFlags := 25, nameIndex := 130, descriptorIndex := 124, attributes := #[] }, { accessFlags := 25, nameIndex := 136, descriptorIndex := 124, attributes := #[] }])
  fields := #[{ name := "SIOOBE_FORMATTER", type := (.object "java/util/function/BiFunction"), accessFlags := 25, slot := 0, constantValue := 0 }, { name := "AIOOBE_FORMATTER", type := (.object "java/util/function/BiFunction"), accessFlags := 25, slot := 1, constantValue := 0 }, { name := "IOOBE_FORMATTER", type := (.object "java/util/function/BiFunction"), accessFlags := 25, slot := 2, constantValue := 0 }]
  methods := #[k10m0, k10m1]
  instanceTypes := #[]
  staticTypes := #[(.object "java/util/function/BiFunction"), (.object "java/util/function/BiFunction"), (.object "java/util/function/BiFunction")]
  resolved := Array.replicate 194 none
  statics := some 1 }

def pool11 : Array CpInfo := pool [(9, u "<init>"), (6, .class_ 18), (1, u "java/lang/Object"), (0, u "()V"), (1, .class_ 23), (1, u "jdk/internal/util/ArraysSupport"), (0, u "LOG2_ARRAY_LONG_INDEX_SCALE"), (0, u "I"), (2, u "U"), (0, u "Ljdk/internal/misc/Unsafe;"), (8, u "BIG_ENDIAN"), (0, u "Z"), (8, u "LOG2_BYTE_BIT_SIZE"), (4, u "LOG2_ARRAY_INT_INDEX_SCALE"), (54, u "JLA"), (0, u "Ljdk/internal/access/JavaLangAccess;"), (11, u "LOG2_ARRAY_BOOLEAN_INDEX_SCALE"), (9, u "LOG2_ARRAY_BYTE_INDEX_SCALE"), (5, u "LOG2_ARRAY_CHAR_INDEX_SCALE"), (5, u "LOG2_ARRAY_SHORT_INDEX_SCALE"), (18, u "LOG2_ARRAY_FLOAT_INDEX_SCALE"), (24, u "LOG2_ARRAY_DOUBLE_INDEX_SCALE"), (89, u "T_BOOLEAN"), (2, u "T_CHAR"), (1, u "T_FLOAT"), (1, u "T_DOUBLE"), (1, u "T_BYTE"), (1, u "T_SHORT"), (1, u "T_INT"), (1, u "T_LONG"), (1, u "SOFT_MAX_ARRAY_LENGTH")] 83

def k11m0 : Method := { name := "<init>", desc := "()V", sig := { parameters := [], returnType := none }, accessFlags := 2, code := none }
/-- jdk/internal/util/ArraysSupport -/
def k11 : Class := { plain "jdk/internal/util/ArraysSupport" (some 0) with
  accessFlags := 33
  interfaces := #[]
  cf := some (fileOf pool11 21 #[] #[{ accessFlags := 2, nameIndex := 9, descriptorIndex := 19, attributes := #[] }] 33 16 #[] #[{ accessFlags := 24, nameIndex := 28, descriptorIndex := 29, attributes := #[] }, { accessFlags := 26, nameIndex := 38, descriptorIndex := 39, attributes := #[] }, { accessFlags := 25, nameIndex := 121, descriptorIndex := 25, attributes := #[] }, { accessFlags := 25, nameIndex := 131, descriptorIndex := 25, attributes := #[] }, { accessFlags := 25, nameIndex := 137, descriptorIndex := 25, attributes := #[] }, { accessFlags := 25, nameIndex := 143, descriptorIndex := 25, attributes := #[] }, { accessFlags := 25, nameIndex := 53, descriptorIndex := 25, attributes := #[] }, { accessFlags := 25, nameIndex := 24, descriptorIndex := 25, attributes := #[] }, { accessFlags := 25, nameIndex := 162, descriptorIndex := 25, attributes := #[] }, { accessFlags := 25, nameIndex := 187, descriptorIndex := 25, attributes := #[] }, { accessFlags := 26, nameIndex := 48, descriptorIndex := 25, attributes := #[] }, { accessFlags := 25, nameIndex := 277, descriptorIndex := 25, attributes := #[] }, { accessFlags := 25, nameIndex := 280, descriptorIndex := 25, attributes := #[] }, { accessFlags := 25, nameIndex := 282, descriptorIndex := 25, attributes := #[] }, { accessFlags := 25, nameIndex := 284, descriptorIndex := 25, attributes := #[] }, { accessFlags := 25, nameIndex := 286, descriptorIndex := 25, attributes := #[] }, { accessFlags := 25, nameIndex := 288, descriptorIndex := 25, attributes := #[] }, { accessFlags := 25, nameIndex := 290, descriptorIndex := 25, attributes := #[] }, { accessFlags := 25, nameIndex := 292, descriptorIndex := 25, attributes := #[] }, { accessFlags := 26, nameIndex := 108, descriptorIndex := 109, attributes := #[] }, { accessFlags := 25, nameIndex := 294, descriptorIndex := 25, attributes := #[] }])
  fields := #[{ name := "U", type := (.object "jdk/internal/misc/Unsafe"), accessFlags := 24, slot := 0, constantValue := 0 }, { name := "BIG_ENDIAN", type := .boolean, accessFlags := 26, slot := 1, constantValue := 0 }, { name := "LOG2_ARRAY_BOOLEAN_INDEX_SCALE", type := .int, accessFlags := 25, slot := 2, constantValue := 0 }, { name := "LOG2_ARRAY_BYTE_INDEX_SCALE", type := .int, accessFlags := 25, slot := 3, constantValue := 0 }, { name := "LOG2_ARRAY_CHAR_INDEX_SCALE", type := .int, accessFlags := 25, slot := 4, constantValue := 0 }, { name := "LOG2_ARRAY_SHORT_INDEX_SCALE", type := .int, accessFlags := 25, slot := 5, constantValue := 0 }, { name := "LOG2_ARRAY_INT_INDEX_SCALE", type := .int, accessFlags := 25, slot := 6, constantValue := 0 }, { name := "LOG2_ARRAY_LONG_INDEX_SCALE", type := .int, accessFlags := 25, slot := 7, constantValue := 0 }, { name := "LOG2_ARRAY_FLOAT_INDEX_SCALE", type := .int, accessFlags := 25, slot := 8, constantValue := 0 }, { name := "LOG2_ARRAY_DOUBLE_INDEX_SCALE", type := .int, accessFlags := 25, slot := 9, constantValue := 0 }, { name := "LOG2_BYTE_BIT_SIZE", type := .int, accessFlags := 26, slot := 10, constantValue := 0 }, { name := "T_BOOLEAN", type := .int, accessFlags := 25, slot := 11, constantValue := 0 }, { name := "T_CHAR", type := .int, accessFlags := 25, slot := 12, constantValue := 0 }, { name := "T_FLOAT", type := .int, accessFlags := 25, slot := 13, constantValue := 0 }, { name := "T_DOUBLE", type := .int, accessFlags := 25, slot := 14, constantValue := 0 }, { name := "T_BYTE", type := .int, accessFlags := 25, slot := 15, constantValue := 0 }, { name := "T_SHORT", type := .int, accessFlags := 25, slot := 16, constantValue := 0 }, { name := "T_INT", type := .int, accessFlags := 25, slot := 17, constantValue := 0 }, { name := "T_LONG", type := .int, accessFlags := 25, slot := 18, constantValue := 0 }, { name := "JLA", type := (.object "jdk/internal/access/JavaLangAccess"), accessFlags := 26, slot := 19, constantValue := 0 }, { name := "SOFT_MAX_ARRAY_LENGTH", type := .int, accessFlags := 25, slot := 20, constantValue := 0 }]
  methods := #[k11m0]
  instanceTypes := #[]
  staticTypes := #[(.object "jdk/internal/misc/Unsafe"), .boolean, .int, .int, .int, .int, .int, .int, .int, .int, .int, .int, .int, .int, .int, .int, .int, .int, .int, (.object "jdk/internal/access/JavaLangAccess"), .int]
  resolved := Array.replicate 378 none
  statics := none }

def pool12 : Array CpInfo := pool [(1, u "java/lang/Cloneable"), (0, .class_ 1), (0, u "java/lang/Object"), (0, .class_ 3)] 3

/-- java/lang/Cloneable -/
def k12 : Class := { plain "java/lang/Cloneable" (some 0) with
  accessFlags := 1537
  interfaces := #[]
  cf := some (fileOf pool12 2 #[] #[] 1537 4 #[] #[])
  fields := #[]
  methods := #[]
  instanceTypes := #[]
  staticTypes := #[]
  resolved := Array.replicate 8 none
  statics := none }

/-- the primitive byte -/
def k13 : Class := { plain "byte" none with kind := .primitive 'B', accessFlags := 0x411 }
/-- [B -/
def k14 : Class := { plain "[B" (some 0) with kind := .array 13 .byte, interfaces := #[12, 2], accessFlags := 1041 }

/-- the primitive int -/
def k15 : Class := { plain "int" none with kind := .primitive 'I', accessFlags := 0x411 }
/-- [I -/
def k16 : Class := { plain "[I" (some 0) with kind := .array 15 .int, interfaces := #[12, 2], accessFlags := 1041 }

def heap : Heap := #[{ cls := 7, slots := #[.long 0, .int 1, .null, .int 0, .null, .int 0, .int 0], vm := .statics 7 },
  { cls := 10, slots := #[.null, .null, .null], vm := .statics 10 }]
def classes : Array Class := #[k0, k1, k2, k3, k4, k5, k6, k7, k8, k9, k10, k11, k12, k13, k14, k15, k16]
def interned : List (Array UInt16 × Addr) := []
def slotsUsed : Nat := 10
def theMethod : MethodId := ⟨1, 1⟩
def args0 : Array Value := #[.int 5, .int 6]
def aboutOver (below : List Frame) : State where
  vm := { classes := classes, interned := interned.toArray }
  heap := heap
  slotsUsed := slotsUsed
  threads := #[{ frames := .invoking theMethod args0 :: below }]
def below0 : List Frame := [.native { method := ⟨0, 0⟩, args := #[] }]
def about1 : State := aboutOver below0
def p0 : Program := .bare "" "" ""
def e0 : Env := launch0.env 0 0 0
theorem w_frames : about1.frames = Frame.invoking theMethod args0 :: below0 := rfl
set_option maxRecDepth 65536 in
theorem w_args : argsFit about1.vm theMethod args0 = true := by decide +kernel
set_option maxRecDepth 65536 in
theorem w_heap : heapFits about1 = true := by decide +kernel
set_option maxRecDepth 65536 in
theorem w_runnable : about1.curStatus? = some .runnable := by decide +kernel
set_option maxRecDepth 65536 in
theorem w_alone : about1.alone = true := by decide +kernel
set_option maxRecDepth 65536 in
theorem w_named : about1.methodNamed? x = some theMethod := by decide +kernel
set_option maxRecDepth 65536 in
theorem w_hears : about1.hears theMethod below0 = true := by decide +kernel
set_option maxRecDepth 65536 in
theorem w_ripe : about1.ripe theMethod args0 below0 = true := by decide +kernel
theorem w_running : about1.status = .running := rfl
set_option maxRecDepth 65536 in
theorem w_room : about1.hasRoom e0.platform room_1 = true :=
  launch0.hasRoom_least _ room_1 (by decide +kernel) (by decide +kernel) (by decide +kernel) (by decide +kernel) (by decide +kernel) (by decide +kernel)
theorem allAtoms_all (ts : List Jvm.Cond) (a : Array Jvm.Value) (st : Jvm.State) : (allAtoms ts).before a st = ts.all (fun c => c.before a st) := by
  induction ts with
  | nil => rfl
  | cons c t ih =>
    show (Jvm.Cond.and c (allAtoms t)).before a st = _
    rw [Jvm.Cond.before_and, ih, List.all_cons]
def words1 : List Jvm.Cond := Jvm.Cond.code x code maxLocals ret :: tables_1
/-- a 'code' word, met by the world's own term for the bytes: nothing is compared byte by byte -/
theorem code_word {y : MethodName} {bytes : ByteArray} {mx : Nat} {rt : Option FieldType} {a : Array Value} {s : State} {m : MethodId} {meth : Method} {c : Code} (h1 : s.methodNamed? y = some m) (h2 : s.vm.method? m = some meth) (h3 : meth.code = some c) (h4 : c.code = bytes)
    (h5 : (c.maxLocals == mx && c.exceptionTable.isEmpty && decide (c.maxStack ≤ mostOperands) && decide (meth.sig.returnType = rt) && !meth.locks && decide (parseMethodDescriptor y.desc = some meth.sig)) = true) : (Jvm.Cond.code y bytes mx rt).before a s = true := by
  simp only [Bool.and_eq_true, beq_iff_eq, Bool.not_eq_true', decide_eq_true_eq] at h5
  obtain ⟨⟨⟨⟨⟨g1, g2⟩, g3⟩, g4⟩, g5⟩, g6⟩ := h5
  simp [Cond.before, Cond.holds, Cond.value, h1, h2, h3, h4, g1, g2, g3, g4, g5, g6]
def isCode : Jvm.Cond → Bool
  | .code _ _ _ _ => true
  | _ => false
theorem all_split {L : List Jvm.Cond} {P : Jvm.Cond → Bool} (h1 : L.all (fun c => isCode c || P c) = true) (h2 : ∀ c ∈ L.filter isCode, P c = true) : L.all P = true := by
  refine List.all_eq_true.mpr fun c hc => ?_
  have h := List.all_eq_true.mp h1 c hc
  rcases Bool.eq_false_or_eq_true (isCode c) with hi | hi
  · exact h2 c (List.mem_filter.mpr ⟨hc, hi⟩)
  · simpa [hi] using h
set_option maxRecDepth 65536 in
theorem w_c0 : (Jvm.Cond.code x code maxLocals ret).before args0 about1 = true := code_word (m := ⟨1, 1⟩) (meth := k1m1) (c := k1c1) (by decide +kernel) rfl rfl rfl (by decide +kernel)
set_option maxRecDepth 65536 in
theorem w_c1 : (Jvm.Cond.code ({ cls := "com/example/tidy_balancer/tidybalancer/model/KeySpace", name := "hexDigit", desc := "(C)I" } : Jvm.MethodName) prog_31_method_5_code (2 : Nat) (Option.some Jvm.ClassFile.FieldType.int)).before args0 about1 = true := code_word (m := ⟨8, 1⟩) (meth := k8m1) (c := k8c1) (by decide +kernel) rfl rfl rfl (by decide +kernel)
set_option maxRecDepth 65536 in
theorem w_c2 : (Jvm.Cond.code ({ cls := "java/lang/String", name := "charAt", desc := "(I)C" } : Jvm.MethodName) jdk_42_method_56_code (2 : Nat) (Option.some Jvm.ClassFile.FieldType.char)).before args0 about1 = true := code_word (m := ⟨7, 1⟩) (meth := k7m1) (c := k7c1) (by decide +kernel) rfl rfl rfl (by decide +kernel)
set_option maxRecDepth 65536 in
theorem w_c3 : (Jvm.Cond.code ({ cls := "java/lang/String", name := "isLatin1", desc := "()Z" } : Jvm.MethodName) jdk_42_method_154_code (1 : Nat) (Option.some Jvm.ClassFile.FieldType.boolean)).before args0 about1 = true := code_word (m := ⟨7, 2⟩) (meth := k7m2) (c := k7c2) (by decide +kernel) rfl rfl rfl (by decide +kernel)
set_option maxRecDepth 65536 in
theorem w_c4 : (Jvm.Cond.code ({ cls := "java/lang/StringLatin1", name := "charAt", desc := "([BI)C" } : Jvm.MethodName) jdk_43_method_2_code (2 : Nat) (Option.some Jvm.ClassFile.FieldType.char)).before args0 about1 = true := code_word (m := ⟨9, 1⟩) (meth := k9m1) (c := k9c1) (by decide +kernel) rfl rfl rfl (by decide +kernel)
set_option maxRecDepth 65536 in
theorem w_c5 : (Jvm.Cond.code ({ cls := "java/lang/String", name := "checkIndex", desc := "(II)V" } : Jvm.MethodName) jdk_42_method_155_code (2 : Nat) (Option.none : Option Jvm.ClassFile.FieldType)).before args0 about1 = true := code_word (m := ⟨7, 3⟩) (meth := k7m3) (c := k7c3) (by decide +kernel) rfl rfl rfl (by decide +kernel)
set_option maxRecDepth 65536 in
theorem w_c6 : (Jvm.Cond.code ({ cls := "jdk/internal/util/Preconditions", name := "checkIndex", desc := "(IILjava/util/function/BiFunction;)I" } : Jvm.MethodName) jdk_41_method_11_code (3 : Nat) (Option.some Jvm.ClassFile.FieldType.int)).before args0 about1 = true := code_word (m := ⟨10, 1⟩) (meth := k10m1) (c := k10c1) (by decide +kernel) rfl rfl rfl (by decide +kernel)
def codes1 : List Jvm.Cond := [Jvm.Cond.code x code maxLocals ret, Jvm.Cond.code ({ cls := "com/example/tidy_balancer/tidybalancer/model/KeySpace", name := "hexDigit", desc := "(C)I" } : Jvm.MethodName) prog_31_method_5_code (2 : Nat) (Option.some Jvm.ClassFile.FieldType.int), Jvm.Cond.code ({ cls := "java/lang/String", name := "charAt", desc := "(I)C" } : Jvm.MethodName) jdk_42_method_56_code (2 : Nat) (Option.some Jvm.ClassFile.FieldType.char), Jvm.Cond.code ({ cls := "java/lang/String", name := "isLatin1", desc := "()Z" } : Jvm.MethodName) jdk_42_method_154_code (1 : Nat) (Option.some Jvm.ClassFile.FieldType.boolean), Jvm.Cond.code ({ cls := "java/lang/StringLatin1", name := "charAt", desc := "([BI)C" } : Jvm.MethodName) jdk_43_method_2_code (2 : Nat) (Option.some Jvm.ClassFile.FieldType.char), Jvm.Cond.code ({ cls := "java/lang/String", name := "checkIndex", desc := "(II)V" } : Jvm.MethodName) jdk_42_method_155_code (2 : Nat) (Option.none : Option Jvm.ClassFile.FieldType), Jvm.Cond.code ({ cls := "jdk/internal/util/Preconditions", name := "checkIndex", desc := "(IILjava/util/function/BiFunction;)I" } : Jvm.MethodName) jdk_41_method_11_code (3 : Nat) (Option.some Jvm.ClassFile.FieldType.int)]
set_option maxRecDepth 65536 in
theorem codes_eq : words1.filter isCode = codes1 := rfl
theorem w_codes : ∀ c ∈ words1.filter isCode, c.before args0 about1 = true := by
  rw [codes_eq]
  intro c hc
  simp only [codes1, List.mem_cons, List.not_mem_nil, or_false] at hc
  rcases hc with rfl | rfl | rfl | rfl | rfl | rfl | rfl
  · exact w_c0
  · exact w_c1
  · exact w_c2
  · exact w_c3
  · exact w_c4
  · exact w_c5
  · exact w_c6
set_option maxRecDepth 65536 in
theorem w_t1 : (words1.take 24).all (fun c => isCode c || c.before args0 about1) = true := by decide +kernel
set_option maxRecDepth 65536 in
theorem w_t2 : (words1.drop 24).all (fun c => isCode c || c.before args0 about1) = true := by decide +kernel
theorem w_tables : (allAtoms (Jvm.Cond.code x code maxLocals ret :: tables_1)).before args0 about1 = true := by
  rw [allAtoms_all]
  show words1.all (fun c => c.before args0 about1) = true
  refine all_split ?_ w_codes
  rw [← List.take_append_drop 24 words1, List.all_append, w_t1, w_t2]
  rfl
set_option maxRecDepth 65536 in
theorem w_rest : rest_1_c.before args0 about1 = true := by decide +kernel
set_option maxRecDepth 65536 in
theorem w_case : (Jvm.Cond.and given_1 narrow_1).before args0 about1 = true := by decide +kernel
set_option maxRecDepth 65536 in
theorem w_consts : constsHeld consts_1 about1 := Jvm.Lit.constsHeldB_iff.mp (by decide +kernel)
theorem w_applies : (headSpec (Jvm.Cond.code x code maxLocals ret :: tables_1) room_1).applies x e0.platform about1 = true :=
  (Spec.applies_iff w_frames).mpr ⟨w_running, w_runnable, w_alone, w_named, w_hears, w_ripe, w_room, w_tables⟩
theorem atStart : AtStart classFile x code maxLocals ret World_1 tables_1 room_1 Calls_1 rest_1 Pre_1 launch0 p0 e0 about1 theMethod args0 below0 :=
  ⟨lists_1, trivial, launch0.admits_env _ _ _, launch0.least_env, fairChoices_fair.cas, fairChoices_fair.clock, w_frames, w_args, w_heap, w_applies, ⟨w_consts, trivial⟩, w_rest, w_case⟩
end start1
theorem witness_1 : WitnessClaimed_1 := ⟨start1.p0, start1.e0, start1.about1, start1.theMethod, start1.args0, start1.below0, start1.atStart⟩
end Jvm.Pilot.@@N@@
