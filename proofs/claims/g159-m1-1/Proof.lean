import JvmDerived
import JvmDerived.Pilot.@@N@@Statement
import JvmDerived.Pilot.@@N@@Code
set_option linter.unusedVariables false
set_option linter.unusedSimpArgs false
namespace Jvm.Pilot.@@N@@
open Jvm Jvm.ClassFile Sem Op Lib Jvm.Free Jvm.Stand Jvm.LawKit Jvm.RoadKit Bundle Jvm.Pilot.@@N@@.Jvm.D
/-! THE WALK IN CONTINUATION FORM. Here: the run stands in T, its heap is h, nothing old was written. Go: from the state F the run ends as Q says. CM: a callee's contract. -/
def Here (p : Program) (l : Launch) (e : Env) (R : Room) (s : State) (m : MethodId) (args : Array Value) (below : List Frame) (meth : Method) (c : Code) (n0 : Nat) (T : State) (h : Heap) (k n : Nat) : Prop :=
  ∃ locs, Stand p l e R s m args below meth c T locs k n ∧ T.heap = h ∧ Fr n0 locs
def Fini (below : List Frame) (s : State) (n0 : Nat) (Q : Option Value → Heap → Prop) (K N : Nat) (t : State) (o : Outcome) : Prop :=
  t.status = .running ∧ Ended t below o ∧ ∃ v L, o = .returned v ∧ (Q v t.heap ∧ Fr n0 L) ∧ FrameEnd s o t L K N
def Go (p : Program) (e : Env) (below : List Frame) (Φ : State → Outcome → Prop) (F : State) : Prop :=
  ∃ t o, Steps p.tables e below F t ∧ Φ t o
def CM (l : Launch) (Z : State) (y : MethodName) (code : ByteArray) (maxL : Nat) (ret : Option FieldType) (R : Room) (as : Array Value) (h0 : Heap) (n0 : Nat) (Q : Option Value → Heap → Prop) : Prop :=
  ∀ ws, MetFree l y (head1 (Jvm.Cond.code y code maxL ret :: ws) R) (fun a U => a = as ∧ Z.Warmed39 U.vm ∧ U.heap = h0) (fun _ _ _ _ _ => True) (fun _ U o U' => ∃ v L, o = .returned v ∧ (Q v U'.heap ∧ Fr n0 L) ∧ FrameEnd U o U' L R.cells R.slots)
section Own
variable {p : Program} {l : Launch} {e : Env} {R : Room} {s : State} {m : MethodId} {args : Array Value} {below : List Frame} {meth : Method} {c : Code} {T : State} {h : Heap} {k n n0 K N : Nat} {Q : Option Value → Heap → Prop} {Z : State} {a0 : Array Value} {Φ : State → Outcome → Prop}
theorem Here.here (H : Here p l e R s m args below meth c n0 T h k n) : At T m c below := by obtain ⟨_, X, _, _⟩ := H; exact X.here
theorem Here.stand (H : Here p l e R s m args below meth c n0 T h k n) : ∃ locs, Stand p l e R s m args below meth c T locs k n ∧ T.heap = h ∧ Fr n0 locs := H
theorem Go.via {F F' : State} (st : ∀ t, Steps p.tables e below F' t → Steps p.tables e below F t) (g : Go p e below Φ F') : Go p e below Φ F := by
  obtain ⟨t, o, h1, r⟩ := g; exact ⟨t, o, st t h1, r⟩
theorem own_enter {y : MethodName} {code : ByteArray} {maxL : Nat} {ret : Option FieldType} {as : Array Value} {h0 : Heap} (hpl : plainFor y = true)
    (body : ∀ (p : Program) (e : Env) (s : State) (m : MethodId) (below : List Frame) (meth : Method) (c : Code) (T : State), p.tables.exec = Jvm.exec → c.code = code → c.maxLocals = maxL → s.vm.findClass y.cls = some m.cls → meth.name = y.name → Z.Warmed39 s.vm → meth.sig.returnType = ret → meth.locks = false → Here p l e R s m as below meth c n0 T h0 0 0 → Go p e below (Fini below s n0 Q R.cells R.slots) (T.setTop (entryFrame m as maxL))) :
    CM l Z y code maxL ret R as h0 n0 Q := by
  intro ws
  refine MetFree.of_bodySF hpl hisR ?_
  intro p e s m args below meth c s₁ Bd hml0 hP hK
  obtain ⟨rfl, hZ, hh⟩ := hP
  exact body p e s m below meth c s₁ Bd.exec Bd.bytes hml0 (findClass_of_methodNamed Bd.named) (name_of_methodNamed Bd.named Bd.method).1 hZ Bd.returns Bd.notSynchronized ⟨[], Stand.of_body Bd, by rw [← hh, Bd.state]; rfl, Fr.nil n0⟩
theorem Here.leave (H : Here p l e R s m args below meth c n0 T h k n) (hlk : meth.locks = false) {v : Option Value} (hv : meth.sig.returnType = none → v = none) (hQ : Q v h) (hk : k ≤ K) (hn : n ≤ N) {F : State}
    (st : ∀ fs, (∀ (f : JFrame) (acts : List Action), f.method = m → f.locked = none → f.entered = [] → (doReturn e (T.setTop f) acts v).1 = T.setFrames fs) → Steps p.tables e below F (T.setFrames fs)) : Go p e below (Fini below s n0 Q K N) F := by
  obtain ⟨locs, X, rfl, F0⟩ := H
  obtain ⟨fs, hr, hrun, hended, hW, hsame⟩ := X.leave (v := v) hv hlk
  exact ⟨_, _, st fs hr, hrun, hended, v, locs, rfl, ⟨hQ, F0⟩, ⟨_, rfl⟩, hW, hsame.mono hk hn⟩
theorem own_retV (H : Here p l e R s m args below meth c n0 T h k n) (hx : p.tables.exec = Jvm.exec) (hlk : meth.locks = false) (hret : meth.sig.returnType = none) {pc : Nat} {Ls : Array Slot} (hd : decode c.code pc = .ok (.return_, 1)) (hQ : Q none h) (hk : k ≤ K) (hn : n ≤ N) :
    Go p e below (Fini below s n0 Q K N) (T.setTop (mkF m pc Ls [])) := by
  obtain ⟨locs, X, r1, r2⟩ := H.stand
  exact H.leave hlk (fun _ => rfl) hQ hk hn fun fs hr => X.returnOut hx hret hd hr
theorem own_retI (H : Here p l e R s m args below meth c n0 T h k n) (hx : p.tables.exec = Jvm.exec) (hlk : meth.locks = false) (hret : meth.sig.returnType = some .int) {pc : Nat} {Ls : Array Slot} {z : Int32} {rest : List Value} (hd : decode c.code pc = .ok (.ireturn, 1)) (hQ : Q (some (.int z)) h) (hk : k ≤ K) (hn : n ≤ N) :
    Go p e below (Fini below s n0 Q K N) (T.setTop (mkF m pc Ls (.int z :: rest))) := by
  obtain ⟨locs, X, r1, r2⟩ := H.stand
  exact H.leave hlk (fun q => by rw [hret] at q; cases q) hQ hk hn fun fs hr => retOut X hx hret rfl (Or.inl ⟨rfl, Or.inl rfl, z, rfl⟩) hd hr
theorem own_retN (H : Here p l e R s m args below meth c n0 T h k n) (hx : p.tables.exec = Jvm.exec) (hlk : meth.locks = false) {t : FieldType} (ht : t = .boolean ∨ t = .byte ∨ t = .char ∨ t = .short) (hret : meth.sig.returnType = some t) {pc : Nat} {Ls : Array Slot} {z : Int32} {rest : List Value} (hd : decode c.code pc = .ok (.ireturn, 1)) (hQ : Q (some (.int (nar t z))) h) (hk : k ≤ K) (hn : n ≤ N) :
    Go p e below (Fini below s n0 Q K N) (T.setTop (mkF m pc Ls (.int z :: rest))) := by
  obtain ⟨locs, X, r1, r2⟩ := H.stand
  exact H.leave hlk (fun q => by rw [hret] at q; cases q) hQ hk hn fun fs hr => retN X hx hret ht hd hr
theorem own_retL (H : Here p l e R s m args below meth c n0 T h k n) (hx : p.tables.exec = Jvm.exec) (hlk : meth.locks = false) (hret : meth.sig.returnType = some .long) {pc : Nat} {Ls : Array Slot} {z : Int64} {rest : List Value} (hd : decode c.code pc = .ok (.lreturn, 1)) (hQ : Q (some (.long z)) h) (hk : k ≤ K) (hn : n ≤ N) :
    Go p e below (Fini below s n0 Q K N) (T.setTop (mkF m pc Ls (.long z :: rest))) := by
  obtain ⟨locs, X, r1, r2⟩ := H.stand
  exact H.leave hlk (fun q => by rw [hret] at q; cases q) hQ hk hn fun fs hr => retOut X hx hret rfl (Or.inr (Or.inl ⟨rfl, rfl, z, rfl⟩)) hd hr
theorem own_retA (H : Here p l e R s m args below meth c n0 T h k n) (hx : p.tables.exec = Jvm.exec) (hlk : meth.locks = false) {t : FieldType} (ht : t.isReference = true) (hret : meth.sig.returnType = some t) {pc : Nat} {Ls : Array Slot} {w : Value} {rest : List Value} (hn' : narrow t w = w) (hw : w.isRef = true) (hd : decode c.code pc = .ok (.areturn, 1)) (hQ : Q (some w) h) (hk : k ≤ K) (hn : n ≤ N) :
    Go p e below (Fini below s n0 Q K N) (T.setTop (mkF m pc Ls (w :: rest))) := by
  obtain ⟨locs, X, r1, r2⟩ := H.stand
  exact H.leave hlk (fun q => by rw [hret] at q; cases q) hQ hk hn fun fs hr => retOut X hx hret hn' (Or.inr (Or.inr (Or.inr (Or.inr ⟨rfl, ht, hw⟩)))) hd hr
/-! calls -/
theorem own_callS (H : Here p l e R s m args below meth c n0 T h k n) (hx : p.tables.exec = Jvm.exec) (hZ : Z.Warmed39 s.vm) {own : String} {index : Nat} {y : MethodName} {bytes : ByteArray} {maxL : Nat} {ret : Option FieldType} {rm : Room} {argsL rest : List Value} {Q' : Option Value → Heap → Prop}
    (hown : s.vm.findClass own = some m.cls) (w1 : (Jvm.Cond.methodLink own index y).before a0 Z = true) (w2 : (Jvm.Cond.static y).before a0 Z = true) (w3 : (Jvm.Cond.initialized y.cls).before a0 Z = true) (w4 : (Jvm.Cond.code y bytes maxL ret).before a0 Z = true)
    (hy : y.cls ≠ "java/lang/invoke/MethodHandle" ∧ y.cls ≠ "java/lang/invoke/VarHandle") (hM : CM l Z y bytes maxL ret rm argsL.toArray h n0 Q')
    {g : JFrame} (hg : g.method = m) (hsize : g.locals.size = c.maxLocals) (hlen : ∀ sig, parseMethodDescriptor y.desc = some sig → argsL.length = sig.parameters.length)
    (hstack : g.stack = argsL.reverse ++ rest) (W : Nat) (hW : 2 * g.monitorRoom + (rest.map fun v => v.category).sum ≤ W) (hd : decode c.code g.pc = .ok (.invokestatic index, 3))
    (hf : rm.frames + 1 ≤ R.frames) (hl : W + (maxL + 11) + rm.locals ≤ R.locals) (hc : k + rm.cells ≤ R.cells) (hs : n + rm.slots ≤ R.slots)
    (next : ∀ v T' h', Q' v h' → Here p l e R s m args below meth c n0 T' h' (k + rm.cells) (n + rm.slots) → Go p e below Φ (T'.setTop { g with pc := g.pc + 3, stack := v.toList ++ rest })) :
    Go p e below Φ (T.setTop g) := by
  obtain ⟨locs, X, rfl, F⟩ := H
  obtain ⟨v, _, ⟨T3, L3, k3, n3⟩, -, X3, ⟨Lc3, hQ3, l3, y3, z3⟩, st3⟩ := Jvm.LawKit.callS X hx (y := y) hown (mvT hZ w1) (mvT hZ w2) (mvT hZ w3) (mvT hZ w4) hy (backOf (W := W) (Q := fun v h L => Q' v h ∧ Fr n0 L) (hM []) hZ w4 w3 hf hl) (g := g) hg hsize (argsL := argsL) (rest := rest) hlen hstack hW hd (fun _ _ => ⟨rfl, rfl, hc, hs⟩)
  dsimp only [Pt.U, Pt.locs, Pt.cells, Pt.slots] at X3 l3 y3 z3 st3 hQ3
  subst l3 y3 z3
  exact Go.via st3 (next v T3 T3.heap hQ3.1 ⟨_, X3, rfl, F.app hQ3.2⟩)
theorem own_callI (H : Here p l e R s m args below meth c n0 T h k n) (hx : p.tables.exec = Jvm.exec) (hZ : Z.Warmed39 s.vm) {own : String} {index : Nat} {y : MethodName} {bytes : ByteArray} {maxL : Nat} {rm : Room} {a : Addr} {argsL rest : List Value} {Q' : Option Value → Heap → Prop}
    (hy1 : y.name = "<init>") (hown : s.vm.findClass own = some m.cls) (w1 : (Jvm.Cond.methodLink own index y).before a0 Z = true) (w2 : (Jvm.Cond.instanceMethod y).before a0 Z = true) (w3 : (Jvm.Cond.initialized y.cls).before a0 Z = true) (w4 : (Jvm.Cond.code y bytes maxL none).before a0 Z = true)
    (hy : y.cls ≠ "java/lang/invoke/MethodHandle" ∧ y.cls ≠ "java/lang/invoke/VarHandle") (hM : CM l Z y bytes maxL none rm (Value.ref a :: argsL).toArray h n0 Q')
    {g : JFrame} (hg : g.method = m) (hsize : g.locals.size = c.maxLocals) (hlen : ∀ sig, parseMethodDescriptor y.desc = some sig → argsL.length = sig.parameters.length)
    (hstack : g.stack = argsL.reverse ++ .ref a :: rest) (W : Nat) (hW : 2 * g.monitorRoom + (rest.map fun v => v.category).sum ≤ W) (hd : decode c.code g.pc = .ok (.invokespecial index, 3))
    (hf : rm.frames + 1 ≤ R.frames) (hl : W + (maxL + 11) + rm.locals ≤ R.locals) (hc : k + rm.cells ≤ R.cells) (hs : n + rm.slots ≤ R.slots)
    (next : ∀ v T' h', Q' v h' → Here p l e R s m args below meth c n0 T' h' (k + rm.cells) (n + rm.slots) → Go p e below Φ (T'.setTop { g with pc := g.pc + 3, stack := v.toList ++ rest })) :
    Go p e below Φ (T.setTop g) := by
  obtain ⟨locs, X, rfl, F⟩ := H
  obtain ⟨v, _, ⟨T3, L3, k3, n3⟩, -, X3, ⟨Lc3, hQ3, l3, y3, z3⟩, st3⟩ := X.specialBack hx (y := y) hy1 hown (mvT hZ w1) (mvT hZ w2) (mvT hZ w4) hy (backOf (W := W) (Q := fun v h L => Q' v h ∧ Fr n0 L) (hM []) hZ w4 w3 hf hl) (g := g) hg hsize (Steps.refl _) (a := a) (argsL := argsL) (rest := rest) hlen hstack hW hd (fun _ _ => ⟨rfl, rfl, hc, hs⟩)
  dsimp only [Pt.U, Pt.locs, Pt.cells, Pt.slots] at X3 l3 y3 z3 st3 hQ3
  subst l3 y3 z3
  exact Go.via (fun t q => st3.trans q) (next v T3 T3.heap hQ3.1 ⟨_, X3, rfl, F.app hQ3.2⟩)
theorem own_callV (H : Here p l e R s m args below meth c n0 T h k n) (hx : p.tables.exec = Jvm.exec) (hZ : Z.Warmed39 s.vm) {own C : String} {index : Nat} {y : MethodName} {bytes : ByteArray} {maxL : Nat} {ret : Option FieldType} {rm : Room} {a : Addr} {argsL rest : List Value} {Q' : Option Value → Heap → Prop}
    (hown : s.vm.findClass own = some m.cls) (w1 : (Jvm.Cond.methodLink own index y).before a0 Z = true) (w2 : (Jvm.Cond.declares y).before a0 Z = true) (w3 : (Jvm.Cond.selects C y y).before a0 Z = true) (w4 : (Jvm.Cond.instanceMethod y).before a0 Z = true) (w5 : (Jvm.Cond.initialized y.cls).before a0 Z = true) (w6 : (Jvm.Cond.code y bytes maxL ret).before a0 Z = true)
    (hy : y.cls ≠ "java/lang/invoke/MethodHandle" ∧ y.cls ≠ "java/lang/invoke/VarHandle") (hE : Exa Z h a C) (hM : CM l Z y bytes maxL ret rm (Value.ref a :: argsL).toArray h n0 Q')
    {g : JFrame} (hg : g.method = m) (hsize : g.locals.size = c.maxLocals) (hlen : ∀ sig, parseMethodDescriptor y.desc = some sig → argsL.length = sig.parameters.length)
    (hstack : g.stack = argsL.reverse ++ .ref a :: rest) (W : Nat) (hW : 2 * g.monitorRoom + (rest.map fun v => v.category).sum ≤ W) (hd : decode c.code g.pc = .ok (.invokevirtual index, 3))
    (hf : rm.frames + 1 ≤ R.frames) (hl : W + (maxL + 11) + rm.locals ≤ R.locals) (hc : k + rm.cells ≤ R.cells) (hs : n + rm.slots ≤ R.slots)
    (next : ∀ v T' h', Q' v h' → Here p l e R s m args below meth c n0 T' h' (k + rm.cells) (n + rm.slots) → Go p e below Φ (T'.setTop { g with pc := g.pc + 3, stack := v.toList ++ rest })) :
    Go p e below Φ (T.setTop g) := by
  obtain ⟨locs, X, rfl, F⟩ := H
  obtain ⟨cq, kq, qa, qb, qc⟩ := isOf hZ rfl hE
  obtain ⟨v, _, ⟨T3, L3, k3, n3⟩, -, X3, ⟨Lc3, hQ3, l3, y3, z3⟩, st3⟩ := X.virtualBack hx (y := y) (z := y) hown (mvT hZ w1) (mvT hZ w2) (notFace_of_selects (args := #[]) (mvT hZ w3)) (mvT hZ w3) (mvT hZ w4) hy (backOf (W := W) (Q := fun v h L => Q' v h ∧ Fr n0 L) (hM []) hZ w6 w5 hf hl) qa qc (g := g) hg hsize (Steps.refl _) (argsL := argsL) (rest := rest) hlen hstack hW hd (fun _ _ => ⟨rfl, rfl, hc, hs⟩)
  dsimp only [Pt.U, Pt.locs, Pt.cells, Pt.slots] at X3 l3 y3 z3 st3 hQ3
  subst l3 y3 z3
  exact Go.via (fun t q => st3.trans q) (next v T3 T3.heap hQ3.1 ⟨_, X3, rfl, F.app hQ3.2⟩)
/-! fields, objects -/
theorem own_getF (H : Here p l e R s m args below meth c n0 T h k n) (hx : p.tables.exec = Jvm.exec) (hZ : Z.Warmed39 s.vm) {own O nm d : String} {index : Nat} (hown : s.vm.findClass own = some m.cls) (w : (Jvm.Cond.fieldLink own index O nm d).before a0 Z = true)
    {a : Addr} {v : Value} (F : Fld Z h a O nm d v) {g : JFrame} (hg : g.method = m) {rest : List Value} (hs : g.stack = .ref a :: rest) (hd : decode c.code g.pc = .ok (.getfield index, 3))
    (next : ∀ T', Here p l e R s m args below meth c n0 T' h k n → Go p e below Φ (T'.setTop { g with pc := g.pc + 3, stack := v :: rest })) : Go p e below Φ (T.setTop g) := by
  obtain ⟨locs, X, r1, r2⟩ := H.stand
  obtain ⟨T', X', e', st⟩ := getF X hx hZ hown (host := "") (Or.inl w) Via.refl r1 F hg hs hd
  exact Go.via st (next T' ⟨_, X', e', r2⟩)
theorem own_putF (H : Here p l e R s m args below meth c n0 T h k n) (hx : p.tables.exec = Jvm.exec) (hZ : Z.Warmed39 s.vm) {own O nm d C : String} {index kk : Nat} {ty : FieldType} (hown : s.vm.findClass own = some m.cls) (w : (Jvm.Cond.fieldLink own index O nm d).before a0 Z = true)
    {a : Addr} {v old : Value} (F : Fld Z h a O nm d old) (E : Exa Z h a C) (L : (Jvm.Cond.lays C O nm d).before a0 Z = true ∨ ((Jvm.Cond.laysFinal C O nm d).before a0 Z = true ∧ own = O ∧ meth.name = "<init>")) (wi : (Jvm.Cond.instantiable C kk).before a0 Z = true) (ha : n0 ≤ a)
    (hty : parseFieldDescriptor d = some ty) (hn : narrow ty v = v) (hf : fits ty v = true) {g : JFrame} (hg : g.method = m) {rest : List Value} (hs : g.stack = v :: .ref a :: rest) (hd : decode c.code g.pc = .ok (.putfield index, 3))
    (next : ∀ T' h', Wr h h' a (Jvm.RoadKit.slotOf Z O nm d) v → Here p l e R s m args below meth c n0 T' h' k n → Go p e below Φ (T'.setTop { g with pc := g.pc + 3, stack := rest })) : Go p e below Φ (T.setTop g) := by
  obtain ⟨locs, X, r1, r2⟩ := H.stand
  obtain ⟨T', h', X', e', W, st⟩ := putF X hx hZ hown (host := "") (Or.inl w) Via.refl r1 F E L wi hty hn hf hg hs hd
  exact Go.via st (next T' h' W ⟨_, X', e', Fr.snoc X' r2 ha⟩)
theorem own_putFN (H : Here p l e R s m args below meth c n0 T h k n) (hx : p.tables.exec = Jvm.exec) (hZ : Z.Warmed39 s.vm) {own O nm d C : String} {index kk : Nat} {ty : FieldType} (hown : s.vm.findClass own = some m.cls) (w : (Jvm.Cond.fieldLink own index O nm d).before a0 Z = true)
    {a : Addr} {v v' old : Value} (F : Fld Z h a O nm d old) (E : Exa Z h a C) (L : (Jvm.Cond.lays C O nm d).before a0 Z = true ∨ ((Jvm.Cond.laysFinal C O nm d).before a0 Z = true ∧ own = O ∧ meth.name = "<init>")) (wi : (Jvm.Cond.instantiable C kk).before a0 Z = true) (ha : n0 ≤ a)
    (hty : parseFieldDescriptor d = some ty) (hn : narrow ty v = v') (hf : fits ty v' = true) {g : JFrame} (hg : g.method = m) {rest : List Value} (hs : g.stack = v :: .ref a :: rest) (hd : decode c.code g.pc = .ok (.putfield index, 3))
    (next : ∀ T' h', Wr h h' a (Jvm.RoadKit.slotOf Z O nm d) v' → Here p l e R s m args below meth c n0 T' h' k n → Go p e below Φ (T'.setTop { g with pc := g.pc + 3, stack := rest })) : Go p e below Φ (T.setTop g) := by
  obtain ⟨locs, X, r1, r2⟩ := H.stand
  obtain ⟨T', h', X', e', W, st⟩ := putFN X hx hZ hown w Via.refl r1 F E L wi hty hn hf hg hs hd
  exact Go.via st (next T' h' W ⟨_, X', e', Fr.snoc X' r2 ha⟩)
theorem own_newO (H : Here p l e R s m args below meth c n0 T h k n) (hx : p.tables.exec = Jvm.exec) (hZ : Z.Warmed39 s.vm) {own C : String} {index sl : Nat} (hown : s.vm.findClass own = some m.cls) (w : (Jvm.Cond.classLink own index C).before a0 Z = true) (wi : (Jvm.Cond.instantiable C sl).before a0 Z = true) (wz : (Jvm.Cond.initialized C).before a0 Z = true)
    {g : JFrame} (hg : g.method = m) (hd : decode c.code g.pc = .ok (.new index, 3)) (hc : k + 1 ≤ R.cells) (hl : n + sl ≤ R.slots)
    (next : ∀ T' h' a, a = h.size → Ext h h' → Exa Z h' a C → (∀ {O nm d : String} {ty : FieldType}, Laid Z a0 C O nm d → parseFieldDescriptor d = some ty → Fld Z h' a O nm d (defaultValue ty)) → Here p l e R s m args below meth c n0 T' h' (k + 1) (n + sl) → Go p e below Φ (T'.setTop { g with pc := g.pc + 3, stack := .ref a :: g.stack })) : Go p e below Φ (T.setTop g) := by
  obtain ⟨locs, X, r1, r2⟩ := H.stand
  obtain ⟨T', h', X', e', E, A, D, -, st⟩ := newO X hx hZ hown w wi wz r1 hg hd hc hl
  exact Go.via st (next T' h' _ rfl E A D ⟨_, X', e', r2⟩)
/-! arrays -/
theorem own_newP (H : Here p l e R s m args below meth c n0 T h k n) (hx : p.tables.exec = Jvm.exec) (hZ : Z.Warmed39 s.vm) {aty : ArrayType} (w : (Jvm.Cond.arrayClass (newarray.typeOf aty)).before a0 Z = true) {g : JFrame} (hg : g.method = m) (hd : decode c.code g.pc = .ok (.newarray aty, 2)) {z : Int32} {rest : List Value} (hs : g.stack = .int z :: rest)
    (hn : ¬ z < 0) (cap : Nat) (hcap : z.toNatClampNeg ≤ cap) (hb : cap * 8 ≤ 536870912) (hc : k + 1 ≤ R.cells) (hl : n + cap ≤ R.slots)
    (next : ∀ T' h' a cA, a = h.size → Ext h h' → Arr Z h' a (newA cA (newarray.typeOf aty) z) (newarray.typeOf aty) → Here p l e R s m args below meth c n0 T' h' (k + 1) (n + cap) → Go p e below Φ (T'.setTop { g with pc := g.pc + 2, stack := .ref a :: rest })) : Go p e below Φ (T.setTop g) := by
  obtain ⟨locs, X, r1, r2⟩ := H.stand
  obtain ⟨T', h', cA, X', e', E, A, st⟩ := newP X hx hZ w r1 hg hd hs hn hcap hb hc hl
  exact Go.via st (next T' h' _ cA rfl E A ⟨_, X', e', r2⟩)
theorem own_stI (H : Here p l e R s m args below meth c n0 T h k n) (hx : p.tables.exec = Jvm.exec) (hZ : Z.Warmed39 s.vm) {a : Addr} {cl : Cell} (A : Arr Z h a cl .int) {j x : Int32} (hj : ¬ (j < 0 ∨ cl.slots.size ≤ j.toNatClampNeg)) (ha : n0 ≤ a) {g : JFrame} (hg : g.method = m) {rest : List Value} (hs : g.stack = .int x :: .int j :: .ref a :: rest) (hd : decode c.code g.pc = .ok (.iastore, 1))
    (next : ∀ T' h', Wr h h' a j.toNatClampNeg (.int x) → Here p l e R s m args below meth c n0 T' h' k n → Go p e below Φ (T'.setTop { g with pc := g.pc + 1, stack := rest })) : Go p e below Φ (T.setTop g) := by
  obtain ⟨locs, X, r1, r2⟩ := H.stand
  obtain ⟨T', h', X', e', W, st⟩ := stI X hx hZ r1 A hj hg hs hd
  exact Go.via st (next T' h' W ⟨_, X', e', Fr.snoc X' r2 ha⟩)
theorem own_stB (H : Here p l e R s m args below meth c n0 T h k n) (hx : p.tables.exec = Jvm.exec) (hZ : Z.Warmed39 s.vm) {a : Addr} {cl : Cell} (A : Arr Z h a cl .byte) {j x : Int32} (hj : ¬ (j < 0 ∨ cl.slots.size ≤ j.toNatClampNeg)) (ha : n0 ≤ a) {g : JFrame} (hg : g.method = m) {rest : List Value} (hs : g.stack = .int x :: .int j :: .ref a :: rest) (hd : decode c.code g.pc = .ok (.bastore, 1))
    (next : ∀ T' h', Wr h h' a j.toNatClampNeg (.int (nar .byte x)) → Here p l e R s m args below meth c n0 T' h' k n → Go p e below Φ (T'.setTop { g with pc := g.pc + 1, stack := rest })) : Go p e below Φ (T.setTop g) := by
  obtain ⟨locs, X, r1, r2⟩ := H.stand
  obtain ⟨T', h', X', e', W, st⟩ := stB X hx hZ r1 A hj hg hs hd
  exact Go.via st (next T' h' W ⟨_, X', e', Fr.snoc X' r2 ha⟩)
theorem own_len (H : Here p l e R s m args below meth c n0 T h k n) (hx : p.tables.exec = Jvm.exec) (hZ : Z.Warmed39 s.vm) {a : Addr} {cl : Cell} {ty : FieldType} (A : Arr Z h a cl ty) {g : JFrame} (hg : g.method = m) {rest : List Value} (hs : g.stack = .ref a :: rest) (hd : decode c.code g.pc = .ok (.arraylength, 1))
    (next : Go p e below Φ (T.setTop { g with pc := g.pc + 1, stack := .int cl.slots.size.toInt32 :: rest })) : Go p e below Φ (T.setTop g) := by
  obtain ⟨locs, X, r1, r2⟩ := H.stand
  exact Go.via (fun t q => X.arraylength hx (by rw [r1]; exact A.1) (State.isArrayOf_alike hZ.alike A.2.1) hg hs hd t q) next
theorem own_ldI (H : Here p l e R s m args below meth c n0 T h k n) (hx : p.tables.exec = Jvm.exec) (hZ : Z.Warmed39 s.vm) {a : Addr} {cl : Cell} (A : Arr Z h a cl .int) {j : Int32} {v : Value} (hj : ¬ (j < 0 ∨ cl.slots.size ≤ j.toNatClampNeg)) (hv : cl.slots[j.toNatClampNeg]? = some v) {g : JFrame} (hg : g.method = m) {rest : List Value} (hs : g.stack = .int j :: .ref a :: rest) (hd : decode c.code g.pc = .ok (.iaload, 1))
    (next : Go p e below Φ (T.setTop { g with pc := g.pc + 1, stack := v :: rest })) : Go p e below Φ (T.setTop g) := by
  obtain ⟨locs, X, r1, r2⟩ := H.stand
  exact Go.via (fun t q => X.iaload hx (by rw [r1]; exact A.1) (State.isArrayOf_alike hZ.alike A.2.1) A.2.2 hj hv hg hs hd t q) next
theorem own_ldB (H : Here p l e R s m args below meth c n0 T h k n) (hx : p.tables.exec = Jvm.exec) (hZ : Z.Warmed39 s.vm) {a : Addr} {cl : Cell} (A : Arr Z h a cl .byte) {j : Int32} {v : Value} (hj : ¬ (j < 0 ∨ cl.slots.size ≤ j.toNatClampNeg)) (hv : cl.slots[j.toNatClampNeg]? = some v) {g : JFrame} (hg : g.method = m) {rest : List Value} (hs : g.stack = .int j :: .ref a :: rest) (hd : decode c.code g.pc = .ok (.baload, 1))
    (next : Go p e below Φ (T.setTop { g with pc := g.pc + 1, stack := v :: rest })) : Go p e below Φ (T.setTop g) := by
  obtain ⟨locs, X, r1, r2⟩ := H.stand
  exact Go.via (fun t q => X.baloadBytes hx (by rw [r1]; exact A.1) (State.isArrayOf_alike hZ.alike A.2.1) A.2.2 hj hv hg hs hd t q) next
/-! arrays of ints by a function of the place -/
def upd (B : Nat → Int32) (j : Nat) (v : Int32) : Nat → Int32 := fun i => if i = j then v else B i
theorem upd_hit {B : Nat → Int32} {j : Nat} {v : Int32} : upd B j v j = v := if_pos rfl
theorem upd_miss {B : Nat → Int32} {i j : Nat} {v : Int32} (q : i ≠ j) : upd B j v i = B i := if_neg q
def Ab (Z : State) (h : Heap) (a : Addr) (ty : FieldType) (n : Nat) (B : Nat → Int32) : Prop := ∃ c : Cell, Arr Z h a c ty ∧ c.slots.size = n ∧ ∀ i, i < n → c.slots[i]? = some (.int (B i))
theorem Ab.lt {a : Addr} {ty : FieldType} {B : Nat → Int32} (F : Ab Z h a ty n B) : a < h.size := by obtain ⟨c, A, -⟩ := F; exact A.lt
theorem Ab.ext {h' : Heap} {a : Addr} {ty : FieldType} {B : Nat → Int32} (F : Ab Z h a ty n B) (E : Ext h h') : Ab Z h' a ty n B := by obtain ⟨c, A, r⟩ := F; exact ⟨c, A.ext E, r⟩
theorem Ab.other {h' : Heap} {a b : Addr} {sl : Nat} {v : Value} {ty : FieldType} {B : Nat → Int32} (F : Ab Z h b ty n B) (W : Wr h h' a sl v) (q : b ≠ a) : Ab Z h' b ty n B := by obtain ⟨c, A, r⟩ := F; exact ⟨c, A.other W q, r⟩
theorem Ab.keep {h' : Heap} {a : Addr} {ws : List Addr} {ty : FieldType} {B : Nat → Int32} (F : Ab Z h a ty n B) (Kp : Keep h h' ws) (q : a ∉ ws) : Ab Z h' a ty n B := by obtain ⟨c, A, r⟩ := F; exact ⟨c, ⟨Kp.2.1 a c A.1 q, A.2⟩, r⟩
theorem Ab.set {h' : Heap} {a : Addr} {j : Nat} {v : Int32} {ty : FieldType} {B : Nat → Int32} (F : Ab Z h a ty n B) (W : Wr h h' a j (.int v)) : Ab Z h' a ty n (upd B j v) := by
  obtain ⟨c, A, S, G⟩ := F
  obtain ⟨c', q1, -, -, q4, -, q6, q7⟩ := wr_at W A.1
  obtain ⟨rfl, q8, -⟩ := q7 rfl
  refine ⟨_, A.same W, q4.trans S, fun i hi => ?_⟩
  by_cases q : i = j
  · subst q; rw [q8, upd_hit]
  · rw [q6 i q, G i hi, upd_miss q]
theorem Ab.new {a : Addr} {ty : FieldType} {kk : ClassId} {z : Int32} (A : Arr Z h a (newA kk ty z) ty) (hz : z.toNatClampNeg = n) (hd : defaultValue ty = .int 0) : Ab Z h a ty n (fun _ => 0) := by
  refine ⟨_, A, (sz_new _ _ _).trans hz, fun i hi => ?_⟩
  have hz' : z.toNatClampNeg < 2 ^ 31 := by
    by_cases q : z < 0
    · have : z.toNatClampNeg ≤ 0 := by rw [Int32.lt_iff_toInt_lt] at q; have e0 : (0 : Int32).toInt = 0 := rfl; have : z.toNatClampNeg = z.toInt.toNat := rfl; omega
      omega
    · exact (back32 q).2
  have e1 : i.toInt32.toNatClampNeg = i := by
    have q := idx_in (i := i) (n := i + 1) (Nat.lt_succ_self i) (by omega)
    have q2 : i.toInt32.toInt = i := len_toInt (by omega)
    have := nat_of (j := i.toInt32) (fun z => q (Or.inl z))
    omega
  have q0 : ¬ (i.toInt32 < 0 ∨ z.toNatClampNeg ≤ i.toInt32.toNatClampNeg) := by
    rw [hz, e1]
    intro q
    rcases q with q | q
    · have q3 : i.toInt32.toInt = i := len_toInt (by omega)
      rw [Int32.lt_iff_toInt_lt, q3] at q
      have e0 : (0 : Int32).toInt = 0 := rfl
      omega
    · omega
  have g := get_new (cA := kk) (ty := ty) (n := z) (k := i.toInt32) q0
  rw [e1] at g
  rw [g, hd]
theorem own_idx {J : Int32} {j : Nat} (e : J.toInt = (j : Int)) : ¬ J < 0 ∧ J.toNatClampNeg = j := by
  have h0 : ¬ J < 0 := by rw [Int32.lt_iff_toInt_lt]; have e0 : (0 : Int32).toInt = 0 := rfl; omega
  have := nat_of h0
  exact ⟨h0, by omega⟩
theorem own_in {c : Cell} {J : Int32} {j N' : Nat} (e : J.toInt = (j : Int)) (S : c.slots.size = N') (hj : j < N') : ¬ (J < 0 ∨ c.slots.size ≤ J.toNatClampNeg) := by
  obtain ⟨q1, q2⟩ := own_idx e
  rw [q2, S]; intro q; rcases q with q | q
  · exact q1 q
  · omega
theorem own_newA (H : Here p l e R s m args below meth c n0 T h k n) (hx : p.tables.exec = Jvm.exec) (hZ : Z.Warmed39 s.vm) {aty : ArrayType} (w : (Jvm.Cond.arrayClass (newarray.typeOf aty)).before a0 Z = true) {g : JFrame} (hg : g.method = m) (hd : decode c.code g.pc = .ok (.newarray aty, 2)) {z : Int32} {rest : List Value} (hs : g.stack = .int z :: rest)
    (hn : ¬ z < 0) (N' : Nat) (hz : z.toNatClampNeg = N') (hdv : defaultValue (newarray.typeOf aty) = .int 0) (cap : Nat) (hcap : N' ≤ cap) (hb : cap * 8 ≤ 536870912) (hc : k + 1 ≤ R.cells) (hl : n + cap ≤ R.slots)
    (next : ∀ T' h' a, a = h.size → Ext h h' → Ab Z h' a (newarray.typeOf aty) N' (fun _ => 0) → Here p l e R s m args below meth c n0 T' h' (k + 1) (n + cap) → Go p e below Φ (T'.setTop { g with pc := g.pc + 2, stack := .ref a :: rest })) : Go p e below Φ (T.setTop g) :=
  own_newP H hx hZ w hg hd hs hn cap (by rw [hz]; exact hcap) hb hc hl fun T' h' a cA q1 q2 q3 q4 => next T' h' a q1 q2 (Ab.new q3 hz hdv) q4
theorem own_stIA (H : Here p l e R s m args below meth c n0 T h k n) (hx : p.tables.exec = Jvm.exec) (hZ : Z.Warmed39 s.vm) {a : Addr} {N' : Nat} {B : Nat → Int32} (A : Ab Z h a .int N' B) {J x : Int32} {j : Nat} (ej : J.toInt = (j : Int)) (hj : j < N') (ha : n0 ≤ a) {g : JFrame} (hg : g.method = m) {rest : List Value} (hs : g.stack = .int x :: .int J :: .ref a :: rest) (hd : decode c.code g.pc = .ok (.iastore, 1))
    (next : ∀ T' h', Wr h h' a j (.int x) → Ab Z h' a .int N' (upd B j x) → Here p l e R s m args below meth c n0 T' h' k n → Go p e below Φ (T'.setTop { g with pc := g.pc + 1, stack := rest })) : Go p e below Φ (T.setTop g) := by
  have A' := A
  obtain ⟨cl, A0, S, G⟩ := A
  refine own_stI H hx hZ A0 (own_in ej S hj) ha hg hs hd fun T' h' W H' => ?_
  rw [(own_idx ej).2] at W
  exact next T' h' W (A'.set W) H'
theorem own_stBA (H : Here p l e R s m args below meth c n0 T h k n) (hx : p.tables.exec = Jvm.exec) (hZ : Z.Warmed39 s.vm) {a : Addr} {N' : Nat} {B : Nat → Int32} (A : Ab Z h a .byte N' B) {J x : Int32} {j : Nat} (ej : J.toInt = (j : Int)) (hj : j < N') (ha : n0 ≤ a) {g : JFrame} (hg : g.method = m) {rest : List Value} (hs : g.stack = .int x :: .int J :: .ref a :: rest) (hd : decode c.code g.pc = .ok (.bastore, 1))
    (next : ∀ T' h', Wr h h' a j (.int (nar .byte x)) → Ab Z h' a .byte N' (upd B j (nar .byte x)) → Here p l e R s m args below meth c n0 T' h' k n → Go p e below Φ (T'.setTop { g with pc := g.pc + 1, stack := rest })) : Go p e below Φ (T.setTop g) := by
  have A' := A
  obtain ⟨cl, A0, S, G⟩ := A
  refine own_stB H hx hZ A0 (own_in ej S hj) ha hg hs hd fun T' h' W H' => ?_
  rw [(own_idx ej).2] at W
  exact next T' h' W (A'.set W) H'
theorem own_ldIA (H : Here p l e R s m args below meth c n0 T h k n) (hx : p.tables.exec = Jvm.exec) (hZ : Z.Warmed39 s.vm) {a : Addr} {N' : Nat} {B : Nat → Int32} (A : Ab Z h a .int N' B) {J : Int32} {j : Nat} (ej : J.toInt = (j : Int)) (hj : j < N') {g : JFrame} (hg : g.method = m) {rest : List Value} (hs : g.stack = .int J :: .ref a :: rest) (hd : decode c.code g.pc = .ok (.iaload, 1))
    (next : Go p e below Φ (T.setTop { g with pc := g.pc + 1, stack := .int (B j) :: rest })) : Go p e below Φ (T.setTop g) := by
  obtain ⟨cl, A0, S, G⟩ := A
  exact own_ldI H hx hZ A0 (own_in ej S hj) (by rw [(own_idx ej).2]; exact G j hj) hg hs hd next
theorem own_ldBA (H : Here p l e R s m args below meth c n0 T h k n) (hx : p.tables.exec = Jvm.exec) (hZ : Z.Warmed39 s.vm) {a : Addr} {N' : Nat} {B : Nat → Int32} (A : Ab Z h a .byte N' B) {J : Int32} {j : Nat} (ej : J.toInt = (j : Int)) (hj : j < N') {g : JFrame} (hg : g.method = m) {rest : List Value} (hs : g.stack = .int J :: .ref a :: rest) (hd : decode c.code g.pc = .ok (.baload, 1))
    (next : Go p e below Φ (T.setTop { g with pc := g.pc + 1, stack := .int (B j) :: rest })) : Go p e below Φ (T.setTop g) := by
  obtain ⟨cl, A0, S, G⟩ := A
  exact own_ldB H hx hZ A0 (own_in ej S hj) (by rw [(own_idx ej).2]; exact G j hj) hg hs hd next
theorem own_lenA (H : Here p l e R s m args below meth c n0 T h k n) (hx : p.tables.exec = Jvm.exec) (hZ : Z.Warmed39 s.vm) {a : Addr} {N' : Nat} {B : Nat → Int32} {ty : FieldType} (A : Ab Z h a ty N' B) {z : Int32} (hz : N'.toInt32 = z) {g : JFrame} (hg : g.method = m) {rest : List Value} (hs : g.stack = .ref a :: rest) (hd : decode c.code g.pc = .ok (.arraylength, 1))
    (next : Go p e below Φ (T.setTop { g with pc := g.pc + 1, stack := .int z :: rest })) : Go p e below Φ (T.setTop g) := by
  obtain ⟨cl, A0, S, G⟩ := A
  subst S; subst hz
  exact own_len H hx hZ A0 hg hs hd next
/-! constants -/
theorem own_ldcI (H : Here p l e R s m args below meth c n0 T h k n) (hx : p.tables.exec = Jvm.exec) (hZ : Z.Warmed39 s.vm) {own : String} {index : Nat} {v : Int32} (hown : s.vm.findClass own = some m.cls) (w : (Jvm.Cond.constant own index v).before a0 Z = true) {g : JFrame} (hg : g.method = m) (hd : decode c.code g.pc = .ok (.ldc index, 2))
    (next : Go p e below Φ (T.setTop { g with pc := g.pc + 2, stack := .int v :: g.stack })) : Go p e below Φ (T.setTop g) := by
  obtain ⟨locs, X, r1, r2⟩ := H.stand
  exact Go.via (X.ldcInt hx hown (mvT hZ w) hg hd) next
theorem own_ldcL (H : Here p l e R s m args below meth c n0 T h k n) (hx : p.tables.exec = Jvm.exec) (hZ : Z.Warmed39 s.vm) {own : String} {index : Nat} {v : Int64} (hown : s.vm.findClass own = some m.cls) (w : (Jvm.Cond.constantLong own index v).before a0 Z = true) {g : JFrame} (hg : g.method = m) (hd : decode c.code g.pc = .ok (.ldc2_w index, 3))
    (next : Go p e below Φ (T.setTop { g with pc := g.pc + 3, stack := .long v :: g.stack })) : Go p e below Φ (T.setTop g) := by
  obtain ⟨locs, X, r1, r2⟩ := H.stand
  exact Go.via (X.ldc2Long hx hown (mvT hZ w) hg hd) next
/-! comparisons of longs -/
theorem own_llt {x y : Int64} (q : x < y) : ifCond.holds .lt (lcmpW x y) = true ∧ ifCond.holds .ge (lcmpW x y) = false := by
  have := (lw_lt x y).mpr q; rw [if0, if0]; exact ⟨(tlt this).1, (tlt this).2.1⟩
theorem own_nlt {x y : Int64} (q : ¬ x < y) : ifCond.holds .lt (lcmpW x y) = false ∧ ifCond.holds .ge (lcmpW x y) = true := by
  have : ¬ lcmpW x y < 0 := fun z => q ((lw_lt x y).mp z); rw [if0, if0]; exact ⟨(flt this).1, (flt this).2.1⟩
theorem own_lgt {x y : Int64} (q : y < x) : ifCond.holds .gt (lcmpW x y) = true ∧ ifCond.holds .le (lcmpW x y) = false := by
  have := (lw_gt x y).mpr q; rw [if0, if0]; exact ⟨(tlt this).2.2.1, (tlt this).2.2.2⟩
theorem own_ngt {x y : Int64} (q : ¬ y < x) : ifCond.holds .gt (lcmpW x y) = false ∧ ifCond.holds .le (lcmpW x y) = true := by
  have : ¬ 0 < lcmpW x y := fun z => q ((lw_gt x y).mp z); rw [if0, if0]; exact ⟨(flt this).2.2.1, (flt this).2.2.2⟩
theorem own_leq {x y : Int64} (q : x = y) : ifCond.holds .eq (lcmpW x y) = true ∧ ifCond.holds .ne (lcmpW x y) = false := by
  have := (lw_eq x y).mpr q; rw [if0, if0]; exact ⟨(teq this).1, (teq this).2⟩
theorem own_neq {x y : Int64} (q : ¬ x = y) : ifCond.holds .eq (lcmpW x y) = false ∧ ifCond.holds .ne (lcmpW x y) = true := by
  have : ¬ lcmpW x y = 0 := fun z => q ((lw_eq x y).mp z); rw [if0, if0]; exact ⟨(feq this).1, (feq this).2⟩
end Own
/-! The Hilbert curve over the naturals -/
def sq (n : Nat) : Nat := 2 ^ n * 2 ^ n
theorem sq_succ (n : Nat) : sq (n + 1) = 4 * sq n := by
  unfold sq
  rw [Nat.pow_succ, Nat.mul_mul_mul_comm, Nat.mul_comm]
theorem sq_zero : sq 0 = 1 := rfl
theorem p2 (n : Nat) : 2 ^ (n + 1) = 2 * 2 ^ n := by rw [Nat.pow_succ, Nat.mul_comm]
theorem p2_pos (n : Nat) : 0 < 2 ^ n := Nat.two_pow_pos n
def hil : Nat → Nat → Nat → Nat
  | 0, _, _ => 0
  | n + 1, x, y =>
    if x < 2 ^ n then
      if y < 2 ^ n then hil n y x else sq n + hil n x (y - 2 ^ n)
    else
      if y < 2 ^ n then 3 * sq n + hil n (2 ^ n - 1 - y) (2 ^ n - 1 - (x - 2 ^ n)) else 2 * sq n + hil n (x - 2 ^ n) (y - 2 ^ n)
theorem hil_zero (x y : Nat) : hil 0 x y = 0 := rfl
theorem hil_q0 {n x y : Nat} (hx : x < 2 ^ n) (hy : y < 2 ^ n) : hil (n + 1) x y = hil n y x := by
  show (if x < 2 ^ n then _ else _) = _
  rw [if_pos hx, if_pos hy]
theorem hil_q1 {n x y : Nat} (hx : x < 2 ^ n) (hy : ¬ y < 2 ^ n) : hil (n + 1) x y = sq n + hil n x (y - 2 ^ n) := by
  show (if x < 2 ^ n then _ else _) = _
  rw [if_pos hx, if_neg hy]
theorem hil_q2 {n x y : Nat} (hx : ¬ x < 2 ^ n) (hy : ¬ y < 2 ^ n) : hil (n + 1) x y = 2 * sq n + hil n (x - 2 ^ n) (y - 2 ^ n) := by
  show (if x < 2 ^ n then _ else _) = _
  rw [if_neg hx, if_neg hy]
theorem hil_q3 {n x y : Nat} (hx : ¬ x < 2 ^ n) (hy : y < 2 ^ n) : hil (n + 1) x y = 3 * sq n + hil n (2 ^ n - 1 - y) (2 ^ n - 1 - (x - 2 ^ n)) := by
  show (if x < 2 ^ n then _ else _) = _
  rw [if_neg hx, if_pos hy]
theorem hil_lt (n : Nat) : ∀ x y, x < 2 ^ n → y < 2 ^ n → hil n x y < sq n := by
  induction n with
  | zero => intro x y _ _; exact Nat.zero_lt_one
  | succ n ih =>
    intro x y hx hy
    rw [p2] at hx hy
    rw [sq_succ]
    by_cases h1 : x < 2 ^ n <;> by_cases h2 : y < 2 ^ n
    · rw [hil_q0 h1 h2]; have := ih y x h2 h1; omega
    · rw [hil_q1 h1 h2]; have := ih x (y - 2 ^ n) h1 (by omega); omega
    · rw [hil_q3 h1 h2]; have := ih (2 ^ n - 1 - y) (2 ^ n - 1 - (x - 2 ^ n)) (by omega) (by omega); omega
    · rw [hil_q2 h1 h2]; have := ih (x - 2 ^ n) (y - 2 ^ n) (by omega) (by omega); omega
theorem hil_par (n : Nat) : ∀ x y, x < 2 ^ (n + 1) → y < 2 ^ (n + 1) → hil (n + 1) x y % 2 = (x + y) % 2 := by
  induction n with
  | zero =>
    intro x y hx hy
    have h1 : x = 0 ∨ x = 1 := by omega
    have h2 : y = 0 ∨ y = 1 := by omega
    rcases h1 with rfl | rfl <;> rcases h2 with rfl | rfl <;> decide
  | succ n ih =>
    intro x y hx hy
    have e1 := p2 (n + 1); have e2 := p2 n
    have e3 := sq_succ n
    have hp := p2_pos n
    by_cases h1 : x < 2 ^ (n + 1) <;> by_cases h2 : y < 2 ^ (n + 1)
    · rw [hil_q0 h1 h2]; have := ih y x h2 h1; omega
    · rw [hil_q1 h1 h2]; have := ih x (y - 2 ^ (n + 1)) h1 (by omega); omega
    · rw [hil_q3 h1 h2]; have := ih (2 ^ (n + 1) - 1 - y) (2 ^ (n + 1) - 1 - (x - 2 ^ (n + 1))) (by omega) (by omega); omega
    · rw [hil_q2 h1 h2]; have := ih (x - 2 ^ (n + 1)) (y - 2 ^ (n + 1)) (by omega) (by omega); omega
theorem hil_first (n : Nat) : ∀ x y, x < 2 ^ n → y < 2 ^ n → (hil n x y = 0 ↔ x = 0 ∧ y = 0) := by
  induction n with
  | zero =>
    intro x y hx hy
    have h1 : x = 0 := by simpa using hx
    have h2 : y = 0 := by simpa using hy
    subst h1 h2; decide
  | succ n ih =>
    intro x y hx hy
    rw [p2] at hx hy
    have hp := p2_pos n
    have hs : 0 < sq n := Nat.mul_pos hp hp
    by_cases h1 : x < 2 ^ n <;> by_cases h2 : y < 2 ^ n
    · rw [hil_q0 h1 h2]; have := ih y x h2 h1; omega
    · rw [hil_q1 h1 h2]; omega
    · rw [hil_q3 h1 h2]; omega
    · rw [hil_q2 h1 h2]; omega
theorem hil_last (n : Nat) : ∀ x y, x < 2 ^ n → y < 2 ^ n → (hil n x y + 1 = sq n ↔ x + 1 = 2 ^ n ∧ y = 0) := by
  induction n with
  | zero =>
    intro x y hx hy
    have h1 : x = 0 := by simpa using hx
    have h2 : y = 0 := by simpa using hy
    subst h1 h2; decide
  | succ n ih =>
    intro x y hx hy
    have e1 := p2 n
    rw [p2] at hx hy
    rw [sq_succ]
    have hp := p2_pos n
    have hs : 0 < sq n := Nat.mul_pos hp hp
    by_cases h1 : x < 2 ^ n <;> by_cases h2 : y < 2 ^ n
    · rw [hil_q0 h1 h2]; have := hil_lt n y x h2 h1; omega
    · rw [hil_q1 h1 h2]; have := hil_lt n x (y - 2 ^ n) h1 (by omega); omega
    · rw [hil_q3 h1 h2]; have := ih (2 ^ n - 1 - y) (2 ^ n - 1 - (x - 2 ^ n)) (by omega) (by omega); omega
    · rw [hil_q2 h1 h2]; have := hil_lt n (x - 2 ^ n) (y - 2 ^ n) (by omega) (by omega); omega
theorem hil_quarter (n : Nat) : ∀ x y, x < 2 ^ (n + 1) → y < 2 ^ (n + 1) → hil (n + 1) x y / 4 = hil n (x / 2) (y / 2) := by
  induction n with
  | zero =>
    intro x y hx hy
    have h1 : hil (0 + 1) x y < 4 := hil_lt 1 x y hx hy
    rw [hil_zero]; omega
  | succ n ih =>
    intro x y hx hy
    have e1 := p2 (n + 1); have e2 := p2 n
    have e3 := sq_succ n
    have hp := p2_pos n
    by_cases h1 : x < 2 ^ (n + 1) <;> by_cases h2 : y < 2 ^ (n + 1)
    · rw [hil_q0 h1 h2, hil_q0 (n := n) (x := x / 2) (y := y / 2) (by omega) (by omega)]; exact ih y x h2 h1
    · rw [hil_q1 h1 h2, hil_q1 (n := n) (x := x / 2) (y := y / 2) (by omega) (by omega)]
      have := ih x (y - 2 ^ (n + 1)) h1 (by omega)
      rw [show (y - 2 ^ (n + 1)) / 2 = y / 2 - 2 ^ n by omega] at this; omega
    · rw [hil_q3 h1 h2, hil_q3 (n := n) (x := x / 2) (y := y / 2) (by omega) (by omega)]
      have := ih (2 ^ (n + 1) - 1 - y) (2 ^ (n + 1) - 1 - (x - 2 ^ (n + 1))) (by omega) (by omega)
      rw [show (2 ^ (n + 1) - 1 - y) / 2 = 2 ^ n - 1 - y / 2 by omega, show (2 ^ (n + 1) - 1 - (x - 2 ^ (n + 1))) / 2 = 2 ^ n - 1 - (x / 2 - 2 ^ n) by omega] at this; omega
    · rw [hil_q2 h1 h2, hil_q2 (n := n) (x := x / 2) (y := y / 2) (by omega) (by omega)]
      have := ih (x - 2 ^ (n + 1)) (y - 2 ^ (n + 1)) (by omega) (by omega)
      rw [show (y - 2 ^ (n + 1)) / 2 = y / 2 - 2 ^ n by omega, show (x - 2 ^ (n + 1)) / 2 = x / 2 - 2 ^ n by omega] at this; omega
theorem hil_coarse (k : Nat) : ∀ n x y, x < 2 ^ (n + k) → y < 2 ^ (n + k) → hil (n + k) x y / 4 ^ k = hil n (x / 2 ^ k) (y / 2 ^ k) := by
  induction k with
  | zero => intro n x y _ _; simp
  | succ k ih =>
    intro n x y hx hy
    have e := hil_quarter (n + k) x y hx hy
    have e1 := p2 (n + k)
    have h1 : x < 2 * 2 ^ (n + k) := by rw [← e1]; exact hx
    have h2 : y < 2 * 2 ^ (n + k) := by rw [← e1]; exact hy
    rw [show 4 ^ (k + 1) = 4 * 4 ^ k by rw [Nat.pow_succ, Nat.mul_comm], ← Nat.div_div_eq_div_mul, show 2 ^ (k + 1) = 2 * 2 ^ k from p2 k, ← Nat.div_div_eq_div_mul, ← Nat.div_div_eq_div_mul]
    rw [show n + (k + 1) = n + k + 1 from rfl, e]
    exact ih n (x / 2) (y / 2) (by omega) (by omega)
theorem hil_lead (k : Nat) : ∀ n x y, x < 2 ^ n → y < 2 ^ n → hil (n + k) x y = if k % 2 = 0 then hil n x y else hil n y x := by
  induction k with
  | zero => intro n x y _ _; rfl
  | succ k ih =>
    intro n x y hx hy
    have hle : 2 ^ n ≤ 2 ^ (n + k) := Nat.pow_le_pow_right (by decide) (by omega)
    rw [show n + (k + 1) = n + k + 1 from rfl, hil_q0 (by omega) (by omega), ih n y x hy hx]
    by_cases h : k % 2 = 0
    · rw [if_pos h, if_neg (by omega)]
    · rw [if_neg h, if_pos (by omega)]
def Adj (x y x' y' : Nat) : Prop := (x' = x + 1 ∧ y' = y) ∨ (x' + 1 = x ∧ y' = y) ∨ (x' = x ∧ y' = y + 1) ∨ (x' = x ∧ y' + 1 = y)
theorem hil_next (n : Nat) : ∀ x y, x < 2 ^ n → y < 2 ^ n → hil n x y + 1 < sq n → ∃ x' y', x' < 2 ^ n ∧ y' < 2 ^ n ∧ Adj x y x' y' ∧ hil n x' y' = hil n x y + 1 := by
  induction n with
  | zero => intro x y _ _ h; rw [hil_zero, sq_zero] at h; omega
  | succ n ih =>
    intro x y hx hy h
    rw [p2] at hx hy ⊢
    rw [sq_succ] at h
    have hp := p2_pos n
    have z0 : hil n 0 0 = 0 := (hil_first n 0 0 hp hp).mpr ⟨rfl, rfl⟩
    unfold Adj
    by_cases h1 : x < 2 ^ n <;> by_cases h2 : y < 2 ^ n
    · rw [hil_q0 h1 h2] at h ⊢
      by_cases h3 : hil n y x + 1 < sq n
      · obtain ⟨x', y', r1, r2, r3, r4⟩ := ih y x h2 h1 h3
        unfold Adj at r3
        exact ⟨y', x', by omega, by omega, by omega, by rw [hil_q0 r2 r1]; exact r4⟩
      · have h4 := hil_lt n y x h2 h1
        have h5 := (hil_last n y x h2 h1).mp (by omega)
        refine ⟨0, 2 ^ n, by omega, by omega, by omega, ?_⟩
        rw [hil_q1 hp (by omega), Nat.sub_self, z0]; omega
    · rw [hil_q1 h1 h2] at h ⊢
      by_cases h3 : hil n x (y - 2 ^ n) + 1 < sq n
      · obtain ⟨x', y', r1, r2, r3, r4⟩ := ih x (y - 2 ^ n) h1 (by omega) h3
        unfold Adj at r3
        refine ⟨x', y' + 2 ^ n, by omega, by omega, by omega, ?_⟩
        rw [hil_q1 r1 (by omega), Nat.add_sub_cancel, r4]; omega
      · have h4 := hil_lt n x (y - 2 ^ n) h1 (by omega)
        have h5 := (hil_last n x (y - 2 ^ n) h1 (by omega)).mp (by omega)
        refine ⟨2 ^ n, 2 ^ n, by omega, by omega, by omega, ?_⟩
        rw [hil_q2 (by omega) (by omega), Nat.sub_self, z0]; omega
    · rw [hil_q3 h1 h2] at h ⊢
      have h3 : hil n (2 ^ n - 1 - y) (2 ^ n - 1 - (x - 2 ^ n)) + 1 < sq n := by omega
      obtain ⟨x', y', r1, r2, r3, r4⟩ := ih (2 ^ n - 1 - y) (2 ^ n - 1 - (x - 2 ^ n)) (by omega) (by omega) h3
      unfold Adj at r3
      refine ⟨2 ^ n + (2 ^ n - 1 - y'), 2 ^ n - 1 - x', by omega, by omega, by omega, ?_⟩
      rw [hil_q3 (by omega) (by omega), show 2 ^ n - 1 - (2 ^ n - 1 - x') = x' by omega, show 2 ^ n - 1 - (2 ^ n + (2 ^ n - 1 - y') - 2 ^ n) = y' by omega, r4]; omega
    · rw [hil_q2 h1 h2] at h ⊢
      by_cases h3 : hil n (x - 2 ^ n) (y - 2 ^ n) + 1 < sq n
      · obtain ⟨x', y', r1, r2, r3, r4⟩ := ih (x - 2 ^ n) (y - 2 ^ n) (by omega) (by omega) h3
        unfold Adj at r3
        refine ⟨x' + 2 ^ n, y' + 2 ^ n, by omega, by omega, by omega, ?_⟩
        rw [hil_q2 (by omega) (by omega), Nat.add_sub_cancel, Nat.add_sub_cancel, r4]; omega
      · have h4 := hil_lt n (x - 2 ^ n) (y - 2 ^ n) (by omega) (by omega)
        have h5 := (hil_last n (x - 2 ^ n) (y - 2 ^ n) (by omega) (by omega)).mp (by omega)
        refine ⟨x, 2 ^ n - 1, by omega, by omega, by omega, ?_⟩
        rw [hil_q3 h1 (by omega), show 2 ^ n - 1 - (2 ^ n - 1) = 0 by omega, show 2 ^ n - 1 - (x - 2 ^ n) = 0 by omega, z0]; omega
theorem hil_prev (n : Nat) : ∀ x y, x < 2 ^ n → y < 2 ^ n → 0 < hil n x y → ∃ x' y', x' < 2 ^ n ∧ y' < 2 ^ n ∧ Adj x y x' y' ∧ hil n x' y' + 1 = hil n x y := by
  induction n with
  | zero => intro x y _ _ h; rw [hil_zero] at h; omega
  | succ n ih =>
    intro x y hx hy h
    rw [p2] at hx hy ⊢
    have hp := p2_pos n
    have zl : hil n (2 ^ n - 1) 0 + 1 = sq n := (hil_last n (2 ^ n - 1) 0 (by omega) hp).mpr ⟨by omega, rfl⟩
    unfold Adj
    by_cases h1 : x < 2 ^ n <;> by_cases h2 : y < 2 ^ n
    · rw [hil_q0 h1 h2] at h ⊢
      obtain ⟨x', y', r1, r2, r3, r4⟩ := ih y x h2 h1 h
      unfold Adj at r3
      exact ⟨y', x', by omega, by omega, by omega, by rw [hil_q0 r2 r1]; exact r4⟩
    · rw [hil_q1 h1 h2] at h ⊢
      by_cases h3 : 0 < hil n x (y - 2 ^ n)
      · obtain ⟨x', y', r1, r2, r3, r4⟩ := ih x (y - 2 ^ n) h1 (by omega) h3
        unfold Adj at r3
        refine ⟨x', y' + 2 ^ n, by omega, by omega, by omega, ?_⟩
        rw [hil_q1 r1 (by omega), Nat.add_sub_cancel]; omega
      · have h5 := (hil_first n x (y - 2 ^ n) h1 (by omega)).mp (by omega)
        refine ⟨0, 2 ^ n - 1, by omega, by omega, by omega, ?_⟩
        rw [hil_q0 hp (by omega)]; omega
    · rw [hil_q3 h1 h2] at h ⊢
      by_cases h3 : 0 < hil n (2 ^ n - 1 - y) (2 ^ n - 1 - (x - 2 ^ n))
      · obtain ⟨x', y', r1, r2, r3, r4⟩ := ih (2 ^ n - 1 - y) (2 ^ n - 1 - (x - 2 ^ n)) (by omega) (by omega) h3
        unfold Adj at r3
        refine ⟨2 ^ n + (2 ^ n - 1 - y'), 2 ^ n - 1 - x', by omega, by omega, by omega, ?_⟩
        rw [hil_q3 (by omega) (by omega), show 2 ^ n - 1 - (2 ^ n - 1 - x') = x' by omega, show 2 ^ n - 1 - (2 ^ n + (2 ^ n - 1 - y') - 2 ^ n) = y' by omega]; omega
      · have h5 := (hil_first n (2 ^ n - 1 - y) (2 ^ n - 1 - (x - 2 ^ n)) (by omega) (by omega)).mp (by omega)
        refine ⟨x, 2 ^ n, by omega, by omega, by omega, ?_⟩
        have e : hil (n + 1) x (2 ^ n) = 2 * sq n + hil n (2 ^ n - 1) 0 := by rw [hil_q2 h1 (by omega), Nat.sub_self, show x - 2 ^ n = 2 ^ n - 1 by omega]
        rw [e]; omega
    · rw [hil_q2 h1 h2] at h ⊢
      by_cases h3 : 0 < hil n (x - 2 ^ n) (y - 2 ^ n)
      · obtain ⟨x', y', r1, r2, r3, r4⟩ := ih (x - 2 ^ n) (y - 2 ^ n) (by omega) (by omega) h3
        unfold Adj at r3
        refine ⟨x' + 2 ^ n, y' + 2 ^ n, by omega, by omega, by omega, ?_⟩
        rw [hil_q2 (by omega) (by omega), Nat.add_sub_cancel, Nat.add_sub_cancel]; omega
      · have h5 := (hil_first n (x - 2 ^ n) (y - 2 ^ n) (by omega) (by omega)).mp (by omega)
        refine ⟨2 ^ n - 1, 2 ^ n, by omega, by omega, by omega, ?_⟩
        rw [hil_q1 (by omega) (by omega), Nat.sub_self]; omega
theorem own_toNat {x : Int32} {n : Nat} (h : x.toInt = (n : Int)) : x.toBitVec.toNat = n := by
  have e : x.toInt = x.toBitVec.toInt := rfl
  rw [e, BitVec.toInt_eq_toNat_cond] at h
  have := x.toBitVec.isLt
  split at h <;> omega
theorem own_p15 {n : Nat} (hn : n ≤ 15) : 2 ^ n ≤ 32768 := Nat.pow_le_pow_right (by decide) hn
theorem bitt {X n : Nat} (hX : X < 2 ^ (n + 1)) : X &&& 2 ^ n = 0 ↔ X < 2 ^ n := by
  have hp := p2_pos n
  have e5 := p2 n
  constructor
  · intro h
    by_cases q : X < 2 ^ n
    · exact q
    · exfalso
      have e : X / 2 ^ n = 1 := by rw [Nat.div_eq_iff hp]; omega
      have t1 : X.testBit n = true := by rw [Nat.testBit_eq_decide_div_mod_eq, e]; rfl
      have t2 : (X &&& 2 ^ n).testBit n = true := by rw [Nat.testBit_and, t1, Nat.testBit_two_pow_self]; rfl
      rw [h] at t2; simp at t2
  · intro q
    apply Nat.eq_of_testBit_eq; intro i
    rw [Nat.testBit_and, Nat.zero_testBit]
    by_cases hi : i = n
    · subst hi; rw [Nat.testBit_lt_two_pow q]; rfl
    · rw [Nat.testBit_two_pow_of_ne (Ne.symm hi)]; simp
theorem own_bit {c h : Int32} {X n : Nat} (hc : c.toInt = (X : Int)) (hh : h.toInt = ((2 ^ n : Nat) : Int)) (hX : X < 2 ^ (n + 1)) : (c &&& h) = 0 ↔ X < 2 ^ n := by
  have e1 := own_toNat hc
  have e2 := own_toNat hh
  have e3 : (c &&& h).toBitVec.toNat = X &&& 2 ^ n := by rw [Int32.toBitVec_and, BitVec.toNat_and, e1, e2]
  have e4 : (c &&& h) = 0 ↔ X &&& 2 ^ n = 0 := by
    rw [← e3]
    constructor
    · intro q; rw [q]; rfl
    · intro q; apply Int32.toBitVec_inj.mp; apply BitVec.eq_of_toNat_eq; rw [q]; rfl
  rw [e4]; exact bitt hX
theorem own_lowX {c h : Int32} {X n : Nat} (hc : c.toInt = (X : Int)) (hh : h.toInt = ((2 ^ n : Nat) : Int)) (hn : n ≤ 15) : (c &&& (h - 1)).toInt = ((X % 2 ^ n : Nat) : Int) := by
  have c1 := c_isub h 1
  have r := rng32 (h - 1)
  have e1 : (1 : Int32).toInt = 1 := by decide
  have hp := p2_pos n
  have hq := own_p15 hn
  have e2 : (h - 1).toInt = ((2 ^ n - 1 : Nat) : Int) := by omega
  rw [c_mask c (h - 1) n (by omega) (own_toNat e2), hc]
  rfl
theorem own_low1 {c h : Int32} {X n : Nat} (hc : c.toInt = (X : Int)) (hh : h.toInt = ((2 ^ n : Nat) : Int)) (hn : n ≤ 15) (hX : X < 2 ^ n) : (c &&& (h - 1)).toInt = ((X : Nat) : Int) := by
  rw [own_lowX hc hh hn, Nat.mod_eq_of_lt hX]
theorem own_low2 {c h : Int32} {X n : Nat} (hc : c.toInt = (X : Int)) (hh : h.toInt = ((2 ^ n : Nat) : Int)) (hn : n ≤ 15) (hX : ¬ X < 2 ^ n) (hX' : X < 2 ^ (n + 1)) : (c &&& (h - 1)).toInt = ((X - 2 ^ n : Nat) : Int) := by
  have e5 := p2 n
  rw [own_lowX hc hh hn, Nat.mod_eq_sub_mod (by omega), Nat.mod_eq_of_lt (by omega)]
theorem own_neg {c h : Int32} {V n : Nat} (hc : c.toInt = (V : Int)) (hh : h.toInt = ((2 ^ n : Nat) : Int)) (hn : n ≤ 15) (hV : V < 2 ^ n) : ((h - 1) - c).toInt = ((2 ^ n - 1 - V : Nat) : Int) := by
  have c1 := c_isub h 1
  have c2 := c_isub (h - 1) c
  have r := rng32 (h - 1); have r2 := rng32 ((h - 1) - c)
  have e1 : (1 : Int32).toInt = 1 := by decide
  have hq := own_p15 hn
  omega
theorem own_half {h : Int32} {n : Nat} (hh : h.toInt = ((2 ^ n : Nat) : Int)) : (h / 2).toInt = ((2 ^ n / 2 : Nat) : Int) := by
  have := (c_idiv h 2 2 (by decide) (by decide)).1 (by rw [hh]; exact Int.natCast_nonneg _)
  rw [this, hh]; rfl
theorem own_sq {n : Nat} (hn : n ≤ 15) : sq n ≤ 1073741824 := Nat.mul_le_mul (own_p15 hn) (own_p15 hn)
theorem own_place {P : Int64} {S : Nat} {q h : Int32} {Qn n : Nat} (hP : P.toInt = (S : Int)) (hq : q.toInt = (Qn : Int)) (hQ : Qn ≤ 3) (hh : h.toInt = ((2 ^ n : Nat) : Int)) (hn : n ≤ 15) (hS : S ≤ 4294967296) : (P + ((q.toInt64) * (h.toInt64)) * (h.toInt64)).toInt = ((S + Qn * sq n : Nat) : Int) := by
  have c1 := c_lmul q.toInt64 h.toInt64
  have c2 := c_lmul (q.toInt64 * h.toInt64) h.toInt64
  have c3 := c_ladd P (q.toInt64 * h.toInt64 * h.toInt64)
  have r1 := rng64 (q.toInt64 * h.toInt64); have r2 := rng64 (q.toInt64 * h.toInt64 * h.toInt64); have r3 := rng64 (P + q.toInt64 * h.toInt64 * h.toInt64)
  rw [c_i2l, c_i2l, hq, hh] at c1
  have hw := own_p15 hn
  have hs := own_sq hn
  have e1 : (q.toInt64 * h.toInt64).toInt = ((Qn * 2 ^ n : Nat) : Int) := by
    have : Qn * 2 ^ n ≤ 3 * 32768 := Nat.mul_le_mul hQ hw
    rw [← Int.natCast_mul] at c1
    omega
  rw [c_i2l, e1, hh, ← Int.natCast_mul, Nat.mul_assoc] at c2
  have e2 : Qn * (2 ^ n * 2 ^ n) ≤ 3 * 1073741824 := Nat.mul_le_mul hQ hs
  have e3 : Qn * sq n = Qn * (2 ^ n * 2 ^ n) := rfl
  rw [e3]
  omega
theorem own_pos {x : Int32} {n : Nat} (h : x.toInt = (n : Int)) : 0 < x ↔ 0 < n := by
  rw [Int32.lt_iff_toInt_lt, h]; have e0 : (0 : Int32).toInt = 0 := rfl; omega
theorem own_hil16 {X Y : Nat} (hX : X < 65536) (hY : Y < 65536) : hil 16 X Y < 4294967296 := hil_lt 16 X Y hX hY
theorem own_m16 (x : Int32) : ∃ X : Nat, (x &&& 65535).toInt = (X : Int) ∧ X < 65536 := by
  have e := c_mask x 65535 16 (by decide) (by decide)
  exact ⟨(x &&& 65535).toInt.toNat, by omega, by omega⟩
theorem own_m4 (x : Int32) : ∃ X : Nat, (x &&& 15).toInt = (X : Int) ∧ X ≤ 15 := by
  have e := c_mask x 15 4 (by decide) (by decide)
  exact ⟨(x &&& 15).toInt.toNat, by omega, by omega⟩
theorem own_par {x y : Int32} {z : Int64} {X Y : Nat} (qx : x.toInt = (X : Int)) (qy : y.toInt = (Y : Int)) (hX : X < 65536) (hY : Y < 65536) (qz : z.toInt = (hil 16 X Y : Int)) : (z &&& (1 : Int64)) = (((x + y) &&& (1 : Int32)).toInt64) := by
  apply Int64.toInt_inj.mp
  rw [c_maskL z 1 1 (by decide) (by decide), c_i2l, c_mask (x + y) 1 1 (by decide) (by decide)]
  have c1 := c_iadd x y
  have e := hil_par 15 X Y hX hY
  have e' : hil (15 + 1) X Y = hil 16 X Y := rfl
  rw [e'] at e
  omega
theorem own_sh30 {z : Int64} {H : Nat} (qz : z.toInt = (H : Int)) : ((z.toUInt64 >>> ((30 : Int32) &&& 0x3f).toInt64.toUInt64).toInt64).toInt = ((H / 1073741824 : Nat) : Int) := by
  rw [c_lushr z 30 30 (by decide) (by decide), qz]
  have r := rng64 z
  omega
theorem own_quad {X Y : Nat} (hX : X < 65536) (hY : Y < 65536) : hil 16 X Y / 1073741824 = if X < 32768 then (if Y < 32768 then 0 else 1) else (if Y < 32768 then 3 else 2) := by
  have e : sq 15 = 1073741824 := by decide
  by_cases h1 : X < 32768 <;> by_cases h2 : Y < 32768
  · rw [show hil 16 X Y = hil 15 Y X from hil_q0 (n := 15) h1 h2, if_pos h1, if_pos h2]; have := hil_lt 15 Y X h2 h1; omega
  · rw [show hil 16 X Y = _ from hil_q1 (n := 15) h1 h2, if_pos h1, if_neg h2]; have := hil_lt 15 X (Y - 2 ^ 15) h1 (by omega); omega
  · rw [show hil 16 X Y = _ from hil_q3 (n := 15) h1 h2, if_neg h1, if_pos h2]; have := hil_lt 15 (2 ^ 15 - 1 - Y) (2 ^ 15 - 1 - (X - 2 ^ 15)) (by omega) (by omega); omega
  · rw [show hil 16 X Y = _ from hil_q2 (n := 15) h1 h2, if_neg h1, if_neg h2]; have := hil_lt 15 (X - 2 ^ 15) (Y - 2 ^ 15) (by omega) (by omega); omega
theorem own_qz {z q : Int64} {H n : Nat} (qz : z.toInt = (H : Int)) (hq : q.toInt = (n : Int)) (h : H / 1073741824 = n) : ((z.toUInt64 >>> ((30 : Int32) &&& 0x3f).toInt64.toUInt64).toInt64) = q := by
  apply Int64.toInt_inj.mp
  rw [own_sh30 qz, hq, h]
theorem own_coarse {X Y k : Nat} (hX : X < 65536) (hY : Y < 65536) (hk : k ≤ 15) : hil 16 X Y / 4 ^ k = if k % 2 = 0 then hil 16 (X / 2 ^ k) (Y / 2 ^ k) else hil 16 (Y / 2 ^ k) (X / 2 ^ k) := by
  have hn : 16 - k + k = 16 := by omega
  have e0 : 2 ^ (16 - k + k) = 65536 := by rw [hn]
  have e1 := hil_coarse k (16 - k) X Y (by rw [e0]; exact hX) (by rw [e0]; exact hY)
  have e2 : 2 ^ (16 - k) * 2 ^ k = 65536 := by rw [← Nat.pow_add, hn]
  have h1 : X / 2 ^ k < 2 ^ (16 - k) := (Nat.div_lt_iff_lt_mul (p2_pos k)).mpr (by rw [e2]; exact hX)
  have h2 : Y / 2 ^ k < 2 ^ (16 - k) := (Nat.div_lt_iff_lt_mul (p2_pos k)).mpr (by rw [e2]; exact hY)
  have e3 := hil_lead k (16 - k) (X / 2 ^ k) (Y / 2 ^ k) h1 h2
  have e4 := hil_lead k (16 - k) (Y / 2 ^ k) (X / 2 ^ k) h2 h1
  rw [hn] at e1 e3 e4
  rw [e1]
  by_cases h : k % 2 = 0
  · rw [if_pos h] at e3 ⊢; exact e3.symm
  · rw [if_neg h] at e4 ⊢; exact e4.symm
theorem own_shr {x k : Int32} {X K : Nat} (qx : x.toInt = (X : Int)) (qk : k.toInt = (K : Int)) (hk : K ≤ 15) : (x >>> (k &&& 31)).toInt = ((X / 2 ^ K : Nat) : Int) := by
  rw [c_ishr x k K (by rw [own_toNat qk]; omega), qx]; rfl
theorem own_shru {z : Int64} {k : Int32} {H K : Nat} (qz : z.toInt = (H : Int)) (qk : k.toInt = (K : Int)) (hk : K ≤ 15) : ((z.toUInt64 >>> (((2 : Int32) * k) &&& 0x3f).toInt64.toUInt64).toInt64).toInt = ((H / 4 ^ K : Nat) : Int) := by
  have c1 := c_imul 2 k
  have r1 := rng32 (2 * k)
  have e2 : (2 : Int32).toInt = 2 := by decide
  rw [e2, qk] at c1
  have e3 : (2 * k).toInt = ((2 * K : Nat) : Int) := by omega
  by_cases h0 : K = 0
  · subst h0
    have ek : k = 0 := Int32.toInt_inj.mp (by rw [qk]; rfl)
    subst ek
    have e4 : ((z.toUInt64 >>> (((2 : Int32) * 0) &&& 0x3f).toInt64.toUInt64).toInt64) = z := by
      rw [show (((2 : Int32) * 0) &&& 0x3f).toInt64.toUInt64 = 0 from by decide]
      simp
    rw [e4, qz]; simp
  · rw [c_lushr z (2 * k) (2 * K) (by rw [own_toNat e3]; omega) (by omega), qz]
    have r := rng64 z
    have e5 : 2 ^ (2 * K) = 4 ^ K := by rw [Nat.pow_mul]
    rw [e5]
    rw [show (H : Int) % 18446744073709551616 = H by omega]
    rfl
theorem own_lti {c d : Int32} {n m : Nat} (hc : c.toInt = (n : Int)) (hd : d.toInt = (m : Int)) : c < d ↔ n < m := by
  rw [Int32.lt_iff_toInt_lt, hc, hd]; omega
theorem own_eqi {c d : Int32} {n m : Nat} (hc : c.toInt = (n : Int)) (hd : d.toInt = (m : Int)) : c = d ↔ n = m := by
  rw [← Int32.toInt_inj, hc, hd]; omega
theorem own_eqL {c d : Int64} {n m : Nat} (hc : c.toInt = (n : Int)) (hd : d.toInt = (m : Int)) : c = d ↔ n = m := by
  rw [← Int64.toInt_inj, hc, hd]; omega
theorem own_even {k : Int32} {K : Nat} (qk : k.toInt = (K : Int)) : (k &&& (1 : Int32)) = 0 ↔ K % 2 = 0 := by
  rw [← Int32.toInt_inj, c_mask k 1 1 (by decide) (by decide), qk]
  have e0 : (0 : Int32).toInt = 0 := by decide
  rw [e0]; omega
theorem own_dec {x : Int32} {X : Nat} (qx : x.toInt = (X : Int)) (h : 0 < X) : (x - (1 : Int32)).toInt = ((X - 1 : Nat) : Int) := by
  have c1 := c_isub x 1; have r := rng32 (x - 1); have r2 := rng32 x
  have e1 : (1 : Int32).toInt = 1 := by decide
  omega
theorem own_inc {x : Int32} {X : Nat} (qx : x.toInt = (X : Int)) (h : X < 65536) : (x + (1 : Int32)).toInt = ((X + 1 : Nat) : Int) := by
  have c1 := c_iadd x 1; have r := rng32 (x + 1)
  have e1 : (1 : Int32).toInt = 1 := by decide
  omega
theorem own_range {z : Int64} {X Y : Nat} (hX : X < 65536) (hY : Y < 65536) (qz : z.toInt = (hil 16 X Y : Int)) : ¬ z < 0 ∧ ¬ (4294967295 : Int64) < z := by
  have := own_hil16 hX hY
  have e1 : (4294967295 : Int64).toInt = 4294967295 := by decide
  have e0 : (0 : Int64).toInt = 0 := by decide
  rw [Int64.lt_iff_toInt_lt, Int64.lt_iff_toInt_lt, e1, e0, qz]
  omega
theorem own_zero {z : Int64} {X Y : Nat} (hX : X < 65536) (hY : Y < 65536) (qz : z.toInt = (hil 16 X Y : Int)) : z = 0 ↔ X = 0 ∧ Y = 0 := by
  rw [own_eqL qz (m := 0) (by decide)]; exact hil_first 16 X Y hX hY
theorem own_lastz {z : Int64} {X Y : Nat} (hX : X < 65536) (hY : Y < 65536) (qz : z.toInt = (hil 16 X Y : Int)) : z = (4294967295 : Int64) ↔ X = 65535 ∧ Y = 0 := by
  rw [own_eqL qz (m := 4294967295) (by decide)]
  have e := hil_last 16 X Y hX hY
  have e1 : sq 16 = 4294967296 := by decide
  have e2 : 2 ^ 16 = 65536 := by decide
  rw [e1, e2] at e
  omega
theorem own_coz {z co : Int64} {k : Int32} {X Y K Hc : Nat} (hK : K ≤ 15) (qk : k.toInt = (K : Int)) (qz : z.toInt = (hil 16 X Y : Int)) (qc : co.toInt = (Hc : Int)) (h : hil 16 X Y / 4 ^ K = Hc) : ((z.toUInt64 >>> (((2 : Int32) * k) &&& 0x3f).toInt64.toUInt64).toInt64) = co := by
  apply Int64.toInt_inj.mp
  rw [own_shru qz qk hK, qc, h]
theorem own_plus {z v : Int64} {H : Nat} (qz : z.toInt = (H : Int)) (h : H < 4294967296) (qv : v.toInt = ((H + 1 : Nat) : Int)) : v = z + (1 : Int64) := by
  apply Int64.toInt_inj.mp
  have c1 := c_ladd z 1; have r := rng64 (z + 1)
  have e1 : (1 : Int64).toInt = 1 := by decide
  omega
theorem own_minus {z v : Int64} {H V : Nat} (qz : z.toInt = (H : Int)) (h : H < 4294967296) (qv : v.toInt = (V : Int)) (e : V + 1 = H) : v = z - (1 : Int64) := by
  apply Int64.toInt_inj.mp
  have c1 := c_lsub z 1; have r := rng64 (z - 1)
  have e1 : (1 : Int64).toInt = 1 := by decide
  omega
theorem own_next {z nl nr nd nu : Int64} {X Y : Nat} (hX : X < 65536) (hY : Y < 65536) (qz : z.toInt = (hil 16 X Y : Int)) (n1 : 0 < X → nl.toInt = (hil 16 (X - 1) Y : Int)) (n2 : X < 65535 → nr.toInt = (hil 16 (X + 1) Y : Int)) (n3 : 0 < Y → nd.toInt = (hil 16 X (Y - 1) : Int)) (n4 : Y < 65535 → nu.toInt = (hil 16 X (Y + 1) : Int)) :
    z = (4294967295 : Int64) ∨ nl = (z + (1 : Int64)) ∨ nr = (z + (1 : Int64)) ∨ nd = (z + (1 : Int64)) ∨ nu = (z + (1 : Int64)) := by
  have hb := own_hil16 hX hY
  by_cases h : hil 16 X Y + 1 < 4294967296
  · obtain ⟨x', y', r1, r2, r3, r4⟩ := hil_next 16 X Y hX hY h
    rw [show 2 ^ 16 = 65536 by decide] at r1 r2
    rcases r3 with ⟨rfl, rfl⟩ | ⟨q1, rfl⟩ | ⟨rfl, rfl⟩ | ⟨rfl, q1⟩
    · exact Or.inr (Or.inr (Or.inl (own_plus qz hb (by rw [n2 (by omega), r4]))))
    · have : x' = X - 1 := by omega
      subst this
      exact Or.inr (Or.inl (own_plus qz hb (by rw [n1 (by omega), r4])))
    · exact Or.inr (Or.inr (Or.inr (Or.inr (own_plus qz hb (by rw [n4 (by omega), r4])))))
    · have : y' = Y - 1 := by omega
      subst this
      exact Or.inr (Or.inr (Or.inr (Or.inl (own_plus qz hb (by rw [n3 (by omega), r4])))))
  · left
    rw [own_eqL qz (m := 4294967295) (by decide)]; omega
theorem own_prev {z nl nr nd nu : Int64} {X Y : Nat} (hX : X < 65536) (hY : Y < 65536) (qz : z.toInt = (hil 16 X Y : Int)) (n1 : 0 < X → nl.toInt = (hil 16 (X - 1) Y : Int)) (n2 : X < 65535 → nr.toInt = (hil 16 (X + 1) Y : Int)) (n3 : 0 < Y → nd.toInt = (hil 16 X (Y - 1) : Int)) (n4 : Y < 65535 → nu.toInt = (hil 16 X (Y + 1) : Int)) :
    z = (0 : Int64) ∨ nl = (z - (1 : Int64)) ∨ nr = (z - (1 : Int64)) ∨ nd = (z - (1 : Int64)) ∨ nu = (z - (1 : Int64)) := by
  have hb := own_hil16 hX hY
  by_cases h : 0 < hil 16 X Y
  · obtain ⟨x', y', r1, r2, r3, r4⟩ := hil_prev 16 X Y hX hY h
    rw [show 2 ^ 16 = 65536 by decide] at r1 r2
    rcases r3 with ⟨rfl, rfl⟩ | ⟨q1, rfl⟩ | ⟨rfl, rfl⟩ | ⟨rfl, q1⟩
    · exact Or.inr (Or.inr (Or.inl (own_minus qz hb (n2 (by omega)) r4)))
    · have : x' = X - 1 := by omega
      subst this
      exact Or.inr (Or.inl (own_minus qz hb (n1 (by omega)) r4))
    · exact Or.inr (Or.inr (Or.inr (Or.inr (own_minus qz hb (n4 (by omega)) r4))))
    · have : y' = Y - 1 := by omega
      subst this
      exact Or.inr (Or.inr (Or.inr (Or.inl (own_minus qz hb (n3 (by omega)) r4))))
  · left
    rw [own_eqL qz (m := 0) (by decide)]; omega
theorem d1_0 : decode prog_28_method_4_code 0 = .ok (.lconst 0, 1) := by decide +kernel
theorem d1_1 : decode prog_28_method_4_code 1 = .ok (.lstore_n 2, 1) := by decide +kernel
theorem d1_2 : decode prog_28_method_4_code 2 = .ok (.iload_n 0, 1) := by decide +kernel
theorem d1_3 : decode prog_28_method_4_code 3 = .ok (.istore 4, 2) := by decide +kernel
theorem d1_5 : decode prog_28_method_4_code 5 = .ok (.iload_n 1, 1) := by decide +kernel
theorem d1_6 : decode prog_28_method_4_code 6 = .ok (.istore 5, 2) := by decide +kernel
theorem d1_8 : decode prog_28_method_4_code 8 = .ok (.ldc 38, 2) := by decide +kernel
theorem d1_10 : decode prog_28_method_4_code 10 = .ok (.istore 6, 2) := by decide +kernel
theorem d1_12 : decode prog_28_method_4_code 12 = .ok (.iload 6, 2) := by decide +kernel
theorem d1_14 : decode prog_28_method_4_code 14 = .ok (.ifCond .le 155, 3) := by decide +kernel
theorem d1_17 : decode prog_28_method_4_code 17 = .ok (.iload 4, 2) := by decide +kernel
theorem d1_19 : decode prog_28_method_4_code 19 = .ok (.iload 6, 2) := by decide +kernel
theorem d1_21 : decode prog_28_method_4_code 21 = .ok (.iand, 1) := by decide +kernel
theorem d1_22 : decode prog_28_method_4_code 22 = .ok (.ifCond .eq 7, 3) := by decide +kernel
theorem d1_25 : decode prog_28_method_4_code 25 = .ok (.iconst 1, 1) := by decide +kernel
theorem d1_26 : decode prog_28_method_4_code 26 = .ok (.goto 4, 3) := by decide +kernel
theorem d1_29 : decode prog_28_method_4_code 29 = .ok (.iconst 0, 1) := by decide +kernel
theorem d1_30 : decode prog_28_method_4_code 30 = .ok (.istore 7, 2) := by decide +kernel
theorem d1_32 : decode prog_28_method_4_code 32 = .ok (.iload 5, 2) := by decide +kernel
theorem d1_34 : decode prog_28_method_4_code 34 = .ok (.iload 6, 2) := by decide +kernel
theorem d1_36 : decode prog_28_method_4_code 36 = .ok (.iand, 1) := by decide +kernel
theorem d1_37 : decode prog_28_method_4_code 37 = .ok (.ifCond .eq 7, 3) := by decide +kernel
theorem d1_40 : decode prog_28_method_4_code 40 = .ok (.iconst 1, 1) := by decide +kernel
theorem d1_41 : decode prog_28_method_4_code 41 = .ok (.goto 4, 3) := by decide +kernel
theorem d1_44 : decode prog_28_method_4_code 44 = .ok (.iconst 0, 1) := by decide +kernel
theorem d1_45 : decode prog_28_method_4_code 45 = .ok (.istore 8, 2) := by decide +kernel
theorem d1_47 : decode prog_28_method_4_code 47 = .ok (.iload 7, 2) := by decide +kernel
theorem d1_49 : decode prog_28_method_4_code 49 = .ok (.ifCond .ne 14, 3) := by decide +kernel
theorem d1_52 : decode prog_28_method_4_code 52 = .ok (.iload 8, 2) := by decide +kernel
theorem d1_54 : decode prog_28_method_4_code 54 = .ok (.ifCond .ne 9, 3) := by decide +kernel
theorem d1_57 : decode prog_28_method_4_code 57 = .ok (.iconst 0, 1) := by decide +kernel
theorem d1_58 : decode prog_28_method_4_code 58 = .ok (.istore 9, 2) := by decide +kernel
theorem d1_60 : decode prog_28_method_4_code 60 = .ok (.goto 28, 3) := by decide +kernel
theorem d1_63 : decode prog_28_method_4_code 63 = .ok (.iload 7, 2) := by decide +kernel
theorem d1_65 : decode prog_28_method_4_code 65 = .ok (.ifCond .ne 9, 3) := by decide +kernel
theorem d1_68 : decode prog_28_method_4_code 68 = .ok (.iconst 1, 1) := by decide +kernel
theorem d1_69 : decode prog_28_method_4_code 69 = .ok (.istore 9, 2) := by decide +kernel
theorem d1_71 : decode prog_28_method_4_code 71 = .ok (.goto 17, 3) := by decide +kernel
theorem d1_74 : decode prog_28_method_4_code 74 = .ok (.iload 8, 2) := by decide +kernel
theorem d1_76 : decode prog_28_method_4_code 76 = .ok (.ifCond .eq 9, 3) := by decide +kernel
theorem d1_79 : decode prog_28_method_4_code 79 = .ok (.iconst 2, 1) := by decide +kernel
theorem d1_80 : decode prog_28_method_4_code 80 = .ok (.istore 9, 2) := by decide +kernel
theorem d1_82 : decode prog_28_method_4_code 82 = .ok (.goto 6, 3) := by decide +kernel
theorem d1_85 : decode prog_28_method_4_code 85 = .ok (.iconst 3, 1) := by decide +kernel
theorem d1_86 : decode prog_28_method_4_code 86 = .ok (.istore 9, 2) := by decide +kernel
theorem d1_88 : decode prog_28_method_4_code 88 = .ok (.lload_n 2, 1) := by decide +kernel
theorem d1_89 : decode prog_28_method_4_code 89 = .ok (.iload 9, 2) := by decide +kernel
theorem d1_91 : decode prog_28_method_4_code 91 = .ok (.i2l, 1) := by decide +kernel
theorem d1_92 : decode prog_28_method_4_code 92 = .ok (.iload 6, 2) := by decide +kernel
theorem d1_94 : decode prog_28_method_4_code 94 = .ok (.i2l, 1) := by decide +kernel
theorem d1_95 : decode prog_28_method_4_code 95 = .ok (.lmul, 1) := by decide +kernel
theorem d1_96 : decode prog_28_method_4_code 96 = .ok (.iload 6, 2) := by decide +kernel
theorem d1_98 : decode prog_28_method_4_code 98 = .ok (.i2l, 1) := by decide +kernel
theorem d1_99 : decode prog_28_method_4_code 99 = .ok (.lmul, 1) := by decide +kernel
theorem d1_100 : decode prog_28_method_4_code 100 = .ok (.ladd, 1) := by decide +kernel
theorem d1_101 : decode prog_28_method_4_code 101 = .ok (.lstore_n 2, 1) := by decide +kernel
theorem d1_102 : decode prog_28_method_4_code 102 = .ok (.iload 4, 2) := by decide +kernel
theorem d1_104 : decode prog_28_method_4_code 104 = .ok (.iload 6, 2) := by decide +kernel
theorem d1_106 : decode prog_28_method_4_code 106 = .ok (.iconst 1, 1) := by decide +kernel
theorem d1_107 : decode prog_28_method_4_code 107 = .ok (.isub, 1) := by decide +kernel
theorem d1_108 : decode prog_28_method_4_code 108 = .ok (.iand, 1) := by decide +kernel
theorem d1_109 : decode prog_28_method_4_code 109 = .ok (.istore 4, 2) := by decide +kernel
theorem d1_111 : decode prog_28_method_4_code 111 = .ok (.iload 5, 2) := by decide +kernel
theorem d1_113 : decode prog_28_method_4_code 113 = .ok (.iload 6, 2) := by decide +kernel
theorem d1_115 : decode prog_28_method_4_code 115 = .ok (.iconst 1, 1) := by decide +kernel
theorem d1_116 : decode prog_28_method_4_code 116 = .ok (.isub, 1) := by decide +kernel
theorem d1_117 : decode prog_28_method_4_code 117 = .ok (.iand, 1) := by decide +kernel
theorem d1_118 : decode prog_28_method_4_code 118 = .ok (.istore 5, 2) := by decide +kernel
theorem d1_120 : decode prog_28_method_4_code 120 = .ok (.iload 8, 2) := by decide +kernel
theorem d1_122 : decode prog_28_method_4_code 122 = .ok (.ifCond .ne 38, 3) := by decide +kernel
theorem d1_125 : decode prog_28_method_4_code 125 = .ok (.iload 7, 2) := by decide +kernel
theorem d1_127 : decode prog_28_method_4_code 127 = .ok (.ifCond .eq 21, 3) := by decide +kernel
theorem d1_130 : decode prog_28_method_4_code 130 = .ok (.iload 6, 2) := by decide +kernel
theorem d1_132 : decode prog_28_method_4_code 132 = .ok (.iconst 1, 1) := by decide +kernel
theorem d1_133 : decode prog_28_method_4_code 133 = .ok (.isub, 1) := by decide +kernel
theorem d1_134 : decode prog_28_method_4_code 134 = .ok (.iload 4, 2) := by decide +kernel
theorem d1_136 : decode prog_28_method_4_code 136 = .ok (.isub, 1) := by decide +kernel
theorem d1_137 : decode prog_28_method_4_code 137 = .ok (.istore 4, 2) := by decide +kernel
theorem d1_139 : decode prog_28_method_4_code 139 = .ok (.iload 6, 2) := by decide +kernel
theorem d1_141 : decode prog_28_method_4_code 141 = .ok (.iconst 1, 1) := by decide +kernel
theorem d1_142 : decode prog_28_method_4_code 142 = .ok (.isub, 1) := by decide +kernel
theorem d1_143 : decode prog_28_method_4_code 143 = .ok (.iload 5, 2) := by decide +kernel
theorem d1_145 : decode prog_28_method_4_code 145 = .ok (.isub, 1) := by decide +kernel
theorem d1_146 : decode prog_28_method_4_code 146 = .ok (.istore 5, 2) := by decide +kernel
theorem d1_148 : decode prog_28_method_4_code 148 = .ok (.iload 4, 2) := by decide +kernel
theorem d1_150 : decode prog_28_method_4_code 150 = .ok (.istore 10, 2) := by decide +kernel
theorem d1_152 : decode prog_28_method_4_code 152 = .ok (.iload 5, 2) := by decide +kernel
theorem d1_154 : decode prog_28_method_4_code 154 = .ok (.istore 4, 2) := by decide +kernel
theorem d1_156 : decode prog_28_method_4_code 156 = .ok (.iload 10, 2) := by decide +kernel
theorem d1_158 : decode prog_28_method_4_code 158 = .ok (.istore 5, 2) := by decide +kernel
theorem d1_160 : decode prog_28_method_4_code 160 = .ok (.iload 6, 2) := by decide +kernel
theorem d1_162 : decode prog_28_method_4_code 162 = .ok (.iconst 2, 1) := by decide +kernel
theorem d1_163 : decode prog_28_method_4_code 163 = .ok (.idiv, 1) := by decide +kernel
theorem d1_164 : decode prog_28_method_4_code 164 = .ok (.istore 6, 2) := by decide +kernel
theorem d1_166 : decode prog_28_method_4_code 166 = .ok (.goto (-154), 3) := by decide +kernel
theorem d1_169 : decode prog_28_method_4_code 169 = .ok (.lload_n 2, 1) := by decide +kernel
theorem d1_170 : decode prog_28_method_4_code 170 = .ok (.lreturn, 1) := by decide +kernel
theorem ef_rmH (m : MethodId) (x0 : Int32) (x1 : Int32) : entryFrame m #[(.int x0), (.int x1)] 11 = mkF m 0 #[.val (.int x0), .val (.int x1), .unset, .unset, .unset, .unset, .unset, .unset, .unset, .unset, .unset] [] := by first | (simp [entryFrame, mkF, argsToLocals, Value.category]; done) | rfl
set_option maxRecDepth 65536 in
set_option maxHeartbeats 40000000 in
theorem rmH (l : Launch) (Z : State) (a0 : Array Value) (hw : ∀ d ∈ tables_1, d.before a0 Z = true) (x y : Int32) (X Y : Nat) (h0 : Heap) (n0 : Nat) (qx : x.toInt = (X : Int)) (qy : y.toInt = (Y : Int)) (hX : X < 65536) (hY : Y < 65536) :
    CM l Z (⟨"com/example/neardb/neardb/index/Grid", "hilbertPlace", "(II)J"⟩ : MethodName) prog_28_method_4_code 11 (some .long) ({ frames := 0, cells := 0, slots := 0, locals := 0 } : Room) #[(.int x), (.int y)] h0 n0 (fun v h => ∃ z : Int64, v = some (.long z) ∧ z.toInt = (hil 16 X Y : Int) ∧ h0 = h) := by
  refine own_enter (by decide +kernel) ?_
  intro p e s m below meth c T0 hx hby hml hown hnm hZ hret hlk H0
  replace hown : s.vm.findClass "com/example/neardb/neardb/index/Grid" = some m.cls := hown
  replace hret : meth.sig.returnType = some .long := hret
  refine Go.via (fun t_ k_ => castTop (ef_rmH m x y) k_) ?_
  have loop : ∀ (n S XX YY : Nat) (P : Int64) (cx cy hf : Int32) (s7 s8 s9 s10 : Slot) (Tj : State), n ≤ 16 → P.toInt = (S : Int) → cx.toInt = (XX : Int) → cy.toInt = (YY : Int) → hf.toInt = ((2 ^ n / 2 : Nat) : Int) → XX < 2 ^ n → YY < 2 ^ n → S + hil n XX YY = hil 16 X Y → One s7 → One s8 → One s9 → One s10 → Here p l e ({ frames := 0, cells := 0, slots := 0, locals := 0 } : Room) s m #[(.int x), (.int y)] below meth c n0 Tj h0 0 0 → Go p e below (Fini below s n0 (fun v h => ∃ z : Int64, v = some (.long z) ∧ z.toInt = (hil 16 X Y : Int) ∧ h0 = h) ({ frames := 0, cells := 0, slots := 0, locals := 0 } : Room).cells ({ frames := 0, cells := 0, slots := 0, locals := 0 } : Room).slots) (Tj.setTop (mkF m 12 #[.val (.int x), .val (.int y), .val (.long P), .second, .val (.int cx), .val (.int cy), .val (.int hf), s7, s8, s9, s10] [])) := by
    intro n
    induction n with
    | zero =>
      intro S XX YY P cx cy hf s7 s8 s9 s10 Tj hn qP qcx qcy qh hXX hYY hT o7 o8 o9 o10 Hj
      refine Go.via (fun t_ k_ => XS.iload Hj.here hx rfl (hb hby d1_12) rfl k_) ?_
      show Go _ _ _ _ (Tj.setTop (mkF m 14 #[.val (.int x), .val (.int y), .val (.long P), .second, .val (.int cx), .val (.int cy), .val (.int hf), s7, s8, s9, s10] [(.int hf)]))
      refine Go.via (fun t_ k_ => XS.ifYes Hj.here hx rfl (pc0 := 14) (pc' := 169) rfl (hb hby d1_14) rfl ((if0 _ _).trans (flt (show ¬ ((0 : Int32) < hf) from (fun q => absurd ((own_pos (n := 0) qh).mp q) (by decide)))).2.2.2) (by decide) (by decide) k_) ?_
      show Go _ _ _ _ (Tj.setTop (mkF m 169 #[.val (.int x), .val (.int y), .val (.long P), .second, .val (.int cx), .val (.int cy), .val (.int hf), s7, s8, s9, s10] []))
      refine Go.via (fun t_ k_ => XS.lloadN Hj.here hx rfl (hb hby d1_169) rfl k_) ?_
      show Go _ _ _ _ (Tj.setTop (mkF m 170 #[.val (.int x), .val (.int y), .val (.long P), .second, .val (.int cx), .val (.int cy), .val (.int hf), s7, s8, s9, s10] [(.long P)]))
      exact own_retL Hj hx hlk hret (hb hby d1_170) ⟨P, rfl, by rw [hil_zero] at hT; omega, rfl⟩ (by decide) (by decide)
    | succ n ih =>
      intro S XX YY P cx cy hf s7 s8 s9 s10 Tj hn qP qcx qcy qh0 hXX hYY hT o7 o8 o9 o10 Hj
      have hn15 : n ≤ 15 := by omega
      have e2 := p2 n
      have qh : hf.toInt = ((2 ^ n : Nat) : Int) := by rw [qh0, e2]; simp
      have hS : S ≤ 4294967296 := by have := own_hil16 hX hY; omega
      have hp := p2_pos n
      refine Go.via (fun t_ k_ => XS.iload Hj.here hx rfl (hb hby d1_12) rfl k_) ?_
      show Go _ _ _ _ (Tj.setTop (mkF m 14 #[.val (.int x), .val (.int y), .val (.long P), .second, .val (.int cx), .val (.int cy), .val (.int hf), s7, s8, s9, s10] [(.int hf)]))
      refine Go.via (fun t_ k_ => XS.ifNo Hj.here hx rfl (hb hby d1_14) rfl ((if0 _ _).trans (tlt (show (0 : Int32) < hf from ((own_pos qh).mpr hp))).2.2.2) k_) ?_
      show Go _ _ _ _ (Tj.setTop (mkF m 17 #[.val (.int x), .val (.int y), .val (.long P), .second, .val (.int cx), .val (.int cy), .val (.int hf), s7, s8, s9, s10] []))
      refine Go.via (fun t_ k_ => XS.iload Hj.here hx rfl (hb hby d1_17) rfl k_) ?_
      show Go _ _ _ _ (Tj.setTop (mkF m 19 #[.val (.int x), .val (.int y), .val (.long P), .second, .val (.int cx), .val (.int cy), .val (.int hf), s7, s8, s9, s10] [(.int cx)]))
      refine Go.via (fun t_ k_ => XS.iload Hj.here hx rfl (hb hby d1_19) rfl k_) ?_
      show Go _ _ _ _ (Tj.setTop (mkF m 21 #[.val (.int x), .val (.int y), .val (.long P), .second, .val (.int cx), .val (.int cy), .val (.int hf), s7, s8, s9, s10] [(.int hf), (.int cx)]))
      refine Go.via (fun t_ k_ => XS.iand Hj.here hx rfl (hb hby d1_21) rfl k_) ?_
      show Go _ _ _ _ (Tj.setTop (mkF m 22 #[.val (.int x), .val (.int y), .val (.long P), .second, .val (.int cx), .val (.int cy), .val (.int hf), s7, s8, s9, s10] [(.int (cx &&& hf))]))
      by_cases hc22 : (cx &&& hf) = (0 : Int32)
      · refine Go.via (fun t_ k_ => XS.ifYes Hj.here hx rfl (pc0 := 22) (pc' := 29) rfl (hb hby d1_22) rfl ((if0 _ _).trans (teq hc22).1) (by decide) (by decide) k_) ?_
        show Go _ _ _ _ (Tj.setTop (mkF m 29 #[.val (.int x), .val (.int y), .val (.long P), .second, .val (.int cx), .val (.int cy), .val (.int hf), s7, s8, s9, s10] []))
        refine Go.via (fun t_ k_ => XS.iconst Hj.here hx rfl (hb hby d1_29) k_) ?_
        show Go _ _ _ _ (Tj.setTop (mkF m 30 #[.val (.int x), .val (.int y), .val (.long P), .second, .val (.int cx), .val (.int cy), .val (.int hf), s7, s8, s9, s10] [(.int (0 : Int32))]))
        refine Go.via (fun t_ k_ => XS.istore Hj.here hx rfl (hb hby d1_30) rfl (l' := #[.val (.int x), .val (.int y), .val (.long P), .second, .val (.int cx), .val (.int cy), .val (.int hf), .val (.int (0 : Int32)), s8, s9, s10]) (Jvm.Free.XS.store1 rfl o7 rfl) k_) ?_
        show Go _ _ _ _ (Tj.setTop (mkF m 32 #[.val (.int x), .val (.int y), .val (.long P), .second, .val (.int cx), .val (.int cy), .val (.int hf), .val (.int (0 : Int32)), s8, s9, s10] []))
        refine Go.via (fun t_ k_ => XS.iload Hj.here hx rfl (hb hby d1_32) rfl k_) ?_
        show Go _ _ _ _ (Tj.setTop (mkF m 34 #[.val (.int x), .val (.int y), .val (.long P), .second, .val (.int cx), .val (.int cy), .val (.int hf), .val (.int (0 : Int32)), s8, s9, s10] [(.int cy)]))
        refine Go.via (fun t_ k_ => XS.iload Hj.here hx rfl (hb hby d1_34) rfl k_) ?_
        show Go _ _ _ _ (Tj.setTop (mkF m 36 #[.val (.int x), .val (.int y), .val (.long P), .second, .val (.int cx), .val (.int cy), .val (.int hf), .val (.int (0 : Int32)), s8, s9, s10] [(.int hf), (.int cy)]))
        refine Go.via (fun t_ k_ => XS.iand Hj.here hx rfl (hb hby d1_36) rfl k_) ?_
        show Go _ _ _ _ (Tj.setTop (mkF m 37 #[.val (.int x), .val (.int y), .val (.long P), .second, .val (.int cx), .val (.int cy), .val (.int hf), .val (.int (0 : Int32)), s8, s9, s10] [(.int (cy &&& hf))]))
        by_cases hc37 : (cy &&& hf) = (0 : Int32)
        · refine Go.via (fun t_ k_ => XS.ifYes Hj.here hx rfl (pc0 := 37) (pc' := 44) rfl (hb hby d1_37) rfl ((if0 _ _).trans (teq hc37).1) (by decide) (by decide) k_) ?_
          show Go _ _ _ _ (Tj.setTop (mkF m 44 #[.val (.int x), .val (.int y), .val (.long P), .second, .val (.int cx), .val (.int cy), .val (.int hf), .val (.int (0 : Int32)), s8, s9, s10] []))
          refine Go.via (fun t_ k_ => XS.iconst Hj.here hx rfl (hb hby d1_44) k_) ?_
          show Go _ _ _ _ (Tj.setTop (mkF m 45 #[.val (.int x), .val (.int y), .val (.long P), .second, .val (.int cx), .val (.int cy), .val (.int hf), .val (.int (0 : Int32)), s8, s9, s10] [(.int (0 : Int32))]))
          refine Go.via (fun t_ k_ => XS.istore Hj.here hx rfl (hb hby d1_45) rfl (l' := #[.val (.int x), .val (.int y), .val (.long P), .second, .val (.int cx), .val (.int cy), .val (.int hf), .val (.int (0 : Int32)), .val (.int (0 : Int32)), s9, s10]) (Jvm.Free.XS.store1 rfl o8 rfl) k_) ?_
          show Go _ _ _ _ (Tj.setTop (mkF m 47 #[.val (.int x), .val (.int y), .val (.long P), .second, .val (.int cx), .val (.int cy), .val (.int hf), .val (.int (0 : Int32)), .val (.int (0 : Int32)), s9, s10] []))
          refine Go.via (fun t_ k_ => XS.iload Hj.here hx rfl (hb hby d1_47) rfl k_) ?_
          show Go _ _ _ _ (Tj.setTop (mkF m 49 #[.val (.int x), .val (.int y), .val (.long P), .second, .val (.int cx), .val (.int cy), .val (.int hf), .val (.int (0 : Int32)), .val (.int (0 : Int32)), s9, s10] [(.int (0 : Int32))]))
          refine Go.via (fun t_ k_ => XS.ifNo Hj.here hx rfl (hb hby d1_49) rfl ((if0 _ _).trans (teq (show (0 : Int32) = (0 : Int32) from (by decide))).2) k_) ?_
          show Go _ _ _ _ (Tj.setTop (mkF m 52 #[.val (.int x), .val (.int y), .val (.long P), .second, .val (.int cx), .val (.int cy), .val (.int hf), .val (.int (0 : Int32)), .val (.int (0 : Int32)), s9, s10] []))
          refine Go.via (fun t_ k_ => XS.iload Hj.here hx rfl (hb hby d1_52) rfl k_) ?_
          show Go _ _ _ _ (Tj.setTop (mkF m 54 #[.val (.int x), .val (.int y), .val (.long P), .second, .val (.int cx), .val (.int cy), .val (.int hf), .val (.int (0 : Int32)), .val (.int (0 : Int32)), s9, s10] [(.int (0 : Int32))]))
          refine Go.via (fun t_ k_ => XS.ifNo Hj.here hx rfl (hb hby d1_54) rfl ((if0 _ _).trans (teq (show (0 : Int32) = (0 : Int32) from (by decide))).2) k_) ?_
          show Go _ _ _ _ (Tj.setTop (mkF m 57 #[.val (.int x), .val (.int y), .val (.long P), .second, .val (.int cx), .val (.int cy), .val (.int hf), .val (.int (0 : Int32)), .val (.int (0 : Int32)), s9, s10] []))
          refine Go.via (fun t_ k_ => XS.iconst Hj.here hx rfl (hb hby d1_57) k_) ?_
          show Go _ _ _ _ (Tj.setTop (mkF m 58 #[.val (.int x), .val (.int y), .val (.long P), .second, .val (.int cx), .val (.int cy), .val (.int hf), .val (.int (0 : Int32)), .val (.int (0 : Int32)), s9, s10] [(.int (0 : Int32))]))
          refine Go.via (fun t_ k_ => XS.istore Hj.here hx rfl (hb hby d1_58) rfl (l' := #[.val (.int x), .val (.int y), .val (.long P), .second, .val (.int cx), .val (.int cy), .val (.int hf), .val (.int (0 : Int32)), .val (.int (0 : Int32)), .val (.int (0 : Int32)), s10]) (Jvm.Free.XS.store1 rfl o9 rfl) k_) ?_
          show Go _ _ _ _ (Tj.setTop (mkF m 60 #[.val (.int x), .val (.int y), .val (.long P), .second, .val (.int cx), .val (.int cy), .val (.int hf), .val (.int (0 : Int32)), .val (.int (0 : Int32)), .val (.int (0 : Int32)), s10] []))
          refine Go.via (fun t_ k_ => XS.goto Hj.here hx rfl (pc0 := 60) (pc' := 88) rfl (hb hby d1_60) (by decide) (by decide) k_) ?_
          show Go _ _ _ _ (Tj.setTop (mkF m 88 #[.val (.int x), .val (.int y), .val (.long P), .second, .val (.int cx), .val (.int cy), .val (.int hf), .val (.int (0 : Int32)), .val (.int (0 : Int32)), .val (.int (0 : Int32)), s10] []))
          refine Go.via (fun t_ k_ => XS.lloadN Hj.here hx rfl (hb hby d1_88) rfl k_) ?_
          show Go _ _ _ _ (Tj.setTop (mkF m 89 #[.val (.int x), .val (.int y), .val (.long P), .second, .val (.int cx), .val (.int cy), .val (.int hf), .val (.int (0 : Int32)), .val (.int (0 : Int32)), .val (.int (0 : Int32)), s10] [(.long P)]))
          refine Go.via (fun t_ k_ => XS.iload Hj.here hx rfl (hb hby d1_89) rfl k_) ?_
          show Go _ _ _ _ (Tj.setTop (mkF m 91 #[.val (.int x), .val (.int y), .val (.long P), .second, .val (.int cx), .val (.int cy), .val (.int hf), .val (.int (0 : Int32)), .val (.int (0 : Int32)), .val (.int (0 : Int32)), s10] [(.int (0 : Int32)), (.long P)]))
          refine Go.via (fun t_ k_ => XS.i2l Hj.here hx rfl (hb hby d1_91) rfl k_) ?_
          show Go _ _ _ _ (Tj.setTop (mkF m 92 #[.val (.int x), .val (.int y), .val (.long P), .second, .val (.int cx), .val (.int cy), .val (.int hf), .val (.int (0 : Int32)), .val (.int (0 : Int32)), .val (.int (0 : Int32)), s10] [(.long ((0 : Int32).toInt64)), (.long P)]))
          refine Go.via (fun t_ k_ => XS.iload Hj.here hx rfl (hb hby d1_92) rfl k_) ?_
          show Go _ _ _ _ (Tj.setTop (mkF m 94 #[.val (.int x), .val (.int y), .val (.long P), .second, .val (.int cx), .val (.int cy), .val (.int hf), .val (.int (0 : Int32)), .val (.int (0 : Int32)), .val (.int (0 : Int32)), s10] [(.int hf), (.long ((0 : Int32).toInt64)), (.long P)]))
          refine Go.via (fun t_ k_ => XS.i2l Hj.here hx rfl (hb hby d1_94) rfl k_) ?_
          show Go _ _ _ _ (Tj.setTop (mkF m 95 #[.val (.int x), .val (.int y), .val (.long P), .second, .val (.int cx), .val (.int cy), .val (.int hf), .val (.int (0 : Int32)), .val (.int (0 : Int32)), .val (.int (0 : Int32)), s10] [(.long (hf.toInt64)), (.long ((0 : Int32).toInt64)), (.long P)]))
          refine Go.via (fun t_ k_ => XS.lmul Hj.here hx rfl (hb hby d1_95) rfl k_) ?_
          show Go _ _ _ _ (Tj.setTop (mkF m 96 #[.val (.int x), .val (.int y), .val (.long P), .second, .val (.int cx), .val (.int cy), .val (.int hf), .val (.int (0 : Int32)), .val (.int (0 : Int32)), .val (.int (0 : Int32)), s10] [(.long (((0 : Int32).toInt64) * (hf.toInt64))), (.long P)]))
          refine Go.via (fun t_ k_ => XS.iload Hj.here hx rfl (hb hby d1_96) rfl k_) ?_
          show Go _ _ _ _ (Tj.setTop (mkF m 98 #[.val (.int x), .val (.int y), .val (.long P), .second, .val (.int cx), .val (.int cy), .val (.int hf), .val (.int (0 : Int32)), .val (.int (0 : Int32)), .val (.int (0 : Int32)), s10] [(.int hf), (.long (((0 : Int32).toInt64) * (hf.toInt64))), (.long P)]))
          refine Go.via (fun t_ k_ => XS.i2l Hj.here hx rfl (hb hby d1_98) rfl k_) ?_
          show Go _ _ _ _ (Tj.setTop (mkF m 99 #[.val (.int x), .val (.int y), .val (.long P), .second, .val (.int cx), .val (.int cy), .val (.int hf), .val (.int (0 : Int32)), .val (.int (0 : Int32)), .val (.int (0 : Int32)), s10] [(.long (hf.toInt64)), (.long (((0 : Int32).toInt64) * (hf.toInt64))), (.long P)]))
          refine Go.via (fun t_ k_ => XS.lmul Hj.here hx rfl (hb hby d1_99) rfl k_) ?_
          show Go _ _ _ _ (Tj.setTop (mkF m 100 #[.val (.int x), .val (.int y), .val (.long P), .second, .val (.int cx), .val (.int cy), .val (.int hf), .val (.int (0 : Int32)), .val (.int (0 : Int32)), .val (.int (0 : Int32)), s10] [(.long ((((0 : Int32).toInt64) * (hf.toInt64)) * (hf.toInt64))), (.long P)]))
          refine Go.via (fun t_ k_ => XS.ladd Hj.here hx rfl (hb hby d1_100) rfl k_) ?_
          show Go _ _ _ _ (Tj.setTop (mkF m 101 #[.val (.int x), .val (.int y), .val (.long P), .second, .val (.int cx), .val (.int cy), .val (.int hf), .val (.int (0 : Int32)), .val (.int (0 : Int32)), .val (.int (0 : Int32)), s10] [(.long (P + ((((0 : Int32).toInt64) * (hf.toInt64)) * (hf.toInt64))))]))
          refine Go.via (fun t_ k_ => XS.lstoreN Hj.here hx rfl (hb hby d1_101) rfl (l' := #[.val (.int x), .val (.int y), .val (.long (P + ((((0 : Int32).toInt64) * (hf.toInt64)) * (hf.toInt64)))), .second, .val (.int cx), .val (.int cy), .val (.int hf), .val (.int (0 : Int32)), .val (.int (0 : Int32)), .val (.int (0 : Int32)), s10]) rfl k_) ?_
          show Go _ _ _ _ (Tj.setTop (mkF m 102 #[.val (.int x), .val (.int y), .val (.long (P + ((((0 : Int32).toInt64) * (hf.toInt64)) * (hf.toInt64)))), .second, .val (.int cx), .val (.int cy), .val (.int hf), .val (.int (0 : Int32)), .val (.int (0 : Int32)), .val (.int (0 : Int32)), s10] []))
          refine Go.via (fun t_ k_ => XS.iload Hj.here hx rfl (hb hby d1_102) rfl k_) ?_
          show Go _ _ _ _ (Tj.setTop (mkF m 104 #[.val (.int x), .val (.int y), .val (.long (P + ((((0 : Int32).toInt64) * (hf.toInt64)) * (hf.toInt64)))), .second, .val (.int cx), .val (.int cy), .val (.int hf), .val (.int (0 : Int32)), .val (.int (0 : Int32)), .val (.int (0 : Int32)), s10] [(.int cx)]))
          refine Go.via (fun t_ k_ => XS.iload Hj.here hx rfl (hb hby d1_104) rfl k_) ?_
          show Go _ _ _ _ (Tj.setTop (mkF m 106 #[.val (.int x), .val (.int y), .val (.long (P + ((((0 : Int32).toInt64) * (hf.toInt64)) * (hf.toInt64)))), .second, .val (.int cx), .val (.int cy), .val (.int hf), .val (.int (0 : Int32)), .val (.int (0 : Int32)), .val (.int (0 : Int32)), s10] [(.int hf), (.int cx)]))
          refine Go.via (fun t_ k_ => XS.iconst Hj.here hx rfl (hb hby d1_106) k_) ?_
          show Go _ _ _ _ (Tj.setTop (mkF m 107 #[.val (.int x), .val (.int y), .val (.long (P + ((((0 : Int32).toInt64) * (hf.toInt64)) * (hf.toInt64)))), .second, .val (.int cx), .val (.int cy), .val (.int hf), .val (.int (0 : Int32)), .val (.int (0 : Int32)), .val (.int (0 : Int32)), s10] [(.int (1 : Int32)), (.int hf), (.int cx)]))
          refine Go.via (fun t_ k_ => XS.isub Hj.here hx rfl (hb hby d1_107) rfl k_) ?_
          show Go _ _ _ _ (Tj.setTop (mkF m 108 #[.val (.int x), .val (.int y), .val (.long (P + ((((0 : Int32).toInt64) * (hf.toInt64)) * (hf.toInt64)))), .second, .val (.int cx), .val (.int cy), .val (.int hf), .val (.int (0 : Int32)), .val (.int (0 : Int32)), .val (.int (0 : Int32)), s10] [(.int (hf - (1 : Int32))), (.int cx)]))
          refine Go.via (fun t_ k_ => XS.iand Hj.here hx rfl (hb hby d1_108) rfl k_) ?_
          show Go _ _ _ _ (Tj.setTop (mkF m 109 #[.val (.int x), .val (.int y), .val (.long (P + ((((0 : Int32).toInt64) * (hf.toInt64)) * (hf.toInt64)))), .second, .val (.int cx), .val (.int cy), .val (.int hf), .val (.int (0 : Int32)), .val (.int (0 : Int32)), .val (.int (0 : Int32)), s10] [(.int (cx &&& (hf - (1 : Int32))))]))
          refine Go.via (fun t_ k_ => XS.istore Hj.here hx rfl (hb hby d1_109) rfl (l' := #[.val (.int x), .val (.int y), .val (.long (P + ((((0 : Int32).toInt64) * (hf.toInt64)) * (hf.toInt64)))), .second, .val (.int (cx &&& (hf - (1 : Int32)))), .val (.int cy), .val (.int hf), .val (.int (0 : Int32)), .val (.int (0 : Int32)), .val (.int (0 : Int32)), s10]) rfl k_) ?_
          show Go _ _ _ _ (Tj.setTop (mkF m 111 #[.val (.int x), .val (.int y), .val (.long (P + ((((0 : Int32).toInt64) * (hf.toInt64)) * (hf.toInt64)))), .second, .val (.int (cx &&& (hf - (1 : Int32)))), .val (.int cy), .val (.int hf), .val (.int (0 : Int32)), .val (.int (0 : Int32)), .val (.int (0 : Int32)), s10] []))
          refine Go.via (fun t_ k_ => XS.iload Hj.here hx rfl (hb hby d1_111) rfl k_) ?_
          show Go _ _ _ _ (Tj.setTop (mkF m 113 #[.val (.int x), .val (.int y), .val (.long (P + ((((0 : Int32).toInt64) * (hf.toInt64)) * (hf.toInt64)))), .second, .val (.int (cx &&& (hf - (1 : Int32)))), .val (.int cy), .val (.int hf), .val (.int (0 : Int32)), .val (.int (0 : Int32)), .val (.int (0 : Int32)), s10] [(.int cy)]))
          refine Go.via (fun t_ k_ => XS.iload Hj.here hx rfl (hb hby d1_113) rfl k_) ?_
          show Go _ _ _ _ (Tj.setTop (mkF m 115 #[.val (.int x), .val (.int y), .val (.long (P + ((((0 : Int32).toInt64) * (hf.toInt64)) * (hf.toInt64)))), .second, .val (.int (cx &&& (hf - (1 : Int32)))), .val (.int cy), .val (.int hf), .val (.int (0 : Int32)), .val (.int (0 : Int32)), .val (.int (0 : Int32)), s10] [(.int hf), (.int cy)]))
          refine Go.via (fun t_ k_ => XS.iconst Hj.here hx rfl (hb hby d1_115) k_) ?_
          show Go _ _ _ _ (Tj.setTop (mkF m 116 #[.val (.int x), .val (.int y), .val (.long (P + ((((0 : Int32).toInt64) * (hf.toInt64)) * (hf.toInt64)))), .second, .val (.int (cx &&& (hf - (1 : Int32)))), .val (.int cy), .val (.int hf), .val (.int (0 : Int32)), .val (.int (0 : Int32)), .val (.int (0 : Int32)), s10] [(.int (1 : Int32)), (.int hf), (.int cy)]))
          refine Go.via (fun t_ k_ => XS.isub Hj.here hx rfl (hb hby d1_116) rfl k_) ?_
          show Go _ _ _ _ (Tj.setTop (mkF m 117 #[.val (.int x), .val (.int y), .val (.long (P + ((((0 : Int32).toInt64) * (hf.toInt64)) * (hf.toInt64)))), .second, .val (.int (cx &&& (hf - (1 : Int32)))), .val (.int cy), .val (.int hf), .val (.int (0 : Int32)), .val (.int (0 : Int32)), .val (.int (0 : Int32)), s10] [(.int (hf - (1 : Int32))), (.int cy)]))
          refine Go.via (fun t_ k_ => XS.iand Hj.here hx rfl (hb hby d1_117) rfl k_) ?_
          show Go _ _ _ _ (Tj.setTop (mkF m 118 #[.val (.int x), .val (.int y), .val (.long (P + ((((0 : Int32).toInt64) * (hf.toInt64)) * (hf.toInt64)))), .second, .val (.int (cx &&& (hf - (1 : Int32)))), .val (.int cy), .val (.int hf), .val (.int (0 : Int32)), .val (.int (0 : Int32)), .val (.int (0 : Int32)), s10] [(.int (cy &&& (hf - (1 : Int32))))]))
          refine Go.via (fun t_ k_ => XS.istore Hj.here hx rfl (hb hby d1_118) rfl (l' := #[.val (.int x), .val (.int y), .val (.long (P + ((((0 : Int32).toInt64) * (hf.toInt64)) * (hf.toInt64)))), .second, .val (.int (cx &&& (hf - (1 : Int32)))), .val (.int (cy &&& (hf - (1 : Int32)))), .val (.int hf), .val (.int (0 : Int32)), .val (.int (0 : Int32)), .val (.int (0 : Int32)), s10]) rfl k_) ?_
          show Go _ _ _ _ (Tj.setTop (mkF m 120 #[.val (.int x), .val (.int y), .val (.long (P + ((((0 : Int32).toInt64) * (hf.toInt64)) * (hf.toInt64)))), .second, .val (.int (cx &&& (hf - (1 : Int32)))), .val (.int (cy &&& (hf - (1 : Int32)))), .val (.int hf), .val (.int (0 : Int32)), .val (.int (0 : Int32)), .val (.int (0 : Int32)), s10] []))
          refine Go.via (fun t_ k_ => XS.iload Hj.here hx rfl (hb hby d1_120) rfl k_) ?_
          show Go _ _ _ _ (Tj.setTop (mkF m 122 #[.val (.int x), .val (.int y), .val (.long (P + ((((0 : Int32).toInt64) * (hf.toInt64)) * (hf.toInt64)))), .second, .val (.int (cx &&& (hf - (1 : Int32)))), .val (.int (cy &&& (hf - (1 : Int32)))), .val (.int hf), .val (.int (0 : Int32)), .val (.int (0 : Int32)), .val (.int (0 : Int32)), s10] [(.int (0 : Int32))]))
          refine Go.via (fun t_ k_ => XS.ifNo Hj.here hx rfl (hb hby d1_122) rfl ((if0 _ _).trans (teq (show (0 : Int32) = (0 : Int32) from (by decide))).2) k_) ?_
          show Go _ _ _ _ (Tj.setTop (mkF m 125 #[.val (.int x), .val (.int y), .val (.long (P + ((((0 : Int32).toInt64) * (hf.toInt64)) * (hf.toInt64)))), .second, .val (.int (cx &&& (hf - (1 : Int32)))), .val (.int (cy &&& (hf - (1 : Int32)))), .val (.int hf), .val (.int (0 : Int32)), .val (.int (0 : Int32)), .val (.int (0 : Int32)), s10] []))
          refine Go.via (fun t_ k_ => XS.iload Hj.here hx rfl (hb hby d1_125) rfl k_) ?_
          show Go _ _ _ _ (Tj.setTop (mkF m 127 #[.val (.int x), .val (.int y), .val (.long (P + ((((0 : Int32).toInt64) * (hf.toInt64)) * (hf.toInt64)))), .second, .val (.int (cx &&& (hf - (1 : Int32)))), .val (.int (cy &&& (hf - (1 : Int32)))), .val (.int hf), .val (.int (0 : Int32)), .val (.int (0 : Int32)), .val (.int (0 : Int32)), s10] [(.int (0 : Int32))]))
          refine Go.via (fun t_ k_ => XS.ifYes Hj.here hx rfl (pc0 := 127) (pc' := 148) rfl (hb hby d1_127) rfl ((if0 _ _).trans (teq (show (0 : Int32) = (0 : Int32) from (by decide))).1) (by decide) (by decide) k_) ?_
          show Go _ _ _ _ (Tj.setTop (mkF m 148 #[.val (.int x), .val (.int y), .val (.long (P + ((((0 : Int32).toInt64) * (hf.toInt64)) * (hf.toInt64)))), .second, .val (.int (cx &&& (hf - (1 : Int32)))), .val (.int (cy &&& (hf - (1 : Int32)))), .val (.int hf), .val (.int (0 : Int32)), .val (.int (0 : Int32)), .val (.int (0 : Int32)), s10] []))
          refine Go.via (fun t_ k_ => XS.iload Hj.here hx rfl (hb hby d1_148) rfl k_) ?_
          show Go _ _ _ _ (Tj.setTop (mkF m 150 #[.val (.int x), .val (.int y), .val (.long (P + ((((0 : Int32).toInt64) * (hf.toInt64)) * (hf.toInt64)))), .second, .val (.int (cx &&& (hf - (1 : Int32)))), .val (.int (cy &&& (hf - (1 : Int32)))), .val (.int hf), .val (.int (0 : Int32)), .val (.int (0 : Int32)), .val (.int (0 : Int32)), s10] [(.int (cx &&& (hf - (1 : Int32))))]))
          refine Go.via (fun t_ k_ => XS.istore Hj.here hx rfl (hb hby d1_150) rfl (l' := #[.val (.int x), .val (.int y), .val (.long (P + ((((0 : Int32).toInt64) * (hf.toInt64)) * (hf.toInt64)))), .second, .val (.int (cx &&& (hf - (1 : Int32)))), .val (.int (cy &&& (hf - (1 : Int32)))), .val (.int hf), .val (.int (0 : Int32)), .val (.int (0 : Int32)), .val (.int (0 : Int32)), .val (.int (cx &&& (hf - (1 : Int32))))]) (Jvm.Free.XS.store1 rfl o10 rfl) k_) ?_
          show Go _ _ _ _ (Tj.setTop (mkF m 152 #[.val (.int x), .val (.int y), .val (.long (P + ((((0 : Int32).toInt64) * (hf.toInt64)) * (hf.toInt64)))), .second, .val (.int (cx &&& (hf - (1 : Int32)))), .val (.int (cy &&& (hf - (1 : Int32)))), .val (.int hf), .val (.int (0 : Int32)), .val (.int (0 : Int32)), .val (.int (0 : Int32)), .val (.int (cx &&& (hf - (1 : Int32))))] []))
          refine Go.via (fun t_ k_ => XS.iload Hj.here hx rfl (hb hby d1_152) rfl k_) ?_
          show Go _ _ _ _ (Tj.setTop (mkF m 154 #[.val (.int x), .val (.int y), .val (.long (P + ((((0 : Int32).toInt64) * (hf.toInt64)) * (hf.toInt64)))), .second, .val (.int (cx &&& (hf - (1 : Int32)))), .val (.int (cy &&& (hf - (1 : Int32)))), .val (.int hf), .val (.int (0 : Int32)), .val (.int (0 : Int32)), .val (.int (0 : Int32)), .val (.int (cx &&& (hf - (1 : Int32))))] [(.int (cy &&& (hf - (1 : Int32))))]))
          refine Go.via (fun t_ k_ => XS.istore Hj.here hx rfl (hb hby d1_154) rfl (l' := #[.val (.int x), .val (.int y), .val (.long (P + ((((0 : Int32).toInt64) * (hf.toInt64)) * (hf.toInt64)))), .second, .val (.int (cy &&& (hf - (1 : Int32)))), .val (.int (cy &&& (hf - (1 : Int32)))), .val (.int hf), .val (.int (0 : Int32)), .val (.int (0 : Int32)), .val (.int (0 : Int32)), .val (.int (cx &&& (hf - (1 : Int32))))]) rfl k_) ?_
          show Go _ _ _ _ (Tj.setTop (mkF m 156 #[.val (.int x), .val (.int y), .val (.long (P + ((((0 : Int32).toInt64) * (hf.toInt64)) * (hf.toInt64)))), .second, .val (.int (cy &&& (hf - (1 : Int32)))), .val (.int (cy &&& (hf - (1 : Int32)))), .val (.int hf), .val (.int (0 : Int32)), .val (.int (0 : Int32)), .val (.int (0 : Int32)), .val (.int (cx &&& (hf - (1 : Int32))))] []))
          refine Go.via (fun t_ k_ => XS.iload Hj.here hx rfl (hb hby d1_156) rfl k_) ?_
          show Go _ _ _ _ (Tj.setTop (mkF m 158 #[.val (.int x), .val (.int y), .val (.long (P + ((((0 : Int32).toInt64) * (hf.toInt64)) * (hf.toInt64)))), .second, .val (.int (cy &&& (hf - (1 : Int32)))), .val (.int (cy &&& (hf - (1 : Int32)))), .val (.int hf), .val (.int (0 : Int32)), .val (.int (0 : Int32)), .val (.int (0 : Int32)), .val (.int (cx &&& (hf - (1 : Int32))))] [(.int (cx &&& (hf - (1 : Int32))))]))
          refine Go.via (fun t_ k_ => XS.istore Hj.here hx rfl (hb hby d1_158) rfl (l' := #[.val (.int x), .val (.int y), .val (.long (P + ((((0 : Int32).toInt64) * (hf.toInt64)) * (hf.toInt64)))), .second, .val (.int (cy &&& (hf - (1 : Int32)))), .val (.int (cx &&& (hf - (1 : Int32)))), .val (.int hf), .val (.int (0 : Int32)), .val (.int (0 : Int32)), .val (.int (0 : Int32)), .val (.int (cx &&& (hf - (1 : Int32))))]) rfl k_) ?_
          show Go _ _ _ _ (Tj.setTop (mkF m 160 #[.val (.int x), .val (.int y), .val (.long (P + ((((0 : Int32).toInt64) * (hf.toInt64)) * (hf.toInt64)))), .second, .val (.int (cy &&& (hf - (1 : Int32)))), .val (.int (cx &&& (hf - (1 : Int32)))), .val (.int hf), .val (.int (0 : Int32)), .val (.int (0 : Int32)), .val (.int (0 : Int32)), .val (.int (cx &&& (hf - (1 : Int32))))] []))
          refine Go.via (fun t_ k_ => XS.iload Hj.here hx rfl (hb hby d1_160) rfl k_) ?_
          show Go _ _ _ _ (Tj.setTop (mkF m 162 #[.val (.int x), .val (.int y), .val (.long (P + ((((0 : Int32).toInt64) * (hf.toInt64)) * (hf.toInt64)))), .second, .val (.int (cy &&& (hf - (1 : Int32)))), .val (.int (cx &&& (hf - (1 : Int32)))), .val (.int hf), .val (.int (0 : Int32)), .val (.int (0 : Int32)), .val (.int (0 : Int32)), .val (.int (cx &&& (hf - (1 : Int32))))] [(.int hf)]))
          refine Go.via (fun t_ k_ => XS.iconst Hj.here hx rfl (hb hby d1_162) k_) ?_
          show Go _ _ _ _ (Tj.setTop (mkF m 163 #[.val (.int x), .val (.int y), .val (.long (P + ((((0 : Int32).toInt64) * (hf.toInt64)) * (hf.toInt64)))), .second, .val (.int (cy &&& (hf - (1 : Int32)))), .val (.int (cx &&& (hf - (1 : Int32)))), .val (.int hf), .val (.int (0 : Int32)), .val (.int (0 : Int32)), .val (.int (0 : Int32)), .val (.int (cx &&& (hf - (1 : Int32))))] [(.int (2 : Int32)), (.int hf)]))
          refine Go.via (fun t_ k_ => XS.idiv Hj.here hx rfl (hb hby d1_163) rfl (by decide) k_) ?_
          show Go _ _ _ _ (Tj.setTop (mkF m 164 #[.val (.int x), .val (.int y), .val (.long (P + ((((0 : Int32).toInt64) * (hf.toInt64)) * (hf.toInt64)))), .second, .val (.int (cy &&& (hf - (1 : Int32)))), .val (.int (cx &&& (hf - (1 : Int32)))), .val (.int hf), .val (.int (0 : Int32)), .val (.int (0 : Int32)), .val (.int (0 : Int32)), .val (.int (cx &&& (hf - (1 : Int32))))] [(.int (hf / (2 : Int32)))]))
          refine Go.via (fun t_ k_ => XS.istore Hj.here hx rfl (hb hby d1_164) rfl (l' := #[.val (.int x), .val (.int y), .val (.long (P + ((((0 : Int32).toInt64) * (hf.toInt64)) * (hf.toInt64)))), .second, .val (.int (cy &&& (hf - (1 : Int32)))), .val (.int (cx &&& (hf - (1 : Int32)))), .val (.int (hf / (2 : Int32))), .val (.int (0 : Int32)), .val (.int (0 : Int32)), .val (.int (0 : Int32)), .val (.int (cx &&& (hf - (1 : Int32))))]) rfl k_) ?_
          show Go _ _ _ _ (Tj.setTop (mkF m 166 #[.val (.int x), .val (.int y), .val (.long (P + ((((0 : Int32).toInt64) * (hf.toInt64)) * (hf.toInt64)))), .second, .val (.int (cy &&& (hf - (1 : Int32)))), .val (.int (cx &&& (hf - (1 : Int32)))), .val (.int (hf / (2 : Int32))), .val (.int (0 : Int32)), .val (.int (0 : Int32)), .val (.int (0 : Int32)), .val (.int (cx &&& (hf - (1 : Int32))))] []))
          refine Go.via (fun t_ k_ => XS.goto Hj.here hx rfl (pc0 := 166) (pc' := 12) rfl (hb hby d1_166) (by decide) (by decide) k_) ?_
          show Go _ _ _ _ (Tj.setTop (mkF m 12 #[.val (.int x), .val (.int y), .val (.long (P + ((((0 : Int32).toInt64) * (hf.toInt64)) * (hf.toInt64)))), .second, .val (.int (cy &&& (hf - (1 : Int32)))), .val (.int (cx &&& (hf - (1 : Int32)))), .val (.int (hf / (2 : Int32))), .val (.int (0 : Int32)), .val (.int (0 : Int32)), .val (.int (0 : Int32)), .val (.int (cx &&& (hf - (1 : Int32))))] []))
          have b1 := (own_bit qcx qh hXX).mp hc22
          have b2 := (own_bit qcy qh hYY).mp hc37
          have e4 := own_low1 qcx qh hn15 b1
          have e5 := own_low1 qcy qh hn15 b2
          rw [hil_q0 b1 b2] at hT
          exact ih (S + 0 * sq n) YY XX _ _ _ _ _ _ _ _ Tj (by omega) (own_place qP (by decide) (by decide) qh hn15 hS) e5 e4 (own_half qh) (by omega) (by omega) (by omega) (One.val rfl) (One.val rfl) (One.val rfl) (One.val rfl) Hj
        · refine Go.via (fun t_ k_ => XS.ifNo Hj.here hx rfl (hb hby d1_37) rfl ((if0 _ _).trans (feq hc37).1) k_) ?_
          show Go _ _ _ _ (Tj.setTop (mkF m 40 #[.val (.int x), .val (.int y), .val (.long P), .second, .val (.int cx), .val (.int cy), .val (.int hf), .val (.int (0 : Int32)), s8, s9, s10] []))
          refine Go.via (fun t_ k_ => XS.iconst Hj.here hx rfl (hb hby d1_40) k_) ?_
          show Go _ _ _ _ (Tj.setTop (mkF m 41 #[.val (.int x), .val (.int y), .val (.long P), .second, .val (.int cx), .val (.int cy), .val (.int hf), .val (.int (0 : Int32)), s8, s9, s10] [(.int (1 : Int32))]))
          refine Go.via (fun t_ k_ => XS.goto Hj.here hx rfl (pc0 := 41) (pc' := 45) rfl (hb hby d1_41) (by decide) (by decide) k_) ?_
          show Go _ _ _ _ (Tj.setTop (mkF m 45 #[.val (.int x), .val (.int y), .val (.long P), .second, .val (.int cx), .val (.int cy), .val (.int hf), .val (.int (0 : Int32)), s8, s9, s10] [(.int (1 : Int32))]))
          refine Go.via (fun t_ k_ => XS.istore Hj.here hx rfl (hb hby d1_45) rfl (l' := #[.val (.int x), .val (.int y), .val (.long P), .second, .val (.int cx), .val (.int cy), .val (.int hf), .val (.int (0 : Int32)), .val (.int (1 : Int32)), s9, s10]) (Jvm.Free.XS.store1 rfl o8 rfl) k_) ?_
          show Go _ _ _ _ (Tj.setTop (mkF m 47 #[.val (.int x), .val (.int y), .val (.long P), .second, .val (.int cx), .val (.int cy), .val (.int hf), .val (.int (0 : Int32)), .val (.int (1 : Int32)), s9, s10] []))
          refine Go.via (fun t_ k_ => XS.iload Hj.here hx rfl (hb hby d1_47) rfl k_) ?_
          show Go _ _ _ _ (Tj.setTop (mkF m 49 #[.val (.int x), .val (.int y), .val (.long P), .second, .val (.int cx), .val (.int cy), .val (.int hf), .val (.int (0 : Int32)), .val (.int (1 : Int32)), s9, s10] [(.int (0 : Int32))]))
          refine Go.via (fun t_ k_ => XS.ifNo Hj.here hx rfl (hb hby d1_49) rfl ((if0 _ _).trans (teq (show (0 : Int32) = (0 : Int32) from (by decide))).2) k_) ?_
          show Go _ _ _ _ (Tj.setTop (mkF m 52 #[.val (.int x), .val (.int y), .val (.long P), .second, .val (.int cx), .val (.int cy), .val (.int hf), .val (.int (0 : Int32)), .val (.int (1 : Int32)), s9, s10] []))
          refine Go.via (fun t_ k_ => XS.iload Hj.here hx rfl (hb hby d1_52) rfl k_) ?_
          show Go _ _ _ _ (Tj.setTop (mkF m 54 #[.val (.int x), .val (.int y), .val (.long P), .second, .val (.int cx), .val (.int cy), .val (.int hf), .val (.int (0 : Int32)), .val (.int (1 : Int32)), s9, s10] [(.int (1 : Int32))]))
          refine Go.via (fun t_ k_ => XS.ifYes Hj.here hx rfl (pc0 := 54) (pc' := 63) rfl (hb hby d1_54) rfl ((if0 _ _).trans (feq (show ¬ ((1 : Int32) = (0 : Int32)) from (by decide))).2) (by decide) (by decide) k_) ?_
          show Go _ _ _ _ (Tj.setTop (mkF m 63 #[.val (.int x), .val (.int y), .val (.long P), .second, .val (.int cx), .val (.int cy), .val (.int hf), .val (.int (0 : Int32)), .val (.int (1 : Int32)), s9, s10] []))
          refine Go.via (fun t_ k_ => XS.iload Hj.here hx rfl (hb hby d1_63) rfl k_) ?_
          show Go _ _ _ _ (Tj.setTop (mkF m 65 #[.val (.int x), .val (.int y), .val (.long P), .second, .val (.int cx), .val (.int cy), .val (.int hf), .val (.int (0 : Int32)), .val (.int (1 : Int32)), s9, s10] [(.int (0 : Int32))]))
          refine Go.via (fun t_ k_ => XS.ifNo Hj.here hx rfl (hb hby d1_65) rfl ((if0 _ _).trans (teq (show (0 : Int32) = (0 : Int32) from (by decide))).2) k_) ?_
          show Go _ _ _ _ (Tj.setTop (mkF m 68 #[.val (.int x), .val (.int y), .val (.long P), .second, .val (.int cx), .val (.int cy), .val (.int hf), .val (.int (0 : Int32)), .val (.int (1 : Int32)), s9, s10] []))
          refine Go.via (fun t_ k_ => XS.iconst Hj.here hx rfl (hb hby d1_68) k_) ?_
          show Go _ _ _ _ (Tj.setTop (mkF m 69 #[.val (.int x), .val (.int y), .val (.long P), .second, .val (.int cx), .val (.int cy), .val (.int hf), .val (.int (0 : Int32)), .val (.int (1 : Int32)), s9, s10] [(.int (1 : Int32))]))
          refine Go.via (fun t_ k_ => XS.istore Hj.here hx rfl (hb hby d1_69) rfl (l' := #[.val (.int x), .val (.int y), .val (.long P), .second, .val (.int cx), .val (.int cy), .val (.int hf), .val (.int (0 : Int32)), .val (.int (1 : Int32)), .val (.int (1 : Int32)), s10]) (Jvm.Free.XS.store1 rfl o9 rfl) k_) ?_
          show Go _ _ _ _ (Tj.setTop (mkF m 71 #[.val (.int x), .val (.int y), .val (.long P), .second, .val (.int cx), .val (.int cy), .val (.int hf), .val (.int (0 : Int32)), .val (.int (1 : Int32)), .val (.int (1 : Int32)), s10] []))
          refine Go.via (fun t_ k_ => XS.goto Hj.here hx rfl (pc0 := 71) (pc' := 88) rfl (hb hby d1_71) (by decide) (by decide) k_) ?_
          show Go _ _ _ _ (Tj.setTop (mkF m 88 #[.val (.int x), .val (.int y), .val (.long P), .second, .val (.int cx), .val (.int cy), .val (.int hf), .val (.int (0 : Int32)), .val (.int (1 : Int32)), .val (.int (1 : Int32)), s10] []))
          refine Go.via (fun t_ k_ => XS.lloadN Hj.here hx rfl (hb hby d1_88) rfl k_) ?_
          show Go _ _ _ _ (Tj.setTop (mkF m 89 #[.val (.int x), .val (.int y), .val (.long P), .second, .val (.int cx), .val (.int cy), .val (.int hf), .val (.int (0 : Int32)), .val (.int (1 : Int32)), .val (.int (1 : Int32)), s10] [(.long P)]))
          refine Go.via (fun t_ k_ => XS.iload Hj.here hx rfl (hb hby d1_89) rfl k_) ?_
          show Go _ _ _ _ (Tj.setTop (mkF m 91 #[.val (.int x), .val (.int y), .val (.long P), .second, .val (.int cx), .val (.int cy), .val (.int hf), .val (.int (0 : Int32)), .val (.int (1 : Int32)), .val (.int (1 : Int32)), s10] [(.int (1 : Int32)), (.long P)]))
          refine Go.via (fun t_ k_ => XS.i2l Hj.here hx rfl (hb hby d1_91) rfl k_) ?_
          show Go _ _ _ _ (Tj.setTop (mkF m 92 #[.val (.int x), .val (.int y), .val (.long P), .second, .val (.int cx), .val (.int cy), .val (.int hf), .val (.int (0 : Int32)), .val (.int (1 : Int32)), .val (.int (1 : Int32)), s10] [(.long ((1 : Int32).toInt64)), (.long P)]))
          refine Go.via (fun t_ k_ => XS.iload Hj.here hx rfl (hb hby d1_92) rfl k_) ?_
          show Go _ _ _ _ (Tj.setTop (mkF m 94 #[.val (.int x), .val (.int y), .val (.long P), .second, .val (.int cx), .val (.int cy), .val (.int hf), .val (.int (0 : Int32)), .val (.int (1 : Int32)), .val (.int (1 : Int32)), s10] [(.int hf), (.long ((1 : Int32).toInt64)), (.long P)]))
          refine Go.via (fun t_ k_ => XS.i2l Hj.here hx rfl (hb hby d1_94) rfl k_) ?_
          show Go _ _ _ _ (Tj.setTop (mkF m 95 #[.val (.int x), .val (.int y), .val (.long P), .second, .val (.int cx), .val (.int cy), .val (.int hf), .val (.int (0 : Int32)), .val (.int (1 : Int32)), .val (.int (1 : Int32)), s10] [(.long (hf.toInt64)), (.long ((1 : Int32).toInt64)), (.long P)]))
          refine Go.via (fun t_ k_ => XS.lmul Hj.here hx rfl (hb hby d1_95) rfl k_) ?_
          show Go _ _ _ _ (Tj.setTop (mkF m 96 #[.val (.int x), .val (.int y), .val (.long P), .second, .val (.int cx), .val (.int cy), .val (.int hf), .val (.int (0 : Int32)), .val (.int (1 : Int32)), .val (.int (1 : Int32)), s10] [(.long (((1 : Int32).toInt64) * (hf.toInt64))), (.long P)]))
          refine Go.via (fun t_ k_ => XS.iload Hj.here hx rfl (hb hby d1_96) rfl k_) ?_
          show Go _ _ _ _ (Tj.setTop (mkF m 98 #[.val (.int x), .val (.int y), .val (.long P), .second, .val (.int cx), .val (.int cy), .val (.int hf), .val (.int (0 : Int32)), .val (.int (1 : Int32)), .val (.int (1 : Int32)), s10] [(.int hf), (.long (((1 : Int32).toInt64) * (hf.toInt64))), (.long P)]))
          refine Go.via (fun t_ k_ => XS.i2l Hj.here hx rfl (hb hby d1_98) rfl k_) ?_
          show Go _ _ _ _ (Tj.setTop (mkF m 99 #[.val (.int x), .val (.int y), .val (.long P), .second, .val (.int cx), .val (.int cy), .val (.int hf), .val (.int (0 : Int32)), .val (.int (1 : Int32)), .val (.int (1 : Int32)), s10] [(.long (hf.toInt64)), (.long (((1 : Int32).toInt64) * (hf.toInt64))), (.long P)]))
          refine Go.via (fun t_ k_ => XS.lmul Hj.here hx rfl (hb hby d1_99) rfl k_) ?_
          show Go _ _ _ _ (Tj.setTop (mkF m 100 #[.val (.int x), .val (.int y), .val (.long P), .second, .val (.int cx), .val (.int cy), .val (.int hf), .val (.int (0 : Int32)), .val (.int (1 : Int32)), .val (.int (1 : Int32)), s10] [(.long ((((1 : Int32).toInt64) * (hf.toInt64)) * (hf.toInt64))), (.long P)]))
          refine Go.via (fun t_ k_ => XS.ladd Hj.here hx rfl (hb hby d1_100) rfl k_) ?_
          show Go _ _ _ _ (Tj.setTop (mkF m 101 #[.val (.int x), .val (.int y), .val (.long P), .second, .val (.int cx), .val (.int cy), .val (.int hf), .val (.int (0 : Int32)), .val (.int (1 : Int32)), .val (.int (1 : Int32)), s10] [(.long (P + ((((1 : Int32).toInt64) * (hf.toInt64)) * (hf.toInt64))))]))
          refine Go.via (fun t_ k_ => XS.lstoreN Hj.here hx rfl (hb hby d1_101) rfl (l' := #[.val (.int x), .val (.int y), .val (.long (P + ((((1 : Int32).toInt64) * (hf.toInt64)) * (hf.toInt64)))), .second, .val (.int cx), .val (.int cy), .val (.int hf), .val (.int (0 : Int32)), .val (.int (1 : Int32)), .val (.int (1 : Int32)), s10]) rfl k_) ?_
          show Go _ _ _ _ (Tj.setTop (mkF m 102 #[.val (.int x), .val (.int y), .val (.long (P + ((((1 : Int32).toInt64) * (hf.toInt64)) * (hf.toInt64)))), .second, .val (.int cx), .val (.int cy), .val (.int hf), .val (.int (0 : Int32)), .val (.int (1 : Int32)), .val (.int (1 : Int32)), s10] []))
          refine Go.via (fun t_ k_ => XS.iload Hj.here hx rfl (hb hby d1_102) rfl k_) ?_
          show Go _ _ _ _ (Tj.setTop (mkF m 104 #[.val (.int x), .val (.int y), .val (.long (P + ((((1 : Int32).toInt64) * (hf.toInt64)) * (hf.toInt64)))), .second, .val (.int cx), .val (.int cy), .val (.int hf), .val (.int (0 : Int32)), .val (.int (1 : Int32)), .val (.int (1 : Int32)), s10] [(.int cx)]))
          refine Go.via (fun t_ k_ => XS.iload Hj.here hx rfl (hb hby d1_104) rfl k_) ?_
          show Go _ _ _ _ (Tj.setTop (mkF m 106 #[.val (.int x), .val (.int y), .val (.long (P + ((((1 : Int32).toInt64) * (hf.toInt64)) * (hf.toInt64)))), .second, .val (.int cx), .val (.int cy), .val (.int hf), .val (.int (0 : Int32)), .val (.int (1 : Int32)), .val (.int (1 : Int32)), s10] [(.int hf), (.int cx)]))
          refine Go.via (fun t_ k_ => XS.iconst Hj.here hx rfl (hb hby d1_106) k_) ?_
          show Go _ _ _ _ (Tj.setTop (mkF m 107 #[.val (.int x), .val (.int y), .val (.long (P + ((((1 : Int32).toInt64) * (hf.toInt64)) * (hf.toInt64)))), .second, .val (.int cx), .val (.int cy), .val (.int hf), .val (.int (0 : Int32)), .val (.int (1 : Int32)), .val (.int (1 : Int32)), s10] [(.int (1 : Int32)), (.int hf), (.int cx)]))
          refine Go.via (fun t_ k_ => XS.isub Hj.here hx rfl (hb hby d1_107) rfl k_) ?_
          show Go _ _ _ _ (Tj.setTop (mkF m 108 #[.val (.int x), .val (.int y), .val (.long (P + ((((1 : Int32).toInt64) * (hf.toInt64)) * (hf.toInt64)))), .second, .val (.int cx), .val (.int cy), .val (.int hf), .val (.int (0 : Int32)), .val (.int (1 : Int32)), .val (.int (1 : Int32)), s10] [(.int (hf - (1 : Int32))), (.int cx)]))
          refine Go.via (fun t_ k_ => XS.iand Hj.here hx rfl (hb hby d1_108) rfl k_) ?_
          show Go _ _ _ _ (Tj.setTop (mkF m 109 #[.val (.int x), .val (.int y), .val (.long (P + ((((1 : Int32).toInt64) * (hf.toInt64)) * (hf.toInt64)))), .second, .val (.int cx), .val (.int cy), .val (.int hf), .val (.int (0 : Int32)), .val (.int (1 : Int32)), .val (.int (1 : Int32)), s10] [(.int (cx &&& (hf - (1 : Int32))))]))
          refine Go.via (fun t_ k_ => XS.istore Hj.here hx rfl (hb hby d1_109) rfl (l' := #[.val (.int x), .val (.int y), .val (.long (P + ((((1 : Int32).toInt64) * (hf.toInt64)) * (hf.toInt64)))), .second, .val (.int (cx &&& (hf - (1 : Int32)))), .val (.int cy), .val (.int hf), .val (.int (0 : Int32)), .val (.int (1 : Int32)), .val (.int (1 : Int32)), s10]) rfl k_) ?_
          show Go _ _ _ _ (Tj.setTop (mkF m 111 #[.val (.int x), .val (.int y), .val (.long (P + ((((1 : Int32).toInt64) * (hf.toInt64)) * (hf.toInt64)))), .second, .val (.int (cx &&& (hf - (1 : Int32)))), .val (.int cy), .val (.int hf), .val (.int (0 : Int32)), .val (.int (1 : Int32)), .val (.int (1 : Int32)), s10] []))
          refine Go.via (fun t_ k_ => XS.iload Hj.here hx rfl (hb hby d1_111) rfl k_) ?_
          show Go _ _ _ _ (Tj.setTop (mkF m 113 #[.val (.int x), .val (.int y), .val (.long (P + ((((1 : Int32).toInt64) * (hf.toInt64)) * (hf.toInt64)))), .second, .val (.int (cx &&& (hf - (1 : Int32)))), .val (.int cy), .val (.int hf), .val (.int (0 : Int32)), .val (.int (1 : Int32)), .val (.int (1 : Int32)), s10] [(.int cy)]))
          refine Go.via (fun t_ k_ => XS.iload Hj.here hx rfl (hb hby d1_113) rfl k_) ?_
          show Go _ _ _ _ (Tj.setTop (mkF m 115 #[.val (.int x), .val (.int y), .val (.long (P + ((((1 : Int32).toInt64) * (hf.toInt64)) * (hf.toInt64)))), .second, .val (.int (cx &&& (hf - (1 : Int32)))), .val (.int cy), .val (.int hf), .val (.int (0 : Int32)), .val (.int (1 : Int32)), .val (.int (1 : Int32)), s10] [(.int hf), (.int cy)]))
          refine Go.via (fun t_ k_ => XS.iconst Hj.here hx rfl (hb hby d1_115) k_) ?_
          show Go _ _ _ _ (Tj.setTop (mkF m 116 #[.val (.int x), .val (.int y), .val (.long (P + ((((1 : Int32).toInt64) * (hf.toInt64)) * (hf.toInt64)))), .second, .val (.int (cx &&& (hf - (1 : Int32)))), .val (.int cy), .val (.int hf), .val (.int (0 : Int32)), .val (.int (1 : Int32)), .val (.int (1 : Int32)), s10] [(.int (1 : Int32)), (.int hf), (.int cy)]))
          refine Go.via (fun t_ k_ => XS.isub Hj.here hx rfl (hb hby d1_116) rfl k_) ?_
          show Go _ _ _ _ (Tj.setTop (mkF m 117 #[.val (.int x), .val (.int y), .val (.long (P + ((((1 : Int32).toInt64) * (hf.toInt64)) * (hf.toInt64)))), .second, .val (.int (cx &&& (hf - (1 : Int32)))), .val (.int cy), .val (.int hf), .val (.int (0 : Int32)), .val (.int (1 : Int32)), .val (.int (1 : Int32)), s10] [(.int (hf - (1 : Int32))), (.int cy)]))
          refine Go.via (fun t_ k_ => XS.iand Hj.here hx rfl (hb hby d1_117) rfl k_) ?_
          show Go _ _ _ _ (Tj.setTop (mkF m 118 #[.val (.int x), .val (.int y), .val (.long (P + ((((1 : Int32).toInt64) * (hf.toInt64)) * (hf.toInt64)))), .second, .val (.int (cx &&& (hf - (1 : Int32)))), .val (.int cy), .val (.int hf), .val (.int (0 : Int32)), .val (.int (1 : Int32)), .val (.int (1 : Int32)), s10] [(.int (cy &&& (hf - (1 : Int32))))]))
          refine Go.via (fun t_ k_ => XS.istore Hj.here hx rfl (hb hby d1_118) rfl (l' := #[.val (.int x), .val (.int y), .val (.long (P + ((((1 : Int32).toInt64) * (hf.toInt64)) * (hf.toInt64)))), .second, .val (.int (cx &&& (hf - (1 : Int32)))), .val (.int (cy &&& (hf - (1 : Int32)))), .val (.int hf), .val (.int (0 : Int32)), .val (.int (1 : Int32)), .val (.int (1 : Int32)), s10]) rfl k_) ?_
          show Go _ _ _ _ (Tj.setTop (mkF m 120 #[.val (.int x), .val (.int y), .val (.long (P + ((((1 : Int32).toInt64) * (hf.toInt64)) * (hf.toInt64)))), .second, .val (.int (cx &&& (hf - (1 : Int32)))), .val (.int (cy &&& (hf - (1 : Int32)))), .val (.int hf), .val (.int (0 : Int32)), .val (.int (1 : Int32)), .val (.int (1 : Int32)), s10] []))
          refine Go.via (fun t_ k_ => XS.iload Hj.here hx rfl (hb hby d1_120) rfl k_) ?_
          show Go _ _ _ _ (Tj.setTop (mkF m 122 #[.val (.int x), .val (.int y), .val (.long (P + ((((1 : Int32).toInt64) * (hf.toInt64)) * (hf.toInt64)))), .second, .val (.int (cx &&& (hf - (1 : Int32)))), .val (.int (cy &&& (hf - (1 : Int32)))), .val (.int hf), .val (.int (0 : Int32)), .val (.int (1 : Int32)), .val (.int (1 : Int32)), s10] [(.int (1 : Int32))]))
          refine Go.via (fun t_ k_ => XS.ifYes Hj.here hx rfl (pc0 := 122) (pc' := 160) rfl (hb hby d1_122) rfl ((if0 _ _).trans (feq (show ¬ ((1 : Int32) = (0 : Int32)) from (by decide))).2) (by decide) (by decide) k_) ?_
          show Go _ _ _ _ (Tj.setTop (mkF m 160 #[.val (.int x), .val (.int y), .val (.long (P + ((((1 : Int32).toInt64) * (hf.toInt64)) * (hf.toInt64)))), .second, .val (.int (cx &&& (hf - (1 : Int32)))), .val (.int (cy &&& (hf - (1 : Int32)))), .val (.int hf), .val (.int (0 : Int32)), .val (.int (1 : Int32)), .val (.int (1 : Int32)), s10] []))
          refine Go.via (fun t_ k_ => XS.iload Hj.here hx rfl (hb hby d1_160) rfl k_) ?_
          show Go _ _ _ _ (Tj.setTop (mkF m 162 #[.val (.int x), .val (.int y), .val (.long (P + ((((1 : Int32).toInt64) * (hf.toInt64)) * (hf.toInt64)))), .second, .val (.int (cx &&& (hf - (1 : Int32)))), .val (.int (cy &&& (hf - (1 : Int32)))), .val (.int hf), .val (.int (0 : Int32)), .val (.int (1 : Int32)), .val (.int (1 : Int32)), s10] [(.int hf)]))
          refine Go.via (fun t_ k_ => XS.iconst Hj.here hx rfl (hb hby d1_162) k_) ?_
          show Go _ _ _ _ (Tj.setTop (mkF m 163 #[.val (.int x), .val (.int y), .val (.long (P + ((((1 : Int32).toInt64) * (hf.toInt64)) * (hf.toInt64)))), .second, .val (.int (cx &&& (hf - (1 : Int32)))), .val (.int (cy &&& (hf - (1 : Int32)))), .val (.int hf), .val (.int (0 : Int32)), .val (.int (1 : Int32)), .val (.int (1 : Int32)), s10] [(.int (2 : Int32)), (.int hf)]))
          refine Go.via (fun t_ k_ => XS.idiv Hj.here hx rfl (hb hby d1_163) rfl (by decide) k_) ?_
          show Go _ _ _ _ (Tj.setTop (mkF m 164 #[.val (.int x), .val (.int y), .val (.long (P + ((((1 : Int32).toInt64) * (hf.toInt64)) * (hf.toInt64)))), .second, .val (.int (cx &&& (hf - (1 : Int32)))), .val (.int (cy &&& (hf - (1 : Int32)))), .val (.int hf), .val (.int (0 : Int32)), .val (.int (1 : Int32)), .val (.int (1 : Int32)), s10] [(.int (hf / (2 : Int32)))]))
          refine Go.via (fun t_ k_ => XS.istore Hj.here hx rfl (hb hby d1_164) rfl (l' := #[.val (.int x), .val (.int y), .val (.long (P + ((((1 : Int32).toInt64) * (hf.toInt64)) * (hf.toInt64)))), .second, .val (.int (cx &&& (hf - (1 : Int32)))), .val (.int (cy &&& (hf - (1 : Int32)))), .val (.int (hf / (2 : Int32))), .val (.int (0 : Int32)), .val (.int (1 : Int32)), .val (.int (1 : Int32)), s10]) rfl k_) ?_
          show Go _ _ _ _ (Tj.setTop (mkF m 166 #[.val (.int x), .val (.int y), .val (.long (P + ((((1 : Int32).toInt64) * (hf.toInt64)) * (hf.toInt64)))), .second, .val (.int (cx &&& (hf - (1 : Int32)))), .val (.int (cy &&& (hf - (1 : Int32)))), .val (.int (hf / (2 : Int32))), .val (.int (0 : Int32)), .val (.int (1 : Int32)), .val (.int (1 : Int32)), s10] []))
          refine Go.via (fun t_ k_ => XS.goto Hj.here hx rfl (pc0 := 166) (pc' := 12) rfl (hb hby d1_166) (by decide) (by decide) k_) ?_
          show Go _ _ _ _ (Tj.setTop (mkF m 12 #[.val (.int x), .val (.int y), .val (.long (P + ((((1 : Int32).toInt64) * (hf.toInt64)) * (hf.toInt64)))), .second, .val (.int (cx &&& (hf - (1 : Int32)))), .val (.int (cy &&& (hf - (1 : Int32)))), .val (.int (hf / (2 : Int32))), .val (.int (0 : Int32)), .val (.int (1 : Int32)), .val (.int (1 : Int32)), s10] []))
          have b1 := (own_bit qcx qh hXX).mp hc22
          have b2 : ¬ YY < 2 ^ n := fun q => hc37 ((own_bit qcy qh hYY).mpr q)
          have e4 := own_low1 qcx qh hn15 b1
          have e5 := own_low2 qcy qh hn15 b2 hYY
          rw [hil_q1 b1 b2] at hT
          exact ih (S + 1 * sq n) XX (YY - 2 ^ n) _ _ _ _ _ _ _ _ Tj (by omega) (own_place qP (by decide) (by decide) qh hn15 hS) e4 e5 (own_half qh) (by omega) (by omega) (by omega) (One.val rfl) (One.val rfl) (One.val rfl) (o10) Hj
      · refine Go.via (fun t_ k_ => XS.ifNo Hj.here hx rfl (hb hby d1_22) rfl ((if0 _ _).trans (feq hc22).1) k_) ?_
        show Go _ _ _ _ (Tj.setTop (mkF m 25 #[.val (.int x), .val (.int y), .val (.long P), .second, .val (.int cx), .val (.int cy), .val (.int hf), s7, s8, s9, s10] []))
        refine Go.via (fun t_ k_ => XS.iconst Hj.here hx rfl (hb hby d1_25) k_) ?_
        show Go _ _ _ _ (Tj.setTop (mkF m 26 #[.val (.int x), .val (.int y), .val (.long P), .second, .val (.int cx), .val (.int cy), .val (.int hf), s7, s8, s9, s10] [(.int (1 : Int32))]))
        refine Go.via (fun t_ k_ => XS.goto Hj.here hx rfl (pc0 := 26) (pc' := 30) rfl (hb hby d1_26) (by decide) (by decide) k_) ?_
        show Go _ _ _ _ (Tj.setTop (mkF m 30 #[.val (.int x), .val (.int y), .val (.long P), .second, .val (.int cx), .val (.int cy), .val (.int hf), s7, s8, s9, s10] [(.int (1 : Int32))]))
        refine Go.via (fun t_ k_ => XS.istore Hj.here hx rfl (hb hby d1_30) rfl (l' := #[.val (.int x), .val (.int y), .val (.long P), .second, .val (.int cx), .val (.int cy), .val (.int hf), .val (.int (1 : Int32)), s8, s9, s10]) (Jvm.Free.XS.store1 rfl o7 rfl) k_) ?_
        show Go _ _ _ _ (Tj.setTop (mkF m 32 #[.val (.int x), .val (.int y), .val (.long P), .second, .val (.int cx), .val (.int cy), .val (.int hf), .val (.int (1 : Int32)), s8, s9, s10] []))
        refine Go.via (fun t_ k_ => XS.iload Hj.here hx rfl (hb hby d1_32) rfl k_) ?_
        show Go _ _ _ _ (Tj.setTop (mkF m 34 #[.val (.int x), .val (.int y), .val (.long P), .second, .val (.int cx), .val (.int cy), .val (.int hf), .val (.int (1 : Int32)), s8, s9, s10] [(.int cy)]))
        refine Go.via (fun t_ k_ => XS.iload Hj.here hx rfl (hb hby d1_34) rfl k_) ?_
        show Go _ _ _ _ (Tj.setTop (mkF m 36 #[.val (.int x), .val (.int y), .val (.long P), .second, .val (.int cx), .val (.int cy), .val (.int hf), .val (.int (1 : Int32)), s8, s9, s10] [(.int hf), (.int cy)]))
        refine Go.via (fun t_ k_ => XS.iand Hj.here hx rfl (hb hby d1_36) rfl k_) ?_
        show Go _ _ _ _ (Tj.setTop (mkF m 37 #[.val (.int x), .val (.int y), .val (.long P), .second, .val (.int cx), .val (.int cy), .val (.int hf), .val (.int (1 : Int32)), s8, s9, s10] [(.int (cy &&& hf))]))
        by_cases hc37 : (cy &&& hf) = (0 : Int32)
        · refine Go.via (fun t_ k_ => XS.ifYes Hj.here hx rfl (pc0 := 37) (pc' := 44) rfl (hb hby d1_37) rfl ((if0 _ _).trans (teq hc37).1) (by decide) (by decide) k_) ?_
          show Go _ _ _ _ (Tj.setTop (mkF m 44 #[.val (.int x), .val (.int y), .val (.long P), .second, .val (.int cx), .val (.int cy), .val (.int hf), .val (.int (1 : Int32)), s8, s9, s10] []))
          refine Go.via (fun t_ k_ => XS.iconst Hj.here hx rfl (hb hby d1_44) k_) ?_
          show Go _ _ _ _ (Tj.setTop (mkF m 45 #[.val (.int x), .val (.int y), .val (.long P), .second, .val (.int cx), .val (.int cy), .val (.int hf), .val (.int (1 : Int32)), s8, s9, s10] [(.int (0 : Int32))]))
          refine Go.via (fun t_ k_ => XS.istore Hj.here hx rfl (hb hby d1_45) rfl (l' := #[.val (.int x), .val (.int y), .val (.long P), .second, .val (.int cx), .val (.int cy), .val (.int hf), .val (.int (1 : Int32)), .val (.int (0 : Int32)), s9, s10]) (Jvm.Free.XS.store1 rfl o8 rfl) k_) ?_
          show Go _ _ _ _ (Tj.setTop (mkF m 47 #[.val (.int x), .val (.int y), .val (.long P), .second, .val (.int cx), .val (.int cy), .val (.int hf), .val (.int (1 : Int32)), .val (.int (0 : Int32)), s9, s10] []))
          refine Go.via (fun t_ k_ => XS.iload Hj.here hx rfl (hb hby d1_47) rfl k_) ?_
          show Go _ _ _ _ (Tj.setTop (mkF m 49 #[.val (.int x), .val (.int y), .val (.long P), .second, .val (.int cx), .val (.int cy), .val (.int hf), .val (.int (1 : Int32)), .val (.int (0 : Int32)), s9, s10] [(.int (1 : Int32))]))
          refine Go.via (fun t_ k_ => XS.ifYes Hj.here hx rfl (pc0 := 49) (pc' := 63) rfl (hb hby d1_49) rfl ((if0 _ _).trans (feq (show ¬ ((1 : Int32) = (0 : Int32)) from (by decide))).2) (by decide) (by decide) k_) ?_
          show Go _ _ _ _ (Tj.setTop (mkF m 63 #[.val (.int x), .val (.int y), .val (.long P), .second, .val (.int cx), .val (.int cy), .val (.int hf), .val (.int (1 : Int32)), .val (.int (0 : Int32)), s9, s10] []))
          refine Go.via (fun t_ k_ => XS.iload Hj.here hx rfl (hb hby d1_63) rfl k_) ?_
          show Go _ _ _ _ (Tj.setTop (mkF m 65 #[.val (.int x), .val (.int y), .val (.long P), .second, .val (.int cx), .val (.int cy), .val (.int hf), .val (.int (1 : Int32)), .val (.int (0 : Int32)), s9, s10] [(.int (1 : Int32))]))
          refine Go.via (fun t_ k_ => XS.ifYes Hj.here hx rfl (pc0 := 65) (pc' := 74) rfl (hb hby d1_65) rfl ((if0 _ _).trans (feq (show ¬ ((1 : Int32) = (0 : Int32)) from (by decide))).2) (by decide) (by decide) k_) ?_
          show Go _ _ _ _ (Tj.setTop (mkF m 74 #[.val (.int x), .val (.int y), .val (.long P), .second, .val (.int cx), .val (.int cy), .val (.int hf), .val (.int (1 : Int32)), .val (.int (0 : Int32)), s9, s10] []))
          refine Go.via (fun t_ k_ => XS.iload Hj.here hx rfl (hb hby d1_74) rfl k_) ?_
          show Go _ _ _ _ (Tj.setTop (mkF m 76 #[.val (.int x), .val (.int y), .val (.long P), .second, .val (.int cx), .val (.int cy), .val (.int hf), .val (.int (1 : Int32)), .val (.int (0 : Int32)), s9, s10] [(.int (0 : Int32))]))
          refine Go.via (fun t_ k_ => XS.ifYes Hj.here hx rfl (pc0 := 76) (pc' := 85) rfl (hb hby d1_76) rfl ((if0 _ _).trans (teq (show (0 : Int32) = (0 : Int32) from (by decide))).1) (by decide) (by decide) k_) ?_
          show Go _ _ _ _ (Tj.setTop (mkF m 85 #[.val (.int x), .val (.int y), .val (.long P), .second, .val (.int cx), .val (.int cy), .val (.int hf), .val (.int (1 : Int32)), .val (.int (0 : Int32)), s9, s10] []))
          refine Go.via (fun t_ k_ => XS.iconst Hj.here hx rfl (hb hby d1_85) k_) ?_
          show Go _ _ _ _ (Tj.setTop (mkF m 86 #[.val (.int x), .val (.int y), .val (.long P), .second, .val (.int cx), .val (.int cy), .val (.int hf), .val (.int (1 : Int32)), .val (.int (0 : Int32)), s9, s10] [(.int (3 : Int32))]))
          refine Go.via (fun t_ k_ => XS.istore Hj.here hx rfl (hb hby d1_86) rfl (l' := #[.val (.int x), .val (.int y), .val (.long P), .second, .val (.int cx), .val (.int cy), .val (.int hf), .val (.int (1 : Int32)), .val (.int (0 : Int32)), .val (.int (3 : Int32)), s10]) (Jvm.Free.XS.store1 rfl o9 rfl) k_) ?_
          show Go _ _ _ _ (Tj.setTop (mkF m 88 #[.val (.int x), .val (.int y), .val (.long P), .second, .val (.int cx), .val (.int cy), .val (.int hf), .val (.int (1 : Int32)), .val (.int (0 : Int32)), .val (.int (3 : Int32)), s10] []))
          refine Go.via (fun t_ k_ => XS.lloadN Hj.here hx rfl (hb hby d1_88) rfl k_) ?_
          show Go _ _ _ _ (Tj.setTop (mkF m 89 #[.val (.int x), .val (.int y), .val (.long P), .second, .val (.int cx), .val (.int cy), .val (.int hf), .val (.int (1 : Int32)), .val (.int (0 : Int32)), .val (.int (3 : Int32)), s10] [(.long P)]))
          refine Go.via (fun t_ k_ => XS.iload Hj.here hx rfl (hb hby d1_89) rfl k_) ?_
          show Go _ _ _ _ (Tj.setTop (mkF m 91 #[.val (.int x), .val (.int y), .val (.long P), .second, .val (.int cx), .val (.int cy), .val (.int hf), .val (.int (1 : Int32)), .val (.int (0 : Int32)), .val (.int (3 : Int32)), s10] [(.int (3 : Int32)), (.long P)]))
          refine Go.via (fun t_ k_ => XS.i2l Hj.here hx rfl (hb hby d1_91) rfl k_) ?_
          show Go _ _ _ _ (Tj.setTop (mkF m 92 #[.val (.int x), .val (.int y), .val (.long P), .second, .val (.int cx), .val (.int cy), .val (.int hf), .val (.int (1 : Int32)), .val (.int (0 : Int32)), .val (.int (3 : Int32)), s10] [(.long ((3 : Int32).toInt64)), (.long P)]))
          refine Go.via (fun t_ k_ => XS.iload Hj.here hx rfl (hb hby d1_92) rfl k_) ?_
          show Go _ _ _ _ (Tj.setTop (mkF m 94 #[.val (.int x), .val (.int y), .val (.long P), .second, .val (.int cx), .val (.int cy), .val (.int hf), .val (.int (1 : Int32)), .val (.int (0 : Int32)), .val (.int (3 : Int32)), s10] [(.int hf), (.long ((3 : Int32).toInt64)), (.long P)]))
          refine Go.via (fun t_ k_ => XS.i2l Hj.here hx rfl (hb hby d1_94) rfl k_) ?_
          show Go _ _ _ _ (Tj.setTop (mkF m 95 #[.val (.int x), .val (.int y), .val (.long P), .second, .val (.int cx), .val (.int cy), .val (.int hf), .val (.int (1 : Int32)), .val (.int (0 : Int32)), .val (.int (3 : Int32)), s10] [(.long (hf.toInt64)), (.long ((3 : Int32).toInt64)), (.long P)]))
          refine Go.via (fun t_ k_ => XS.lmul Hj.here hx rfl (hb hby d1_95) rfl k_) ?_
          show Go _ _ _ _ (Tj.setTop (mkF m 96 #[.val (.int x), .val (.int y), .val (.long P), .second, .val (.int cx), .val (.int cy), .val (.int hf), .val (.int (1 : Int32)), .val (.int (0 : Int32)), .val (.int (3 : Int32)), s10] [(.long (((3 : Int32).toInt64) * (hf.toInt64))), (.long P)]))
          refine Go.via (fun t_ k_ => XS.iload Hj.here hx rfl (hb hby d1_96) rfl k_) ?_
          show Go _ _ _ _ (Tj.setTop (mkF m 98 #[.val (.int x), .val (.int y), .val (.long P), .second, .val (.int cx), .val (.int cy), .val (.int hf), .val (.int (1 : Int32)), .val (.int (0 : Int32)), .val (.int (3 : Int32)), s10] [(.int hf), (.long (((3 : Int32).toInt64) * (hf.toInt64))), (.long P)]))
          refine Go.via (fun t_ k_ => XS.i2l Hj.here hx rfl (hb hby d1_98) rfl k_) ?_
          show Go _ _ _ _ (Tj.setTop (mkF m 99 #[.val (.int x), .val (.int y), .val (.long P), .second, .val (.int cx), .val (.int cy), .val (.int hf), .val (.int (1 : Int32)), .val (.int (0 : Int32)), .val (.int (3 : Int32)), s10] [(.long (hf.toInt64)), (.long (((3 : Int32).toInt64) * (hf.toInt64))), (.long P)]))
          refine Go.via (fun t_ k_ => XS.lmul Hj.here hx rfl (hb hby d1_99) rfl k_) ?_
          show Go _ _ _ _ (Tj.setTop (mkF m 100 #[.val (.int x), .val (.int y), .val (.long P), .second, .val (.int cx), .val (.int cy), .val (.int hf), .val (.int (1 : Int32)), .val (.int (0 : Int32)), .val (.int (3 : Int32)), s10] [(.long ((((3 : Int32).toInt64) * (hf.toInt64)) * (hf.toInt64))), (.long P)]))
          refine Go.via (fun t_ k_ => XS.ladd Hj.here hx rfl (hb hby d1_100) rfl k_) ?_
          show Go _ _ _ _ (Tj.setTop (mkF m 101 #[.val (.int x), .val (.int y), .val (.long P), .second, .val (.int cx), .val (.int cy), .val (.int hf), .val (.int (1 : Int32)), .val (.int (0 : Int32)), .val (.int (3 : Int32)), s10] [(.long (P + ((((3 : Int32).toInt64) * (hf.toInt64)) * (hf.toInt64))))]))
          refine Go.via (fun t_ k_ => XS.lstoreN Hj.here hx rfl (hb hby d1_101) rfl (l' := #[.val (.int x), .val (.int y), .val (.long (P + ((((3 : Int32).toInt64) * (hf.toInt64)) * (hf.toInt64)))), .second, .val (.int cx), .val (.int cy), .val (.int hf), .val (.int (1 : Int32)), .val (.int (0 : Int32)), .val (.int (3 : Int32)), s10]) rfl k_) ?_
          show Go _ _ _ _ (Tj.setTop (mkF m 102 #[.val (.int x), .val (.int y), .val (.long (P + ((((3 : Int32).toInt64) * (hf.toInt64)) * (hf.toInt64)))), .second, .val (.int cx), .val (.int cy), .val (.int hf), .val (.int (1 : Int32)), .val (.int (0 : Int32)), .val (.int (3 : Int32)), s10] []))
          refine Go.via (fun t_ k_ => XS.iload Hj.here hx rfl (hb hby d1_102) rfl k_) ?_
          show Go _ _ _ _ (Tj.setTop (mkF m 104 #[.val (.int x), .val (.int y), .val (.long (P + ((((3 : Int32).toInt64) * (hf.toInt64)) * (hf.toInt64)))), .second, .val (.int cx), .val (.int cy), .val (.int hf), .val (.int (1 : Int32)), .val (.int (0 : Int32)), .val (.int (3 : Int32)), s10] [(.int cx)]))
          refine Go.via (fun t_ k_ => XS.iload Hj.here hx rfl (hb hby d1_104) rfl k_) ?_
          show Go _ _ _ _ (Tj.setTop (mkF m 106 #[.val (.int x), .val (.int y), .val (.long (P + ((((3 : Int32).toInt64) * (hf.toInt64)) * (hf.toInt64)))), .second, .val (.int cx), .val (.int cy), .val (.int hf), .val (.int (1 : Int32)), .val (.int (0 : Int32)), .val (.int (3 : Int32)), s10] [(.int hf), (.int cx)]))
          refine Go.via (fun t_ k_ => XS.iconst Hj.here hx rfl (hb hby d1_106) k_) ?_
          show Go _ _ _ _ (Tj.setTop (mkF m 107 #[.val (.int x), .val (.int y), .val (.long (P + ((((3 : Int32).toInt64) * (hf.toInt64)) * (hf.toInt64)))), .second, .val (.int cx), .val (.int cy), .val (.int hf), .val (.int (1 : Int32)), .val (.int (0 : Int32)), .val (.int (3 : Int32)), s10] [(.int (1 : Int32)), (.int hf), (.int cx)]))
          refine Go.via (fun t_ k_ => XS.isub Hj.here hx rfl (hb hby d1_107) rfl k_) ?_
          show Go _ _ _ _ (Tj.setTop (mkF m 108 #[.val (.int x), .val (.int y), .val (.long (P + ((((3 : Int32).toInt64) * (hf.toInt64)) * (hf.toInt64)))), .second, .val (.int cx), .val (.int cy), .val (.int hf), .val (.int (1 : Int32)), .val (.int (0 : Int32)), .val (.int (3 : Int32)), s10] [(.int (hf - (1 : Int32))), (.int cx)]))
          refine Go.via (fun t_ k_ => XS.iand Hj.here hx rfl (hb hby d1_108) rfl k_) ?_
          show Go _ _ _ _ (Tj.setTop (mkF m 109 #[.val (.int x), .val (.int y), .val (.long (P + ((((3 : Int32).toInt64) * (hf.toInt64)) * (hf.toInt64)))), .second, .val (.int cx), .val (.int cy), .val (.int hf), .val (.int (1 : Int32)), .val (.int (0 : Int32)), .val (.int (3 : Int32)), s10] [(.int (cx &&& (hf - (1 : Int32))))]))
          refine Go.via (fun t_ k_ => XS.istore Hj.here hx rfl (hb hby d1_109) rfl (l' := #[.val (.int x), .val (.int y), .val (.long (P + ((((3 : Int32).toInt64) * (hf.toInt64)) * (hf.toInt64)))), .second, .val (.int (cx &&& (hf - (1 : Int32)))), .val (.int cy), .val (.int hf), .val (.int (1 : Int32)), .val (.int (0 : Int32)), .val (.int (3 : Int32)), s10]) rfl k_) ?_
          show Go _ _ _ _ (Tj.setTop (mkF m 111 #[.val (.int x), .val (.int y), .val (.long (P + ((((3 : Int32).toInt64) * (hf.toInt64)) * (hf.toInt64)))), .second, .val (.int (cx &&& (hf - (1 : Int32)))), .val (.int cy), .val (.int hf), .val (.int (1 : Int32)), .val (.int (0 : Int32)), .val (.int (3 : Int32)), s10] []))
          refine Go.via (fun t_ k_ => XS.iload Hj.here hx rfl (hb hby d1_111) rfl k_) ?_
          show Go _ _ _ _ (Tj.setTop (mkF m 113 #[.val (.int x), .val (.int y), .val (.long (P + ((((3 : Int32).toInt64) * (hf.toInt64)) * (hf.toInt64)))), .second, .val (.int (cx &&& (hf - (1 : Int32)))), .val (.int cy), .val (.int hf), .val (.int (1 : Int32)), .val (.int (0 : Int32)), .val (.int (3 : Int32)), s10] [(.int cy)]))
          refine Go.via (fun t_ k_ => XS.iload Hj.here hx rfl (hb hby d1_113) rfl k_) ?_
          show Go _ _ _ _ (Tj.setTop (mkF m 115 #[.val (.int x), .val (.int y), .val (.long (P + ((((3 : Int32).toInt64) * (hf.toInt64)) * (hf.toInt64)))), .second, .val (.int (cx &&& (hf - (1 : Int32)))), .val (.int cy), .val (.int hf), .val (.int (1 : Int32)), .val (.int (0 : Int32)), .val (.int (3 : Int32)), s10] [(.int hf), (.int cy)]))
          refine Go.via (fun t_ k_ => XS.iconst Hj.here hx rfl (hb hby d1_115) k_) ?_
          show Go _ _ _ _ (Tj.setTop (mkF m 116 #[.val (.int x), .val (.int y), .val (.long (P + ((((3 : Int32).toInt64) * (hf.toInt64)) * (hf.toInt64)))), .second, .val (.int (cx &&& (hf - (1 : Int32)))), .val (.int cy), .val (.int hf), .val (.int (1 : Int32)), .val (.int (0 : Int32)), .val (.int (3 : Int32)), s10] [(.int (1 : Int32)), (.int hf), (.int cy)]))
          refine Go.via (fun t_ k_ => XS.isub Hj.here hx rfl (hb hby d1_116) rfl k_) ?_
          show Go _ _ _ _ (Tj.setTop (mkF m 117 #[.val (.int x), .val (.int y), .val (.long (P + ((((3 : Int32).toInt64) * (hf.toInt64)) * (hf.toInt64)))), .second, .val (.int (cx &&& (hf - (1 : Int32)))), .val (.int cy), .val (.int hf), .val (.int (1 : Int32)), .val (.int (0 : Int32)), .val (.int (3 : Int32)), s10] [(.int (hf - (1 : Int32))), (.int cy)]))
          refine Go.via (fun t_ k_ => XS.iand Hj.here hx rfl (hb hby d1_117) rfl k_) ?_
          show Go _ _ _ _ (Tj.setTop (mkF m 118 #[.val (.int x), .val (.int y), .val (.long (P + ((((3 : Int32).toInt64) * (hf.toInt64)) * (hf.toInt64)))), .second, .val (.int (cx &&& (hf - (1 : Int32)))), .val (.int cy), .val (.int hf), .val (.int (1 : Int32)), .val (.int (0 : Int32)), .val (.int (3 : Int32)), s10] [(.int (cy &&& (hf - (1 : Int32))))]))
          refine Go.via (fun t_ k_ => XS.istore Hj.here hx rfl (hb hby d1_118) rfl (l' := #[.val (.int x), .val (.int y), .val (.long (P + ((((3 : Int32).toInt64) * (hf.toInt64)) * (hf.toInt64)))), .second, .val (.int (cx &&& (hf - (1 : Int32)))), .val (.int (cy &&& (hf - (1 : Int32)))), .val (.int hf), .val (.int (1 : Int32)), .val (.int (0 : Int32)), .val (.int (3 : Int32)), s10]) rfl k_) ?_
          show Go _ _ _ _ (Tj.setTop (mkF m 120 #[.val (.int x), .val (.int y), .val (.long (P + ((((3 : Int32).toInt64) * (hf.toInt64)) * (hf.toInt64)))), .second, .val (.int (cx &&& (hf - (1 : Int32)))), .val (.int (cy &&& (hf - (1 : Int32)))), .val (.int hf), .val (.int (1 : Int32)), .val (.int (0 : Int32)), .val (.int (3 : Int32)), s10] []))
          refine Go.via (fun t_ k_ => XS.iload Hj.here hx rfl (hb hby d1_120) rfl k_) ?_
          show Go _ _ _ _ (Tj.setTop (mkF m 122 #[.val (.int x), .val (.int y), .val (.long (P + ((((3 : Int32).toInt64) * (hf.toInt64)) * (hf.toInt64)))), .second, .val (.int (cx &&& (hf - (1 : Int32)))), .val (.int (cy &&& (hf - (1 : Int32)))), .val (.int hf), .val (.int (1 : Int32)), .val (.int (0 : Int32)), .val (.int (3 : Int32)), s10] [(.int (0 : Int32))]))
          refine Go.via (fun t_ k_ => XS.ifNo Hj.here hx rfl (hb hby d1_122) rfl ((if0 _ _).trans (teq (show (0 : Int32) = (0 : Int32) from (by decide))).2) k_) ?_
          show Go _ _ _ _ (Tj.setTop (mkF m 125 #[.val (.int x), .val (.int y), .val (.long (P + ((((3 : Int32).toInt64) * (hf.toInt64)) * (hf.toInt64)))), .second, .val (.int (cx &&& (hf - (1 : Int32)))), .val (.int (cy &&& (hf - (1 : Int32)))), .val (.int hf), .val (.int (1 : Int32)), .val (.int (0 : Int32)), .val (.int (3 : Int32)), s10] []))
          refine Go.via (fun t_ k_ => XS.iload Hj.here hx rfl (hb hby d1_125) rfl k_) ?_
          show Go _ _ _ _ (Tj.setTop (mkF m 127 #[.val (.int x), .val (.int y), .val (.long (P + ((((3 : Int32).toInt64) * (hf.toInt64)) * (hf.toInt64)))), .second, .val (.int (cx &&& (hf - (1 : Int32)))), .val (.int (cy &&& (hf - (1 : Int32)))), .val (.int hf), .val (.int (1 : Int32)), .val (.int (0 : Int32)), .val (.int (3 : Int32)), s10] [(.int (1 : Int32))]))
          refine Go.via (fun t_ k_ => XS.ifNo Hj.here hx rfl (hb hby d1_127) rfl ((if0 _ _).trans (feq (show ¬ ((1 : Int32) = (0 : Int32)) from (by decide))).1) k_) ?_
          show Go _ _ _ _ (Tj.setTop (mkF m 130 #[.val (.int x), .val (.int y), .val (.long (P + ((((3 : Int32).toInt64) * (hf.toInt64)) * (hf.toInt64)))), .second, .val (.int (cx &&& (hf - (1 : Int32)))), .val (.int (cy &&& (hf - (1 : Int32)))), .val (.int hf), .val (.int (1 : Int32)), .val (.int (0 : Int32)), .val (.int (3 : Int32)), s10] []))
          refine Go.via (fun t_ k_ => XS.iload Hj.here hx rfl (hb hby d1_130) rfl k_) ?_
          show Go _ _ _ _ (Tj.setTop (mkF m 132 #[.val (.int x), .val (.int y), .val (.long (P + ((((3 : Int32).toInt64) * (hf.toInt64)) * (hf.toInt64)))), .second, .val (.int (cx &&& (hf - (1 : Int32)))), .val (.int (cy &&& (hf - (1 : Int32)))), .val (.int hf), .val (.int (1 : Int32)), .val (.int (0 : Int32)), .val (.int (3 : Int32)), s10] [(.int hf)]))
          refine Go.via (fun t_ k_ => XS.iconst Hj.here hx rfl (hb hby d1_132) k_) ?_
          show Go _ _ _ _ (Tj.setTop (mkF m 133 #[.val (.int x), .val (.int y), .val (.long (P + ((((3 : Int32).toInt64) * (hf.toInt64)) * (hf.toInt64)))), .second, .val (.int (cx &&& (hf - (1 : Int32)))), .val (.int (cy &&& (hf - (1 : Int32)))), .val (.int hf), .val (.int (1 : Int32)), .val (.int (0 : Int32)), .val (.int (3 : Int32)), s10] [(.int (1 : Int32)), (.int hf)]))
          refine Go.via (fun t_ k_ => XS.isub Hj.here hx rfl (hb hby d1_133) rfl k_) ?_
          show Go _ _ _ _ (Tj.setTop (mkF m 134 #[.val (.int x), .val (.int y), .val (.long (P + ((((3 : Int32).toInt64) * (hf.toInt64)) * (hf.toInt64)))), .second, .val (.int (cx &&& (hf - (1 : Int32)))), .val (.int (cy &&& (hf - (1 : Int32)))), .val (.int hf), .val (.int (1 : Int32)), .val (.int (0 : Int32)), .val (.int (3 : Int32)), s10] [(.int (hf - (1 : Int32)))]))
          refine Go.via (fun t_ k_ => XS.iload Hj.here hx rfl (hb hby d1_134) rfl k_) ?_
          show Go _ _ _ _ (Tj.setTop (mkF m 136 #[.val (.int x), .val (.int y), .val (.long (P + ((((3 : Int32).toInt64) * (hf.toInt64)) * (hf.toInt64)))), .second, .val (.int (cx &&& (hf - (1 : Int32)))), .val (.int (cy &&& (hf - (1 : Int32)))), .val (.int hf), .val (.int (1 : Int32)), .val (.int (0 : Int32)), .val (.int (3 : Int32)), s10] [(.int (cx &&& (hf - (1 : Int32)))), (.int (hf - (1 : Int32)))]))
          refine Go.via (fun t_ k_ => XS.isub Hj.here hx rfl (hb hby d1_136) rfl k_) ?_
          show Go _ _ _ _ (Tj.setTop (mkF m 137 #[.val (.int x), .val (.int y), .val (.long (P + ((((3 : Int32).toInt64) * (hf.toInt64)) * (hf.toInt64)))), .second, .val (.int (cx &&& (hf - (1 : Int32)))), .val (.int (cy &&& (hf - (1 : Int32)))), .val (.int hf), .val (.int (1 : Int32)), .val (.int (0 : Int32)), .val (.int (3 : Int32)), s10] [(.int ((hf - (1 : Int32)) - (cx &&& (hf - (1 : Int32)))))]))
          refine Go.via (fun t_ k_ => XS.istore Hj.here hx rfl (hb hby d1_137) rfl (l' := #[.val (.int x), .val (.int y), .val (.long (P + ((((3 : Int32).toInt64) * (hf.toInt64)) * (hf.toInt64)))), .second, .val (.int ((hf - (1 : Int32)) - (cx &&& (hf - (1 : Int32))))), .val (.int (cy &&& (hf - (1 : Int32)))), .val (.int hf), .val (.int (1 : Int32)), .val (.int (0 : Int32)), .val (.int (3 : Int32)), s10]) rfl k_) ?_
          show Go _ _ _ _ (Tj.setTop (mkF m 139 #[.val (.int x), .val (.int y), .val (.long (P + ((((3 : Int32).toInt64) * (hf.toInt64)) * (hf.toInt64)))), .second, .val (.int ((hf - (1 : Int32)) - (cx &&& (hf - (1 : Int32))))), .val (.int (cy &&& (hf - (1 : Int32)))), .val (.int hf), .val (.int (1 : Int32)), .val (.int (0 : Int32)), .val (.int (3 : Int32)), s10] []))
          refine Go.via (fun t_ k_ => XS.iload Hj.here hx rfl (hb hby d1_139) rfl k_) ?_
          show Go _ _ _ _ (Tj.setTop (mkF m 141 #[.val (.int x), .val (.int y), .val (.long (P + ((((3 : Int32).toInt64) * (hf.toInt64)) * (hf.toInt64)))), .second, .val (.int ((hf - (1 : Int32)) - (cx &&& (hf - (1 : Int32))))), .val (.int (cy &&& (hf - (1 : Int32)))), .val (.int hf), .val (.int (1 : Int32)), .val (.int (0 : Int32)), .val (.int (3 : Int32)), s10] [(.int hf)]))
          refine Go.via (fun t_ k_ => XS.iconst Hj.here hx rfl (hb hby d1_141) k_) ?_
          show Go _ _ _ _ (Tj.setTop (mkF m 142 #[.val (.int x), .val (.int y), .val (.long (P + ((((3 : Int32).toInt64) * (hf.toInt64)) * (hf.toInt64)))), .second, .val (.int ((hf - (1 : Int32)) - (cx &&& (hf - (1 : Int32))))), .val (.int (cy &&& (hf - (1 : Int32)))), .val (.int hf), .val (.int (1 : Int32)), .val (.int (0 : Int32)), .val (.int (3 : Int32)), s10] [(.int (1 : Int32)), (.int hf)]))
          refine Go.via (fun t_ k_ => XS.isub Hj.here hx rfl (hb hby d1_142) rfl k_) ?_
          show Go _ _ _ _ (Tj.setTop (mkF m 143 #[.val (.int x), .val (.int y), .val (.long (P + ((((3 : Int32).toInt64) * (hf.toInt64)) * (hf.toInt64)))), .second, .val (.int ((hf - (1 : Int32)) - (cx &&& (hf - (1 : Int32))))), .val (.int (cy &&& (hf - (1 : Int32)))), .val (.int hf), .val (.int (1 : Int32)), .val (.int (0 : Int32)), .val (.int (3 : Int32)), s10] [(.int (hf - (1 : Int32)))]))
          refine Go.via (fun t_ k_ => XS.iload Hj.here hx rfl (hb hby d1_143) rfl k_) ?_
          show Go _ _ _ _ (Tj.setTop (mkF m 145 #[.val (.int x), .val (.int y), .val (.long (P + ((((3 : Int32).toInt64) * (hf.toInt64)) * (hf.toInt64)))), .second, .val (.int ((hf - (1 : Int32)) - (cx &&& (hf - (1 : Int32))))), .val (.int (cy &&& (hf - (1 : Int32)))), .val (.int hf), .val (.int (1 : Int32)), .val (.int (0 : Int32)), .val (.int (3 : Int32)), s10] [(.int (cy &&& (hf - (1 : Int32)))), (.int (hf - (1 : Int32)))]))
          refine Go.via (fun t_ k_ => XS.isub Hj.here hx rfl (hb hby d1_145) rfl k_) ?_
          show Go _ _ _ _ (Tj.setTop (mkF m 146 #[.val (.int x), .val (.int y), .val (.long (P + ((((3 : Int32).toInt64) * (hf.toInt64)) * (hf.toInt64)))), .second, .val (.int ((hf - (1 : Int32)) - (cx &&& (hf - (1 : Int32))))), .val (.int (cy &&& (hf - (1 : Int32)))), .val (.int hf), .val (.int (1 : Int32)), .val (.int (0 : Int32)), .val (.int (3 : Int32)), s10] [(.int ((hf - (1 : Int32)) - (cy &&& (hf - (1 : Int32)))))]))
          refine Go.via (fun t_ k_ => XS.istore Hj.here hx rfl (hb hby d1_146) rfl (l' := #[.val (.int x), .val (.int y), .val (.long (P + ((((3 : Int32).toInt64) * (hf.toInt64)) * (hf.toInt64)))), .second, .val (.int ((hf - (1 : Int32)) - (cx &&& (hf - (1 : Int32))))), .val (.int ((hf - (1 : Int32)) - (cy &&& (hf - (1 : Int32))))), .val (.int hf), .val (.int (1 : Int32)), .val (.int (0 : Int32)), .val (.int (3 : Int32)), s10]) rfl k_) ?_
          show Go _ _ _ _ (Tj.setTop (mkF m 148 #[.val (.int x), .val (.int y), .val (.long (P + ((((3 : Int32).toInt64) * (hf.toInt64)) * (hf.toInt64)))), .second, .val (.int ((hf - (1 : Int32)) - (cx &&& (hf - (1 : Int32))))), .val (.int ((hf - (1 : Int32)) - (cy &&& (hf - (1 : Int32))))), .val (.int hf), .val (.int (1 : Int32)), .val (.int (0 : Int32)), .val (.int (3 : Int32)), s10] []))
          refine Go.via (fun t_ k_ => XS.iload Hj.here hx rfl (hb hby d1_148) rfl k_) ?_
          show Go _ _ _ _ (Tj.setTop (mkF m 150 #[.val (.int x), .val (.int y), .val (.long (P + ((((3 : Int32).toInt64) * (hf.toInt64)) * (hf.toInt64)))), .second, .val (.int ((hf - (1 : Int32)) - (cx &&& (hf - (1 : Int32))))), .val (.int ((hf - (1 : Int32)) - (cy &&& (hf - (1 : Int32))))), .val (.int hf), .val (.int (1 : Int32)), .val (.int (0 : Int32)), .val (.int (3 : Int32)), s10] [(.int ((hf - (1 : Int32)) - (cx &&& (hf - (1 : Int32)))))]))
          refine Go.via (fun t_ k_ => XS.istore Hj.here hx rfl (hb hby d1_150) rfl (l' := #[.val (.int x), .val (.int y), .val (.long (P + ((((3 : Int32).toInt64) * (hf.toInt64)) * (hf.toInt64)))), .second, .val (.int ((hf - (1 : Int32)) - (cx &&& (hf - (1 : Int32))))), .val (.int ((hf - (1 : Int32)) - (cy &&& (hf - (1 : Int32))))), .val (.int hf), .val (.int (1 : Int32)), .val (.int (0 : Int32)), .val (.int (3 : Int32)), .val (.int ((hf - (1 : Int32)) - (cx &&& (hf - (1 : Int32)))))]) (Jvm.Free.XS.store1 rfl o10 rfl) k_) ?_
          show Go _ _ _ _ (Tj.setTop (mkF m 152 #[.val (.int x), .val (.int y), .val (.long (P + ((((3 : Int32).toInt64) * (hf.toInt64)) * (hf.toInt64)))), .second, .val (.int ((hf - (1 : Int32)) - (cx &&& (hf - (1 : Int32))))), .val (.int ((hf - (1 : Int32)) - (cy &&& (hf - (1 : Int32))))), .val (.int hf), .val (.int (1 : Int32)), .val (.int (0 : Int32)), .val (.int (3 : Int32)), .val (.int ((hf - (1 : Int32)) - (cx &&& (hf - (1 : Int32)))))] []))
          refine Go.via (fun t_ k_ => XS.iload Hj.here hx rfl (hb hby d1_152) rfl k_) ?_
          show Go _ _ _ _ (Tj.setTop (mkF m 154 #[.val (.int x), .val (.int y), .val (.long (P + ((((3 : Int32).toInt64) * (hf.toInt64)) * (hf.toInt64)))), .second, .val (.int ((hf - (1 : Int32)) - (cx &&& (hf - (1 : Int32))))), .val (.int ((hf - (1 : Int32)) - (cy &&& (hf - (1 : Int32))))), .val (.int hf), .val (.int (1 : Int32)), .val (.int (0 : Int32)), .val (.int (3 : Int32)), .val (.int ((hf - (1 : Int32)) - (cx &&& (hf - (1 : Int32)))))] [(.int ((hf - (1 : Int32)) - (cy &&& (hf - (1 : Int32)))))]))
          refine Go.via (fun t_ k_ => XS.istore Hj.here hx rfl (hb hby d1_154) rfl (l' := #[.val (.int x), .val (.int y), .val (.long (P + ((((3 : Int32).toInt64) * (hf.toInt64)) * (hf.toInt64)))), .second, .val (.int ((hf - (1 : Int32)) - (cy &&& (hf - (1 : Int32))))), .val (.int ((hf - (1 : Int32)) - (cy &&& (hf - (1 : Int32))))), .val (.int hf), .val (.int (1 : Int32)), .val (.int (0 : Int32)), .val (.int (3 : Int32)), .val (.int ((hf - (1 : Int32)) - (cx &&& (hf - (1 : Int32)))))]) rfl k_) ?_
          show Go _ _ _ _ (Tj.setTop (mkF m 156 #[.val (.int x), .val (.int y), .val (.long (P + ((((3 : Int32).toInt64) * (hf.toInt64)) * (hf.toInt64)))), .second, .val (.int ((hf - (1 : Int32)) - (cy &&& (hf - (1 : Int32))))), .val (.int ((hf - (1 : Int32)) - (cy &&& (hf - (1 : Int32))))), .val (.int hf), .val (.int (1 : Int32)), .val (.int (0 : Int32)), .val (.int (3 : Int32)), .val (.int ((hf - (1 : Int32)) - (cx &&& (hf - (1 : Int32)))))] []))
          refine Go.via (fun t_ k_ => XS.iload Hj.here hx rfl (hb hby d1_156) rfl k_) ?_
          show Go _ _ _ _ (Tj.setTop (mkF m 158 #[.val (.int x), .val (.int y), .val (.long (P + ((((3 : Int32).toInt64) * (hf.toInt64)) * (hf.toInt64)))), .second, .val (.int ((hf - (1 : Int32)) - (cy &&& (hf - (1 : Int32))))), .val (.int ((hf - (1 : Int32)) - (cy &&& (hf - (1 : Int32))))), .val (.int hf), .val (.int (1 : Int32)), .val (.int (0 : Int32)), .val (.int (3 : Int32)), .val (.int ((hf - (1 : Int32)) - (cx &&& (hf - (1 : Int32)))))] [(.int ((hf - (1 : Int32)) - (cx &&& (hf - (1 : Int32)))))]))
          refine Go.via (fun t_ k_ => XS.istore Hj.here hx rfl (hb hby d1_158) rfl (l' := #[.val (.int x), .val (.int y), .val (.long (P + ((((3 : Int32).toInt64) * (hf.toInt64)) * (hf.toInt64)))), .second, .val (.int ((hf - (1 : Int32)) - (cy &&& (hf - (1 : Int32))))), .val (.int ((hf - (1 : Int32)) - (cx &&& (hf - (1 : Int32))))), .val (.int hf), .val (.int (1 : Int32)), .val (.int (0 : Int32)), .val (.int (3 : Int32)), .val (.int ((hf - (1 : Int32)) - (cx &&& (hf - (1 : Int32)))))]) rfl k_) ?_
          show Go _ _ _ _ (Tj.setTop (mkF m 160 #[.val (.int x), .val (.int y), .val (.long (P + ((((3 : Int32).toInt64) * (hf.toInt64)) * (hf.toInt64)))), .second, .val (.int ((hf - (1 : Int32)) - (cy &&& (hf - (1 : Int32))))), .val (.int ((hf - (1 : Int32)) - (cx &&& (hf - (1 : Int32))))), .val (.int hf), .val (.int (1 : Int32)), .val (.int (0 : Int32)), .val (.int (3 : Int32)), .val (.int ((hf - (1 : Int32)) - (cx &&& (hf - (1 : Int32)))))] []))
          refine Go.via (fun t_ k_ => XS.iload Hj.here hx rfl (hb hby d1_160) rfl k_) ?_
          show Go _ _ _ _ (Tj.setTop (mkF m 162 #[.val (.int x), .val (.int y), .val (.long (P + ((((3 : Int32).toInt64) * (hf.toInt64)) * (hf.toInt64)))), .second, .val (.int ((hf - (1 : Int32)) - (cy &&& (hf - (1 : Int32))))), .val (.int ((hf - (1 : Int32)) - (cx &&& (hf - (1 : Int32))))), .val (.int hf), .val (.int (1 : Int32)), .val (.int (0 : Int32)), .val (.int (3 : Int32)), .val (.int ((hf - (1 : Int32)) - (cx &&& (hf - (1 : Int32)))))] [(.int hf)]))
          refine Go.via (fun t_ k_ => XS.iconst Hj.here hx rfl (hb hby d1_162) k_) ?_
          show Go _ _ _ _ (Tj.setTop (mkF m 163 #[.val (.int x), .val (.int y), .val (.long (P + ((((3 : Int32).toInt64) * (hf.toInt64)) * (hf.toInt64)))), .second, .val (.int ((hf - (1 : Int32)) - (cy &&& (hf - (1 : Int32))))), .val (.int ((hf - (1 : Int32)) - (cx &&& (hf - (1 : Int32))))), .val (.int hf), .val (.int (1 : Int32)), .val (.int (0 : Int32)), .val (.int (3 : Int32)), .val (.int ((hf - (1 : Int32)) - (cx &&& (hf - (1 : Int32)))))] [(.int (2 : Int32)), (.int hf)]))
          refine Go.via (fun t_ k_ => XS.idiv Hj.here hx rfl (hb hby d1_163) rfl (by decide) k_) ?_
          show Go _ _ _ _ (Tj.setTop (mkF m 164 #[.val (.int x), .val (.int y), .val (.long (P + ((((3 : Int32).toInt64) * (hf.toInt64)) * (hf.toInt64)))), .second, .val (.int ((hf - (1 : Int32)) - (cy &&& (hf - (1 : Int32))))), .val (.int ((hf - (1 : Int32)) - (cx &&& (hf - (1 : Int32))))), .val (.int hf), .val (.int (1 : Int32)), .val (.int (0 : Int32)), .val (.int (3 : Int32)), .val (.int ((hf - (1 : Int32)) - (cx &&& (hf - (1 : Int32)))))] [(.int (hf / (2 : Int32)))]))
          refine Go.via (fun t_ k_ => XS.istore Hj.here hx rfl (hb hby d1_164) rfl (l' := #[.val (.int x), .val (.int y), .val (.long (P + ((((3 : Int32).toInt64) * (hf.toInt64)) * (hf.toInt64)))), .second, .val (.int ((hf - (1 : Int32)) - (cy &&& (hf - (1 : Int32))))), .val (.int ((hf - (1 : Int32)) - (cx &&& (hf - (1 : Int32))))), .val (.int (hf / (2 : Int32))), .val (.int (1 : Int32)), .val (.int (0 : Int32)), .val (.int (3 : Int32)), .val (.int ((hf - (1 : Int32)) - (cx &&& (hf - (1 : Int32)))))]) rfl k_) ?_
          show Go _ _ _ _ (Tj.setTop (mkF m 166 #[.val (.int x), .val (.int y), .val (.long (P + ((((3 : Int32).toInt64) * (hf.toInt64)) * (hf.toInt64)))), .second, .val (.int ((hf - (1 : Int32)) - (cy &&& (hf - (1 : Int32))))), .val (.int ((hf - (1 : Int32)) - (cx &&& (hf - (1 : Int32))))), .val (.int (hf / (2 : Int32))), .val (.int (1 : Int32)), .val (.int (0 : Int32)), .val (.int (3 : Int32)), .val (.int ((hf - (1 : Int32)) - (cx &&& (hf - (1 : Int32)))))] []))
          refine Go.via (fun t_ k_ => XS.goto Hj.here hx rfl (pc0 := 166) (pc' := 12) rfl (hb hby d1_166) (by decide) (by decide) k_) ?_
          show Go _ _ _ _ (Tj.setTop (mkF m 12 #[.val (.int x), .val (.int y), .val (.long (P + ((((3 : Int32).toInt64) * (hf.toInt64)) * (hf.toInt64)))), .second, .val (.int ((hf - (1 : Int32)) - (cy &&& (hf - (1 : Int32))))), .val (.int ((hf - (1 : Int32)) - (cx &&& (hf - (1 : Int32))))), .val (.int (hf / (2 : Int32))), .val (.int (1 : Int32)), .val (.int (0 : Int32)), .val (.int (3 : Int32)), .val (.int ((hf - (1 : Int32)) - (cx &&& (hf - (1 : Int32)))))] []))
          have b1 : ¬ XX < 2 ^ n := fun q => hc22 ((own_bit qcx qh hXX).mpr q)
          have b2 := (own_bit qcy qh hYY).mp hc37
          have e4 := own_low2 qcx qh hn15 b1 hXX
          have e5 := own_low1 qcy qh hn15 b2
          rw [hil_q3 b1 b2] at hT
          exact ih (S + 3 * sq n) (2 ^ n - 1 - YY) (2 ^ n - 1 - (XX - 2 ^ n)) _ _ _ _ _ _ _ _ Tj (by omega) (own_place qP (by decide) (by decide) qh hn15 hS) (own_neg e5 qh hn15 b2) (own_neg e4 qh hn15 (by omega)) (own_half qh) (by omega) (by omega) (by omega) (One.val rfl) (One.val rfl) (One.val rfl) (One.val rfl) Hj
        · refine Go.via (fun t_ k_ => XS.ifNo Hj.here hx rfl (hb hby d1_37) rfl ((if0 _ _).trans (feq hc37).1) k_) ?_
          show Go _ _ _ _ (Tj.setTop (mkF m 40 #[.val (.int x), .val (.int y), .val (.long P), .second, .val (.int cx), .val (.int cy), .val (.int hf), .val (.int (1 : Int32)), s8, s9, s10] []))
          refine Go.via (fun t_ k_ => XS.iconst Hj.here hx rfl (hb hby d1_40) k_) ?_
          show Go _ _ _ _ (Tj.setTop (mkF m 41 #[.val (.int x), .val (.int y), .val (.long P), .second, .val (.int cx), .val (.int cy), .val (.int hf), .val (.int (1 : Int32)), s8, s9, s10] [(.int (1 : Int32))]))
          refine Go.via (fun t_ k_ => XS.goto Hj.here hx rfl (pc0 := 41) (pc' := 45) rfl (hb hby d1_41) (by decide) (by decide) k_) ?_
          show Go _ _ _ _ (Tj.setTop (mkF m 45 #[.val (.int x), .val (.int y), .val (.long P), .second, .val (.int cx), .val (.int cy), .val (.int hf), .val (.int (1 : Int32)), s8, s9, s10] [(.int (1 : Int32))]))
          refine Go.via (fun t_ k_ => XS.istore Hj.here hx rfl (hb hby d1_45) rfl (l' := #[.val (.int x), .val (.int y), .val (.long P), .second, .val (.int cx), .val (.int cy), .val (.int hf), .val (.int (1 : Int32)), .val (.int (1 : Int32)), s9, s10]) (Jvm.Free.XS.store1 rfl o8 rfl) k_) ?_
          show Go _ _ _ _ (Tj.setTop (mkF m 47 #[.val (.int x), .val (.int y), .val (.long P), .second, .val (.int cx), .val (.int cy), .val (.int hf), .val (.int (1 : Int32)), .val (.int (1 : Int32)), s9, s10] []))
          refine Go.via (fun t_ k_ => XS.iload Hj.here hx rfl (hb hby d1_47) rfl k_) ?_
          show Go _ _ _ _ (Tj.setTop (mkF m 49 #[.val (.int x), .val (.int y), .val (.long P), .second, .val (.int cx), .val (.int cy), .val (.int hf), .val (.int (1 : Int32)), .val (.int (1 : Int32)), s9, s10] [(.int (1 : Int32))]))
          refine Go.via (fun t_ k_ => XS.ifYes Hj.here hx rfl (pc0 := 49) (pc' := 63) rfl (hb hby d1_49) rfl ((if0 _ _).trans (feq (show ¬ ((1 : Int32) = (0 : Int32)) from (by decide))).2) (by decide) (by decide) k_) ?_
          show Go _ _ _ _ (Tj.setTop (mkF m 63 #[.val (.int x), .val (.int y), .val (.long P), .second, .val (.int cx), .val (.int cy), .val (.int hf), .val (.int (1 : Int32)), .val (.int (1 : Int32)), s9, s10] []))
          refine Go.via (fun t_ k_ => XS.iload Hj.here hx rfl (hb hby d1_63) rfl k_) ?_
          show Go _ _ _ _ (Tj.setTop (mkF m 65 #[.val (.int x), .val (.int y), .val (.long P), .second, .val (.int cx), .val (.int cy), .val (.int hf), .val (.int (1 : Int32)), .val (.int (1 : Int32)), s9, s10] [(.int (1 : Int32))]))
          refine Go.via (fun t_ k_ => XS.ifYes Hj.here hx rfl (pc0 := 65) (pc' := 74) rfl (hb hby d1_65) rfl ((if0 _ _).trans (feq (show ¬ ((1 : Int32) = (0 : Int32)) from (by decide))).2) (by decide) (by decide) k_) ?_
          show Go _ _ _ _ (Tj.setTop (mkF m 74 #[.val (.int x), .val (.int y), .val (.long P), .second, .val (.int cx), .val (.int cy), .val (.int hf), .val (.int (1 : Int32)), .val (.int (1 : Int32)), s9, s10] []))
          refine Go.via (fun t_ k_ => XS.iload Hj.here hx rfl (hb hby d1_74) rfl k_) ?_
          show Go _ _ _ _ (Tj.setTop (mkF m 76 #[.val (.int x), .val (.int y), .val (.long P), .second, .val (.int cx), .val (.int cy), .val (.int hf), .val (.int (1 : Int32)), .val (.int (1 : Int32)), s9, s10] [(.int (1 : Int32))]))
          refine Go.via (fun t_ k_ => XS.ifNo Hj.here hx rfl (hb hby d1_76) rfl ((if0 _ _).trans (feq (show ¬ ((1 : Int32) = (0 : Int32)) from (by decide))).1) k_) ?_
          show Go _ _ _ _ (Tj.setTop (mkF m 79 #[.val (.int x), .val (.int y), .val (.long P), .second, .val (.int cx), .val (.int cy), .val (.int hf), .val (.int (1 : Int32)), .val (.int (1 : Int32)), s9, s10] []))
          refine Go.via (fun t_ k_ => XS.iconst Hj.here hx rfl (hb hby d1_79) k_) ?_
          show Go _ _ _ _ (Tj.setTop (mkF m 80 #[.val (.int x), .val (.int y), .val (.long P), .second, .val (.int cx), .val (.int cy), .val (.int hf), .val (.int (1 : Int32)), .val (.int (1 : Int32)), s9, s10] [(.int (2 : Int32))]))
          refine Go.via (fun t_ k_ => XS.istore Hj.here hx rfl (hb hby d1_80) rfl (l' := #[.val (.int x), .val (.int y), .val (.long P), .second, .val (.int cx), .val (.int cy), .val (.int hf), .val (.int (1 : Int32)), .val (.int (1 : Int32)), .val (.int (2 : Int32)), s10]) (Jvm.Free.XS.store1 rfl o9 rfl) k_) ?_
          show Go _ _ _ _ (Tj.setTop (mkF m 82 #[.val (.int x), .val (.int y), .val (.long P), .second, .val (.int cx), .val (.int cy), .val (.int hf), .val (.int (1 : Int32)), .val (.int (1 : Int32)), .val (.int (2 : Int32)), s10] []))
          refine Go.via (fun t_ k_ => XS.goto Hj.here hx rfl (pc0 := 82) (pc' := 88) rfl (hb hby d1_82) (by decide) (by decide) k_) ?_
          show Go _ _ _ _ (Tj.setTop (mkF m 88 #[.val (.int x), .val (.int y), .val (.long P), .second, .val (.int cx), .val (.int cy), .val (.int hf), .val (.int (1 : Int32)), .val (.int (1 : Int32)), .val (.int (2 : Int32)), s10] []))
          refine Go.via (fun t_ k_ => XS.lloadN Hj.here hx rfl (hb hby d1_88) rfl k_) ?_
          show Go _ _ _ _ (Tj.setTop (mkF m 89 #[.val (.int x), .val (.int y), .val (.long P), .second, .val (.int cx), .val (.int cy), .val (.int hf), .val (.int (1 : Int32)), .val (.int (1 : Int32)), .val (.int (2 : Int32)), s10] [(.long P)]))
          refine Go.via (fun t_ k_ => XS.iload Hj.here hx rfl (hb hby d1_89) rfl k_) ?_
          show Go _ _ _ _ (Tj.setTop (mkF m 91 #[.val (.int x), .val (.int y), .val (.long P), .second, .val (.int cx), .val (.int cy), .val (.int hf), .val (.int (1 : Int32)), .val (.int (1 : Int32)), .val (.int (2 : Int32)), s10] [(.int (2 : Int32)), (.long P)]))
          refine Go.via (fun t_ k_ => XS.i2l Hj.here hx rfl (hb hby d1_91) rfl k_) ?_
          show Go _ _ _ _ (Tj.setTop (mkF m 92 #[.val (.int x), .val (.int y), .val (.long P), .second, .val (.int cx), .val (.int cy), .val (.int hf), .val (.int (1 : Int32)), .val (.int (1 : Int32)), .val (.int (2 : Int32)), s10] [(.long ((2 : Int32).toInt64)), (.long P)]))
          refine Go.via (fun t_ k_ => XS.iload Hj.here hx rfl (hb hby d1_92) rfl k_) ?_
          show Go _ _ _ _ (Tj.setTop (mkF m 94 #[.val (.int x), .val (.int y), .val (.long P), .second, .val (.int cx), .val (.int cy), .val (.int hf), .val (.int (1 : Int32)), .val (.int (1 : Int32)), .val (.int (2 : Int32)), s10] [(.int hf), (.long ((2 : Int32).toInt64)), (.long P)]))
          refine Go.via (fun t_ k_ => XS.i2l Hj.here hx rfl (hb hby d1_94) rfl k_) ?_
          show Go _ _ _ _ (Tj.setTop (mkF m 95 #[.val (.int x), .val (.int y), .val (.long P), .second, .val (.int cx), .val (.int cy), .val (.int hf), .val (.int (1 : Int32)), .val (.int (1 : Int32)), .val (.int (2 : Int32)), s10] [(.long (hf.toInt64)), (.long ((2 : Int32).toInt64)), (.long P)]))
          refine Go.via (fun t_ k_ => XS.lmul Hj.here hx rfl (hb hby d1_95) rfl k_) ?_
          show Go _ _ _ _ (Tj.setTop (mkF m 96 #[.val (.int x), .val (.int y), .val (.long P), .second, .val (.int cx), .val (.int cy), .val (.int hf), .val (.int (1 : Int32)), .val (.int (1 : Int32)), .val (.int (2 : Int32)), s10] [(.long (((2 : Int32).toInt64) * (hf.toInt64))), (.long P)]))
          refine Go.via (fun t_ k_ => XS.iload Hj.here hx rfl (hb hby d1_96) rfl k_) ?_
          show Go _ _ _ _ (Tj.setTop (mkF m 98 #[.val (.int x), .val (.int y), .val (.long P), .second, .val (.int cx), .val (.int cy), .val (.int hf), .val (.int (1 : Int32)), .val (.int (1 : Int32)), .val (.int (2 : Int32)), s10] [(.int hf), (.long (((2 : Int32).toInt64) * (hf.toInt64))), (.long P)]))
          refine Go.via (fun t_ k_ => XS.i2l Hj.here hx rfl (hb hby d1_98) rfl k_) ?_
          show Go _ _ _ _ (Tj.setTop (mkF m 99 #[.val (.int x), .val (.int y), .val (.long P), .second, .val (.int cx), .val (.int cy), .val (.int hf), .val (.int (1 : Int32)), .val (.int (1 : Int32)), .val (.int (2 : Int32)), s10] [(.long (hf.toInt64)), (.long (((2 : Int32).toInt64) * (hf.toInt64))), (.long P)]))
          refine Go.via (fun t_ k_ => XS.lmul Hj.here hx rfl (hb hby d1_99) rfl k_) ?_
          show Go _ _ _ _ (Tj.setTop (mkF m 100 #[.val (.int x), .val (.int y), .val (.long P), .second, .val (.int cx), .val (.int cy), .val (.int hf), .val (.int (1 : Int32)), .val (.int (1 : Int32)), .val (.int (2 : Int32)), s10] [(.long ((((2 : Int32).toInt64) * (hf.toInt64)) * (hf.toInt64))), (.long P)]))
          refine Go.via (fun t_ k_ => XS.ladd Hj.here hx rfl (hb hby d1_100) rfl k_) ?_
          show Go _ _ _ _ (Tj.setTop (mkF m 101 #[.val (.int x), .val (.int y), .val (.long P), .second, .val (.int cx), .val (.int cy), .val (.int hf), .val (.int (1 : Int32)), .val (.int (1 : Int32)), .val (.int (2 : Int32)), s10] [(.long (P + ((((2 : Int32).toInt64) * (hf.toInt64)) * (hf.toInt64))))]))
          refine Go.via (fun t_ k_ => XS.lstoreN Hj.here hx rfl (hb hby d1_101) rfl (l' := #[.val (.int x), .val (.int y), .val (.long (P + ((((2 : Int32).toInt64) * (hf.toInt64)) * (hf.toInt64)))), .second, .val (.int cx), .val (.int cy), .val (.int hf), .val (.int (1 : Int32)), .val (.int (1 : Int32)), .val (.int (2 : Int32)), s10]) rfl k_) ?_
          show Go _ _ _ _ (Tj.setTop (mkF m 102 #[.val (.int x), .val (.int y), .val (.long (P + ((((2 : Int32).toInt64) * (hf.toInt64)) * (hf.toInt64)))), .second, .val (.int cx), .val (.int cy), .val (.int hf), .val (.int (1 : Int32)), .val (.int (1 : Int32)), .val (.int (2 : Int32)), s10] []))
          refine Go.via (fun t_ k_ => XS.iload Hj.here hx rfl (hb hby d1_102) rfl k_) ?_
          show Go _ _ _ _ (Tj.setTop (mkF m 104 #[.val (.int x), .val (.int y), .val (.long (P + ((((2 : Int32).toInt64) * (hf.toInt64)) * (hf.toInt64)))), .second, .val (.int cx), .val (.int cy), .val (.int hf), .val (.int (1 : Int32)), .val (.int (1 : Int32)), .val (.int (2 : Int32)), s10] [(.int cx)]))
          refine Go.via (fun t_ k_ => XS.iload Hj.here hx rfl (hb hby d1_104) rfl k_) ?_
          show Go _ _ _ _ (Tj.setTop (mkF m 106 #[.val (.int x), .val (.int y), .val (.long (P + ((((2 : Int32).toInt64) * (hf.toInt64)) * (hf.toInt64)))), .second, .val (.int cx), .val (.int cy), .val (.int hf), .val (.int (1 : Int32)), .val (.int (1 : Int32)), .val (.int (2 : Int32)), s10] [(.int hf), (.int cx)]))
          refine Go.via (fun t_ k_ => XS.iconst Hj.here hx rfl (hb hby d1_106) k_) ?_
          show Go _ _ _ _ (Tj.setTop (mkF m 107 #[.val (.int x), .val (.int y), .val (.long (P + ((((2 : Int32).toInt64) * (hf.toInt64)) * (hf.toInt64)))), .second, .val (.int cx), .val (.int cy), .val (.int hf), .val (.int (1 : Int32)), .val (.int (1 : Int32)), .val (.int (2 : Int32)), s10] [(.int (1 : Int32)), (.int hf), (.int cx)]))
          refine Go.via (fun t_ k_ => XS.isub Hj.here hx rfl (hb hby d1_107) rfl k_) ?_
          show Go _ _ _ _ (Tj.setTop (mkF m 108 #[.val (.int x), .val (.int y), .val (.long (P + ((((2 : Int32).toInt64) * (hf.toInt64)) * (hf.toInt64)))), .second, .val (.int cx), .val (.int cy), .val (.int hf), .val (.int (1 : Int32)), .val (.int (1 : Int32)), .val (.int (2 : Int32)), s10] [(.int (hf - (1 : Int32))), (.int cx)]))
          refine Go.via (fun t_ k_ => XS.iand Hj.here hx rfl (hb hby d1_108) rfl k_) ?_
          show Go _ _ _ _ (Tj.setTop (mkF m 109 #[.val (.int x), .val (.int y), .val (.long (P + ((((2 : Int32).toInt64) * (hf.toInt64)) * (hf.toInt64)))), .second, .val (.int cx), .val (.int cy), .val (.int hf), .val (.int (1 : Int32)), .val (.int (1 : Int32)), .val (.int (2 : Int32)), s10] [(.int (cx &&& (hf - (1 : Int32))))]))
          refine Go.via (fun t_ k_ => XS.istore Hj.here hx rfl (hb hby d1_109) rfl (l' := #[.val (.int x), .val (.int y), .val (.long (P + ((((2 : Int32).toInt64) * (hf.toInt64)) * (hf.toInt64)))), .second, .val (.int (cx &&& (hf - (1 : Int32)))), .val (.int cy), .val (.int hf), .val (.int (1 : Int32)), .val (.int (1 : Int32)), .val (.int (2 : Int32)), s10]) rfl k_) ?_
          show Go _ _ _ _ (Tj.setTop (mkF m 111 #[.val (.int x), .val (.int y), .val (.long (P + ((((2 : Int32).toInt64) * (hf.toInt64)) * (hf.toInt64)))), .second, .val (.int (cx &&& (hf - (1 : Int32)))), .val (.int cy), .val (.int hf), .val (.int (1 : Int32)), .val (.int (1 : Int32)), .val (.int (2 : Int32)), s10] []))
          refine Go.via (fun t_ k_ => XS.iload Hj.here hx rfl (hb hby d1_111) rfl k_) ?_
          show Go _ _ _ _ (Tj.setTop (mkF m 113 #[.val (.int x), .val (.int y), .val (.long (P + ((((2 : Int32).toInt64) * (hf.toInt64)) * (hf.toInt64)))), .second, .val (.int (cx &&& (hf - (1 : Int32)))), .val (.int cy), .val (.int hf), .val (.int (1 : Int32)), .val (.int (1 : Int32)), .val (.int (2 : Int32)), s10] [(.int cy)]))
          refine Go.via (fun t_ k_ => XS.iload Hj.here hx rfl (hb hby d1_113) rfl k_) ?_
          show Go _ _ _ _ (Tj.setTop (mkF m 115 #[.val (.int x), .val (.int y), .val (.long (P + ((((2 : Int32).toInt64) * (hf.toInt64)) * (hf.toInt64)))), .second, .val (.int (cx &&& (hf - (1 : Int32)))), .val (.int cy), .val (.int hf), .val (.int (1 : Int32)), .val (.int (1 : Int32)), .val (.int (2 : Int32)), s10] [(.int hf), (.int cy)]))
          refine Go.via (fun t_ k_ => XS.iconst Hj.here hx rfl (hb hby d1_115) k_) ?_
          show Go _ _ _ _ (Tj.setTop (mkF m 116 #[.val (.int x), .val (.int y), .val (.long (P + ((((2 : Int32).toInt64) * (hf.toInt64)) * (hf.toInt64)))), .second, .val (.int (cx &&& (hf - (1 : Int32)))), .val (.int cy), .val (.int hf), .val (.int (1 : Int32)), .val (.int (1 : Int32)), .val (.int (2 : Int32)), s10] [(.int (1 : Int32)), (.int hf), (.int cy)]))
          refine Go.via (fun t_ k_ => XS.isub Hj.here hx rfl (hb hby d1_116) rfl k_) ?_
          show Go _ _ _ _ (Tj.setTop (mkF m 117 #[.val (.int x), .val (.int y), .val (.long (P + ((((2 : Int32).toInt64) * (hf.toInt64)) * (hf.toInt64)))), .second, .val (.int (cx &&& (hf - (1 : Int32)))), .val (.int cy), .val (.int hf), .val (.int (1 : Int32)), .val (.int (1 : Int32)), .val (.int (2 : Int32)), s10] [(.int (hf - (1 : Int32))), (.int cy)]))
          refine Go.via (fun t_ k_ => XS.iand Hj.here hx rfl (hb hby d1_117) rfl k_) ?_
          show Go _ _ _ _ (Tj.setTop (mkF m 118 #[.val (.int x), .val (.int y), .val (.long (P + ((((2 : Int32).toInt64) * (hf.toInt64)) * (hf.toInt64)))), .second, .val (.int (cx &&& (hf - (1 : Int32)))), .val (.int cy), .val (.int hf), .val (.int (1 : Int32)), .val (.int (1 : Int32)), .val (.int (2 : Int32)), s10] [(.int (cy &&& (hf - (1 : Int32))))]))
          refine Go.via (fun t_ k_ => XS.istore Hj.here hx rfl (hb hby d1_118) rfl (l' := #[.val (.int x), .val (.int y), .val (.long (P + ((((2 : Int32).toInt64) * (hf.toInt64)) * (hf.toInt64)))), .second, .val (.int (cx &&& (hf - (1 : Int32)))), .val (.int (cy &&& (hf - (1 : Int32)))), .val (.int hf), .val (.int (1 : Int32)), .val (.int (1 : Int32)), .val (.int (2 : Int32)), s10]) rfl k_) ?_
          show Go _ _ _ _ (Tj.setTop (mkF m 120 #[.val (.int x), .val (.int y), .val (.long (P + ((((2 : Int32).toInt64) * (hf.toInt64)) * (hf.toInt64)))), .second, .val (.int (cx &&& (hf - (1 : Int32)))), .val (.int (cy &&& (hf - (1 : Int32)))), .val (.int hf), .val (.int (1 : Int32)), .val (.int (1 : Int32)), .val (.int (2 : Int32)), s10] []))
          refine Go.via (fun t_ k_ => XS.iload Hj.here hx rfl (hb hby d1_120) rfl k_) ?_
          show Go _ _ _ _ (Tj.setTop (mkF m 122 #[.val (.int x), .val (.int y), .val (.long (P + ((((2 : Int32).toInt64) * (hf.toInt64)) * (hf.toInt64)))), .second, .val (.int (cx &&& (hf - (1 : Int32)))), .val (.int (cy &&& (hf - (1 : Int32)))), .val (.int hf), .val (.int (1 : Int32)), .val (.int (1 : Int32)), .val (.int (2 : Int32)), s10] [(.int (1 : Int32))]))
          refine Go.via (fun t_ k_ => XS.ifYes Hj.here hx rfl (pc0 := 122) (pc' := 160) rfl (hb hby d1_122) rfl ((if0 _ _).trans (feq (show ¬ ((1 : Int32) = (0 : Int32)) from (by decide))).2) (by decide) (by decide) k_) ?_
          show Go _ _ _ _ (Tj.setTop (mkF m 160 #[.val (.int x), .val (.int y), .val (.long (P + ((((2 : Int32).toInt64) * (hf.toInt64)) * (hf.toInt64)))), .second, .val (.int (cx &&& (hf - (1 : Int32)))), .val (.int (cy &&& (hf - (1 : Int32)))), .val (.int hf), .val (.int (1 : Int32)), .val (.int (1 : Int32)), .val (.int (2 : Int32)), s10] []))
          refine Go.via (fun t_ k_ => XS.iload Hj.here hx rfl (hb hby d1_160) rfl k_) ?_
          show Go _ _ _ _ (Tj.setTop (mkF m 162 #[.val (.int x), .val (.int y), .val (.long (P + ((((2 : Int32).toInt64) * (hf.toInt64)) * (hf.toInt64)))), .second, .val (.int (cx &&& (hf - (1 : Int32)))), .val (.int (cy &&& (hf - (1 : Int32)))), .val (.int hf), .val (.int (1 : Int32)), .val (.int (1 : Int32)), .val (.int (2 : Int32)), s10] [(.int hf)]))
          refine Go.via (fun t_ k_ => XS.iconst Hj.here hx rfl (hb hby d1_162) k_) ?_
          show Go _ _ _ _ (Tj.setTop (mkF m 163 #[.val (.int x), .val (.int y), .val (.long (P + ((((2 : Int32).toInt64) * (hf.toInt64)) * (hf.toInt64)))), .second, .val (.int (cx &&& (hf - (1 : Int32)))), .val (.int (cy &&& (hf - (1 : Int32)))), .val (.int hf), .val (.int (1 : Int32)), .val (.int (1 : Int32)), .val (.int (2 : Int32)), s10] [(.int (2 : Int32)), (.int hf)]))
          refine Go.via (fun t_ k_ => XS.idiv Hj.here hx rfl (hb hby d1_163) rfl (by decide) k_) ?_
          show Go _ _ _ _ (Tj.setTop (mkF m 164 #[.val (.int x), .val (.int y), .val (.long (P + ((((2 : Int32).toInt64) * (hf.toInt64)) * (hf.toInt64)))), .second, .val (.int (cx &&& (hf - (1 : Int32)))), .val (.int (cy &&& (hf - (1 : Int32)))), .val (.int hf), .val (.int (1 : Int32)), .val (.int (1 : Int32)), .val (.int (2 : Int32)), s10] [(.int (hf / (2 : Int32)))]))
          refine Go.via (fun t_ k_ => XS.istore Hj.here hx rfl (hb hby d1_164) rfl (l' := #[.val (.int x), .val (.int y), .val (.long (P + ((((2 : Int32).toInt64) * (hf.toInt64)) * (hf.toInt64)))), .second, .val (.int (cx &&& (hf - (1 : Int32)))), .val (.int (cy &&& (hf - (1 : Int32)))), .val (.int (hf / (2 : Int32))), .val (.int (1 : Int32)), .val (.int (1 : Int32)), .val (.int (2 : Int32)), s10]) rfl k_) ?_
          show Go _ _ _ _ (Tj.setTop (mkF m 166 #[.val (.int x), .val (.int y), .val (.long (P + ((((2 : Int32).toInt64) * (hf.toInt64)) * (hf.toInt64)))), .second, .val (.int (cx &&& (hf - (1 : Int32)))), .val (.int (cy &&& (hf - (1 : Int32)))), .val (.int (hf / (2 : Int32))), .val (.int (1 : Int32)), .val (.int (1 : Int32)), .val (.int (2 : Int32)), s10] []))
          refine Go.via (fun t_ k_ => XS.goto Hj.here hx rfl (pc0 := 166) (pc' := 12) rfl (hb hby d1_166) (by decide) (by decide) k_) ?_
          show Go _ _ _ _ (Tj.setTop (mkF m 12 #[.val (.int x), .val (.int y), .val (.long (P + ((((2 : Int32).toInt64) * (hf.toInt64)) * (hf.toInt64)))), .second, .val (.int (cx &&& (hf - (1 : Int32)))), .val (.int (cy &&& (hf - (1 : Int32)))), .val (.int (hf / (2 : Int32))), .val (.int (1 : Int32)), .val (.int (1 : Int32)), .val (.int (2 : Int32)), s10] []))
          have b1 : ¬ XX < 2 ^ n := fun q => hc22 ((own_bit qcx qh hXX).mpr q)
          have b2 : ¬ YY < 2 ^ n := fun q => hc37 ((own_bit qcy qh hYY).mpr q)
          have e4 := own_low2 qcx qh hn15 b1 hXX
          have e5 := own_low2 qcy qh hn15 b2 hYY
          rw [hil_q2 b1 b2] at hT
          exact ih (S + 2 * sq n) (XX - 2 ^ n) (YY - 2 ^ n) _ _ _ _ _ _ _ _ Tj (by omega) (own_place qP (by decide) (by decide) qh hn15 hS) e4 e5 (own_half qh) (by omega) (by omega) (by omega) (One.val rfl) (One.val rfl) (One.val rfl) (o10) Hj
  show Go _ _ _ _ (T0.setTop (mkF m 0 #[.val (.int x), .val (.int y), .unset, .unset, .unset, .unset, .unset, .unset, .unset, .unset, .unset] []))
  refine Go.via (fun t_ k_ => XS.lconst H0.here hx rfl (hb hby d1_0) k_) ?_
  show Go _ _ _ _ (T0.setTop (mkF m 1 #[.val (.int x), .val (.int y), .unset, .unset, .unset, .unset, .unset, .unset, .unset, .unset, .unset] [(.long (0 : Int64))]))
  refine Go.via (fun t_ k_ => XS.lstoreN H0.here hx rfl (hb hby d1_1) rfl (l' := #[.val (.int x), .val (.int y), .val (.long (0 : Int64)), .second, .unset, .unset, .unset, .unset, .unset, .unset, .unset]) rfl k_) ?_
  show Go _ _ _ _ (T0.setTop (mkF m 2 #[.val (.int x), .val (.int y), .val (.long (0 : Int64)), .second, .unset, .unset, .unset, .unset, .unset, .unset, .unset] []))
  refine Go.via (fun t_ k_ => XS.iloadN H0.here hx rfl (hb hby d1_2) rfl k_) ?_
  show Go _ _ _ _ (T0.setTop (mkF m 3 #[.val (.int x), .val (.int y), .val (.long (0 : Int64)), .second, .unset, .unset, .unset, .unset, .unset, .unset, .unset] [(.int x)]))
  refine Go.via (fun t_ k_ => XS.istore H0.here hx rfl (hb hby d1_3) rfl (l' := #[.val (.int x), .val (.int y), .val (.long (0 : Int64)), .second, .val (.int x), .unset, .unset, .unset, .unset, .unset, .unset]) rfl k_) ?_
  show Go _ _ _ _ (T0.setTop (mkF m 5 #[.val (.int x), .val (.int y), .val (.long (0 : Int64)), .second, .val (.int x), .unset, .unset, .unset, .unset, .unset, .unset] []))
  refine Go.via (fun t_ k_ => XS.iloadN H0.here hx rfl (hb hby d1_5) rfl k_) ?_
  show Go _ _ _ _ (T0.setTop (mkF m 6 #[.val (.int x), .val (.int y), .val (.long (0 : Int64)), .second, .val (.int x), .unset, .unset, .unset, .unset, .unset, .unset] [(.int y)]))
  refine Go.via (fun t_ k_ => XS.istore H0.here hx rfl (hb hby d1_6) rfl (l' := #[.val (.int x), .val (.int y), .val (.long (0 : Int64)), .second, .val (.int x), .val (.int y), .unset, .unset, .unset, .unset, .unset]) rfl k_) ?_
  show Go _ _ _ _ (T0.setTop (mkF m 8 #[.val (.int x), .val (.int y), .val (.long (0 : Int64)), .second, .val (.int x), .val (.int y), .unset, .unset, .unset, .unset, .unset] []))
  refine own_ldcI H0 hx hZ hown (hw _ (List.mem_of_getElem? (i := 6) rfl)) (g := (mkF m 8 #[.val (.int x), .val (.int y), .val (.long (0 : Int64)), .second, .val (.int x), .val (.int y), .unset, .unset, .unset, .unset, .unset] [])) rfl (hb hby d1_8) ?_
  show Go _ _ _ _ (T0.setTop (mkF m 10 #[.val (.int x), .val (.int y), .val (.long (0 : Int64)), .second, .val (.int x), .val (.int y), .unset, .unset, .unset, .unset, .unset] [(.int (32768 : Int32))]))
  refine Go.via (fun t_ k_ => XS.istore H0.here hx rfl (hb hby d1_10) rfl (l' := #[.val (.int x), .val (.int y), .val (.long (0 : Int64)), .second, .val (.int x), .val (.int y), .val (.int (32768 : Int32)), .unset, .unset, .unset, .unset]) rfl k_) ?_
  show Go _ _ _ _ (T0.setTop (mkF m 12 #[.val (.int x), .val (.int y), .val (.long (0 : Int64)), .second, .val (.int x), .val (.int y), .val (.int (32768 : Int32)), .unset, .unset, .unset, .unset] []))
  exact loop 16 0 X Y _ _ _ _ _ _ _ _ T0 (by decide) (by decide) qx qy (by decide) hX hY (by omega) One.u One.u One.u One.u H0
theorem pd_0 : parseMethodDescriptor "(II)J" = some ⟨[.int, .int], some .long⟩ := by decide +kernel
theorem ef_rm0 (m : MethodId) (x0 : Int32) (x1 : Int32) (x2 : Int32) : entryFrame m #[(.int x0), (.int x1), (.int x2)] maxLocals = mkF m 0 #[.val (.int x0), .val (.int x1), .val (.int x2), .unset, .unset, .unset, .unset, .unset, .unset, .unset, .unset, .unset, .unset, .unset, .unset, .unset, .unset, .unset, .unset, .unset, .unset, .unset, .unset, .unset, .unset, .unset, .unset] [] := by first | (simp [entryFrame, mkF, argsToLocals, Value.category, maxLocals]; done) | rfl
set_option maxRecDepth 65536 in
set_option maxHeartbeats 40000000 in
theorem rm0 (l : Launch) (Z : State) (a0 : Array Value) (hw : ∀ d ∈ tables_1, d.before a0 Z = true) (p1 p2 p3 : Int32) (h0 : Heap) (n0 : Nat)  :
    CM l Z x code maxLocals ret room_1 #[(.int p1), (.int p2), (.int p3)] h0 n0 (fun v h => v = some (.int (1 : Int32))) := by
  refine own_enter (by decide +kernel) ?_
  intro p e s m below meth c T0 hx hby hml hown hnm hZ hret hlk H0
  replace hown : s.vm.findClass "com/example/neardb/neardb/index/GridHilbertPlacePinLaw" = some m.cls := hown
  replace hret : meth.sig.returnType = some .boolean := hret
  replace hml : c.maxLocals = 27 := hml
  refine Go.via (fun t_ k_ => castTop (ef_rm0 m p1 p2 p3) k_) ?_
  have J22 : ∀ (Tj : State) (x y kk : Int32) (X Y K : Nat), Here p l e room_1 s m #[(.int p1), (.int p2), (.int p3)] below meth c n0 Tj h0 0 0 → (x.toInt = (X : Int)) → (y.toInt = (Y : Int)) → (kk.toInt = (K : Int)) → (X < 65536) → (Y < 65536) → (K ≤ 15) → Go p e below (Fini below s n0 (fun v h => v = some (.int (1 : Int32))) room_1.cells room_1.slots) (Tj.setTop (mkF m 22 #[.val (.int p1), .val (.int p2), .val (.int p3), .val (.int x), .val (.int y), .val (.int kk), .val (.long (4294967295 : Int64)), .second, .unset, .unset, .unset, .unset, .unset, .unset, .unset, .unset, .unset, .unset, .unset, .unset, .unset, .unset, .unset, .unset, .unset, .unset, .unset] [])) := by
    intro Tj x y kk X Y K Hj qx qy qk hX hY hK
    show Go _ _ _ _ (Tj.setTop (mkF m 22 #[.val (.int p1), .val (.int p2), .val (.int p3), .val (.int x), .val (.int y), .val (.int kk), .val (.long (4294967295 : Int64)), .second, .unset, .unset, .unset, .unset, .unset, .unset, .unset, .unset, .unset, .unset, .unset, .unset, .unset, .unset, .unset, .unset, .unset, .unset, .unset] []))
    refine Go.via (fun t_ k_ => XS.iloadN Hj.here hx rfl (hb hby at_22) rfl k_) ?_
    show Go _ _ _ _ (Tj.setTop (mkF m 23 #[.val (.int p1), .val (.int p2), .val (.int p3), .val (.int x), .val (.int y), .val (.int kk), .val (.long (4294967295 : Int64)), .second, .unset, .unset, .unset, .unset, .unset, .unset, .unset, .unset, .unset, .unset, .unset, .unset, .unset, .unset, .unset, .unset, .unset, .unset, .unset] [(.int x)]))
    refine Go.via (fun t_ k_ => XS.iload Hj.here hx rfl (hb hby at_23) rfl k_) ?_
    show Go _ _ _ _ (Tj.setTop (mkF m 25 #[.val (.int p1), .val (.int p2), .val (.int p3), .val (.int x), .val (.int y), .val (.int kk), .val (.long (4294967295 : Int64)), .second, .unset, .unset, .unset, .unset, .unset, .unset, .unset, .unset, .unset, .unset, .unset, .unset, .unset, .unset, .unset, .unset, .unset, .unset, .unset] [(.int y), (.int x)]))
    refine own_callS Hj hx hZ (y := (⟨"com/example/neardb/neardb/index/Grid", "hilbertPlace", "(II)J"⟩ : MethodName)) hown (hw _ (List.mem_of_getElem? (i := 2) rfl)) (hw _ (List.mem_of_getElem? (i := 3) rfl)) (hw _ (List.mem_of_getElem? (i := 4) rfl)) (hw _ (List.mem_of_getElem? (i := 5) rfl)) (by decide) (rmH l Z a0 hw x y X Y h0 n0 qx qy hX hY) (g := (mkF m 25 #[.val (.int p1), .val (.int p2), .val (.int p3), .val (.int x), .val (.int y), .val (.int kk), .val (.long (4294967295 : Int64)), .second, .unset, .unset, .unset, .unset, .unset, .unset, .unset, .unset, .unset, .unset, .unset, .unset, .unset, .unset, .unset, .unset, .unset, .unset, .unset] [(.int y), (.int x)])) rfl (by rw [hml]; rfl) (argsL := [(.int x), (.int y)]) (rest := []) (lenOf pd_0 rfl) rfl 0 (Nat.le_of_eq rfl) (hb hby at_25) (by decide) (by decide) (by decide) (by decide) ?_
    rintro _ T1 _ ⟨z1, rfl, qz1, rfl⟩ H1
    show Go _ _ _ _ (T1.setTop (mkF m 28 #[.val (.int p1), .val (.int p2), .val (.int p3), .val (.int x), .val (.int y), .val (.int kk), .val (.long (4294967295 : Int64)), .second, .unset, .unset, .unset, .unset, .unset, .unset, .unset, .unset, .unset, .unset, .unset, .unset, .unset, .unset, .unset, .unset, .unset, .unset, .unset] [(.long z1)]))
    refine Go.via (fun t_ k_ => XS.lstore H1.here hx rfl (hb hby at_28) rfl (l' := #[.val (.int p1), .val (.int p2), .val (.int p3), .val (.int x), .val (.int y), .val (.int kk), .val (.long (4294967295 : Int64)), .second, .val (.long z1), .second, .unset, .unset, .unset, .unset, .unset, .unset, .unset, .unset, .unset, .unset, .unset, .unset, .unset, .unset, .unset, .unset, .unset]) rfl k_) ?_
    show Go _ _ _ _ (T1.setTop (mkF m 30 #[.val (.int p1), .val (.int p2), .val (.int p3), .val (.int x), .val (.int y), .val (.int kk), .val (.long (4294967295 : Int64)), .second, .val (.long z1), .second, .unset, .unset, .unset, .unset, .unset, .unset, .unset, .unset, .unset, .unset, .unset, .unset, .unset, .unset, .unset, .unset, .unset] []))
    obtain ⟨rg1, rg2⟩ := own_range hX hY qz1
    have J465 : ∀ (Tj : State) (r tp : Int32) (q : Int64) (co : Int64) (nl nr nd nu : Int64), Here p l e room_1 s m #[(.int p1), (.int p2), (.int p3)] below meth c n0 Tj h0 0 0 → (0 < X → nl.toInt = (hil 16 (X - 1) Y : Int)) → (X < 65535 → nr.toInt = (hil 16 (X + 1) Y : Int)) → (0 < Y → nd.toInt = (hil 16 X (Y - 1) : Int)) → (Y < 65535 → nu.toInt = (hil 16 X (Y + 1) : Int)) → Go p e below (Fini below s n0 (fun v h => v = some (.int (1 : Int32))) room_1.cells room_1.slots) (Tj.setTop (mkF m 465 #[.val (.int p1), .val (.int p2), .val (.int p3), .val (.int x), .val (.int y), .val (.int kk), .val (.long (4294967295 : Int64)), .second, .val (.long z1), .second, .val (.int (1 : Int32)), .val (.int r), .val (.int tp), .val (.long q), .second, .val (.long co), .second, .val (.long nl), .second, .val (.long nr), .second, .val (.long nd), .second, .val (.long nu), .second, .val (.int (1 : Int32)), .unset] [])) := by
      intro Tj r tp q co nl nr nd nu Hj n1 n2 n3 n4
      have hP := own_prev hX hY qz1 n1 n2 n3 n4
      show Go _ _ _ _ (Tj.setTop (mkF m 465 #[.val (.int p1), .val (.int p2), .val (.int p3), .val (.int x), .val (.int y), .val (.int kk), .val (.long (4294967295 : Int64)), .second, .val (.long z1), .second, .val (.int (1 : Int32)), .val (.int r), .val (.int tp), .val (.long q), .second, .val (.long co), .second, .val (.long nl), .second, .val (.long nr), .second, .val (.long nd), .second, .val (.long nu), .second, .val (.int (1 : Int32)), .unset] []))
      refine Go.via (fun t_ k_ => XS.lload Hj.here hx rfl (hb hby at_465) rfl k_) ?_
      show Go _ _ _ _ (Tj.setTop (mkF m 467 #[.val (.int p1), .val (.int p2), .val (.int p3), .val (.int x), .val (.int y), .val (.int kk), .val (.long (4294967295 : Int64)), .second, .val (.long z1), .second, .val (.int (1 : Int32)), .val (.int r), .val (.int tp), .val (.long q), .second, .val (.long co), .second, .val (.long nl), .second, .val (.long nr), .second, .val (.long nd), .second, .val (.long nu), .second, .val (.int (1 : Int32)), .unset] [(.long z1)]))
      refine Go.via (fun t_ k_ => XS.lconst Hj.here hx rfl (hb hby at_467) k_) ?_
      show Go _ _ _ _ (Tj.setTop (mkF m 468 #[.val (.int p1), .val (.int p2), .val (.int p3), .val (.int x), .val (.int y), .val (.int kk), .val (.long (4294967295 : Int64)), .second, .val (.long z1), .second, .val (.int (1 : Int32)), .val (.int r), .val (.int tp), .val (.long q), .second, .val (.long co), .second, .val (.long nl), .second, .val (.long nr), .second, .val (.long nd), .second, .val (.long nu), .second, .val (.int (1 : Int32)), .unset] [(.long (0 : Int64)), (.long z1)]))
      refine Go.via (fun t_ k_ => XS.lcmp Hj.here hx rfl (hb hby at_468) rfl k_) ?_
      show Go _ _ _ _ (Tj.setTop (mkF m 469 #[.val (.int p1), .val (.int p2), .val (.int p3), .val (.int x), .val (.int y), .val (.int kk), .val (.long (4294967295 : Int64)), .second, .val (.long z1), .second, .val (.int (1 : Int32)), .val (.int r), .val (.int tp), .val (.long q), .second, .val (.long co), .second, .val (.long nl), .second, .val (.long nr), .second, .val (.long nd), .second, .val (.long nu), .second, .val (.int (1 : Int32)), .unset] [(.int (lcmpW z1 (0 : Int64)))]))
      by_cases hc469 : z1 = (0 : Int64)
      · refine Go.via (fun t_ k_ => XS.ifYes Hj.here hx rfl (pc0 := 469) (pc' := 512) rfl (hb hby at_469) rfl ((own_leq hc469).1) (by decide) (by decide) k_) ?_
        show Go _ _ _ _ (Tj.setTop (mkF m 512 #[.val (.int p1), .val (.int p2), .val (.int p3), .val (.int x), .val (.int y), .val (.int kk), .val (.long (4294967295 : Int64)), .second, .val (.long z1), .second, .val (.int (1 : Int32)), .val (.int r), .val (.int tp), .val (.long q), .second, .val (.long co), .second, .val (.long nl), .second, .val (.long nr), .second, .val (.long nd), .second, .val (.long nu), .second, .val (.int (1 : Int32)), .unset] []))
        refine Go.via (fun t_ k_ => XS.iconst Hj.here hx rfl (hb hby at_512) k_) ?_
        show Go _ _ _ _ (Tj.setTop (mkF m 513 #[.val (.int p1), .val (.int p2), .val (.int p3), .val (.int x), .val (.int y), .val (.int kk), .val (.long (4294967295 : Int64)), .second, .val (.long z1), .second, .val (.int (1 : Int32)), .val (.int r), .val (.int tp), .val (.long q), .second, .val (.long co), .second, .val (.long nl), .second, .val (.long nr), .second, .val (.long nd), .second, .val (.long nu), .second, .val (.int (1 : Int32)), .unset] [(.int (1 : Int32))]))
        refine Go.via (fun t_ k_ => XS.goto Hj.here hx rfl (pc0 := 513) (pc' := 517) rfl (hb hby at_513) (by decide) (by decide) k_) ?_
        show Go _ _ _ _ (Tj.setTop (mkF m 517 #[.val (.int p1), .val (.int p2), .val (.int p3), .val (.int x), .val (.int y), .val (.int kk), .val (.long (4294967295 : Int64)), .second, .val (.long z1), .second, .val (.int (1 : Int32)), .val (.int r), .val (.int tp), .val (.long q), .second, .val (.long co), .second, .val (.long nl), .second, .val (.long nr), .second, .val (.long nd), .second, .val (.long nu), .second, .val (.int (1 : Int32)), .unset] [(.int (1 : Int32))]))
        refine Go.via (fun t_ k_ => XS.istore Hj.here hx rfl (hb hby at_517) rfl (l' := #[.val (.int p1), .val (.int p2), .val (.int p3), .val (.int x), .val (.int y), .val (.int kk), .val (.long (4294967295 : Int64)), .second, .val (.long z1), .second, .val (.int (1 : Int32)), .val (.int r), .val (.int tp), .val (.long q), .second, .val (.long co), .second, .val (.long nl), .second, .val (.long nr), .second, .val (.long nd), .second, .val (.long nu), .second, .val (.int (1 : Int32)), .val (.int (1 : Int32))]) rfl k_) ?_
        show Go _ _ _ _ (Tj.setTop (mkF m 519 #[.val (.int p1), .val (.int p2), .val (.int p3), .val (.int x), .val (.int y), .val (.int kk), .val (.long (4294967295 : Int64)), .second, .val (.long z1), .second, .val (.int (1 : Int32)), .val (.int r), .val (.int tp), .val (.long q), .second, .val (.long co), .second, .val (.long nl), .second, .val (.long nr), .second, .val (.long nd), .second, .val (.long nu), .second, .val (.int (1 : Int32)), .val (.int (1 : Int32))] []))
        refine Go.via (fun t_ k_ => XS.iload Hj.here hx rfl (hb hby at_519) rfl k_) ?_
        show Go _ _ _ _ (Tj.setTop (mkF m 521 #[.val (.int p1), .val (.int p2), .val (.int p3), .val (.int x), .val (.int y), .val (.int kk), .val (.long (4294967295 : Int64)), .second, .val (.long z1), .second, .val (.int (1 : Int32)), .val (.int r), .val (.int tp), .val (.long q), .second, .val (.long co), .second, .val (.long nl), .second, .val (.long nr), .second, .val (.long nd), .second, .val (.long nu), .second, .val (.int (1 : Int32)), .val (.int (1 : Int32))] [(.int (1 : Int32))]))
        refine Go.via (fun t_ k_ => XS.ifNo Hj.here hx rfl (hb hby at_521) rfl ((if0 _ _).trans (feq (show ¬ ((1 : Int32) = (0 : Int32)) from (by decide))).1) k_) ?_
        show Go _ _ _ _ (Tj.setTop (mkF m 524 #[.val (.int p1), .val (.int p2), .val (.int p3), .val (.int x), .val (.int y), .val (.int kk), .val (.long (4294967295 : Int64)), .second, .val (.long z1), .second, .val (.int (1 : Int32)), .val (.int r), .val (.int tp), .val (.long q), .second, .val (.long co), .second, .val (.long nl), .second, .val (.long nr), .second, .val (.long nd), .second, .val (.long nu), .second, .val (.int (1 : Int32)), .val (.int (1 : Int32))] []))
        refine Go.via (fun t_ k_ => XS.iload Hj.here hx rfl (hb hby at_524) rfl k_) ?_
        show Go _ _ _ _ (Tj.setTop (mkF m 526 #[.val (.int p1), .val (.int p2), .val (.int p3), .val (.int x), .val (.int y), .val (.int kk), .val (.long (4294967295 : Int64)), .second, .val (.long z1), .second, .val (.int (1 : Int32)), .val (.int r), .val (.int tp), .val (.long q), .second, .val (.long co), .second, .val (.long nl), .second, .val (.long nr), .second, .val (.long nd), .second, .val (.long nu), .second, .val (.int (1 : Int32)), .val (.int (1 : Int32))] [(.int (1 : Int32))]))
        refine Go.via (fun t_ k_ => XS.ifNo Hj.here hx rfl (hb hby at_526) rfl ((if0 _ _).trans (feq (show ¬ ((1 : Int32) = (0 : Int32)) from (by decide))).1) k_) ?_
        show Go _ _ _ _ (Tj.setTop (mkF m 529 #[.val (.int p1), .val (.int p2), .val (.int p3), .val (.int x), .val (.int y), .val (.int kk), .val (.long (4294967295 : Int64)), .second, .val (.long z1), .second, .val (.int (1 : Int32)), .val (.int r), .val (.int tp), .val (.long q), .second, .val (.long co), .second, .val (.long nl), .second, .val (.long nr), .second, .val (.long nd), .second, .val (.long nu), .second, .val (.int (1 : Int32)), .val (.int (1 : Int32))] []))
        refine Go.via (fun t_ k_ => XS.iload Hj.here hx rfl (hb hby at_529) rfl k_) ?_
        show Go _ _ _ _ (Tj.setTop (mkF m 531 #[.val (.int p1), .val (.int p2), .val (.int p3), .val (.int x), .val (.int y), .val (.int kk), .val (.long (4294967295 : Int64)), .second, .val (.long z1), .second, .val (.int (1 : Int32)), .val (.int r), .val (.int tp), .val (.long q), .second, .val (.long co), .second, .val (.long nl), .second, .val (.long nr), .second, .val (.long nd), .second, .val (.long nu), .second, .val (.int (1 : Int32)), .val (.int (1 : Int32))] [(.int (1 : Int32))]))
        refine Go.via (fun t_ k_ => XS.ifNo Hj.here hx rfl (hb hby at_531) rfl ((if0 _ _).trans (feq (show ¬ ((1 : Int32) = (0 : Int32)) from (by decide))).1) k_) ?_
        show Go _ _ _ _ (Tj.setTop (mkF m 534 #[.val (.int p1), .val (.int p2), .val (.int p3), .val (.int x), .val (.int y), .val (.int kk), .val (.long (4294967295 : Int64)), .second, .val (.long z1), .second, .val (.int (1 : Int32)), .val (.int r), .val (.int tp), .val (.long q), .second, .val (.long co), .second, .val (.long nl), .second, .val (.long nr), .second, .val (.long nd), .second, .val (.long nu), .second, .val (.int (1 : Int32)), .val (.int (1 : Int32))] []))
        refine Go.via (fun t_ k_ => XS.iconst Hj.here hx rfl (hb hby at_534) k_) ?_
        show Go _ _ _ _ (Tj.setTop (mkF m 535 #[.val (.int p1), .val (.int p2), .val (.int p3), .val (.int x), .val (.int y), .val (.int kk), .val (.long (4294967295 : Int64)), .second, .val (.long z1), .second, .val (.int (1 : Int32)), .val (.int r), .val (.int tp), .val (.long q), .second, .val (.long co), .second, .val (.long nl), .second, .val (.long nr), .second, .val (.long nd), .second, .val (.long nu), .second, .val (.int (1 : Int32)), .val (.int (1 : Int32))] [(.int (1 : Int32))]))
        refine Go.via (fun t_ k_ => XS.goto Hj.here hx rfl (pc0 := 535) (pc' := 539) rfl (hb hby at_535) (by decide) (by decide) k_) ?_
        show Go _ _ _ _ (Tj.setTop (mkF m 539 #[.val (.int p1), .val (.int p2), .val (.int p3), .val (.int x), .val (.int y), .val (.int kk), .val (.long (4294967295 : Int64)), .second, .val (.long z1), .second, .val (.int (1 : Int32)), .val (.int r), .val (.int tp), .val (.long q), .second, .val (.long co), .second, .val (.long nl), .second, .val (.long nr), .second, .val (.long nd), .second, .val (.long nu), .second, .val (.int (1 : Int32)), .val (.int (1 : Int32))] [(.int (1 : Int32))]))
        exact own_retN Hj hx hlk (by simp) hret (hb hby at_539) rfl (by decide) (by decide)
      · refine Go.via (fun t_ k_ => XS.ifNo Hj.here hx rfl (hb hby at_469) rfl ((own_neq hc469).1) k_) ?_
        show Go _ _ _ _ (Tj.setTop (mkF m 472 #[.val (.int p1), .val (.int p2), .val (.int p3), .val (.int x), .val (.int y), .val (.int kk), .val (.long (4294967295 : Int64)), .second, .val (.long z1), .second, .val (.int (1 : Int32)), .val (.int r), .val (.int tp), .val (.long q), .second, .val (.long co), .second, .val (.long nl), .second, .val (.long nr), .second, .val (.long nd), .second, .val (.long nu), .second, .val (.int (1 : Int32)), .unset] []))
        refine Go.via (fun t_ k_ => XS.lload Hj.here hx rfl (hb hby at_472) rfl k_) ?_
        show Go _ _ _ _ (Tj.setTop (mkF m 474 #[.val (.int p1), .val (.int p2), .val (.int p3), .val (.int x), .val (.int y), .val (.int kk), .val (.long (4294967295 : Int64)), .second, .val (.long z1), .second, .val (.int (1 : Int32)), .val (.int r), .val (.int tp), .val (.long q), .second, .val (.long co), .second, .val (.long nl), .second, .val (.long nr), .second, .val (.long nd), .second, .val (.long nu), .second, .val (.int (1 : Int32)), .unset] [(.long nl)]))
        refine Go.via (fun t_ k_ => XS.lload Hj.here hx rfl (hb hby at_474) rfl k_) ?_
        show Go _ _ _ _ (Tj.setTop (mkF m 476 #[.val (.int p1), .val (.int p2), .val (.int p3), .val (.int x), .val (.int y), .val (.int kk), .val (.long (4294967295 : Int64)), .second, .val (.long z1), .second, .val (.int (1 : Int32)), .val (.int r), .val (.int tp), .val (.long q), .second, .val (.long co), .second, .val (.long nl), .second, .val (.long nr), .second, .val (.long nd), .second, .val (.long nu), .second, .val (.int (1 : Int32)), .unset] [(.long z1), (.long nl)]))
        refine Go.via (fun t_ k_ => XS.lconst Hj.here hx rfl (hb hby at_476) k_) ?_
        show Go _ _ _ _ (Tj.setTop (mkF m 477 #[.val (.int p1), .val (.int p2), .val (.int p3), .val (.int x), .val (.int y), .val (.int kk), .val (.long (4294967295 : Int64)), .second, .val (.long z1), .second, .val (.int (1 : Int32)), .val (.int r), .val (.int tp), .val (.long q), .second, .val (.long co), .second, .val (.long nl), .second, .val (.long nr), .second, .val (.long nd), .second, .val (.long nu), .second, .val (.int (1 : Int32)), .unset] [(.long (1 : Int64)), (.long z1), (.long nl)]))
        refine Go.via (fun t_ k_ => XS.lsub Hj.here hx rfl (hb hby at_477) rfl k_) ?_
        show Go _ _ _ _ (Tj.setTop (mkF m 478 #[.val (.int p1), .val (.int p2), .val (.int p3), .val (.int x), .val (.int y), .val (.int kk), .val (.long (4294967295 : Int64)), .second, .val (.long z1), .second, .val (.int (1 : Int32)), .val (.int r), .val (.int tp), .val (.long q), .second, .val (.long co), .second, .val (.long nl), .second, .val (.long nr), .second, .val (.long nd), .second, .val (.long nu), .second, .val (.int (1 : Int32)), .unset] [(.long (z1 - (1 : Int64))), (.long nl)]))
        refine Go.via (fun t_ k_ => XS.lcmp Hj.here hx rfl (hb hby at_478) rfl k_) ?_
        show Go _ _ _ _ (Tj.setTop (mkF m 479 #[.val (.int p1), .val (.int p2), .val (.int p3), .val (.int x), .val (.int y), .val (.int kk), .val (.long (4294967295 : Int64)), .second, .val (.long z1), .second, .val (.int (1 : Int32)), .val (.int r), .val (.int tp), .val (.long q), .second, .val (.long co), .second, .val (.long nl), .second, .val (.long nr), .second, .val (.long nd), .second, .val (.long nu), .second, .val (.int (1 : Int32)), .unset] [(.int (lcmpW nl (z1 - (1 : Int64))))]))
        by_cases hc479 : nl = (z1 - (1 : Int64))
        · refine Go.via (fun t_ k_ => XS.ifYes Hj.here hx rfl (pc0 := 479) (pc' := 512) rfl (hb hby at_479) rfl ((own_leq hc479).1) (by decide) (by decide) k_) ?_
          show Go _ _ _ _ (Tj.setTop (mkF m 512 #[.val (.int p1), .val (.int p2), .val (.int p3), .val (.int x), .val (.int y), .val (.int kk), .val (.long (4294967295 : Int64)), .second, .val (.long z1), .second, .val (.int (1 : Int32)), .val (.int r), .val (.int tp), .val (.long q), .second, .val (.long co), .second, .val (.long nl), .second, .val (.long nr), .second, .val (.long nd), .second, .val (.long nu), .second, .val (.int (1 : Int32)), .unset] []))
          refine Go.via (fun t_ k_ => XS.iconst Hj.here hx rfl (hb hby at_512) k_) ?_
          show Go _ _ _ _ (Tj.setTop (mkF m 513 #[.val (.int p1), .val (.int p2), .val (.int p3), .val (.int x), .val (.int y), .val (.int kk), .val (.long (4294967295 : Int64)), .second, .val (.long z1), .second, .val (.int (1 : Int32)), .val (.int r), .val (.int tp), .val (.long q), .second, .val (.long co), .second, .val (.long nl), .second, .val (.long nr), .second, .val (.long nd), .second, .val (.long nu), .second, .val (.int (1 : Int32)), .unset] [(.int (1 : Int32))]))
          refine Go.via (fun t_ k_ => XS.goto Hj.here hx rfl (pc0 := 513) (pc' := 517) rfl (hb hby at_513) (by decide) (by decide) k_) ?_
          show Go _ _ _ _ (Tj.setTop (mkF m 517 #[.val (.int p1), .val (.int p2), .val (.int p3), .val (.int x), .val (.int y), .val (.int kk), .val (.long (4294967295 : Int64)), .second, .val (.long z1), .second, .val (.int (1 : Int32)), .val (.int r), .val (.int tp), .val (.long q), .second, .val (.long co), .second, .val (.long nl), .second, .val (.long nr), .second, .val (.long nd), .second, .val (.long nu), .second, .val (.int (1 : Int32)), .unset] [(.int (1 : Int32))]))
          refine Go.via (fun t_ k_ => XS.istore Hj.here hx rfl (hb hby at_517) rfl (l' := #[.val (.int p1), .val (.int p2), .val (.int p3), .val (.int x), .val (.int y), .val (.int kk), .val (.long (4294967295 : Int64)), .second, .val (.long z1), .second, .val (.int (1 : Int32)), .val (.int r), .val (.int tp), .val (.long q), .second, .val (.long co), .second, .val (.long nl), .second, .val (.long nr), .second, .val (.long nd), .second, .val (.long nu), .second, .val (.int (1 : Int32)), .val (.int (1 : Int32))]) rfl k_) ?_
          show Go _ _ _ _ (Tj.setTop (mkF m 519 #[.val (.int p1), .val (.int p2), .val (.int p3), .val (.int x), .val (.int y), .val (.int kk), .val (.long (4294967295 : Int64)), .second, .val (.long z1), .second, .val (.int (1 : Int32)), .val (.int r), .val (.int tp), .val (.long q), .second, .val (.long co), .second, .val (.long nl), .second, .val (.long nr), .second, .val (.long nd), .second, .val (.long nu), .second, .val (.int (1 : Int32)), .val (.int (1 : Int32))] []))
          refine Go.via (fun t_ k_ => XS.iload Hj.here hx rfl (hb hby at_519) rfl k_) ?_
          show Go _ _ _ _ (Tj.setTop (mkF m 521 #[.val (.int p1), .val (.int p2), .val (.int p3), .val (.int x), .val (.int y), .val (.int kk), .val (.long (4294967295 : Int64)), .second, .val (.long z1), .second, .val (.int (1 : Int32)), .val (.int r), .val (.int tp), .val (.long q), .second, .val (.long co), .second, .val (.long nl), .second, .val (.long nr), .second, .val (.long nd), .second, .val (.long nu), .second, .val (.int (1 : Int32)), .val (.int (1 : Int32))] [(.int (1 : Int32))]))
          refine Go.via (fun t_ k_ => XS.ifNo Hj.here hx rfl (hb hby at_521) rfl ((if0 _ _).trans (feq (show ¬ ((1 : Int32) = (0 : Int32)) from (by decide))).1) k_) ?_
          show Go _ _ _ _ (Tj.setTop (mkF m 524 #[.val (.int p1), .val (.int p2), .val (.int p3), .val (.int x), .val (.int y), .val (.int kk), .val (.long (4294967295 : Int64)), .second, .val (.long z1), .second, .val (.int (1 : Int32)), .val (.int r), .val (.int tp), .val (.long q), .second, .val (.long co), .second, .val (.long nl), .second, .val (.long nr), .second, .val (.long nd), .second, .val (.long nu), .second, .val (.int (1 : Int32)), .val (.int (1 : Int32))] []))
          refine Go.via (fun t_ k_ => XS.iload Hj.here hx rfl (hb hby at_524) rfl k_) ?_
          show Go _ _ _ _ (Tj.setTop (mkF m 526 #[.val (.int p1), .val (.int p2), .val (.int p3), .val (.int x), .val (.int y), .val (.int kk), .val (.long (4294967295 : Int64)), .second, .val (.long z1), .second, .val (.int (1 : Int32)), .val (.int r), .val (.int tp), .val (.long q), .second, .val (.long co), .second, .val (.long nl), .second, .val (.long nr), .second, .val (.long nd), .second, .val (.long nu), .second, .val (.int (1 : Int32)), .val (.int (1 : Int32))] [(.int (1 : Int32))]))
          refine Go.via (fun t_ k_ => XS.ifNo Hj.here hx rfl (hb hby at_526) rfl ((if0 _ _).trans (feq (show ¬ ((1 : Int32) = (0 : Int32)) from (by decide))).1) k_) ?_
          show Go _ _ _ _ (Tj.setTop (mkF m 529 #[.val (.int p1), .val (.int p2), .val (.int p3), .val (.int x), .val (.int y), .val (.int kk), .val (.long (4294967295 : Int64)), .second, .val (.long z1), .second, .val (.int (1 : Int32)), .val (.int r), .val (.int tp), .val (.long q), .second, .val (.long co), .second, .val (.long nl), .second, .val (.long nr), .second, .val (.long nd), .second, .val (.long nu), .second, .val (.int (1 : Int32)), .val (.int (1 : Int32))] []))
          refine Go.via (fun t_ k_ => XS.iload Hj.here hx rfl (hb hby at_529) rfl k_) ?_
          show Go _ _ _ _ (Tj.setTop (mkF m 531 #[.val (.int p1), .val (.int p2), .val (.int p3), .val (.int x), .val (.int y), .val (.int kk), .val (.long (4294967295 : Int64)), .second, .val (.long z1), .second, .val (.int (1 : Int32)), .val (.int r), .val (.int tp), .val (.long q), .second, .val (.long co), .second, .val (.long nl), .second, .val (.long nr), .second, .val (.long nd), .second, .val (.long nu), .second, .val (.int (1 : Int32)), .val (.int (1 : Int32))] [(.int (1 : Int32))]))
          refine Go.via (fun t_ k_ => XS.ifNo Hj.here hx rfl (hb hby at_531) rfl ((if0 _ _).trans (feq (show ¬ ((1 : Int32) = (0 : Int32)) from (by decide))).1) k_) ?_
          show Go _ _ _ _ (Tj.setTop (mkF m 534 #[.val (.int p1), .val (.int p2), .val (.int p3), .val (.int x), .val (.int y), .val (.int kk), .val (.long (4294967295 : Int64)), .second, .val (.long z1), .second, .val (.int (1 : Int32)), .val (.int r), .val (.int tp), .val (.long q), .second, .val (.long co), .second, .val (.long nl), .second, .val (.long nr), .second, .val (.long nd), .second, .val (.long nu), .second, .val (.int (1 : Int32)), .val (.int (1 : Int32))] []))
          refine Go.via (fun t_ k_ => XS.iconst Hj.here hx rfl (hb hby at_534) k_) ?_
          show Go _ _ _ _ (Tj.setTop (mkF m 535 #[.val (.int p1), .val (.int p2), .val (.int p3), .val (.int x), .val (.int y), .val (.int kk), .val (.long (4294967295 : Int64)), .second, .val (.long z1), .second, .val (.int (1 : Int32)), .val (.int r), .val (.int tp), .val (.long q), .second, .val (.long co), .second, .val (.long nl), .second, .val (.long nr), .second, .val (.long nd), .second, .val (.long nu), .second, .val (.int (1 : Int32)), .val (.int (1 : Int32))] [(.int (1 : Int32))]))
          refine Go.via (fun t_ k_ => XS.goto Hj.here hx rfl (pc0 := 535) (pc' := 539) rfl (hb hby at_535) (by decide) (by decide) k_) ?_
          show Go _ _ _ _ (Tj.setTop (mkF m 539 #[.val (.int p1), .val (.int p2), .val (.int p3), .val (.int x), .val (.int y), .val (.int kk), .val (.long (4294967295 : Int64)), .second, .val (.long z1), .second, .val (.int (1 : Int32)), .val (.int r), .val (.int tp), .val (.long q), .second, .val (.long co), .second, .val (.long nl), .second, .val (.long nr), .second, .val (.long nd), .second, .val (.long nu), .second, .val (.int (1 : Int32)), .val (.int (1 : Int32))] [(.int (1 : Int32))]))
          exact own_retN Hj hx hlk (by simp) hret (hb hby at_539) rfl (by decide) (by decide)
        · refine Go.via (fun t_ k_ => XS.ifNo Hj.here hx rfl (hb hby at_479) rfl ((own_neq hc479).1) k_) ?_
          show Go _ _ _ _ (Tj.setTop (mkF m 482 #[.val (.int p1), .val (.int p2), .val (.int p3), .val (.int x), .val (.int y), .val (.int kk), .val (.long (4294967295 : Int64)), .second, .val (.long z1), .second, .val (.int (1 : Int32)), .val (.int r), .val (.int tp), .val (.long q), .second, .val (.long co), .second, .val (.long nl), .second, .val (.long nr), .second, .val (.long nd), .second, .val (.long nu), .second, .val (.int (1 : Int32)), .unset] []))
          refine Go.via (fun t_ k_ => XS.lload Hj.here hx rfl (hb hby at_482) rfl k_) ?_
          show Go _ _ _ _ (Tj.setTop (mkF m 484 #[.val (.int p1), .val (.int p2), .val (.int p3), .val (.int x), .val (.int y), .val (.int kk), .val (.long (4294967295 : Int64)), .second, .val (.long z1), .second, .val (.int (1 : Int32)), .val (.int r), .val (.int tp), .val (.long q), .second, .val (.long co), .second, .val (.long nl), .second, .val (.long nr), .second, .val (.long nd), .second, .val (.long nu), .second, .val (.int (1 : Int32)), .unset] [(.long nr)]))
          refine Go.via (fun t_ k_ => XS.lload Hj.here hx rfl (hb hby at_484) rfl k_) ?_
          show Go _ _ _ _ (Tj.setTop (mkF m 486 #[.val (.int p1), .val (.int p2), .val (.int p3), .val (.int x), .val (.int y), .val (.int kk), .val (.long (4294967295 : Int64)), .second, .val (.long z1), .second, .val (.int (1 : Int32)), .val (.int r), .val (.int tp), .val (.long q), .second, .val (.long co), .second, .val (.long nl), .second, .val (.long nr), .second, .val (.long nd), .second, .val (.long nu), .second, .val (.int (1 : Int32)), .unset] [(.long z1), (.long nr)]))
          refine Go.via (fun t_ k_ => XS.lconst Hj.here hx rfl (hb hby at_486) k_) ?_
          show Go _ _ _ _ (Tj.setTop (mkF m 487 #[.val (.int p1), .val (.int p2), .val (.int p3), .val (.int x), .val (.int y), .val (.int kk), .val (.long (4294967295 : Int64)), .second, .val (.long z1), .second, .val (.int (1 : Int32)), .val (.int r), .val (.int tp), .val (.long q), .second, .val (.long co), .second, .val (.long nl), .second, .val (.long nr), .second, .val (.long nd), .second, .val (.long nu), .second, .val (.int (1 : Int32)), .unset] [(.long (1 : Int64)), (.long z1), (.long nr)]))
          refine Go.via (fun t_ k_ => XS.lsub Hj.here hx rfl (hb hby at_487) rfl k_) ?_
          show Go _ _ _ _ (Tj.setTop (mkF m 488 #[.val (.int p1), .val (.int p2), .val (.int p3), .val (.int x), .val (.int y), .val (.int kk), .val (.long (4294967295 : Int64)), .second, .val (.long z1), .second, .val (.int (1 : Int32)), .val (.int r), .val (.int tp), .val (.long q), .second, .val (.long co), .second, .val (.long nl), .second, .val (.long nr), .second, .val (.long nd), .second, .val (.long nu), .second, .val (.int (1 : Int32)), .unset] [(.long (z1 - (1 : Int64))), (.long nr)]))
          refine Go.via (fun t_ k_ => XS.lcmp Hj.here hx rfl (hb hby at_488) rfl k_) ?_
          show Go _ _ _ _ (Tj.setTop (mkF m 489 #[.val (.int p1), .val (.int p2), .val (.int p3), .val (.int x), .val (.int y), .val (.int kk), .val (.long (4294967295 : Int64)), .second, .val (.long z1), .second, .val (.int (1 : Int32)), .val (.int r), .val (.int tp), .val (.long q), .second, .val (.long co), .second, .val (.long nl), .second, .val (.long nr), .second, .val (.long nd), .second, .val (.long nu), .second, .val (.int (1 : Int32)), .unset] [(.int (lcmpW nr (z1 - (1 : Int64))))]))
          by_cases hc489 : nr = (z1 - (1 : Int64))
          · refine Go.via (fun t_ k_ => XS.ifYes Hj.here hx rfl (pc0 := 489) (pc' := 512) rfl (hb hby at_489) rfl ((own_leq hc489).1) (by decide) (by decide) k_) ?_
            show Go _ _ _ _ (Tj.setTop (mkF m 512 #[.val (.int p1), .val (.int p2), .val (.int p3), .val (.int x), .val (.int y), .val (.int kk), .val (.long (4294967295 : Int64)), .second, .val (.long z1), .second, .val (.int (1 : Int32)), .val (.int r), .val (.int tp), .val (.long q), .second, .val (.long co), .second, .val (.long nl), .second, .val (.long nr), .second, .val (.long nd), .second, .val (.long nu), .second, .val (.int (1 : Int32)), .unset] []))
            refine Go.via (fun t_ k_ => XS.iconst Hj.here hx rfl (hb hby at_512) k_) ?_
            show Go _ _ _ _ (Tj.setTop (mkF m 513 #[.val (.int p1), .val (.int p2), .val (.int p3), .val (.int x), .val (.int y), .val (.int kk), .val (.long (4294967295 : Int64)), .second, .val (.long z1), .second, .val (.int (1 : Int32)), .val (.int r), .val (.int tp), .val (.long q), .second, .val (.long co), .second, .val (.long nl), .second, .val (.long nr), .second, .val (.long nd), .second, .val (.long nu), .second, .val (.int (1 : Int32)), .unset] [(.int (1 : Int32))]))
            refine Go.via (fun t_ k_ => XS.goto Hj.here hx rfl (pc0 := 513) (pc' := 517) rfl (hb hby at_513) (by decide) (by decide) k_) ?_
            show Go _ _ _ _ (Tj.setTop (mkF m 517 #[.val (.int p1), .val (.int p2), .val (.int p3), .val (.int x), .val (.int y), .val (.int kk), .val (.long (4294967295 : Int64)), .second, .val (.long z1), .second, .val (.int (1 : Int32)), .val (.int r), .val (.int tp), .val (.long q), .second, .val (.long co), .second, .val (.long nl), .second, .val (.long nr), .second, .val (.long nd), .second, .val (.long nu), .second, .val (.int (1 : Int32)), .unset] [(.int (1 : Int32))]))
            refine Go.via (fun t_ k_ => XS.istore Hj.here hx rfl (hb hby at_517) rfl (l' := #[.val (.int p1), .val (.int p2), .val (.int p3), .val (.int x), .val (.int y), .val (.int kk), .val (.long (4294967295 : Int64)), .second, .val (.long z1), .second, .val (.int (1 : Int32)), .val (.int r), .val (.int tp), .val (.long q), .second, .val (.long co), .second, .val (.long nl), .second, .val (.long nr), .second, .val (.long nd), .second, .val (.long nu), .second, .val (.int (1 : Int32)), .val (.int (1 : Int32))]) rfl k_) ?_
            show Go _ _ _ _ (Tj.setTop (mkF m 519 #[.val (.int p1), .val (.int p2), .val (.int p3), .val (.int x), .val (.int y), .val (.int kk), .val (.long (4294967295 : Int64)), .second, .val (.long z1), .second, .val (.int (1 : Int32)), .val (.int r), .val (.int tp), .val (.long q), .second, .val (.long co), .second, .val (.long nl), .second, .val (.long nr), .second, .val (.long nd), .second, .val (.long nu), .second, .val (.int (1 : Int32)), .val (.int (1 : Int32))] []))
            refine Go.via (fun t_ k_ => XS.iload Hj.here hx rfl (hb hby at_519) rfl k_) ?_
            show Go _ _ _ _ (Tj.setTop (mkF m 521 #[.val (.int p1), .val (.int p2), .val (.int p3), .val (.int x), .val (.int y), .val (.int kk), .val (.long (4294967295 : Int64)), .second, .val (.long z1), .second, .val (.int (1 : Int32)), .val (.int r), .val (.int tp), .val (.long q), .second, .val (.long co), .second, .val (.long nl), .second, .val (.long nr), .second, .val (.long nd), .second, .val (.long nu), .second, .val (.int (1 : Int32)), .val (.int (1 : Int32))] [(.int (1 : Int32))]))
            refine Go.via (fun t_ k_ => XS.ifNo Hj.here hx rfl (hb hby at_521) rfl ((if0 _ _).trans (feq (show ¬ ((1 : Int32) = (0 : Int32)) from (by decide))).1) k_) ?_
            show Go _ _ _ _ (Tj.setTop (mkF m 524 #[.val (.int p1), .val (.int p2), .val (.int p3), .val (.int x), .val (.int y), .val (.int kk), .val (.long (4294967295 : Int64)), .second, .val (.long z1), .second, .val (.int (1 : Int32)), .val (.int r), .val (.int tp), .val (.long q), .second, .val (.long co), .second, .val (.long nl), .second, .val (.long nr), .second, .val (.long nd), .second, .val (.long nu), .second, .val (.int (1 : Int32)), .val (.int (1 : Int32))] []))
            refine Go.via (fun t_ k_ => XS.iload Hj.here hx rfl (hb hby at_524) rfl k_) ?_
            show Go _ _ _ _ (Tj.setTop (mkF m 526 #[.val (.int p1), .val (.int p2), .val (.int p3), .val (.int x), .val (.int y), .val (.int kk), .val (.long (4294967295 : Int64)), .second, .val (.long z1), .second, .val (.int (1 : Int32)), .val (.int r), .val (.int tp), .val (.long q), .second, .val (.long co), .second, .val (.long nl), .second, .val (.long nr), .second, .val (.long nd), .second, .val (.long nu), .second, .val (.int (1 : Int32)), .val (.int (1 : Int32))] [(.int (1 : Int32))]))
            refine Go.via (fun t_ k_ => XS.ifNo Hj.here hx rfl (hb hby at_526) rfl ((if0 _ _).trans (feq (show ¬ ((1 : Int32) = (0 : Int32)) from (by decide))).1) k_) ?_
            show Go _ _ _ _ (Tj.setTop (mkF m 529 #[.val (.int p1), .val (.int p2), .val (.int p3), .val (.int x), .val (.int y), .val (.int kk), .val (.long (4294967295 : Int64)), .second, .val (.long z1), .second, .val (.int (1 : Int32)), .val (.int r), .val (.int tp), .val (.long q), .second, .val (.long co), .second, .val (.long nl), .second, .val (.long nr), .second, .val (.long nd), .second, .val (.long nu), .second, .val (.int (1 : Int32)), .val (.int (1 : Int32))] []))
            refine Go.via (fun t_ k_ => XS.iload Hj.here hx rfl (hb hby at_529) rfl k_) ?_
            show Go _ _ _ _ (Tj.setTop (mkF m 531 #[.val (.int p1), .val (.int p2), .val (.int p3), .val (.int x), .val (.int y), .val (.int kk), .val (.long (4294967295 : Int64)), .second, .val (.long z1), .second, .val (.int (1 : Int32)), .val (.int r), .val (.int tp), .val (.long q), .second, .val (.long co), .second, .val (.long nl), .second, .val (.long nr), .second, .val (.long nd), .second, .val (.long nu), .second, .val (.int (1 : Int32)), .val (.int (1 : Int32))] [(.int (1 : Int32))]))
            refine Go.via (fun t_ k_ => XS.ifNo Hj.here hx rfl (hb hby at_531) rfl ((if0 _ _).trans (feq (show ¬ ((1 : Int32) = (0 : Int32)) from (by decide))).1) k_) ?_
            show Go _ _ _ _ (Tj.setTop (mkF m 534 #[.val (.int p1), .val (.int p2), .val (.int p3), .val (.int x), .val (.int y), .val (.int kk), .val (.long (4294967295 : Int64)), .second, .val (.long z1), .second, .val (.int (1 : Int32)), .val (.int r), .val (.int tp), .val (.long q), .second, .val (.long co), .second, .val (.long nl), .second, .val (.long nr), .second, .val (.long nd), .second, .val (.long nu), .second, .val (.int (1 : Int32)), .val (.int (1 : Int32))] []))
            refine Go.via (fun t_ k_ => XS.iconst Hj.here hx rfl (hb hby at_534) k_) ?_
            show Go _ _ _ _ (Tj.setTop (mkF m 535 #[.val (.int p1), .val (.int p2), .val (.int p3), .val (.int x), .val (.int y), .val (.int kk), .val (.long (4294967295 : Int64)), .second, .val (.long z1), .second, .val (.int (1 : Int32)), .val (.int r), .val (.int tp), .val (.long q), .second, .val (.long co), .second, .val (.long nl), .second, .val (.long nr), .second, .val (.long nd), .second, .val (.long nu), .second, .val (.int (1 : Int32)), .val (.int (1 : Int32))] [(.int (1 : Int32))]))
            refine Go.via (fun t_ k_ => XS.goto Hj.here hx rfl (pc0 := 535) (pc' := 539) rfl (hb hby at_535) (by decide) (by decide) k_) ?_
            show Go _ _ _ _ (Tj.setTop (mkF m 539 #[.val (.int p1), .val (.int p2), .val (.int p3), .val (.int x), .val (.int y), .val (.int kk), .val (.long (4294967295 : Int64)), .second, .val (.long z1), .second, .val (.int (1 : Int32)), .val (.int r), .val (.int tp), .val (.long q), .second, .val (.long co), .second, .val (.long nl), .second, .val (.long nr), .second, .val (.long nd), .second, .val (.long nu), .second, .val (.int (1 : Int32)), .val (.int (1 : Int32))] [(.int (1 : Int32))]))
            exact own_retN Hj hx hlk (by simp) hret (hb hby at_539) rfl (by decide) (by decide)
          · refine Go.via (fun t_ k_ => XS.ifNo Hj.here hx rfl (hb hby at_489) rfl ((own_neq hc489).1) k_) ?_
            show Go _ _ _ _ (Tj.setTop (mkF m 492 #[.val (.int p1), .val (.int p2), .val (.int p3), .val (.int x), .val (.int y), .val (.int kk), .val (.long (4294967295 : Int64)), .second, .val (.long z1), .second, .val (.int (1 : Int32)), .val (.int r), .val (.int tp), .val (.long q), .second, .val (.long co), .second, .val (.long nl), .second, .val (.long nr), .second, .val (.long nd), .second, .val (.long nu), .second, .val (.int (1 : Int32)), .unset] []))
            refine Go.via (fun t_ k_ => XS.lload Hj.here hx rfl (hb hby at_492) rfl k_) ?_
            show Go _ _ _ _ (Tj.setTop (mkF m 494 #[.val (.int p1), .val (.int p2), .val (.int p3), .val (.int x), .val (.int y), .val (.int kk), .val (.long (4294967295 : Int64)), .second, .val (.long z1), .second, .val (.int (1 : Int32)), .val (.int r), .val (.int tp), .val (.long q), .second, .val (.long co), .second, .val (.long nl), .second, .val (.long nr), .second, .val (.long nd), .second, .val (.long nu), .second, .val (.int (1 : Int32)), .unset] [(.long nd)]))
            refine Go.via (fun t_ k_ => XS.lload Hj.here hx rfl (hb hby at_494) rfl k_) ?_
            show Go _ _ _ _ (Tj.setTop (mkF m 496 #[.val (.int p1), .val (.int p2), .val (.int p3), .val (.int x), .val (.int y), .val (.int kk), .val (.long (4294967295 : Int64)), .second, .val (.long z1), .second, .val (.int (1 : Int32)), .val (.int r), .val (.int tp), .val (.long q), .second, .val (.long co), .second, .val (.long nl), .second, .val (.long nr), .second, .val (.long nd), .second, .val (.long nu), .second, .val (.int (1 : Int32)), .unset] [(.long z1), (.long nd)]))
            refine Go.via (fun t_ k_ => XS.lconst Hj.here hx rfl (hb hby at_496) k_) ?_
            show Go _ _ _ _ (Tj.setTop (mkF m 497 #[.val (.int p1), .val (.int p2), .val (.int p3), .val (.int x), .val (.int y), .val (.int kk), .val (.long (4294967295 : Int64)), .second, .val (.long z1), .second, .val (.int (1 : Int32)), .val (.int r), .val (.int tp), .val (.long q), .second, .val (.long co), .second, .val (.long nl), .second, .val (.long nr), .second, .val (.long nd), .second, .val (.long nu), .second, .val (.int (1 : Int32)), .unset] [(.long (1 : Int64)), (.long z1), (.long nd)]))
            refine Go.via (fun t_ k_ => XS.lsub Hj.here hx rfl (hb hby at_497) rfl k_) ?_
            show Go _ _ _ _ (Tj.setTop (mkF m 498 #[.val (.int p1), .val (.int p2), .val (.int p3), .val (.int x), .val (.int y), .val (.int kk), .val (.long (4294967295 : Int64)), .second, .val (.long z1), .second, .val (.int (1 : Int32)), .val (.int r), .val (.int tp), .val (.long q), .second, .val (.long co), .second, .val (.long nl), .second, .val (.long nr), .second, .val (.long nd), .second, .val (.long nu), .second, .val (.int (1 : Int32)), .unset] [(.long (z1 - (1 : Int64))), (.long nd)]))
            refine Go.via (fun t_ k_ => XS.lcmp Hj.here hx rfl (hb hby at_498) rfl k_) ?_
            show Go _ _ _ _ (Tj.setTop (mkF m 499 #[.val (.int p1), .val (.int p2), .val (.int p3), .val (.int x), .val (.int y), .val (.int kk), .val (.long (4294967295 : Int64)), .second, .val (.long z1), .second, .val (.int (1 : Int32)), .val (.int r), .val (.int tp), .val (.long q), .second, .val (.long co), .second, .val (.long nl), .second, .val (.long nr), .second, .val (.long nd), .second, .val (.long nu), .second, .val (.int (1 : Int32)), .unset] [(.int (lcmpW nd (z1 - (1 : Int64))))]))
            by_cases hc499 : nd = (z1 - (1 : Int64))
            · refine Go.via (fun t_ k_ => XS.ifYes Hj.here hx rfl (pc0 := 499) (pc' := 512) rfl (hb hby at_499) rfl ((own_leq hc499).1) (by decide) (by decide) k_) ?_
              show Go _ _ _ _ (Tj.setTop (mkF m 512 #[.val (.int p1), .val (.int p2), .val (.int p3), .val (.int x), .val (.int y), .val (.int kk), .val (.long (4294967295 : Int64)), .second, .val (.long z1), .second, .val (.int (1 : Int32)), .val (.int r), .val (.int tp), .val (.long q), .second, .val (.long co), .second, .val (.long nl), .second, .val (.long nr), .second, .val (.long nd), .second, .val (.long nu), .second, .val (.int (1 : Int32)), .unset] []))
              refine Go.via (fun t_ k_ => XS.iconst Hj.here hx rfl (hb hby at_512) k_) ?_
              show Go _ _ _ _ (Tj.setTop (mkF m 513 #[.val (.int p1), .val (.int p2), .val (.int p3), .val (.int x), .val (.int y), .val (.int kk), .val (.long (4294967295 : Int64)), .second, .val (.long z1), .second, .val (.int (1 : Int32)), .val (.int r), .val (.int tp), .val (.long q), .second, .val (.long co), .second, .val (.long nl), .second, .val (.long nr), .second, .val (.long nd), .second, .val (.long nu), .second, .val (.int (1 : Int32)), .unset] [(.int (1 : Int32))]))
              refine Go.via (fun t_ k_ => XS.goto Hj.here hx rfl (pc0 := 513) (pc' := 517) rfl (hb hby at_513) (by decide) (by decide) k_) ?_
              show Go _ _ _ _ (Tj.setTop (mkF m 517 #[.val (.int p1), .val (.int p2), .val (.int p3), .val (.int x), .val (.int y), .val (.int kk), .val (.long (4294967295 : Int64)), .second, .val (.long z1), .second, .val (.int (1 : Int32)), .val (.int r), .val (.int tp), .val (.long q), .second, .val (.long co), .second, .val (.long nl), .second, .val (.long nr), .second, .val (.long nd), .second, .val (.long nu), .second, .val (.int (1 : Int32)), .unset] [(.int (1 : Int32))]))
              refine Go.via (fun t_ k_ => XS.istore Hj.here hx rfl (hb hby at_517) rfl (l' := #[.val (.int p1), .val (.int p2), .val (.int p3), .val (.int x), .val (.int y), .val (.int kk), .val (.long (4294967295 : Int64)), .second, .val (.long z1), .second, .val (.int (1 : Int32)), .val (.int r), .val (.int tp), .val (.long q), .second, .val (.long co), .second, .val (.long nl), .second, .val (.long nr), .second, .val (.long nd), .second, .val (.long nu), .second, .val (.int (1 : Int32)), .val (.int (1 : Int32))]) rfl k_) ?_
              show Go _ _ _ _ (Tj.setTop (mkF m 519 #[.val (.int p1), .val (.int p2), .val (.int p3), .val (.int x), .val (.int y), .val (.int kk), .val (.long (4294967295 : Int64)), .second, .val (.long z1), .second, .val (.int (1 : Int32)), .val (.int r), .val (.int tp), .val (.long q), .second, .val (.long co), .second, .val (.long nl), .second, .val (.long nr), .second, .val (.long nd), .second, .val (.long nu), .second, .val (.int (1 : Int32)), .val (.int (1 : Int32))] []))
              refine Go.via (fun t_ k_ => XS.iload Hj.here hx rfl (hb hby at_519) rfl k_) ?_
              show Go _ _ _ _ (Tj.setTop (mkF m 521 #[.val (.int p1), .val (.int p2), .val (.int p3), .val (.int x), .val (.int y), .val (.int kk), .val (.long (4294967295 : Int64)), .second, .val (.long z1), .second, .val (.int (1 : Int32)), .val (.int r), .val (.int tp), .val (.long q), .second, .val (.long co), .second, .val (.long nl), .second, .val (.long nr), .second, .val (.long nd), .second, .val (.long nu), .second, .val (.int (1 : Int32)), .val (.int (1 : Int32))] [(.int (1 : Int32))]))
              refine Go.via (fun t_ k_ => XS.ifNo Hj.here hx rfl (hb hby at_521) rfl ((if0 _ _).trans (feq (show ¬ ((1 : Int32) = (0 : Int32)) from (by decide))).1) k_) ?_
              show Go _ _ _ _ (Tj.setTop (mkF m 524 #[.val (.int p1), .val (.int p2), .val (.int p3), .val (.int x), .val (.int y), .val (.int kk), .val (.long (4294967295 : Int64)), .second, .val (.long z1), .second, .val (.int (1 : Int32)), .val (.int r), .val (.int tp), .val (.long q), .second, .val (.long co), .second, .val (.long nl), .second, .val (.long nr), .second, .val (.long nd), .second, .val (.long nu), .second, .val (.int (1 : Int32)), .val (.int (1 : Int32))] []))
              refine Go.via (fun t_ k_ => XS.iload Hj.here hx rfl (hb hby at_524) rfl k_) ?_
              show Go _ _ _ _ (Tj.setTop (mkF m 526 #[.val (.int p1), .val (.int p2), .val (.int p3), .val (.int x), .val (.int y), .val (.int kk), .val (.long (4294967295 : Int64)), .second, .val (.long z1), .second, .val (.int (1 : Int32)), .val (.int r), .val (.int tp), .val (.long q), .second, .val (.long co), .second, .val (.long nl), .second, .val (.long nr), .second, .val (.long nd), .second, .val (.long nu), .second, .val (.int (1 : Int32)), .val (.int (1 : Int32))] [(.int (1 : Int32))]))
              refine Go.via (fun t_ k_ => XS.ifNo Hj.here hx rfl (hb hby at_526) rfl ((if0 _ _).trans (feq (show ¬ ((1 : Int32) = (0 : Int32)) from (by decide))).1) k_) ?_
              show Go _ _ _ _ (Tj.setTop (mkF m 529 #[.val (.int p1), .val (.int p2), .val (.int p3), .val (.int x), .val (.int y), .val (.int kk), .val (.long (4294967295 : Int64)), .second, .val (.long z1), .second, .val (.int (1 : Int32)), .val (.int r), .val (.int tp), .val (.long q), .second, .val (.long co), .second, .val (.long nl), .second, .val (.long nr), .second, .val (.long nd), .second, .val (.long nu), .second, .val (.int (1 : Int32)), .val (.int (1 : Int32))] []))
              refine Go.via (fun t_ k_ => XS.iload Hj.here hx rfl (hb hby at_529) rfl k_) ?_
              show Go _ _ _ _ (Tj.setTop (mkF m 531 #[.val (.int p1), .val (.int p2), .val (.int p3), .val (.int x), .val (.int y), .val (.int kk), .val (.long (4294967295 : Int64)), .second, .val (.long z1), .second, .val (.int (1 : Int32)), .val (.int r), .val (.int tp), .val (.long q), .second, .val (.long co), .second, .val (.long nl), .second, .val (.long nr), .second, .val (.long nd), .second, .val (.long nu), .second, .val (.int (1 : Int32)), .val (.int (1 : Int32))] [(.int (1 : Int32))]))
              refine Go.via (fun t_ k_ => XS.ifNo Hj.here hx rfl (hb hby at_531) rfl ((if0 _ _).trans (feq (show ¬ ((1 : Int32) = (0 : Int32)) from (by decide))).1) k_) ?_
              show Go _ _ _ _ (Tj.setTop (mkF m 534 #[.val (.int p1), .val (.int p2), .val (.int p3), .val (.int x), .val (.int y), .val (.int kk), .val (.long (4294967295 : Int64)), .second, .val (.long z1), .second, .val (.int (1 : Int32)), .val (.int r), .val (.int tp), .val (.long q), .second, .val (.long co), .second, .val (.long nl), .second, .val (.long nr), .second, .val (.long nd), .second, .val (.long nu), .second, .val (.int (1 : Int32)), .val (.int (1 : Int32))] []))
              refine Go.via (fun t_ k_ => XS.iconst Hj.here hx rfl (hb hby at_534) k_) ?_
              show Go _ _ _ _ (Tj.setTop (mkF m 535 #[.val (.int p1), .val (.int p2), .val (.int p3), .val (.int x), .val (.int y), .val (.int kk), .val (.long (4294967295 : Int64)), .second, .val (.long z1), .second, .val (.int (1 : Int32)), .val (.int r), .val (.int tp), .val (.long q), .second, .val (.long co), .second, .val (.long nl), .second, .val (.long nr), .second, .val (.long nd), .second, .val (.long nu), .second, .val (.int (1 : Int32)), .val (.int (1 : Int32))] [(.int (1 : Int32))]))
              refine Go.via (fun t_ k_ => XS.goto Hj.here hx rfl (pc0 := 535) (pc' := 539) rfl (hb hby at_535) (by decide) (by decide) k_) ?_
              show Go _ _ _ _ (Tj.setTop (mkF m 539 #[.val (.int p1), .val (.int p2), .val (.int p3), .val (.int x), .val (.int y), .val (.int kk), .val (.long (4294967295 : Int64)), .second, .val (.long z1), .second, .val (.int (1 : Int32)), .val (.int r), .val (.int tp), .val (.long q), .second, .val (.long co), .second, .val (.long nl), .second, .val (.long nr), .second, .val (.long nd), .second, .val (.long nu), .second, .val (.int (1 : Int32)), .val (.int (1 : Int32))] [(.int (1 : Int32))]))
              exact own_retN Hj hx hlk (by simp) hret (hb hby at_539) rfl (by decide) (by decide)
            · refine Go.via (fun t_ k_ => XS.ifNo Hj.here hx rfl (hb hby at_499) rfl ((own_neq hc499).1) k_) ?_
              show Go _ _ _ _ (Tj.setTop (mkF m 502 #[.val (.int p1), .val (.int p2), .val (.int p3), .val (.int x), .val (.int y), .val (.int kk), .val (.long (4294967295 : Int64)), .second, .val (.long z1), .second, .val (.int (1 : Int32)), .val (.int r), .val (.int tp), .val (.long q), .second, .val (.long co), .second, .val (.long nl), .second, .val (.long nr), .second, .val (.long nd), .second, .val (.long nu), .second, .val (.int (1 : Int32)), .unset] []))
              refine Go.via (fun t_ k_ => XS.lload Hj.here hx rfl (hb hby at_502) rfl k_) ?_
              show Go _ _ _ _ (Tj.setTop (mkF m 504 #[.val (.int p1), .val (.int p2), .val (.int p3), .val (.int x), .val (.int y), .val (.int kk), .val (.long (4294967295 : Int64)), .second, .val (.long z1), .second, .val (.int (1 : Int32)), .val (.int r), .val (.int tp), .val (.long q), .second, .val (.long co), .second, .val (.long nl), .second, .val (.long nr), .second, .val (.long nd), .second, .val (.long nu), .second, .val (.int (1 : Int32)), .unset] [(.long nu)]))
              refine Go.via (fun t_ k_ => XS.lload Hj.here hx rfl (hb hby at_504) rfl k_) ?_
              show Go _ _ _ _ (Tj.setTop (mkF m 506 #[.val (.int p1), .val (.int p2), .val (.int p3), .val (.int x), .val (.int y), .val (.int kk), .val (.long (4294967295 : Int64)), .second, .val (.long z1), .second, .val (.int (1 : Int32)), .val (.int r), .val (.int tp), .val (.long q), .second, .val (.long co), .second, .val (.long nl), .second, .val (.long nr), .second, .val (.long nd), .second, .val (.long nu), .second, .val (.int (1 : Int32)), .unset] [(.long z1), (.long nu)]))
              refine Go.via (fun t_ k_ => XS.lconst Hj.here hx rfl (hb hby at_506) k_) ?_
              show Go _ _ _ _ (Tj.setTop (mkF m 507 #[.val (.int p1), .val (.int p2), .val (.int p3), .val (.int x), .val (.int y), .val (.int kk), .val (.long (4294967295 : Int64)), .second, .val (.long z1), .second, .val (.int (1 : Int32)), .val (.int r), .val (.int tp), .val (.long q), .second, .val (.long co), .second, .val (.long nl), .second, .val (.long nr), .second, .val (.long nd), .second, .val (.long nu), .second, .val (.int (1 : Int32)), .unset] [(.long (1 : Int64)), (.long z1), (.long nu)]))
              refine Go.via (fun t_ k_ => XS.lsub Hj.here hx rfl (hb hby at_507) rfl k_) ?_
              show Go _ _ _ _ (Tj.setTop (mkF m 508 #[.val (.int p1), .val (.int p2), .val (.int p3), .val (.int x), .val (.int y), .val (.int kk), .val (.long (4294967295 : Int64)), .second, .val (.long z1), .second, .val (.int (1 : Int32)), .val (.int r), .val (.int tp), .val (.long q), .second, .val (.long co), .second, .val (.long nl), .second, .val (.long nr), .second, .val (.long nd), .second, .val (.long nu), .second, .val (.int (1 : Int32)), .unset] [(.long (z1 - (1 : Int64))), (.long nu)]))
              refine Go.via (fun t_ k_ => XS.lcmp Hj.here hx rfl (hb hby at_508) rfl k_) ?_
              show Go _ _ _ _ (Tj.setTop (mkF m 509 #[.val (.int p1), .val (.int p2), .val (.int p3), .val (.int x), .val (.int y), .val (.int kk), .val (.long (4294967295 : Int64)), .second, .val (.long z1), .second, .val (.int (1 : Int32)), .val (.int r), .val (.int tp), .val (.long q), .second, .val (.long co), .second, .val (.long nl), .second, .val (.long nr), .second, .val (.long nd), .second, .val (.long nu), .second, .val (.int (1 : Int32)), .unset] [(.int (lcmpW nu (z1 - (1 : Int64))))]))
              refine Go.via (fun t_ k_ => XS.ifNo Hj.here hx rfl (hb hby at_509) rfl ((own_leq (show nu = (z1 - (1 : Int64)) from ((((hP.resolve_left hc469).resolve_left hc479).resolve_left hc489).resolve_left hc499))).2) k_) ?_
              show Go _ _ _ _ (Tj.setTop (mkF m 512 #[.val (.int p1), .val (.int p2), .val (.int p3), .val (.int x), .val (.int y), .val (.int kk), .val (.long (4294967295 : Int64)), .second, .val (.long z1), .second, .val (.int (1 : Int32)), .val (.int r), .val (.int tp), .val (.long q), .second, .val (.long co), .second, .val (.long nl), .second, .val (.long nr), .second, .val (.long nd), .second, .val (.long nu), .second, .val (.int (1 : Int32)), .unset] []))
              refine Go.via (fun t_ k_ => XS.iconst Hj.here hx rfl (hb hby at_512) k_) ?_
              show Go _ _ _ _ (Tj.setTop (mkF m 513 #[.val (.int p1), .val (.int p2), .val (.int p3), .val (.int x), .val (.int y), .val (.int kk), .val (.long (4294967295 : Int64)), .second, .val (.long z1), .second, .val (.int (1 : Int32)), .val (.int r), .val (.int tp), .val (.long q), .second, .val (.long co), .second, .val (.long nl), .second, .val (.long nr), .second, .val (.long nd), .second, .val (.long nu), .second, .val (.int (1 : Int32)), .unset] [(.int (1 : Int32))]))
              refine Go.via (fun t_ k_ => XS.goto Hj.here hx rfl (pc0 := 513) (pc' := 517) rfl (hb hby at_513) (by decide) (by decide) k_) ?_
              show Go _ _ _ _ (Tj.setTop (mkF m 517 #[.val (.int p1), .val (.int p2), .val (.int p3), .val (.int x), .val (.int y), .val (.int kk), .val (.long (4294967295 : Int64)), .second, .val (.long z1), .second, .val (.int (1 : Int32)), .val (.int r), .val (.int tp), .val (.long q), .second, .val (.long co), .second, .val (.long nl), .second, .val (.long nr), .second, .val (.long nd), .second, .val (.long nu), .second, .val (.int (1 : Int32)), .unset] [(.int (1 : Int32))]))
              refine Go.via (fun t_ k_ => XS.istore Hj.here hx rfl (hb hby at_517) rfl (l' := #[.val (.int p1), .val (.int p2), .val (.int p3), .val (.int x), .val (.int y), .val (.int kk), .val (.long (4294967295 : Int64)), .second, .val (.long z1), .second, .val (.int (1 : Int32)), .val (.int r), .val (.int tp), .val (.long q), .second, .val (.long co), .second, .val (.long nl), .second, .val (.long nr), .second, .val (.long nd), .second, .val (.long nu), .second, .val (.int (1 : Int32)), .val (.int (1 : Int32))]) rfl k_) ?_
              show Go _ _ _ _ (Tj.setTop (mkF m 519 #[.val (.int p1), .val (.int p2), .val (.int p3), .val (.int x), .val (.int y), .val (.int kk), .val (.long (4294967295 : Int64)), .second, .val (.long z1), .second, .val (.int (1 : Int32)), .val (.int r), .val (.int tp), .val (.long q), .second, .val (.long co), .second, .val (.long nl), .second, .val (.long nr), .second, .val (.long nd), .second, .val (.long nu), .second, .val (.int (1 : Int32)), .val (.int (1 : Int32))] []))
              refine Go.via (fun t_ k_ => XS.iload Hj.here hx rfl (hb hby at_519) rfl k_) ?_
              show Go _ _ _ _ (Tj.setTop (mkF m 521 #[.val (.int p1), .val (.int p2), .val (.int p3), .val (.int x), .val (.int y), .val (.int kk), .val (.long (4294967295 : Int64)), .second, .val (.long z1), .second, .val (.int (1 : Int32)), .val (.int r), .val (.int tp), .val (.long q), .second, .val (.long co), .second, .val (.long nl), .second, .val (.long nr), .second, .val (.long nd), .second, .val (.long nu), .second, .val (.int (1 : Int32)), .val (.int (1 : Int32))] [(.int (1 : Int32))]))
              refine Go.via (fun t_ k_ => XS.ifNo Hj.here hx rfl (hb hby at_521) rfl ((if0 _ _).trans (feq (show ¬ ((1 : Int32) = (0 : Int32)) from (by decide))).1) k_) ?_
              show Go _ _ _ _ (Tj.setTop (mkF m 524 #[.val (.int p1), .val (.int p2), .val (.int p3), .val (.int x), .val (.int y), .val (.int kk), .val (.long (4294967295 : Int64)), .second, .val (.long z1), .second, .val (.int (1 : Int32)), .val (.int r), .val (.int tp), .val (.long q), .second, .val (.long co), .second, .val (.long nl), .second, .val (.long nr), .second, .val (.long nd), .second, .val (.long nu), .second, .val (.int (1 : Int32)), .val (.int (1 : Int32))] []))
              refine Go.via (fun t_ k_ => XS.iload Hj.here hx rfl (hb hby at_524) rfl k_) ?_
              show Go _ _ _ _ (Tj.setTop (mkF m 526 #[.val (.int p1), .val (.int p2), .val (.int p3), .val (.int x), .val (.int y), .val (.int kk), .val (.long (4294967295 : Int64)), .second, .val (.long z1), .second, .val (.int (1 : Int32)), .val (.int r), .val (.int tp), .val (.long q), .second, .val (.long co), .second, .val (.long nl), .second, .val (.long nr), .second, .val (.long nd), .second, .val (.long nu), .second, .val (.int (1 : Int32)), .val (.int (1 : Int32))] [(.int (1 : Int32))]))
              refine Go.via (fun t_ k_ => XS.ifNo Hj.here hx rfl (hb hby at_526) rfl ((if0 _ _).trans (feq (show ¬ ((1 : Int32) = (0 : Int32)) from (by decide))).1) k_) ?_
              show Go _ _ _ _ (Tj.setTop (mkF m 529 #[.val (.int p1), .val (.int p2), .val (.int p3), .val (.int x), .val (.int y), .val (.int kk), .val (.long (4294967295 : Int64)), .second, .val (.long z1), .second, .val (.int (1 : Int32)), .val (.int r), .val (.int tp), .val (.long q), .second, .val (.long co), .second, .val (.long nl), .second, .val (.long nr), .second, .val (.long nd), .second, .val (.long nu), .second, .val (.int (1 : Int32)), .val (.int (1 : Int32))] []))
              refine Go.via (fun t_ k_ => XS.iload Hj.here hx rfl (hb hby at_529) rfl k_) ?_
              show Go _ _ _ _ (Tj.setTop (mkF m 531 #[.val (.int p1), .val (.int p2), .val (.int p3), .val (.int x), .val (.int y), .val (.int kk), .val (.long (4294967295 : Int64)), .second, .val (.long z1), .second, .val (.int (1 : Int32)), .val (.int r), .val (.int tp), .val (.long q), .second, .val (.long co), .second, .val (.long nl), .second, .val (.long nr), .second, .val (.long nd), .second, .val (.long nu), .second, .val (.int (1 : Int32)), .val (.int (1 : Int32))] [(.int (1 : Int32))]))
              refine Go.via (fun t_ k_ => XS.ifNo Hj.here hx rfl (hb hby at_531) rfl ((if0 _ _).trans (feq (show ¬ ((1 : Int32) = (0 : Int32)) from (by decide))).1) k_) ?_
              show Go _ _ _ _ (Tj.setTop (mkF m 534 #[.val (.int p1), .val (.int p2), .val (.int p3), .val (.int x), .val (.int y), .val (.int kk), .val (.long (4294967295 : Int64)), .second, .val (.long z1), .second, .val (.int (1 : Int32)), .val (.int r), .val (.int tp), .val (.long q), .second, .val (.long co), .second, .val (.long nl), .second, .val (.long nr), .second, .val (.long nd), .second, .val (.long nu), .second, .val (.int (1 : Int32)), .val (.int (1 : Int32))] []))
              refine Go.via (fun t_ k_ => XS.iconst Hj.here hx rfl (hb hby at_534) k_) ?_
              show Go _ _ _ _ (Tj.setTop (mkF m 535 #[.val (.int p1), .val (.int p2), .val (.int p3), .val (.int x), .val (.int y), .val (.int kk), .val (.long (4294967295 : Int64)), .second, .val (.long z1), .second, .val (.int (1 : Int32)), .val (.int r), .val (.int tp), .val (.long q), .second, .val (.long co), .second, .val (.long nl), .second, .val (.long nr), .second, .val (.long nd), .second, .val (.long nu), .second, .val (.int (1 : Int32)), .val (.int (1 : Int32))] [(.int (1 : Int32))]))
              refine Go.via (fun t_ k_ => XS.goto Hj.here hx rfl (pc0 := 535) (pc' := 539) rfl (hb hby at_535) (by decide) (by decide) k_) ?_
              show Go _ _ _ _ (Tj.setTop (mkF m 539 #[.val (.int p1), .val (.int p2), .val (.int p3), .val (.int x), .val (.int y), .val (.int kk), .val (.long (4294967295 : Int64)), .second, .val (.long z1), .second, .val (.int (1 : Int32)), .val (.int r), .val (.int tp), .val (.long q), .second, .val (.long co), .second, .val (.long nl), .second, .val (.long nr), .second, .val (.long nd), .second, .val (.long nu), .second, .val (.int (1 : Int32)), .val (.int (1 : Int32))] [(.int (1 : Int32))]))
              exact own_retN Hj hx hlk (by simp) hret (hb hby at_539) rfl (by decide) (by decide)
    have J410 : ∀ (Tj : State) (r tp : Int32) (q : Int64) (co : Int64) (nl nr nd nu : Int64), Here p l e room_1 s m #[(.int p1), (.int p2), (.int p3)] below meth c n0 Tj h0 0 0 → (0 < X → nl.toInt = (hil 16 (X - 1) Y : Int)) → (X < 65535 → nr.toInt = (hil 16 (X + 1) Y : Int)) → (0 < Y → nd.toInt = (hil 16 X (Y - 1) : Int)) → (Y < 65535 → nu.toInt = (hil 16 X (Y + 1) : Int)) → Go p e below (Fini below s n0 (fun v h => v = some (.int (1 : Int32))) room_1.cells room_1.slots) (Tj.setTop (mkF m 410 #[.val (.int p1), .val (.int p2), .val (.int p3), .val (.int x), .val (.int y), .val (.int kk), .val (.long (4294967295 : Int64)), .second, .val (.long z1), .second, .val (.int (1 : Int32)), .val (.int r), .val (.int tp), .val (.long q), .second, .val (.long co), .second, .val (.long nl), .second, .val (.long nr), .second, .val (.long nd), .second, .val (.long nu), .second, .unset, .unset] [])) := by
      intro Tj r tp q co nl nr nd nu Hj n1 n2 n3 n4
      have hN := own_next hX hY qz1 n1 n2 n3 n4
      show Go _ _ _ _ (Tj.setTop (mkF m 410 #[.val (.int p1), .val (.int p2), .val (.int p3), .val (.int x), .val (.int y), .val (.int kk), .val (.long (4294967295 : Int64)), .second, .val (.long z1), .second, .val (.int (1 : Int32)), .val (.int r), .val (.int tp), .val (.long q), .second, .val (.long co), .second, .val (.long nl), .second, .val (.long nr), .second, .val (.long nd), .second, .val (.long nu), .second, .unset, .unset] []))
      refine Go.via (fun t_ k_ => XS.lload Hj.here hx rfl (hb hby at_410) rfl k_) ?_
      show Go _ _ _ _ (Tj.setTop (mkF m 412 #[.val (.int p1), .val (.int p2), .val (.int p3), .val (.int x), .val (.int y), .val (.int kk), .val (.long (4294967295 : Int64)), .second, .val (.long z1), .second, .val (.int (1 : Int32)), .val (.int r), .val (.int tp), .val (.long q), .second, .val (.long co), .second, .val (.long nl), .second, .val (.long nr), .second, .val (.long nd), .second, .val (.long nu), .second, .unset, .unset] [(.long z1)]))
      refine Go.via (fun t_ k_ => XS.lload Hj.here hx rfl (hb hby at_412) rfl k_) ?_
      show Go _ _ _ _ (Tj.setTop (mkF m 414 #[.val (.int p1), .val (.int p2), .val (.int p3), .val (.int x), .val (.int y), .val (.int kk), .val (.long (4294967295 : Int64)), .second, .val (.long z1), .second, .val (.int (1 : Int32)), .val (.int r), .val (.int tp), .val (.long q), .second, .val (.long co), .second, .val (.long nl), .second, .val (.long nr), .second, .val (.long nd), .second, .val (.long nu), .second, .unset, .unset] [(.long (4294967295 : Int64)), (.long z1)]))
      refine Go.via (fun t_ k_ => XS.lcmp Hj.here hx rfl (hb hby at_414) rfl k_) ?_
      show Go _ _ _ _ (Tj.setTop (mkF m 415 #[.val (.int p1), .val (.int p2), .val (.int p3), .val (.int x), .val (.int y), .val (.int kk), .val (.long (4294967295 : Int64)), .second, .val (.long z1), .second, .val (.int (1 : Int32)), .val (.int r), .val (.int tp), .val (.long q), .second, .val (.long co), .second, .val (.long nl), .second, .val (.long nr), .second, .val (.long nd), .second, .val (.long nu), .second, .unset, .unset] [(.int (lcmpW z1 (4294967295 : Int64)))]))
      by_cases hc415 : z1 = (4294967295 : Int64)
      · refine Go.via (fun t_ k_ => XS.ifYes Hj.here hx rfl (pc0 := 415) (pc' := 458) rfl (hb hby at_415) rfl ((own_leq hc415).1) (by decide) (by decide) k_) ?_
        show Go _ _ _ _ (Tj.setTop (mkF m 458 #[.val (.int p1), .val (.int p2), .val (.int p3), .val (.int x), .val (.int y), .val (.int kk), .val (.long (4294967295 : Int64)), .second, .val (.long z1), .second, .val (.int (1 : Int32)), .val (.int r), .val (.int tp), .val (.long q), .second, .val (.long co), .second, .val (.long nl), .second, .val (.long nr), .second, .val (.long nd), .second, .val (.long nu), .second, .unset, .unset] []))
        refine Go.via (fun t_ k_ => XS.iconst Hj.here hx rfl (hb hby at_458) k_) ?_
        show Go _ _ _ _ (Tj.setTop (mkF m 459 #[.val (.int p1), .val (.int p2), .val (.int p3), .val (.int x), .val (.int y), .val (.int kk), .val (.long (4294967295 : Int64)), .second, .val (.long z1), .second, .val (.int (1 : Int32)), .val (.int r), .val (.int tp), .val (.long q), .second, .val (.long co), .second, .val (.long nl), .second, .val (.long nr), .second, .val (.long nd), .second, .val (.long nu), .second, .unset, .unset] [(.int (1 : Int32))]))
        refine Go.via (fun t_ k_ => XS.goto Hj.here hx rfl (pc0 := 459) (pc' := 463) rfl (hb hby at_459) (by decide) (by decide) k_) ?_
        show Go _ _ _ _ (Tj.setTop (mkF m 463 #[.val (.int p1), .val (.int p2), .val (.int p3), .val (.int x), .val (.int y), .val (.int kk), .val (.long (4294967295 : Int64)), .second, .val (.long z1), .second, .val (.int (1 : Int32)), .val (.int r), .val (.int tp), .val (.long q), .second, .val (.long co), .second, .val (.long nl), .second, .val (.long nr), .second, .val (.long nd), .second, .val (.long nu), .second, .unset, .unset] [(.int (1 : Int32))]))
        refine Go.via (fun t_ k_ => XS.istore Hj.here hx rfl (hb hby at_463) rfl (l' := #[.val (.int p1), .val (.int p2), .val (.int p3), .val (.int x), .val (.int y), .val (.int kk), .val (.long (4294967295 : Int64)), .second, .val (.long z1), .second, .val (.int (1 : Int32)), .val (.int r), .val (.int tp), .val (.long q), .second, .val (.long co), .second, .val (.long nl), .second, .val (.long nr), .second, .val (.long nd), .second, .val (.long nu), .second, .val (.int (1 : Int32)), .unset]) rfl k_) ?_
        show Go _ _ _ _ (Tj.setTop (mkF m 465 #[.val (.int p1), .val (.int p2), .val (.int p3), .val (.int x), .val (.int y), .val (.int kk), .val (.long (4294967295 : Int64)), .second, .val (.long z1), .second, .val (.int (1 : Int32)), .val (.int r), .val (.int tp), .val (.long q), .second, .val (.long co), .second, .val (.long nl), .second, .val (.long nr), .second, .val (.long nd), .second, .val (.long nu), .second, .val (.int (1 : Int32)), .unset] []))
        exact J465 Tj r tp q co nl nr nd nu Hj n1 n2 n3 n4
      · refine Go.via (fun t_ k_ => XS.ifNo Hj.here hx rfl (hb hby at_415) rfl ((own_neq hc415).1) k_) ?_
        show Go _ _ _ _ (Tj.setTop (mkF m 418 #[.val (.int p1), .val (.int p2), .val (.int p3), .val (.int x), .val (.int y), .val (.int kk), .val (.long (4294967295 : Int64)), .second, .val (.long z1), .second, .val (.int (1 : Int32)), .val (.int r), .val (.int tp), .val (.long q), .second, .val (.long co), .second, .val (.long nl), .second, .val (.long nr), .second, .val (.long nd), .second, .val (.long nu), .second, .unset, .unset] []))
        refine Go.via (fun t_ k_ => XS.lload Hj.here hx rfl (hb hby at_418) rfl k_) ?_
        show Go _ _ _ _ (Tj.setTop (mkF m 420 #[.val (.int p1), .val (.int p2), .val (.int p3), .val (.int x), .val (.int y), .val (.int kk), .val (.long (4294967295 : Int64)), .second, .val (.long z1), .second, .val (.int (1 : Int32)), .val (.int r), .val (.int tp), .val (.long q), .second, .val (.long co), .second, .val (.long nl), .second, .val (.long nr), .second, .val (.long nd), .second, .val (.long nu), .second, .unset, .unset] [(.long nl)]))
        refine Go.via (fun t_ k_ => XS.lload Hj.here hx rfl (hb hby at_420) rfl k_) ?_
        show Go _ _ _ _ (Tj.setTop (mkF m 422 #[.val (.int p1), .val (.int p2), .val (.int p3), .val (.int x), .val (.int y), .val (.int kk), .val (.long (4294967295 : Int64)), .second, .val (.long z1), .second, .val (.int (1 : Int32)), .val (.int r), .val (.int tp), .val (.long q), .second, .val (.long co), .second, .val (.long nl), .second, .val (.long nr), .second, .val (.long nd), .second, .val (.long nu), .second, .unset, .unset] [(.long z1), (.long nl)]))
        refine Go.via (fun t_ k_ => XS.lconst Hj.here hx rfl (hb hby at_422) k_) ?_
        show Go _ _ _ _ (Tj.setTop (mkF m 423 #[.val (.int p1), .val (.int p2), .val (.int p3), .val (.int x), .val (.int y), .val (.int kk), .val (.long (4294967295 : Int64)), .second, .val (.long z1), .second, .val (.int (1 : Int32)), .val (.int r), .val (.int tp), .val (.long q), .second, .val (.long co), .second, .val (.long nl), .second, .val (.long nr), .second, .val (.long nd), .second, .val (.long nu), .second, .unset, .unset] [(.long (1 : Int64)), (.long z1), (.long nl)]))
        refine Go.via (fun t_ k_ => XS.ladd Hj.here hx rfl (hb hby at_423) rfl k_) ?_
        show Go _ _ _ _ (Tj.setTop (mkF m 424 #[.val (.int p1), .val (.int p2), .val (.int p3), .val (.int x), .val (.int y), .val (.int kk), .val (.long (4294967295 : Int64)), .second, .val (.long z1), .second, .val (.int (1 : Int32)), .val (.int r), .val (.int tp), .val (.long q), .second, .val (.long co), .second, .val (.long nl), .second, .val (.long nr), .second, .val (.long nd), .second, .val (.long nu), .second, .unset, .unset] [(.long (z1 + (1 : Int64))), (.long nl)]))
        refine Go.via (fun t_ k_ => XS.lcmp Hj.here hx rfl (hb hby at_424) rfl k_) ?_
        show Go _ _ _ _ (Tj.setTop (mkF m 425 #[.val (.int p1), .val (.int p2), .val (.int p3), .val (.int x), .val (.int y), .val (.int kk), .val (.long (4294967295 : Int64)), .second, .val (.long z1), .second, .val (.int (1 : Int32)), .val (.int r), .val (.int tp), .val (.long q), .second, .val (.long co), .second, .val (.long nl), .second, .val (.long nr), .second, .val (.long nd), .second, .val (.long nu), .second, .unset, .unset] [(.int (lcmpW nl (z1 + (1 : Int64))))]))
        by_cases hc425 : nl = (z1 + (1 : Int64))
        · refine Go.via (fun t_ k_ => XS.ifYes Hj.here hx rfl (pc0 := 425) (pc' := 458) rfl (hb hby at_425) rfl ((own_leq hc425).1) (by decide) (by decide) k_) ?_
          show Go _ _ _ _ (Tj.setTop (mkF m 458 #[.val (.int p1), .val (.int p2), .val (.int p3), .val (.int x), .val (.int y), .val (.int kk), .val (.long (4294967295 : Int64)), .second, .val (.long z1), .second, .val (.int (1 : Int32)), .val (.int r), .val (.int tp), .val (.long q), .second, .val (.long co), .second, .val (.long nl), .second, .val (.long nr), .second, .val (.long nd), .second, .val (.long nu), .second, .unset, .unset] []))
          refine Go.via (fun t_ k_ => XS.iconst Hj.here hx rfl (hb hby at_458) k_) ?_
          show Go _ _ _ _ (Tj.setTop (mkF m 459 #[.val (.int p1), .val (.int p2), .val (.int p3), .val (.int x), .val (.int y), .val (.int kk), .val (.long (4294967295 : Int64)), .second, .val (.long z1), .second, .val (.int (1 : Int32)), .val (.int r), .val (.int tp), .val (.long q), .second, .val (.long co), .second, .val (.long nl), .second, .val (.long nr), .second, .val (.long nd), .second, .val (.long nu), .second, .unset, .unset] [(.int (1 : Int32))]))
          refine Go.via (fun t_ k_ => XS.goto Hj.here hx rfl (pc0 := 459) (pc' := 463) rfl (hb hby at_459) (by decide) (by decide) k_) ?_
          show Go _ _ _ _ (Tj.setTop (mkF m 463 #[.val (.int p1), .val (.int p2), .val (.int p3), .val (.int x), .val (.int y), .val (.int kk), .val (.long (4294967295 : Int64)), .second, .val (.long z1), .second, .val (.int (1 : Int32)), .val (.int r), .val (.int tp), .val (.long q), .second, .val (.long co), .second, .val (.long nl), .second, .val (.long nr), .second, .val (.long nd), .second, .val (.long nu), .second, .unset, .unset] [(.int (1 : Int32))]))
          refine Go.via (fun t_ k_ => XS.istore Hj.here hx rfl (hb hby at_463) rfl (l' := #[.val (.int p1), .val (.int p2), .val (.int p3), .val (.int x), .val (.int y), .val (.int kk), .val (.long (4294967295 : Int64)), .second, .val (.long z1), .second, .val (.int (1 : Int32)), .val (.int r), .val (.int tp), .val (.long q), .second, .val (.long co), .second, .val (.long nl), .second, .val (.long nr), .second, .val (.long nd), .second, .val (.long nu), .second, .val (.int (1 : Int32)), .unset]) rfl k_) ?_
          show Go _ _ _ _ (Tj.setTop (mkF m 465 #[.val (.int p1), .val (.int p2), .val (.int p3), .val (.int x), .val (.int y), .val (.int kk), .val (.long (4294967295 : Int64)), .second, .val (.long z1), .second, .val (.int (1 : Int32)), .val (.int r), .val (.int tp), .val (.long q), .second, .val (.long co), .second, .val (.long nl), .second, .val (.long nr), .second, .val (.long nd), .second, .val (.long nu), .second, .val (.int (1 : Int32)), .unset] []))
          exact J465 Tj r tp q co nl nr nd nu Hj n1 n2 n3 n4
        · refine Go.via (fun t_ k_ => XS.ifNo Hj.here hx rfl (hb hby at_425) rfl ((own_neq hc425).1) k_) ?_
          show Go _ _ _ _ (Tj.setTop (mkF m 428 #[.val (.int p1), .val (.int p2), .val (.int p3), .val (.int x), .val (.int y), .val (.int kk), .val (.long (4294967295 : Int64)), .second, .val (.long z1), .second, .val (.int (1 : Int32)), .val (.int r), .val (.int tp), .val (.long q), .second, .val (.long co), .second, .val (.long nl), .second, .val (.long nr), .second, .val (.long nd), .second, .val (.long nu), .second, .unset, .unset] []))
          refine Go.via (fun t_ k_ => XS.lload Hj.here hx rfl (hb hby at_428) rfl k_) ?_
          show Go _ _ _ _ (Tj.setTop (mkF m 430 #[.val (.int p1), .val (.int p2), .val (.int p3), .val (.int x), .val (.int y), .val (.int kk), .val (.long (4294967295 : Int64)), .second, .val (.long z1), .second, .val (.int (1 : Int32)), .val (.int r), .val (.int tp), .val (.long q), .second, .val (.long co), .second, .val (.long nl), .second, .val (.long nr), .second, .val (.long nd), .second, .val (.long nu), .second, .unset, .unset] [(.long nr)]))
          refine Go.via (fun t_ k_ => XS.lload Hj.here hx rfl (hb hby at_430) rfl k_) ?_
          show Go _ _ _ _ (Tj.setTop (mkF m 432 #[.val (.int p1), .val (.int p2), .val (.int p3), .val (.int x), .val (.int y), .val (.int kk), .val (.long (4294967295 : Int64)), .second, .val (.long z1), .second, .val (.int (1 : Int32)), .val (.int r), .val (.int tp), .val (.long q), .second, .val (.long co), .second, .val (.long nl), .second, .val (.long nr), .second, .val (.long nd), .second, .val (.long nu), .second, .unset, .unset] [(.long z1), (.long nr)]))
          refine Go.via (fun t_ k_ => XS.lconst Hj.here hx rfl (hb hby at_432) k_) ?_
          show Go _ _ _ _ (Tj.setTop (mkF m 433 #[.val (.int p1), .val (.int p2), .val (.int p3), .val (.int x), .val (.int y), .val (.int kk), .val (.long (4294967295 : Int64)), .second, .val (.long z1), .second, .val (.int (1 : Int32)), .val (.int r), .val (.int tp), .val (.long q), .second, .val (.long co), .second, .val (.long nl), .second, .val (.long nr), .second, .val (.long nd), .second, .val (.long nu), .second, .unset, .unset] [(.long (1 : Int64)), (.long z1), (.long nr)]))
          refine Go.via (fun t_ k_ => XS.ladd Hj.here hx rfl (hb hby at_433) rfl k_) ?_
          show Go _ _ _ _ (Tj.setTop (mkF m 434 #[.val (.int p1), .val (.int p2), .val (.int p3), .val (.int x), .val (.int y), .val (.int kk), .val (.long (4294967295 : Int64)), .second, .val (.long z1), .second, .val (.int (1 : Int32)), .val (.int r), .val (.int tp), .val (.long q), .second, .val (.long co), .second, .val (.long nl), .second, .val (.long nr), .second, .val (.long nd), .second, .val (.long nu), .second, .unset, .unset] [(.long (z1 + (1 : Int64))), (.long nr)]))
          refine Go.via (fun t_ k_ => XS.lcmp Hj.here hx rfl (hb hby at_434) rfl k_) ?_
          show Go _ _ _ _ (Tj.setTop (mkF m 435 #[.val (.int p1), .val (.int p2), .val (.int p3), .val (.int x), .val (.int y), .val (.int kk), .val (.long (4294967295 : Int64)), .second, .val (.long z1), .second, .val (.int (1 : Int32)), .val (.int r), .val (.int tp), .val (.long q), .second, .val (.long co), .second, .val (.long nl), .second, .val (.long nr), .second, .val (.long nd), .second, .val (.long nu), .second, .unset, .unset] [(.int (lcmpW nr (z1 + (1 : Int64))))]))
          by_cases hc435 : nr = (z1 + (1 : Int64))
          · refine Go.via (fun t_ k_ => XS.ifYes Hj.here hx rfl (pc0 := 435) (pc' := 458) rfl (hb hby at_435) rfl ((own_leq hc435).1) (by decide) (by decide) k_) ?_
            show Go _ _ _ _ (Tj.setTop (mkF m 458 #[.val (.int p1), .val (.int p2), .val (.int p3), .val (.int x), .val (.int y), .val (.int kk), .val (.long (4294967295 : Int64)), .second, .val (.long z1), .second, .val (.int (1 : Int32)), .val (.int r), .val (.int tp), .val (.long q), .second, .val (.long co), .second, .val (.long nl), .second, .val (.long nr), .second, .val (.long nd), .second, .val (.long nu), .second, .unset, .unset] []))
            refine Go.via (fun t_ k_ => XS.iconst Hj.here hx rfl (hb hby at_458) k_) ?_
            show Go _ _ _ _ (Tj.setTop (mkF m 459 #[.val (.int p1), .val (.int p2), .val (.int p3), .val (.int x), .val (.int y), .val (.int kk), .val (.long (4294967295 : Int64)), .second, .val (.long z1), .second, .val (.int (1 : Int32)), .val (.int r), .val (.int tp), .val (.long q), .second, .val (.long co), .second, .val (.long nl), .second, .val (.long nr), .second, .val (.long nd), .second, .val (.long nu), .second, .unset, .unset] [(.int (1 : Int32))]))
            refine Go.via (fun t_ k_ => XS.goto Hj.here hx rfl (pc0 := 459) (pc' := 463) rfl (hb hby at_459) (by decide) (by decide) k_) ?_
            show Go _ _ _ _ (Tj.setTop (mkF m 463 #[.val (.int p1), .val (.int p2), .val (.int p3), .val (.int x), .val (.int y), .val (.int kk), .val (.long (4294967295 : Int64)), .second, .val (.long z1), .second, .val (.int (1 : Int32)), .val (.int r), .val (.int tp), .val (.long q), .second, .val (.long co), .second, .val (.long nl), .second, .val (.long nr), .second, .val (.long nd), .second, .val (.long nu), .second, .unset, .unset] [(.int (1 : Int32))]))
            refine Go.via (fun t_ k_ => XS.istore Hj.here hx rfl (hb hby at_463) rfl (l' := #[.val (.int p1), .val (.int p2), .val (.int p3), .val (.int x), .val (.int y), .val (.int kk), .val (.long (4294967295 : Int64)), .second, .val (.long z1), .second, .val (.int (1 : Int32)), .val (.int r), .val (.int tp), .val (.long q), .second, .val (.long co), .second, .val (.long nl), .second, .val (.long nr), .second, .val (.long nd), .second, .val (.long nu), .second, .val (.int (1 : Int32)), .unset]) rfl k_) ?_
            show Go _ _ _ _ (Tj.setTop (mkF m 465 #[.val (.int p1), .val (.int p2), .val (.int p3), .val (.int x), .val (.int y), .val (.int kk), .val (.long (4294967295 : Int64)), .second, .val (.long z1), .second, .val (.int (1 : Int32)), .val (.int r), .val (.int tp), .val (.long q), .second, .val (.long co), .second, .val (.long nl), .second, .val (.long nr), .second, .val (.long nd), .second, .val (.long nu), .second, .val (.int (1 : Int32)), .unset] []))
            exact J465 Tj r tp q co nl nr nd nu Hj n1 n2 n3 n4
          · refine Go.via (fun t_ k_ => XS.ifNo Hj.here hx rfl (hb hby at_435) rfl ((own_neq hc435).1) k_) ?_
            show Go _ _ _ _ (Tj.setTop (mkF m 438 #[.val (.int p1), .val (.int p2), .val (.int p3), .val (.int x), .val (.int y), .val (.int kk), .val (.long (4294967295 : Int64)), .second, .val (.long z1), .second, .val (.int (1 : Int32)), .val (.int r), .val (.int tp), .val (.long q), .second, .val (.long co), .second, .val (.long nl), .second, .val (.long nr), .second, .val (.long nd), .second, .val (.long nu), .second, .unset, .unset] []))
            refine Go.via (fun t_ k_ => XS.lload Hj.here hx rfl (hb hby at_438) rfl k_) ?_
            show Go _ _ _ _ (Tj.setTop (mkF m 440 #[.val (.int p1), .val (.int p2), .val (.int p3), .val (.int x), .val (.int y), .val (.int kk), .val (.long (4294967295 : Int64)), .second, .val (.long z1), .second, .val (.int (1 : Int32)), .val (.int r), .val (.int tp), .val (.long q), .second, .val (.long co), .second, .val (.long nl), .second, .val (.long nr), .second, .val (.long nd), .second, .val (.long nu), .second, .unset, .unset] [(.long nd)]))
            refine Go.via (fun t_ k_ => XS.lload Hj.here hx rfl (hb hby at_440) rfl k_) ?_
            show Go _ _ _ _ (Tj.setTop (mkF m 442 #[.val (.int p1), .val (.int p2), .val (.int p3), .val (.int x), .val (.int y), .val (.int kk), .val (.long (4294967295 : Int64)), .second, .val (.long z1), .second, .val (.int (1 : Int32)), .val (.int r), .val (.int tp), .val (.long q), .second, .val (.long co), .second, .val (.long nl), .second, .val (.long nr), .second, .val (.long nd), .second, .val (.long nu), .second, .unset, .unset] [(.long z1), (.long nd)]))
            refine Go.via (fun t_ k_ => XS.lconst Hj.here hx rfl (hb hby at_442) k_) ?_
            show Go _ _ _ _ (Tj.setTop (mkF m 443 #[.val (.int p1), .val (.int p2), .val (.int p3), .val (.int x), .val (.int y), .val (.int kk), .val (.long (4294967295 : Int64)), .second, .val (.long z1), .second, .val (.int (1 : Int32)), .val (.int r), .val (.int tp), .val (.long q), .second, .val (.long co), .second, .val (.long nl), .second, .val (.long nr), .second, .val (.long nd), .second, .val (.long nu), .second, .unset, .unset] [(.long (1 : Int64)), (.long z1), (.long nd)]))
            refine Go.via (fun t_ k_ => XS.ladd Hj.here hx rfl (hb hby at_443) rfl k_) ?_
            show Go _ _ _ _ (Tj.setTop (mkF m 444 #[.val (.int p1), .val (.int p2), .val (.int p3), .val (.int x), .val (.int y), .val (.int kk), .val (.long (4294967295 : Int64)), .second, .val (.long z1), .second, .val (.int (1 : Int32)), .val (.int r), .val (.int tp), .val (.long q), .second, .val (.long co), .second, .val (.long nl), .second, .val (.long nr), .second, .val (.long nd), .second, .val (.long nu), .second, .unset, .unset] [(.long (z1 + (1 : Int64))), (.long nd)]))
            refine Go.via (fun t_ k_ => XS.lcmp Hj.here hx rfl (hb hby at_444) rfl k_) ?_
            show Go _ _ _ _ (Tj.setTop (mkF m 445 #[.val (.int p1), .val (.int p2), .val (.int p3), .val (.int x), .val (.int y), .val (.int kk), .val (.long (4294967295 : Int64)), .second, .val (.long z1), .second, .val (.int (1 : Int32)), .val (.int r), .val (.int tp), .val (.long q), .second, .val (.long co), .second, .val (.long nl), .second, .val (.long nr), .second, .val (.long nd), .second, .val (.long nu), .second, .unset, .unset] [(.int (lcmpW nd (z1 + (1 : Int64))))]))
            by_cases hc445 : nd = (z1 + (1 : Int64))
            · refine Go.via (fun t_ k_ => XS.ifYes Hj.here hx rfl (pc0 := 445) (pc' := 458) rfl (hb hby at_445) rfl ((own_leq hc445).1) (by decide) (by decide) k_) ?_
              show Go _ _ _ _ (Tj.setTop (mkF m 458 #[.val (.int p1), .val (.int p2), .val (.int p3), .val (.int x), .val (.int y), .val (.int kk), .val (.long (4294967295 : Int64)), .second, .val (.long z1), .second, .val (.int (1 : Int32)), .val (.int r), .val (.int tp), .val (.long q), .second, .val (.long co), .second, .val (.long nl), .second, .val (.long nr), .second, .val (.long nd), .second, .val (.long nu), .second, .unset, .unset] []))
              refine Go.via (fun t_ k_ => XS.iconst Hj.here hx rfl (hb hby at_458) k_) ?_
              show Go _ _ _ _ (Tj.setTop (mkF m 459 #[.val (.int p1), .val (.int p2), .val (.int p3), .val (.int x), .val (.int y), .val (.int kk), .val (.long (4294967295 : Int64)), .second, .val (.long z1), .second, .val (.int (1 : Int32)), .val (.int r), .val (.int tp), .val (.long q), .second, .val (.long co), .second, .val (.long nl), .second, .val (.long nr), .second, .val (.long nd), .second, .val (.long nu), .second, .unset, .unset] [(.int (1 : Int32))]))
              refine Go.via (fun t_ k_ => XS.goto Hj.here hx rfl (pc0 := 459) (pc' := 463) rfl (hb hby at_459) (by decide) (by decide) k_) ?_
              show Go _ _ _ _ (Tj.setTop (mkF m 463 #[.val (.int p1), .val (.int p2), .val (.int p3), .val (.int x), .val (.int y), .val (.int kk), .val (.long (4294967295 : Int64)), .second, .val (.long z1), .second, .val (.int (1 : Int32)), .val (.int r), .val (.int tp), .val (.long q), .second, .val (.long co), .second, .val (.long nl), .second, .val (.long nr), .second, .val (.long nd), .second, .val (.long nu), .second, .unset, .unset] [(.int (1 : Int32))]))
              refine Go.via (fun t_ k_ => XS.istore Hj.here hx rfl (hb hby at_463) rfl (l' := #[.val (.int p1), .val (.int p2), .val (.int p3), .val (.int x), .val (.int y), .val (.int kk), .val (.long (4294967295 : Int64)), .second, .val (.long z1), .second, .val (.int (1 : Int32)), .val (.int r), .val (.int tp), .val (.long q), .second, .val (.long co), .second, .val (.long nl), .second, .val (.long nr), .second, .val (.long nd), .second, .val (.long nu), .second, .val (.int (1 : Int32)), .unset]) rfl k_) ?_
              show Go _ _ _ _ (Tj.setTop (mkF m 465 #[.val (.int p1), .val (.int p2), .val (.int p3), .val (.int x), .val (.int y), .val (.int kk), .val (.long (4294967295 : Int64)), .second, .val (.long z1), .second, .val (.int (1 : Int32)), .val (.int r), .val (.int tp), .val (.long q), .second, .val (.long co), .second, .val (.long nl), .second, .val (.long nr), .second, .val (.long nd), .second, .val (.long nu), .second, .val (.int (1 : Int32)), .unset] []))
              exact J465 Tj r tp q co nl nr nd nu Hj n1 n2 n3 n4
            · refine Go.via (fun t_ k_ => XS.ifNo Hj.here hx rfl (hb hby at_445) rfl ((own_neq hc445).1) k_) ?_
              show Go _ _ _ _ (Tj.setTop (mkF m 448 #[.val (.int p1), .val (.int p2), .val (.int p3), .val (.int x), .val (.int y), .val (.int kk), .val (.long (4294967295 : Int64)), .second, .val (.long z1), .second, .val (.int (1 : Int32)), .val (.int r), .val (.int tp), .val (.long q), .second, .val (.long co), .second, .val (.long nl), .second, .val (.long nr), .second, .val (.long nd), .second, .val (.long nu), .second, .unset, .unset] []))
              refine Go.via (fun t_ k_ => XS.lload Hj.here hx rfl (hb hby at_448) rfl k_) ?_
              show Go _ _ _ _ (Tj.setTop (mkF m 450 #[.val (.int p1), .val (.int p2), .val (.int p3), .val (.int x), .val (.int y), .val (.int kk), .val (.long (4294967295 : Int64)), .second, .val (.long z1), .second, .val (.int (1 : Int32)), .val (.int r), .val (.int tp), .val (.long q), .second, .val (.long co), .second, .val (.long nl), .second, .val (.long nr), .second, .val (.long nd), .second, .val (.long nu), .second, .unset, .unset] [(.long nu)]))
              refine Go.via (fun t_ k_ => XS.lload Hj.here hx rfl (hb hby at_450) rfl k_) ?_
              show Go _ _ _ _ (Tj.setTop (mkF m 452 #[.val (.int p1), .val (.int p2), .val (.int p3), .val (.int x), .val (.int y), .val (.int kk), .val (.long (4294967295 : Int64)), .second, .val (.long z1), .second, .val (.int (1 : Int32)), .val (.int r), .val (.int tp), .val (.long q), .second, .val (.long co), .second, .val (.long nl), .second, .val (.long nr), .second, .val (.long nd), .second, .val (.long nu), .second, .unset, .unset] [(.long z1), (.long nu)]))
              refine Go.via (fun t_ k_ => XS.lconst Hj.here hx rfl (hb hby at_452) k_) ?_
              show Go _ _ _ _ (Tj.setTop (mkF m 453 #[.val (.int p1), .val (.int p2), .val (.int p3), .val (.int x), .val (.int y), .val (.int kk), .val (.long (4294967295 : Int64)), .second, .val (.long z1), .second, .val (.int (1 : Int32)), .val (.int r), .val (.int tp), .val (.long q), .second, .val (.long co), .second, .val (.long nl), .second, .val (.long nr), .second, .val (.long nd), .second, .val (.long nu), .second, .unset, .unset] [(.long (1 : Int64)), (.long z1), (.long nu)]))
              refine Go.via (fun t_ k_ => XS.ladd Hj.here hx rfl (hb hby at_453) rfl k_) ?_
              show Go _ _ _ _ (Tj.setTop (mkF m 454 #[.val (.int p1), .val (.int p2), .val (.int p3), .val (.int x), .val (.int y), .val (.int kk), .val (.long (4294967295 : Int64)), .second, .val (.long z1), .second, .val (.int (1 : Int32)), .val (.int r), .val (.int tp), .val (.long q), .second, .val (.long co), .second, .val (.long nl), .second, .val (.long nr), .second, .val (.long nd), .second, .val (.long nu), .second, .unset, .unset] [(.long (z1 + (1 : Int64))), (.long nu)]))
              refine Go.via (fun t_ k_ => XS.lcmp Hj.here hx rfl (hb hby at_454) rfl k_) ?_
              show Go _ _ _ _ (Tj.setTop (mkF m 455 #[.val (.int p1), .val (.int p2), .val (.int p3), .val (.int x), .val (.int y), .val (.int kk), .val (.long (4294967295 : Int64)), .second, .val (.long z1), .second, .val (.int (1 : Int32)), .val (.int r), .val (.int tp), .val (.long q), .second, .val (.long co), .second, .val (.long nl), .second, .val (.long nr), .second, .val (.long nd), .second, .val (.long nu), .second, .unset, .unset] [(.int (lcmpW nu (z1 + (1 : Int64))))]))
              refine Go.via (fun t_ k_ => XS.ifNo Hj.here hx rfl (hb hby at_455) rfl ((own_leq (show nu = (z1 + (1 : Int64)) from ((((hN.resolve_left hc415).resolve_left hc425).resolve_left hc435).resolve_left hc445))).2) k_) ?_
              show Go _ _ _ _ (Tj.setTop (mkF m 458 #[.val (.int p1), .val (.int p2), .val (.int p3), .val (.int x), .val (.int y), .val (.int kk), .val (.long (4294967295 : Int64)), .second, .val (.long z1), .second, .val (.int (1 : Int32)), .val (.int r), .val (.int tp), .val (.long q), .second, .val (.long co), .second, .val (.long nl), .second, .val (.long nr), .second, .val (.long nd), .second, .val (.long nu), .second, .unset, .unset] []))
              refine Go.via (fun t_ k_ => XS.iconst Hj.here hx rfl (hb hby at_458) k_) ?_
              show Go _ _ _ _ (Tj.setTop (mkF m 459 #[.val (.int p1), .val (.int p2), .val (.int p3), .val (.int x), .val (.int y), .val (.int kk), .val (.long (4294967295 : Int64)), .second, .val (.long z1), .second, .val (.int (1 : Int32)), .val (.int r), .val (.int tp), .val (.long q), .second, .val (.long co), .second, .val (.long nl), .second, .val (.long nr), .second, .val (.long nd), .second, .val (.long nu), .second, .unset, .unset] [(.int (1 : Int32))]))
              refine Go.via (fun t_ k_ => XS.goto Hj.here hx rfl (pc0 := 459) (pc' := 463) rfl (hb hby at_459) (by decide) (by decide) k_) ?_
              show Go _ _ _ _ (Tj.setTop (mkF m 463 #[.val (.int p1), .val (.int p2), .val (.int p3), .val (.int x), .val (.int y), .val (.int kk), .val (.long (4294967295 : Int64)), .second, .val (.long z1), .second, .val (.int (1 : Int32)), .val (.int r), .val (.int tp), .val (.long q), .second, .val (.long co), .second, .val (.long nl), .second, .val (.long nr), .second, .val (.long nd), .second, .val (.long nu), .second, .unset, .unset] [(.int (1 : Int32))]))
              refine Go.via (fun t_ k_ => XS.istore Hj.here hx rfl (hb hby at_463) rfl (l' := #[.val (.int p1), .val (.int p2), .val (.int p3), .val (.int x), .val (.int y), .val (.int kk), .val (.long (4294967295 : Int64)), .second, .val (.long z1), .second, .val (.int (1 : Int32)), .val (.int r), .val (.int tp), .val (.long q), .second, .val (.long co), .second, .val (.long nl), .second, .val (.long nr), .second, .val (.long nd), .second, .val (.long nu), .second, .val (.int (1 : Int32)), .unset]) rfl k_) ?_
              show Go _ _ _ _ (Tj.setTop (mkF m 465 #[.val (.int p1), .val (.int p2), .val (.int p3), .val (.int x), .val (.int y), .val (.int kk), .val (.long (4294967295 : Int64)), .second, .val (.long z1), .second, .val (.int (1 : Int32)), .val (.int r), .val (.int tp), .val (.long q), .second, .val (.long co), .second, .val (.long nl), .second, .val (.long nr), .second, .val (.long nd), .second, .val (.long nu), .second, .val (.int (1 : Int32)), .unset] []))
              exact J465 Tj r tp q co nl nr nd nu Hj n1 n2 n3 n4
    have J387 : ∀ (Tj : State) (r tp : Int32) (q : Int64) (co : Int64) (nl nr nd : Int64), Here p l e room_1 s m #[(.int p1), (.int p2), (.int p3)] below meth c n0 Tj h0 0 0 → (0 < X → nl.toInt = (hil 16 (X - 1) Y : Int)) → (X < 65535 → nr.toInt = (hil 16 (X + 1) Y : Int)) → (0 < Y → nd.toInt = (hil 16 X (Y - 1) : Int)) → Go p e below (Fini below s n0 (fun v h => v = some (.int (1 : Int32))) room_1.cells room_1.slots) (Tj.setTop (mkF m 387 #[.val (.int p1), .val (.int p2), .val (.int p3), .val (.int x), .val (.int y), .val (.int kk), .val (.long (4294967295 : Int64)), .second, .val (.long z1), .second, .val (.int (1 : Int32)), .val (.int r), .val (.int tp), .val (.long q), .second, .val (.long co), .second, .val (.long nl), .second, .val (.long nr), .second, .val (.long nd), .second, .unset, .unset, .unset, .unset] [])) := by
      intro Tj r tp q co nl nr nd Hj n1 n2 n3
      show Go _ _ _ _ (Tj.setTop (mkF m 387 #[.val (.int p1), .val (.int p2), .val (.int p3), .val (.int x), .val (.int y), .val (.int kk), .val (.long (4294967295 : Int64)), .second, .val (.long z1), .second, .val (.int (1 : Int32)), .val (.int r), .val (.int tp), .val (.long q), .second, .val (.long co), .second, .val (.long nl), .second, .val (.long nr), .second, .val (.long nd), .second, .unset, .unset, .unset, .unset] []))
      refine Go.via (fun t_ k_ => XS.iload Hj.here hx rfl (hb hby at_387) rfl k_) ?_
      show Go _ _ _ _ (Tj.setTop (mkF m 389 #[.val (.int p1), .val (.int p2), .val (.int p3), .val (.int x), .val (.int y), .val (.int kk), .val (.long (4294967295 : Int64)), .second, .val (.long z1), .second, .val (.int (1 : Int32)), .val (.int r), .val (.int tp), .val (.long q), .second, .val (.long co), .second, .val (.long nl), .second, .val (.long nr), .second, .val (.long nd), .second, .unset, .unset, .unset, .unset] [(.int y)]))
      refine own_ldcI Hj hx hZ hown (hw _ (List.mem_of_getElem? (i := 0) rfl)) (g := (mkF m 389 #[.val (.int p1), .val (.int p2), .val (.int p3), .val (.int x), .val (.int y), .val (.int kk), .val (.long (4294967295 : Int64)), .second, .val (.long z1), .second, .val (.int (1 : Int32)), .val (.int r), .val (.int tp), .val (.long q), .second, .val (.long co), .second, .val (.long nl), .second, .val (.long nr), .second, .val (.long nd), .second, .unset, .unset, .unset, .unset] [(.int y)])) rfl (hb hby at_389) ?_
      show Go _ _ _ _ (Tj.setTop (mkF m 391 #[.val (.int p1), .val (.int p2), .val (.int p3), .val (.int x), .val (.int y), .val (.int kk), .val (.long (4294967295 : Int64)), .second, .val (.long z1), .second, .val (.int (1 : Int32)), .val (.int r), .val (.int tp), .val (.long q), .second, .val (.long co), .second, .val (.long nl), .second, .val (.long nr), .second, .val (.long nd), .second, .unset, .unset, .unset, .unset] [(.int (65535 : Int32)), (.int y)]))
      by_cases hc391 : y < (65535 : Int32)
      · refine Go.via (fun t_ k_ => XS.icmpNo Hj.here hx rfl (hb hby at_391) rfl ((tlt hc391).2.1) k_) ?_
        show Go _ _ _ _ (Tj.setTop (mkF m 394 #[.val (.int p1), .val (.int p2), .val (.int p3), .val (.int x), .val (.int y), .val (.int kk), .val (.long (4294967295 : Int64)), .second, .val (.long z1), .second, .val (.int (1 : Int32)), .val (.int r), .val (.int tp), .val (.long q), .second, .val (.long co), .second, .val (.long nl), .second, .val (.long nr), .second, .val (.long nd), .second, .unset, .unset, .unset, .unset] []))
        refine Go.via (fun t_ k_ => XS.iloadN Hj.here hx rfl (hb hby at_394) rfl k_) ?_
        show Go _ _ _ _ (Tj.setTop (mkF m 395 #[.val (.int p1), .val (.int p2), .val (.int p3), .val (.int x), .val (.int y), .val (.int kk), .val (.long (4294967295 : Int64)), .second, .val (.long z1), .second, .val (.int (1 : Int32)), .val (.int r), .val (.int tp), .val (.long q), .second, .val (.long co), .second, .val (.long nl), .second, .val (.long nr), .second, .val (.long nd), .second, .unset, .unset, .unset, .unset] [(.int x)]))
        refine Go.via (fun t_ k_ => XS.iload Hj.here hx rfl (hb hby at_395) rfl k_) ?_
        show Go _ _ _ _ (Tj.setTop (mkF m 397 #[.val (.int p1), .val (.int p2), .val (.int p3), .val (.int x), .val (.int y), .val (.int kk), .val (.long (4294967295 : Int64)), .second, .val (.long z1), .second, .val (.int (1 : Int32)), .val (.int r), .val (.int tp), .val (.long q), .second, .val (.long co), .second, .val (.long nl), .second, .val (.long nr), .second, .val (.long nd), .second, .unset, .unset, .unset, .unset] [(.int y), (.int x)]))
        refine Go.via (fun t_ k_ => XS.iconst Hj.here hx rfl (hb hby at_397) k_) ?_
        show Go _ _ _ _ (Tj.setTop (mkF m 398 #[.val (.int p1), .val (.int p2), .val (.int p3), .val (.int x), .val (.int y), .val (.int kk), .val (.long (4294967295 : Int64)), .second, .val (.long z1), .second, .val (.int (1 : Int32)), .val (.int r), .val (.int tp), .val (.long q), .second, .val (.long co), .second, .val (.long nl), .second, .val (.long nr), .second, .val (.long nd), .second, .unset, .unset, .unset, .unset] [(.int (1 : Int32)), (.int y), (.int x)]))
        refine Go.via (fun t_ k_ => XS.iadd Hj.here hx rfl (hb hby at_398) rfl k_) ?_
        show Go _ _ _ _ (Tj.setTop (mkF m 399 #[.val (.int p1), .val (.int p2), .val (.int p3), .val (.int x), .val (.int y), .val (.int kk), .val (.long (4294967295 : Int64)), .second, .val (.long z1), .second, .val (.int (1 : Int32)), .val (.int r), .val (.int tp), .val (.long q), .second, .val (.long co), .second, .val (.long nl), .second, .val (.long nr), .second, .val (.long nd), .second, .unset, .unset, .unset, .unset] [(.int (y + (1 : Int32))), (.int x)]))
        refine own_callS Hj hx hZ (y := (⟨"com/example/neardb/neardb/index/Grid", "hilbertPlace", "(II)J"⟩ : MethodName)) hown (hw _ (List.mem_of_getElem? (i := 2) rfl)) (hw _ (List.mem_of_getElem? (i := 3) rfl)) (hw _ (List.mem_of_getElem? (i := 4) rfl)) (hw _ (List.mem_of_getElem? (i := 5) rfl)) (by decide) (rmH l Z a0 hw x (y + (1 : Int32)) X (Y + 1) h0 n0 qx (own_inc qy hY) hX (by have := (own_lti qy (m := 65535) (by decide)).mp hc391; omega)) (g := (mkF m 399 #[.val (.int p1), .val (.int p2), .val (.int p3), .val (.int x), .val (.int y), .val (.int kk), .val (.long (4294967295 : Int64)), .second, .val (.long z1), .second, .val (.int (1 : Int32)), .val (.int r), .val (.int tp), .val (.long q), .second, .val (.long co), .second, .val (.long nl), .second, .val (.long nr), .second, .val (.long nd), .second, .unset, .unset, .unset, .unset] [(.int (y + (1 : Int32))), (.int x)])) rfl (by rw [hml]; rfl) (argsL := [(.int x), (.int (y + (1 : Int32)))]) (rest := []) (lenOf pd_0 rfl) rfl 0 (Nat.le_of_eq rfl) (hb hby at_399) (by decide) (by decide) (by decide) (by decide) ?_
        rintro _ T2 _ ⟨z2, rfl, qz2, rfl⟩ H2
        show Go _ _ _ _ (T2.setTop (mkF m 402 #[.val (.int p1), .val (.int p2), .val (.int p3), .val (.int x), .val (.int y), .val (.int kk), .val (.long (4294967295 : Int64)), .second, .val (.long z1), .second, .val (.int (1 : Int32)), .val (.int r), .val (.int tp), .val (.long q), .second, .val (.long co), .second, .val (.long nl), .second, .val (.long nr), .second, .val (.long nd), .second, .unset, .unset, .unset, .unset] [(.long z2)]))
        refine Go.via (fun t_ k_ => XS.goto H2.here hx rfl (pc0 := 402) (pc' := 408) rfl (hb hby at_402) (by decide) (by decide) k_) ?_
        show Go _ _ _ _ (T2.setTop (mkF m 408 #[.val (.int p1), .val (.int p2), .val (.int p3), .val (.int x), .val (.int y), .val (.int kk), .val (.long (4294967295 : Int64)), .second, .val (.long z1), .second, .val (.int (1 : Int32)), .val (.int r), .val (.int tp), .val (.long q), .second, .val (.long co), .second, .val (.long nl), .second, .val (.long nr), .second, .val (.long nd), .second, .unset, .unset, .unset, .unset] [(.long z2)]))
        refine Go.via (fun t_ k_ => XS.lstore H2.here hx rfl (hb hby at_408) rfl (l' := #[.val (.int p1), .val (.int p2), .val (.int p3), .val (.int x), .val (.int y), .val (.int kk), .val (.long (4294967295 : Int64)), .second, .val (.long z1), .second, .val (.int (1 : Int32)), .val (.int r), .val (.int tp), .val (.long q), .second, .val (.long co), .second, .val (.long nl), .second, .val (.long nr), .second, .val (.long nd), .second, .val (.long z2), .second, .unset, .unset]) rfl k_) ?_
        show Go _ _ _ _ (T2.setTop (mkF m 410 #[.val (.int p1), .val (.int p2), .val (.int p3), .val (.int x), .val (.int y), .val (.int kk), .val (.long (4294967295 : Int64)), .second, .val (.long z1), .second, .val (.int (1 : Int32)), .val (.int r), .val (.int tp), .val (.long q), .second, .val (.long co), .second, .val (.long nl), .second, .val (.long nr), .second, .val (.long nd), .second, .val (.long z2), .second, .unset, .unset] []))
        exact J410 T2 r tp q co nl nr nd z2 H2 n1 n2 n3 (fun _ => qz2)
      · refine Go.via (fun t_ k_ => XS.icmpYes Hj.here hx rfl (pc0 := 391) (pc' := 405) rfl (hb hby at_391) rfl ((flt hc391).2.1) (by decide) (by decide) k_) ?_
        show Go _ _ _ _ (Tj.setTop (mkF m 405 #[.val (.int p1), .val (.int p2), .val (.int p3), .val (.int x), .val (.int y), .val (.int kk), .val (.long (4294967295 : Int64)), .second, .val (.long z1), .second, .val (.int (1 : Int32)), .val (.int r), .val (.int tp), .val (.long q), .second, .val (.long co), .second, .val (.long nl), .second, .val (.long nr), .second, .val (.long nd), .second, .unset, .unset, .unset, .unset] []))
        refine own_ldcL Hj hx hZ hown (hw _ (List.mem_of_getElem? (i := 8) rfl)) (g := (mkF m 405 #[.val (.int p1), .val (.int p2), .val (.int p3), .val (.int x), .val (.int y), .val (.int kk), .val (.long (4294967295 : Int64)), .second, .val (.long z1), .second, .val (.int (1 : Int32)), .val (.int r), .val (.int tp), .val (.long q), .second, .val (.long co), .second, .val (.long nl), .second, .val (.long nr), .second, .val (.long nd), .second, .unset, .unset, .unset, .unset] [])) rfl (hb hby at_405) ?_
        show Go _ _ _ _ (Tj.setTop (mkF m 408 #[.val (.int p1), .val (.int p2), .val (.int p3), .val (.int x), .val (.int y), .val (.int kk), .val (.long (4294967295 : Int64)), .second, .val (.long z1), .second, .val (.int (1 : Int32)), .val (.int r), .val (.int tp), .val (.long q), .second, .val (.long co), .second, .val (.long nl), .second, .val (.long nr), .second, .val (.long nd), .second, .unset, .unset, .unset, .unset] [(.long (-1 : Int64))]))
        refine Go.via (fun t_ k_ => XS.lstore Hj.here hx rfl (hb hby at_408) rfl (l' := #[.val (.int p1), .val (.int p2), .val (.int p3), .val (.int x), .val (.int y), .val (.int kk), .val (.long (4294967295 : Int64)), .second, .val (.long z1), .second, .val (.int (1 : Int32)), .val (.int r), .val (.int tp), .val (.long q), .second, .val (.long co), .second, .val (.long nl), .second, .val (.long nr), .second, .val (.long nd), .second, .val (.long (-1 : Int64)), .second, .unset, .unset]) rfl k_) ?_
        show Go _ _ _ _ (Tj.setTop (mkF m 410 #[.val (.int p1), .val (.int p2), .val (.int p3), .val (.int x), .val (.int y), .val (.int kk), .val (.long (4294967295 : Int64)), .second, .val (.long z1), .second, .val (.int (1 : Int32)), .val (.int r), .val (.int tp), .val (.long q), .second, .val (.long co), .second, .val (.long nl), .second, .val (.long nr), .second, .val (.long nd), .second, .val (.long (-1 : Int64)), .second, .unset, .unset] []))
        exact J410 Tj r tp q co nl nr nd (-1 : Int64) Hj n1 n2 n3 (fun z_ => absurd z_ (fun u => hc391 ((own_lti qy (m := 65535) (by decide)).mpr u)))
    have J366 : ∀ (Tj : State) (r tp : Int32) (q : Int64) (co : Int64) (nl nr : Int64), Here p l e room_1 s m #[(.int p1), (.int p2), (.int p3)] below meth c n0 Tj h0 0 0 → (0 < X → nl.toInt = (hil 16 (X - 1) Y : Int)) → (X < 65535 → nr.toInt = (hil 16 (X + 1) Y : Int)) → Go p e below (Fini below s n0 (fun v h => v = some (.int (1 : Int32))) room_1.cells room_1.slots) (Tj.setTop (mkF m 366 #[.val (.int p1), .val (.int p2), .val (.int p3), .val (.int x), .val (.int y), .val (.int kk), .val (.long (4294967295 : Int64)), .second, .val (.long z1), .second, .val (.int (1 : Int32)), .val (.int r), .val (.int tp), .val (.long q), .second, .val (.long co), .second, .val (.long nl), .second, .val (.long nr), .second, .unset, .unset, .unset, .unset, .unset, .unset] [])) := by
      intro Tj r tp q co nl nr Hj n1 n2
      show Go _ _ _ _ (Tj.setTop (mkF m 366 #[.val (.int p1), .val (.int p2), .val (.int p3), .val (.int x), .val (.int y), .val (.int kk), .val (.long (4294967295 : Int64)), .second, .val (.long z1), .second, .val (.int (1 : Int32)), .val (.int r), .val (.int tp), .val (.long q), .second, .val (.long co), .second, .val (.long nl), .second, .val (.long nr), .second, .unset, .unset, .unset, .unset, .unset, .unset] []))
      refine Go.via (fun t_ k_ => XS.iload Hj.here hx rfl (hb hby at_366) rfl k_) ?_
      show Go _ _ _ _ (Tj.setTop (mkF m 368 #[.val (.int p1), .val (.int p2), .val (.int p3), .val (.int x), .val (.int y), .val (.int kk), .val (.long (4294967295 : Int64)), .second, .val (.long z1), .second, .val (.int (1 : Int32)), .val (.int r), .val (.int tp), .val (.long q), .second, .val (.long co), .second, .val (.long nl), .second, .val (.long nr), .second, .unset, .unset, .unset, .unset, .unset, .unset] [(.int y)]))
      by_cases hc368 : (0 : Int32) < y
      · refine Go.via (fun t_ k_ => XS.ifNo Hj.here hx rfl (hb hby at_368) rfl ((if0 _ _).trans (tlt hc368).2.2.2) k_) ?_
        show Go _ _ _ _ (Tj.setTop (mkF m 371 #[.val (.int p1), .val (.int p2), .val (.int p3), .val (.int x), .val (.int y), .val (.int kk), .val (.long (4294967295 : Int64)), .second, .val (.long z1), .second, .val (.int (1 : Int32)), .val (.int r), .val (.int tp), .val (.long q), .second, .val (.long co), .second, .val (.long nl), .second, .val (.long nr), .second, .unset, .unset, .unset, .unset, .unset, .unset] []))
        refine Go.via (fun t_ k_ => XS.iloadN Hj.here hx rfl (hb hby at_371) rfl k_) ?_
        show Go _ _ _ _ (Tj.setTop (mkF m 372 #[.val (.int p1), .val (.int p2), .val (.int p3), .val (.int x), .val (.int y), .val (.int kk), .val (.long (4294967295 : Int64)), .second, .val (.long z1), .second, .val (.int (1 : Int32)), .val (.int r), .val (.int tp), .val (.long q), .second, .val (.long co), .second, .val (.long nl), .second, .val (.long nr), .second, .unset, .unset, .unset, .unset, .unset, .unset] [(.int x)]))
        refine Go.via (fun t_ k_ => XS.iload Hj.here hx rfl (hb hby at_372) rfl k_) ?_
        show Go _ _ _ _ (Tj.setTop (mkF m 374 #[.val (.int p1), .val (.int p2), .val (.int p3), .val (.int x), .val (.int y), .val (.int kk), .val (.long (4294967295 : Int64)), .second, .val (.long z1), .second, .val (.int (1 : Int32)), .val (.int r), .val (.int tp), .val (.long q), .second, .val (.long co), .second, .val (.long nl), .second, .val (.long nr), .second, .unset, .unset, .unset, .unset, .unset, .unset] [(.int y), (.int x)]))
        refine Go.via (fun t_ k_ => XS.iconst Hj.here hx rfl (hb hby at_374) k_) ?_
        show Go _ _ _ _ (Tj.setTop (mkF m 375 #[.val (.int p1), .val (.int p2), .val (.int p3), .val (.int x), .val (.int y), .val (.int kk), .val (.long (4294967295 : Int64)), .second, .val (.long z1), .second, .val (.int (1 : Int32)), .val (.int r), .val (.int tp), .val (.long q), .second, .val (.long co), .second, .val (.long nl), .second, .val (.long nr), .second, .unset, .unset, .unset, .unset, .unset, .unset] [(.int (1 : Int32)), (.int y), (.int x)]))
        refine Go.via (fun t_ k_ => XS.isub Hj.here hx rfl (hb hby at_375) rfl k_) ?_
        show Go _ _ _ _ (Tj.setTop (mkF m 376 #[.val (.int p1), .val (.int p2), .val (.int p3), .val (.int x), .val (.int y), .val (.int kk), .val (.long (4294967295 : Int64)), .second, .val (.long z1), .second, .val (.int (1 : Int32)), .val (.int r), .val (.int tp), .val (.long q), .second, .val (.long co), .second, .val (.long nl), .second, .val (.long nr), .second, .unset, .unset, .unset, .unset, .unset, .unset] [(.int (y - (1 : Int32))), (.int x)]))
        refine own_callS Hj hx hZ (y := (⟨"com/example/neardb/neardb/index/Grid", "hilbertPlace", "(II)J"⟩ : MethodName)) hown (hw _ (List.mem_of_getElem? (i := 2) rfl)) (hw _ (List.mem_of_getElem? (i := 3) rfl)) (hw _ (List.mem_of_getElem? (i := 4) rfl)) (hw _ (List.mem_of_getElem? (i := 5) rfl)) (by decide) (rmH l Z a0 hw x (y - (1 : Int32)) X (Y - 1) h0 n0 qx (own_dec qy ((own_pos qy).mp hc368)) hX (by omega)) (g := (mkF m 376 #[.val (.int p1), .val (.int p2), .val (.int p3), .val (.int x), .val (.int y), .val (.int kk), .val (.long (4294967295 : Int64)), .second, .val (.long z1), .second, .val (.int (1 : Int32)), .val (.int r), .val (.int tp), .val (.long q), .second, .val (.long co), .second, .val (.long nl), .second, .val (.long nr), .second, .unset, .unset, .unset, .unset, .unset, .unset] [(.int (y - (1 : Int32))), (.int x)])) rfl (by rw [hml]; rfl) (argsL := [(.int x), (.int (y - (1 : Int32)))]) (rest := []) (lenOf pd_0 rfl) rfl 0 (Nat.le_of_eq rfl) (hb hby at_376) (by decide) (by decide) (by decide) (by decide) ?_
        rintro _ T3 _ ⟨z3, rfl, qz3, rfl⟩ H3
        show Go _ _ _ _ (T3.setTop (mkF m 379 #[.val (.int p1), .val (.int p2), .val (.int p3), .val (.int x), .val (.int y), .val (.int kk), .val (.long (4294967295 : Int64)), .second, .val (.long z1), .second, .val (.int (1 : Int32)), .val (.int r), .val (.int tp), .val (.long q), .second, .val (.long co), .second, .val (.long nl), .second, .val (.long nr), .second, .unset, .unset, .unset, .unset, .unset, .unset] [(.long z3)]))
        refine Go.via (fun t_ k_ => XS.goto H3.here hx rfl (pc0 := 379) (pc' := 385) rfl (hb hby at_379) (by decide) (by decide) k_) ?_
        show Go _ _ _ _ (T3.setTop (mkF m 385 #[.val (.int p1), .val (.int p2), .val (.int p3), .val (.int x), .val (.int y), .val (.int kk), .val (.long (4294967295 : Int64)), .second, .val (.long z1), .second, .val (.int (1 : Int32)), .val (.int r), .val (.int tp), .val (.long q), .second, .val (.long co), .second, .val (.long nl), .second, .val (.long nr), .second, .unset, .unset, .unset, .unset, .unset, .unset] [(.long z3)]))
        refine Go.via (fun t_ k_ => XS.lstore H3.here hx rfl (hb hby at_385) rfl (l' := #[.val (.int p1), .val (.int p2), .val (.int p3), .val (.int x), .val (.int y), .val (.int kk), .val (.long (4294967295 : Int64)), .second, .val (.long z1), .second, .val (.int (1 : Int32)), .val (.int r), .val (.int tp), .val (.long q), .second, .val (.long co), .second, .val (.long nl), .second, .val (.long nr), .second, .val (.long z3), .second, .unset, .unset, .unset, .unset]) rfl k_) ?_
        show Go _ _ _ _ (T3.setTop (mkF m 387 #[.val (.int p1), .val (.int p2), .val (.int p3), .val (.int x), .val (.int y), .val (.int kk), .val (.long (4294967295 : Int64)), .second, .val (.long z1), .second, .val (.int (1 : Int32)), .val (.int r), .val (.int tp), .val (.long q), .second, .val (.long co), .second, .val (.long nl), .second, .val (.long nr), .second, .val (.long z3), .second, .unset, .unset, .unset, .unset] []))
        exact J387 T3 r tp q co nl nr z3 H3 n1 n2 (fun _ => qz3)
      · refine Go.via (fun t_ k_ => XS.ifYes Hj.here hx rfl (pc0 := 368) (pc' := 382) rfl (hb hby at_368) rfl ((if0 _ _).trans (flt hc368).2.2.2) (by decide) (by decide) k_) ?_
        show Go _ _ _ _ (Tj.setTop (mkF m 382 #[.val (.int p1), .val (.int p2), .val (.int p3), .val (.int x), .val (.int y), .val (.int kk), .val (.long (4294967295 : Int64)), .second, .val (.long z1), .second, .val (.int (1 : Int32)), .val (.int r), .val (.int tp), .val (.long q), .second, .val (.long co), .second, .val (.long nl), .second, .val (.long nr), .second, .unset, .unset, .unset, .unset, .unset, .unset] []))
        refine own_ldcL Hj hx hZ hown (hw _ (List.mem_of_getElem? (i := 8) rfl)) (g := (mkF m 382 #[.val (.int p1), .val (.int p2), .val (.int p3), .val (.int x), .val (.int y), .val (.int kk), .val (.long (4294967295 : Int64)), .second, .val (.long z1), .second, .val (.int (1 : Int32)), .val (.int r), .val (.int tp), .val (.long q), .second, .val (.long co), .second, .val (.long nl), .second, .val (.long nr), .second, .unset, .unset, .unset, .unset, .unset, .unset] [])) rfl (hb hby at_382) ?_
        show Go _ _ _ _ (Tj.setTop (mkF m 385 #[.val (.int p1), .val (.int p2), .val (.int p3), .val (.int x), .val (.int y), .val (.int kk), .val (.long (4294967295 : Int64)), .second, .val (.long z1), .second, .val (.int (1 : Int32)), .val (.int r), .val (.int tp), .val (.long q), .second, .val (.long co), .second, .val (.long nl), .second, .val (.long nr), .second, .unset, .unset, .unset, .unset, .unset, .unset] [(.long (-1 : Int64))]))
        refine Go.via (fun t_ k_ => XS.lstore Hj.here hx rfl (hb hby at_385) rfl (l' := #[.val (.int p1), .val (.int p2), .val (.int p3), .val (.int x), .val (.int y), .val (.int kk), .val (.long (4294967295 : Int64)), .second, .val (.long z1), .second, .val (.int (1 : Int32)), .val (.int r), .val (.int tp), .val (.long q), .second, .val (.long co), .second, .val (.long nl), .second, .val (.long nr), .second, .val (.long (-1 : Int64)), .second, .unset, .unset, .unset, .unset]) rfl k_) ?_
        show Go _ _ _ _ (Tj.setTop (mkF m 387 #[.val (.int p1), .val (.int p2), .val (.int p3), .val (.int x), .val (.int y), .val (.int kk), .val (.long (4294967295 : Int64)), .second, .val (.long z1), .second, .val (.int (1 : Int32)), .val (.int r), .val (.int tp), .val (.long q), .second, .val (.long co), .second, .val (.long nl), .second, .val (.long nr), .second, .val (.long (-1 : Int64)), .second, .unset, .unset, .unset, .unset] []))
        exact J387 Tj r tp q co nl nr (-1 : Int64) Hj n1 n2 (fun z_ => absurd z_ (fun u => hc368 ((own_pos qy).mpr u)))
    have J344 : ∀ (Tj : State) (r tp : Int32) (q : Int64) (co : Int64) (nl : Int64), Here p l e room_1 s m #[(.int p1), (.int p2), (.int p3)] below meth c n0 Tj h0 0 0 → (0 < X → nl.toInt = (hil 16 (X - 1) Y : Int)) → Go p e below (Fini below s n0 (fun v h => v = some (.int (1 : Int32))) room_1.cells room_1.slots) (Tj.setTop (mkF m 344 #[.val (.int p1), .val (.int p2), .val (.int p3), .val (.int x), .val (.int y), .val (.int kk), .val (.long (4294967295 : Int64)), .second, .val (.long z1), .second, .val (.int (1 : Int32)), .val (.int r), .val (.int tp), .val (.long q), .second, .val (.long co), .second, .val (.long nl), .second, .unset, .unset, .unset, .unset, .unset, .unset, .unset, .unset] [])) := by
      intro Tj r tp q co nl Hj n1
      show Go _ _ _ _ (Tj.setTop (mkF m 344 #[.val (.int p1), .val (.int p2), .val (.int p3), .val (.int x), .val (.int y), .val (.int kk), .val (.long (4294967295 : Int64)), .second, .val (.long z1), .second, .val (.int (1 : Int32)), .val (.int r), .val (.int tp), .val (.long q), .second, .val (.long co), .second, .val (.long nl), .second, .unset, .unset, .unset, .unset, .unset, .unset, .unset, .unset] []))
      refine Go.via (fun t_ k_ => XS.iloadN Hj.here hx rfl (hb hby at_344) rfl k_) ?_
      show Go _ _ _ _ (Tj.setTop (mkF m 345 #[.val (.int p1), .val (.int p2), .val (.int p3), .val (.int x), .val (.int y), .val (.int kk), .val (.long (4294967295 : Int64)), .second, .val (.long z1), .second, .val (.int (1 : Int32)), .val (.int r), .val (.int tp), .val (.long q), .second, .val (.long co), .second, .val (.long nl), .second, .unset, .unset, .unset, .unset, .unset, .unset, .unset, .unset] [(.int x)]))
      refine own_ldcI Hj hx hZ hown (hw _ (List.mem_of_getElem? (i := 0) rfl)) (g := (mkF m 345 #[.val (.int p1), .val (.int p2), .val (.int p3), .val (.int x), .val (.int y), .val (.int kk), .val (.long (4294967295 : Int64)), .second, .val (.long z1), .second, .val (.int (1 : Int32)), .val (.int r), .val (.int tp), .val (.long q), .second, .val (.long co), .second, .val (.long nl), .second, .unset, .unset, .unset, .unset, .unset, .unset, .unset, .unset] [(.int x)])) rfl (hb hby at_345) ?_
      show Go _ _ _ _ (Tj.setTop (mkF m 347 #[.val (.int p1), .val (.int p2), .val (.int p3), .val (.int x), .val (.int y), .val (.int kk), .val (.long (4294967295 : Int64)), .second, .val (.long z1), .second, .val (.int (1 : Int32)), .val (.int r), .val (.int tp), .val (.long q), .second, .val (.long co), .second, .val (.long nl), .second, .unset, .unset, .unset, .unset, .unset, .unset, .unset, .unset] [(.int (65535 : Int32)), (.int x)]))
      by_cases hc347 : x < (65535 : Int32)
      · refine Go.via (fun t_ k_ => XS.icmpNo Hj.here hx rfl (hb hby at_347) rfl ((tlt hc347).2.1) k_) ?_
        show Go _ _ _ _ (Tj.setTop (mkF m 350 #[.val (.int p1), .val (.int p2), .val (.int p3), .val (.int x), .val (.int y), .val (.int kk), .val (.long (4294967295 : Int64)), .second, .val (.long z1), .second, .val (.int (1 : Int32)), .val (.int r), .val (.int tp), .val (.long q), .second, .val (.long co), .second, .val (.long nl), .second, .unset, .unset, .unset, .unset, .unset, .unset, .unset, .unset] []))
        refine Go.via (fun t_ k_ => XS.iloadN Hj.here hx rfl (hb hby at_350) rfl k_) ?_
        show Go _ _ _ _ (Tj.setTop (mkF m 351 #[.val (.int p1), .val (.int p2), .val (.int p3), .val (.int x), .val (.int y), .val (.int kk), .val (.long (4294967295 : Int64)), .second, .val (.long z1), .second, .val (.int (1 : Int32)), .val (.int r), .val (.int tp), .val (.long q), .second, .val (.long co), .second, .val (.long nl), .second, .unset, .unset, .unset, .unset, .unset, .unset, .unset, .unset] [(.int x)]))
        refine Go.via (fun t_ k_ => XS.iconst Hj.here hx rfl (hb hby at_351) k_) ?_
        show Go _ _ _ _ (Tj.setTop (mkF m 352 #[.val (.int p1), .val (.int p2), .val (.int p3), .val (.int x), .val (.int y), .val (.int kk), .val (.long (4294967295 : Int64)), .second, .val (.long z1), .second, .val (.int (1 : Int32)), .val (.int r), .val (.int tp), .val (.long q), .second, .val (.long co), .second, .val (.long nl), .second, .unset, .unset, .unset, .unset, .unset, .unset, .unset, .unset] [(.int (1 : Int32)), (.int x)]))
        refine Go.via (fun t_ k_ => XS.iadd Hj.here hx rfl (hb hby at_352) rfl k_) ?_
        show Go _ _ _ _ (Tj.setTop (mkF m 353 #[.val (.int p1), .val (.int p2), .val (.int p3), .val (.int x), .val (.int y), .val (.int kk), .val (.long (4294967295 : Int64)), .second, .val (.long z1), .second, .val (.int (1 : Int32)), .val (.int r), .val (.int tp), .val (.long q), .second, .val (.long co), .second, .val (.long nl), .second, .unset, .unset, .unset, .unset, .unset, .unset, .unset, .unset] [(.int (x + (1 : Int32)))]))
        refine Go.via (fun t_ k_ => XS.iload Hj.here hx rfl (hb hby at_353) rfl k_) ?_
        show Go _ _ _ _ (Tj.setTop (mkF m 355 #[.val (.int p1), .val (.int p2), .val (.int p3), .val (.int x), .val (.int y), .val (.int kk), .val (.long (4294967295 : Int64)), .second, .val (.long z1), .second, .val (.int (1 : Int32)), .val (.int r), .val (.int tp), .val (.long q), .second, .val (.long co), .second, .val (.long nl), .second, .unset, .unset, .unset, .unset, .unset, .unset, .unset, .unset] [(.int y), (.int (x + (1 : Int32)))]))
        refine own_callS Hj hx hZ (y := (⟨"com/example/neardb/neardb/index/Grid", "hilbertPlace", "(II)J"⟩ : MethodName)) hown (hw _ (List.mem_of_getElem? (i := 2) rfl)) (hw _ (List.mem_of_getElem? (i := 3) rfl)) (hw _ (List.mem_of_getElem? (i := 4) rfl)) (hw _ (List.mem_of_getElem? (i := 5) rfl)) (by decide) (rmH l Z a0 hw (x + (1 : Int32)) y (X + 1) Y h0 n0 (own_inc qx hX) qy (by have := (own_lti qx (m := 65535) (by decide)).mp hc347; omega) hY) (g := (mkF m 355 #[.val (.int p1), .val (.int p2), .val (.int p3), .val (.int x), .val (.int y), .val (.int kk), .val (.long (4294967295 : Int64)), .second, .val (.long z1), .second, .val (.int (1 : Int32)), .val (.int r), .val (.int tp), .val (.long q), .second, .val (.long co), .second, .val (.long nl), .second, .unset, .unset, .unset, .unset, .unset, .unset, .unset, .unset] [(.int y), (.int (x + (1 : Int32)))])) rfl (by rw [hml]; rfl) (argsL := [(.int (x + (1 : Int32))), (.int y)]) (rest := []) (lenOf pd_0 rfl) rfl 0 (Nat.le_of_eq rfl) (hb hby at_355) (by decide) (by decide) (by decide) (by decide) ?_
        rintro _ T4 _ ⟨z4, rfl, qz4, rfl⟩ H4
        show Go _ _ _ _ (T4.setTop (mkF m 358 #[.val (.int p1), .val (.int p2), .val (.int p3), .val (.int x), .val (.int y), .val (.int kk), .val (.long (4294967295 : Int64)), .second, .val (.long z1), .second, .val (.int (1 : Int32)), .val (.int r), .val (.int tp), .val (.long q), .second, .val (.long co), .second, .val (.long nl), .second, .unset, .unset, .unset, .unset, .unset, .unset, .unset, .unset] [(.long z4)]))
        refine Go.via (fun t_ k_ => XS.goto H4.here hx rfl (pc0 := 358) (pc' := 364) rfl (hb hby at_358) (by decide) (by decide) k_) ?_
        show Go _ _ _ _ (T4.setTop (mkF m 364 #[.val (.int p1), .val (.int p2), .val (.int p3), .val (.int x), .val (.int y), .val (.int kk), .val (.long (4294967295 : Int64)), .second, .val (.long z1), .second, .val (.int (1 : Int32)), .val (.int r), .val (.int tp), .val (.long q), .second, .val (.long co), .second, .val (.long nl), .second, .unset, .unset, .unset, .unset, .unset, .unset, .unset, .unset] [(.long z4)]))
        refine Go.via (fun t_ k_ => XS.lstore H4.here hx rfl (hb hby at_364) rfl (l' := #[.val (.int p1), .val (.int p2), .val (.int p3), .val (.int x), .val (.int y), .val (.int kk), .val (.long (4294967295 : Int64)), .second, .val (.long z1), .second, .val (.int (1 : Int32)), .val (.int r), .val (.int tp), .val (.long q), .second, .val (.long co), .second, .val (.long nl), .second, .val (.long z4), .second, .unset, .unset, .unset, .unset, .unset, .unset]) rfl k_) ?_
        show Go _ _ _ _ (T4.setTop (mkF m 366 #[.val (.int p1), .val (.int p2), .val (.int p3), .val (.int x), .val (.int y), .val (.int kk), .val (.long (4294967295 : Int64)), .second, .val (.long z1), .second, .val (.int (1 : Int32)), .val (.int r), .val (.int tp), .val (.long q), .second, .val (.long co), .second, .val (.long nl), .second, .val (.long z4), .second, .unset, .unset, .unset, .unset, .unset, .unset] []))
        exact J366 T4 r tp q co nl z4 H4 n1 (fun _ => qz4)
      · refine Go.via (fun t_ k_ => XS.icmpYes Hj.here hx rfl (pc0 := 347) (pc' := 361) rfl (hb hby at_347) rfl ((flt hc347).2.1) (by decide) (by decide) k_) ?_
        show Go _ _ _ _ (Tj.setTop (mkF m 361 #[.val (.int p1), .val (.int p2), .val (.int p3), .val (.int x), .val (.int y), .val (.int kk), .val (.long (4294967295 : Int64)), .second, .val (.long z1), .second, .val (.int (1 : Int32)), .val (.int r), .val (.int tp), .val (.long q), .second, .val (.long co), .second, .val (.long nl), .second, .unset, .unset, .unset, .unset, .unset, .unset, .unset, .unset] []))
        refine own_ldcL Hj hx hZ hown (hw _ (List.mem_of_getElem? (i := 8) rfl)) (g := (mkF m 361 #[.val (.int p1), .val (.int p2), .val (.int p3), .val (.int x), .val (.int y), .val (.int kk), .val (.long (4294967295 : Int64)), .second, .val (.long z1), .second, .val (.int (1 : Int32)), .val (.int r), .val (.int tp), .val (.long q), .second, .val (.long co), .second, .val (.long nl), .second, .unset, .unset, .unset, .unset, .unset, .unset, .unset, .unset] [])) rfl (hb hby at_361) ?_
        show Go _ _ _ _ (Tj.setTop (mkF m 364 #[.val (.int p1), .val (.int p2), .val (.int p3), .val (.int x), .val (.int y), .val (.int kk), .val (.long (4294967295 : Int64)), .second, .val (.long z1), .second, .val (.int (1 : Int32)), .val (.int r), .val (.int tp), .val (.long q), .second, .val (.long co), .second, .val (.long nl), .second, .unset, .unset, .unset, .unset, .unset, .unset, .unset, .unset] [(.long (-1 : Int64))]))
        refine Go.via (fun t_ k_ => XS.lstore Hj.here hx rfl (hb hby at_364) rfl (l' := #[.val (.int p1), .val (.int p2), .val (.int p3), .val (.int x), .val (.int y), .val (.int kk), .val (.long (4294967295 : Int64)), .second, .val (.long z1), .second, .val (.int (1 : Int32)), .val (.int r), .val (.int tp), .val (.long q), .second, .val (.long co), .second, .val (.long nl), .second, .val (.long (-1 : Int64)), .second, .unset, .unset, .unset, .unset, .unset, .unset]) rfl k_) ?_
        show Go _ _ _ _ (Tj.setTop (mkF m 366 #[.val (.int p1), .val (.int p2), .val (.int p3), .val (.int x), .val (.int y), .val (.int kk), .val (.long (4294967295 : Int64)), .second, .val (.long z1), .second, .val (.int (1 : Int32)), .val (.int r), .val (.int tp), .val (.long q), .second, .val (.long co), .second, .val (.long nl), .second, .val (.long (-1 : Int64)), .second, .unset, .unset, .unset, .unset, .unset, .unset] []))
        exact J366 Tj r tp q co nl (-1 : Int64) Hj n1 (fun z_ => absurd z_ (fun u => hc347 ((own_lti qx (m := 65535) (by decide)).mpr u)))
    have J324 : ∀ (Tj : State) (r tp : Int32) (q : Int64) (co : Int64), Here p l e room_1 s m #[(.int p1), (.int p2), (.int p3)] below meth c n0 Tj h0 0 0 → Go p e below (Fini below s n0 (fun v h => v = some (.int (1 : Int32))) room_1.cells room_1.slots) (Tj.setTop (mkF m 324 #[.val (.int p1), .val (.int p2), .val (.int p3), .val (.int x), .val (.int y), .val (.int kk), .val (.long (4294967295 : Int64)), .second, .val (.long z1), .second, .val (.int (1 : Int32)), .val (.int r), .val (.int tp), .val (.long q), .second, .val (.long co), .second, .unset, .unset, .unset, .unset, .unset, .unset, .unset, .unset, .unset, .unset] [])) := by
      intro Tj r tp q co Hj 
      show Go _ _ _ _ (Tj.setTop (mkF m 324 #[.val (.int p1), .val (.int p2), .val (.int p3), .val (.int x), .val (.int y), .val (.int kk), .val (.long (4294967295 : Int64)), .second, .val (.long z1), .second, .val (.int (1 : Int32)), .val (.int r), .val (.int tp), .val (.long q), .second, .val (.long co), .second, .unset, .unset, .unset, .unset, .unset, .unset, .unset, .unset, .unset, .unset] []))
      refine Go.via (fun t_ k_ => XS.iloadN Hj.here hx rfl (hb hby at_324) rfl k_) ?_
      show Go _ _ _ _ (Tj.setTop (mkF m 325 #[.val (.int p1), .val (.int p2), .val (.int p3), .val (.int x), .val (.int y), .val (.int kk), .val (.long (4294967295 : Int64)), .second, .val (.long z1), .second, .val (.int (1 : Int32)), .val (.int r), .val (.int tp), .val (.long q), .second, .val (.long co), .second, .unset, .unset, .unset, .unset, .unset, .unset, .unset, .unset, .unset, .unset] [(.int x)]))
      by_cases hc325 : (0 : Int32) < x
      · refine Go.via (fun t_ k_ => XS.ifNo Hj.here hx rfl (hb hby at_325) rfl ((if0 _ _).trans (tlt hc325).2.2.2) k_) ?_
        show Go _ _ _ _ (Tj.setTop (mkF m 328 #[.val (.int p1), .val (.int p2), .val (.int p3), .val (.int x), .val (.int y), .val (.int kk), .val (.long (4294967295 : Int64)), .second, .val (.long z1), .second, .val (.int (1 : Int32)), .val (.int r), .val (.int tp), .val (.long q), .second, .val (.long co), .second, .unset, .unset, .unset, .unset, .unset, .unset, .unset, .unset, .unset, .unset] []))
        refine Go.via (fun t_ k_ => XS.iloadN Hj.here hx rfl (hb hby at_328) rfl k_) ?_
        show Go _ _ _ _ (Tj.setTop (mkF m 329 #[.val (.int p1), .val (.int p2), .val (.int p3), .val (.int x), .val (.int y), .val (.int kk), .val (.long (4294967295 : Int64)), .second, .val (.long z1), .second, .val (.int (1 : Int32)), .val (.int r), .val (.int tp), .val (.long q), .second, .val (.long co), .second, .unset, .unset, .unset, .unset, .unset, .unset, .unset, .unset, .unset, .unset] [(.int x)]))
        refine Go.via (fun t_ k_ => XS.iconst Hj.here hx rfl (hb hby at_329) k_) ?_
        show Go _ _ _ _ (Tj.setTop (mkF m 330 #[.val (.int p1), .val (.int p2), .val (.int p3), .val (.int x), .val (.int y), .val (.int kk), .val (.long (4294967295 : Int64)), .second, .val (.long z1), .second, .val (.int (1 : Int32)), .val (.int r), .val (.int tp), .val (.long q), .second, .val (.long co), .second, .unset, .unset, .unset, .unset, .unset, .unset, .unset, .unset, .unset, .unset] [(.int (1 : Int32)), (.int x)]))
        refine Go.via (fun t_ k_ => XS.isub Hj.here hx rfl (hb hby at_330) rfl k_) ?_
        show Go _ _ _ _ (Tj.setTop (mkF m 331 #[.val (.int p1), .val (.int p2), .val (.int p3), .val (.int x), .val (.int y), .val (.int kk), .val (.long (4294967295 : Int64)), .second, .val (.long z1), .second, .val (.int (1 : Int32)), .val (.int r), .val (.int tp), .val (.long q), .second, .val (.long co), .second, .unset, .unset, .unset, .unset, .unset, .unset, .unset, .unset, .unset, .unset] [(.int (x - (1 : Int32)))]))
        refine Go.via (fun t_ k_ => XS.iload Hj.here hx rfl (hb hby at_331) rfl k_) ?_
        show Go _ _ _ _ (Tj.setTop (mkF m 333 #[.val (.int p1), .val (.int p2), .val (.int p3), .val (.int x), .val (.int y), .val (.int kk), .val (.long (4294967295 : Int64)), .second, .val (.long z1), .second, .val (.int (1 : Int32)), .val (.int r), .val (.int tp), .val (.long q), .second, .val (.long co), .second, .unset, .unset, .unset, .unset, .unset, .unset, .unset, .unset, .unset, .unset] [(.int y), (.int (x - (1 : Int32)))]))
        refine own_callS Hj hx hZ (y := (⟨"com/example/neardb/neardb/index/Grid", "hilbertPlace", "(II)J"⟩ : MethodName)) hown (hw _ (List.mem_of_getElem? (i := 2) rfl)) (hw _ (List.mem_of_getElem? (i := 3) rfl)) (hw _ (List.mem_of_getElem? (i := 4) rfl)) (hw _ (List.mem_of_getElem? (i := 5) rfl)) (by decide) (rmH l Z a0 hw (x - (1 : Int32)) y (X - 1) Y h0 n0 (own_dec qx ((own_pos qx).mp hc325)) qy (by omega) hY) (g := (mkF m 333 #[.val (.int p1), .val (.int p2), .val (.int p3), .val (.int x), .val (.int y), .val (.int kk), .val (.long (4294967295 : Int64)), .second, .val (.long z1), .second, .val (.int (1 : Int32)), .val (.int r), .val (.int tp), .val (.long q), .second, .val (.long co), .second, .unset, .unset, .unset, .unset, .unset, .unset, .unset, .unset, .unset, .unset] [(.int y), (.int (x - (1 : Int32)))])) rfl (by rw [hml]; rfl) (argsL := [(.int (x - (1 : Int32))), (.int y)]) (rest := []) (lenOf pd_0 rfl) rfl 0 (Nat.le_of_eq rfl) (hb hby at_333) (by decide) (by decide) (by decide) (by decide) ?_
        rintro _ T5 _ ⟨z5, rfl, qz5, rfl⟩ H5
        show Go _ _ _ _ (T5.setTop (mkF m 336 #[.val (.int p1), .val (.int p2), .val (.int p3), .val (.int x), .val (.int y), .val (.int kk), .val (.long (4294967295 : Int64)), .second, .val (.long z1), .second, .val (.int (1 : Int32)), .val (.int r), .val (.int tp), .val (.long q), .second, .val (.long co), .second, .unset, .unset, .unset, .unset, .unset, .unset, .unset, .unset, .unset, .unset] [(.long z5)]))
        refine Go.via (fun t_ k_ => XS.goto H5.here hx rfl (pc0 := 336) (pc' := 342) rfl (hb hby at_336) (by decide) (by decide) k_) ?_
        show Go _ _ _ _ (T5.setTop (mkF m 342 #[.val (.int p1), .val (.int p2), .val (.int p3), .val (.int x), .val (.int y), .val (.int kk), .val (.long (4294967295 : Int64)), .second, .val (.long z1), .second, .val (.int (1 : Int32)), .val (.int r), .val (.int tp), .val (.long q), .second, .val (.long co), .second, .unset, .unset, .unset, .unset, .unset, .unset, .unset, .unset, .unset, .unset] [(.long z5)]))
        refine Go.via (fun t_ k_ => XS.lstore H5.here hx rfl (hb hby at_342) rfl (l' := #[.val (.int p1), .val (.int p2), .val (.int p3), .val (.int x), .val (.int y), .val (.int kk), .val (.long (4294967295 : Int64)), .second, .val (.long z1), .second, .val (.int (1 : Int32)), .val (.int r), .val (.int tp), .val (.long q), .second, .val (.long co), .second, .val (.long z5), .second, .unset, .unset, .unset, .unset, .unset, .unset, .unset, .unset]) rfl k_) ?_
        show Go _ _ _ _ (T5.setTop (mkF m 344 #[.val (.int p1), .val (.int p2), .val (.int p3), .val (.int x), .val (.int y), .val (.int kk), .val (.long (4294967295 : Int64)), .second, .val (.long z1), .second, .val (.int (1 : Int32)), .val (.int r), .val (.int tp), .val (.long q), .second, .val (.long co), .second, .val (.long z5), .second, .unset, .unset, .unset, .unset, .unset, .unset, .unset, .unset] []))
        exact J344 T5 r tp q co z5 H5 (fun _ => qz5)
      · refine Go.via (fun t_ k_ => XS.ifYes Hj.here hx rfl (pc0 := 325) (pc' := 339) rfl (hb hby at_325) rfl ((if0 _ _).trans (flt hc325).2.2.2) (by decide) (by decide) k_) ?_
        show Go _ _ _ _ (Tj.setTop (mkF m 339 #[.val (.int p1), .val (.int p2), .val (.int p3), .val (.int x), .val (.int y), .val (.int kk), .val (.long (4294967295 : Int64)), .second, .val (.long z1), .second, .val (.int (1 : Int32)), .val (.int r), .val (.int tp), .val (.long q), .second, .val (.long co), .second, .unset, .unset, .unset, .unset, .unset, .unset, .unset, .unset, .unset, .unset] []))
        refine own_ldcL Hj hx hZ hown (hw _ (List.mem_of_getElem? (i := 8) rfl)) (g := (mkF m 339 #[.val (.int p1), .val (.int p2), .val (.int p3), .val (.int x), .val (.int y), .val (.int kk), .val (.long (4294967295 : Int64)), .second, .val (.long z1), .second, .val (.int (1 : Int32)), .val (.int r), .val (.int tp), .val (.long q), .second, .val (.long co), .second, .unset, .unset, .unset, .unset, .unset, .unset, .unset, .unset, .unset, .unset] [])) rfl (hb hby at_339) ?_
        show Go _ _ _ _ (Tj.setTop (mkF m 342 #[.val (.int p1), .val (.int p2), .val (.int p3), .val (.int x), .val (.int y), .val (.int kk), .val (.long (4294967295 : Int64)), .second, .val (.long z1), .second, .val (.int (1 : Int32)), .val (.int r), .val (.int tp), .val (.long q), .second, .val (.long co), .second, .unset, .unset, .unset, .unset, .unset, .unset, .unset, .unset, .unset, .unset] [(.long (-1 : Int64))]))
        refine Go.via (fun t_ k_ => XS.lstore Hj.here hx rfl (hb hby at_342) rfl (l' := #[.val (.int p1), .val (.int p2), .val (.int p3), .val (.int x), .val (.int y), .val (.int kk), .val (.long (4294967295 : Int64)), .second, .val (.long z1), .second, .val (.int (1 : Int32)), .val (.int r), .val (.int tp), .val (.long q), .second, .val (.long co), .second, .val (.long (-1 : Int64)), .second, .unset, .unset, .unset, .unset, .unset, .unset, .unset, .unset]) rfl k_) ?_
        show Go _ _ _ _ (Tj.setTop (mkF m 344 #[.val (.int p1), .val (.int p2), .val (.int p3), .val (.int x), .val (.int y), .val (.int kk), .val (.long (4294967295 : Int64)), .second, .val (.long z1), .second, .val (.int (1 : Int32)), .val (.int r), .val (.int tp), .val (.long q), .second, .val (.long co), .second, .val (.long (-1 : Int64)), .second, .unset, .unset, .unset, .unset, .unset, .unset, .unset, .unset] []))
        exact J344 Tj r tp q co (-1 : Int64) Hj (fun z_ => absurd z_ (fun u => hc325 ((own_pos qx).mpr u)))
    have J280 : ∀ (Tj : State) (r tp : Int32) (q : Int64) (co : Int64), Here p l e room_1 s m #[(.int p1), (.int p2), (.int p3)] below meth c n0 Tj h0 0 0 → Go p e below (Fini below s n0 (fun v h => v = some (.int (1 : Int32))) room_1.cells room_1.slots) (Tj.setTop (mkF m 280 #[.val (.int p1), .val (.int p2), .val (.int p3), .val (.int x), .val (.int y), .val (.int kk), .val (.long (4294967295 : Int64)), .second, .val (.long z1), .second, .val (.int (1 : Int32)), .val (.int r), .val (.int tp), .val (.long q), .second, .val (.long co), .second, .unset, .unset, .unset, .unset, .unset, .unset, .unset, .unset, .unset, .unset] [])) := by
      intro Tj r tp q co Hj 
      show Go _ _ _ _ (Tj.setTop (mkF m 280 #[.val (.int p1), .val (.int p2), .val (.int p3), .val (.int x), .val (.int y), .val (.int kk), .val (.long (4294967295 : Int64)), .second, .val (.long z1), .second, .val (.int (1 : Int32)), .val (.int r), .val (.int tp), .val (.long q), .second, .val (.long co), .second, .unset, .unset, .unset, .unset, .unset, .unset, .unset, .unset, .unset, .unset] []))
      refine Go.via (fun t_ k_ => XS.iload Hj.here hx rfl (hb hby at_280) rfl k_) ?_
      show Go _ _ _ _ (Tj.setTop (mkF m 282 #[.val (.int p1), .val (.int p2), .val (.int p3), .val (.int x), .val (.int y), .val (.int kk), .val (.long (4294967295 : Int64)), .second, .val (.long z1), .second, .val (.int (1 : Int32)), .val (.int r), .val (.int tp), .val (.long q), .second, .val (.long co), .second, .unset, .unset, .unset, .unset, .unset, .unset, .unset, .unset, .unset, .unset] [(.int (1 : Int32))]))
      refine Go.via (fun t_ k_ => XS.ifNo Hj.here hx rfl (hb hby at_282) rfl ((if0 _ _).trans (feq (show ¬ ((1 : Int32) = (0 : Int32)) from (by decide))).1) k_) ?_
      show Go _ _ _ _ (Tj.setTop (mkF m 285 #[.val (.int p1), .val (.int p2), .val (.int p3), .val (.int x), .val (.int y), .val (.int kk), .val (.long (4294967295 : Int64)), .second, .val (.long z1), .second, .val (.int (1 : Int32)), .val (.int r), .val (.int tp), .val (.long q), .second, .val (.long co), .second, .unset, .unset, .unset, .unset, .unset, .unset, .unset, .unset, .unset, .unset] []))
      refine Go.via (fun t_ k_ => XS.lload Hj.here hx rfl (hb hby at_285) rfl k_) ?_
      show Go _ _ _ _ (Tj.setTop (mkF m 287 #[.val (.int p1), .val (.int p2), .val (.int p3), .val (.int x), .val (.int y), .val (.int kk), .val (.long (4294967295 : Int64)), .second, .val (.long z1), .second, .val (.int (1 : Int32)), .val (.int r), .val (.int tp), .val (.long q), .second, .val (.long co), .second, .unset, .unset, .unset, .unset, .unset, .unset, .unset, .unset, .unset, .unset] [(.long z1)]))
      refine Go.via (fun t_ k_ => XS.lload Hj.here hx rfl (hb hby at_287) rfl k_) ?_
      show Go _ _ _ _ (Tj.setTop (mkF m 289 #[.val (.int p1), .val (.int p2), .val (.int p3), .val (.int x), .val (.int y), .val (.int kk), .val (.long (4294967295 : Int64)), .second, .val (.long z1), .second, .val (.int (1 : Int32)), .val (.int r), .val (.int tp), .val (.long q), .second, .val (.long co), .second, .unset, .unset, .unset, .unset, .unset, .unset, .unset, .unset, .unset, .unset] [(.long (4294967295 : Int64)), (.long z1)]))
      refine Go.via (fun t_ k_ => XS.lcmp Hj.here hx rfl (hb hby at_289) rfl k_) ?_
      show Go _ _ _ _ (Tj.setTop (mkF m 290 #[.val (.int p1), .val (.int p2), .val (.int p3), .val (.int x), .val (.int y), .val (.int kk), .val (.long (4294967295 : Int64)), .second, .val (.long z1), .second, .val (.int (1 : Int32)), .val (.int r), .val (.int tp), .val (.long q), .second, .val (.long co), .second, .unset, .unset, .unset, .unset, .unset, .unset, .unset, .unset, .unset, .unset] [(.int (lcmpW z1 (4294967295 : Int64)))]))
      by_cases hc290 : z1 = (4294967295 : Int64)
      · refine Go.via (fun t_ k_ => XS.ifNo Hj.here hx rfl (hb hby at_290) rfl ((own_leq hc290).2) k_) ?_
        show Go _ _ _ _ (Tj.setTop (mkF m 293 #[.val (.int p1), .val (.int p2), .val (.int p3), .val (.int x), .val (.int y), .val (.int kk), .val (.long (4294967295 : Int64)), .second, .val (.long z1), .second, .val (.int (1 : Int32)), .val (.int r), .val (.int tp), .val (.long q), .second, .val (.long co), .second, .unset, .unset, .unset, .unset, .unset, .unset, .unset, .unset, .unset, .unset] []))
        refine Go.via (fun t_ k_ => XS.iconst Hj.here hx rfl (hb hby at_293) k_) ?_
        show Go _ _ _ _ (Tj.setTop (mkF m 294 #[.val (.int p1), .val (.int p2), .val (.int p3), .val (.int x), .val (.int y), .val (.int kk), .val (.long (4294967295 : Int64)), .second, .val (.long z1), .second, .val (.int (1 : Int32)), .val (.int r), .val (.int tp), .val (.long q), .second, .val (.long co), .second, .unset, .unset, .unset, .unset, .unset, .unset, .unset, .unset, .unset, .unset] [(.int (1 : Int32))]))
        refine Go.via (fun t_ k_ => XS.goto Hj.here hx rfl (pc0 := 294) (pc' := 298) rfl (hb hby at_294) (by decide) (by decide) k_) ?_
        show Go _ _ _ _ (Tj.setTop (mkF m 298 #[.val (.int p1), .val (.int p2), .val (.int p3), .val (.int x), .val (.int y), .val (.int kk), .val (.long (4294967295 : Int64)), .second, .val (.long z1), .second, .val (.int (1 : Int32)), .val (.int r), .val (.int tp), .val (.long q), .second, .val (.long co), .second, .unset, .unset, .unset, .unset, .unset, .unset, .unset, .unset, .unset, .unset] [(.int (1 : Int32))]))
        refine Go.via (fun t_ k_ => XS.iloadN Hj.here hx rfl (hb hby at_298) rfl k_) ?_
        show Go _ _ _ _ (Tj.setTop (mkF m 299 #[.val (.int p1), .val (.int p2), .val (.int p3), .val (.int x), .val (.int y), .val (.int kk), .val (.long (4294967295 : Int64)), .second, .val (.long z1), .second, .val (.int (1 : Int32)), .val (.int r), .val (.int tp), .val (.long q), .second, .val (.long co), .second, .unset, .unset, .unset, .unset, .unset, .unset, .unset, .unset, .unset, .unset] [(.int x), (.int (1 : Int32))]))
        refine own_ldcI Hj hx hZ hown (hw _ (List.mem_of_getElem? (i := 0) rfl)) (g := (mkF m 299 #[.val (.int p1), .val (.int p2), .val (.int p3), .val (.int x), .val (.int y), .val (.int kk), .val (.long (4294967295 : Int64)), .second, .val (.long z1), .second, .val (.int (1 : Int32)), .val (.int r), .val (.int tp), .val (.long q), .second, .val (.long co), .second, .unset, .unset, .unset, .unset, .unset, .unset, .unset, .unset, .unset, .unset] [(.int x), (.int (1 : Int32))])) rfl (hb hby at_299) ?_
        show Go _ _ _ _ (Tj.setTop (mkF m 301 #[.val (.int p1), .val (.int p2), .val (.int p3), .val (.int x), .val (.int y), .val (.int kk), .val (.long (4294967295 : Int64)), .second, .val (.long z1), .second, .val (.int (1 : Int32)), .val (.int r), .val (.int tp), .val (.long q), .second, .val (.long co), .second, .unset, .unset, .unset, .unset, .unset, .unset, .unset, .unset, .unset, .unset] [(.int (65535 : Int32)), (.int x), (.int (1 : Int32))]))
        refine Go.via (fun t_ k_ => XS.icmpNo Hj.here hx rfl (hb hby at_301) rfl ((teq (show x = (65535 : Int32) from ((own_eqi qx (m := 65535) (by decide)).mpr ((own_lastz hX hY qz1).mp hc290).1))).2) k_) ?_
        show Go _ _ _ _ (Tj.setTop (mkF m 304 #[.val (.int p1), .val (.int p2), .val (.int p3), .val (.int x), .val (.int y), .val (.int kk), .val (.long (4294967295 : Int64)), .second, .val (.long z1), .second, .val (.int (1 : Int32)), .val (.int r), .val (.int tp), .val (.long q), .second, .val (.long co), .second, .unset, .unset, .unset, .unset, .unset, .unset, .unset, .unset, .unset, .unset] [(.int (1 : Int32))]))
        refine Go.via (fun t_ k_ => XS.iload Hj.here hx rfl (hb hby at_304) rfl k_) ?_
        show Go _ _ _ _ (Tj.setTop (mkF m 306 #[.val (.int p1), .val (.int p2), .val (.int p3), .val (.int x), .val (.int y), .val (.int kk), .val (.long (4294967295 : Int64)), .second, .val (.long z1), .second, .val (.int (1 : Int32)), .val (.int r), .val (.int tp), .val (.long q), .second, .val (.long co), .second, .unset, .unset, .unset, .unset, .unset, .unset, .unset, .unset, .unset, .unset] [(.int y), (.int (1 : Int32))]))
        refine Go.via (fun t_ k_ => XS.ifNo Hj.here hx rfl (hb hby at_306) rfl ((if0 _ _).trans (teq (show y = (0 : Int32) from ((own_eqi qy (m := 0) (by decide)).mpr ((own_lastz hX hY qz1).mp hc290).2))).2) k_) ?_
        show Go _ _ _ _ (Tj.setTop (mkF m 309 #[.val (.int p1), .val (.int p2), .val (.int p3), .val (.int x), .val (.int y), .val (.int kk), .val (.long (4294967295 : Int64)), .second, .val (.long z1), .second, .val (.int (1 : Int32)), .val (.int r), .val (.int tp), .val (.long q), .second, .val (.long co), .second, .unset, .unset, .unset, .unset, .unset, .unset, .unset, .unset, .unset, .unset] [(.int (1 : Int32))]))
        refine Go.via (fun t_ k_ => XS.iconst Hj.here hx rfl (hb hby at_309) k_) ?_
        show Go _ _ _ _ (Tj.setTop (mkF m 310 #[.val (.int p1), .val (.int p2), .val (.int p3), .val (.int x), .val (.int y), .val (.int kk), .val (.long (4294967295 : Int64)), .second, .val (.long z1), .second, .val (.int (1 : Int32)), .val (.int r), .val (.int tp), .val (.long q), .second, .val (.long co), .second, .unset, .unset, .unset, .unset, .unset, .unset, .unset, .unset, .unset, .unset] [(.int (1 : Int32)), (.int (1 : Int32))]))
        refine Go.via (fun t_ k_ => XS.goto Hj.here hx rfl (pc0 := 310) (pc' := 314) rfl (hb hby at_310) (by decide) (by decide) k_) ?_
        show Go _ _ _ _ (Tj.setTop (mkF m 314 #[.val (.int p1), .val (.int p2), .val (.int p3), .val (.int x), .val (.int y), .val (.int kk), .val (.long (4294967295 : Int64)), .second, .val (.long z1), .second, .val (.int (1 : Int32)), .val (.int r), .val (.int tp), .val (.long q), .second, .val (.long co), .second, .unset, .unset, .unset, .unset, .unset, .unset, .unset, .unset, .unset, .unset] [(.int (1 : Int32)), (.int (1 : Int32))]))
        refine Go.via (fun t_ k_ => XS.icmpNo Hj.here hx rfl (hb hby at_314) rfl ((teq (show (1 : Int32) = (1 : Int32) from (by decide))).2) k_) ?_
        show Go _ _ _ _ (Tj.setTop (mkF m 317 #[.val (.int p1), .val (.int p2), .val (.int p3), .val (.int x), .val (.int y), .val (.int kk), .val (.long (4294967295 : Int64)), .second, .val (.long z1), .second, .val (.int (1 : Int32)), .val (.int r), .val (.int tp), .val (.long q), .second, .val (.long co), .second, .unset, .unset, .unset, .unset, .unset, .unset, .unset, .unset, .unset, .unset] []))
        refine Go.via (fun t_ k_ => XS.iconst Hj.here hx rfl (hb hby at_317) k_) ?_
        show Go _ _ _ _ (Tj.setTop (mkF m 318 #[.val (.int p1), .val (.int p2), .val (.int p3), .val (.int x), .val (.int y), .val (.int kk), .val (.long (4294967295 : Int64)), .second, .val (.long z1), .second, .val (.int (1 : Int32)), .val (.int r), .val (.int tp), .val (.long q), .second, .val (.long co), .second, .unset, .unset, .unset, .unset, .unset, .unset, .unset, .unset, .unset, .unset] [(.int (1 : Int32))]))
        refine Go.via (fun t_ k_ => XS.goto Hj.here hx rfl (pc0 := 318) (pc' := 322) rfl (hb hby at_318) (by decide) (by decide) k_) ?_
        show Go _ _ _ _ (Tj.setTop (mkF m 322 #[.val (.int p1), .val (.int p2), .val (.int p3), .val (.int x), .val (.int y), .val (.int kk), .val (.long (4294967295 : Int64)), .second, .val (.long z1), .second, .val (.int (1 : Int32)), .val (.int r), .val (.int tp), .val (.long q), .second, .val (.long co), .second, .unset, .unset, .unset, .unset, .unset, .unset, .unset, .unset, .unset, .unset] [(.int (1 : Int32))]))
        refine Go.via (fun t_ k_ => XS.istore Hj.here hx rfl (hb hby at_322) rfl (l' := #[.val (.int p1), .val (.int p2), .val (.int p3), .val (.int x), .val (.int y), .val (.int kk), .val (.long (4294967295 : Int64)), .second, .val (.long z1), .second, .val (.int (1 : Int32)), .val (.int r), .val (.int tp), .val (.long q), .second, .val (.long co), .second, .unset, .unset, .unset, .unset, .unset, .unset, .unset, .unset, .unset, .unset]) rfl k_) ?_
        show Go _ _ _ _ (Tj.setTop (mkF m 324 #[.val (.int p1), .val (.int p2), .val (.int p3), .val (.int x), .val (.int y), .val (.int kk), .val (.long (4294967295 : Int64)), .second, .val (.long z1), .second, .val (.int (1 : Int32)), .val (.int r), .val (.int tp), .val (.long q), .second, .val (.long co), .second, .unset, .unset, .unset, .unset, .unset, .unset, .unset, .unset, .unset, .unset] []))
        exact J324 Tj r tp q co Hj
      · refine Go.via (fun t_ k_ => XS.ifYes Hj.here hx rfl (pc0 := 290) (pc' := 297) rfl (hb hby at_290) rfl ((own_neq hc290).2) (by decide) (by decide) k_) ?_
        show Go _ _ _ _ (Tj.setTop (mkF m 297 #[.val (.int p1), .val (.int p2), .val (.int p3), .val (.int x), .val (.int y), .val (.int kk), .val (.long (4294967295 : Int64)), .second, .val (.long z1), .second, .val (.int (1 : Int32)), .val (.int r), .val (.int tp), .val (.long q), .second, .val (.long co), .second, .unset, .unset, .unset, .unset, .unset, .unset, .unset, .unset, .unset, .unset] []))
        refine Go.via (fun t_ k_ => XS.iconst Hj.here hx rfl (hb hby at_297) k_) ?_
        show Go _ _ _ _ (Tj.setTop (mkF m 298 #[.val (.int p1), .val (.int p2), .val (.int p3), .val (.int x), .val (.int y), .val (.int kk), .val (.long (4294967295 : Int64)), .second, .val (.long z1), .second, .val (.int (1 : Int32)), .val (.int r), .val (.int tp), .val (.long q), .second, .val (.long co), .second, .unset, .unset, .unset, .unset, .unset, .unset, .unset, .unset, .unset, .unset] [(.int (0 : Int32))]))
        refine Go.via (fun t_ k_ => XS.iloadN Hj.here hx rfl (hb hby at_298) rfl k_) ?_
        show Go _ _ _ _ (Tj.setTop (mkF m 299 #[.val (.int p1), .val (.int p2), .val (.int p3), .val (.int x), .val (.int y), .val (.int kk), .val (.long (4294967295 : Int64)), .second, .val (.long z1), .second, .val (.int (1 : Int32)), .val (.int r), .val (.int tp), .val (.long q), .second, .val (.long co), .second, .unset, .unset, .unset, .unset, .unset, .unset, .unset, .unset, .unset, .unset] [(.int x), (.int (0 : Int32))]))
        refine own_ldcI Hj hx hZ hown (hw _ (List.mem_of_getElem? (i := 0) rfl)) (g := (mkF m 299 #[.val (.int p1), .val (.int p2), .val (.int p3), .val (.int x), .val (.int y), .val (.int kk), .val (.long (4294967295 : Int64)), .second, .val (.long z1), .second, .val (.int (1 : Int32)), .val (.int r), .val (.int tp), .val (.long q), .second, .val (.long co), .second, .unset, .unset, .unset, .unset, .unset, .unset, .unset, .unset, .unset, .unset] [(.int x), (.int (0 : Int32))])) rfl (hb hby at_299) ?_
        show Go _ _ _ _ (Tj.setTop (mkF m 301 #[.val (.int p1), .val (.int p2), .val (.int p3), .val (.int x), .val (.int y), .val (.int kk), .val (.long (4294967295 : Int64)), .second, .val (.long z1), .second, .val (.int (1 : Int32)), .val (.int r), .val (.int tp), .val (.long q), .second, .val (.long co), .second, .unset, .unset, .unset, .unset, .unset, .unset, .unset, .unset, .unset, .unset] [(.int (65535 : Int32)), (.int x), (.int (0 : Int32))]))
        by_cases hc301 : x = (65535 : Int32)
        · refine Go.via (fun t_ k_ => XS.icmpNo Hj.here hx rfl (hb hby at_301) rfl ((teq hc301).2) k_) ?_
          show Go _ _ _ _ (Tj.setTop (mkF m 304 #[.val (.int p1), .val (.int p2), .val (.int p3), .val (.int x), .val (.int y), .val (.int kk), .val (.long (4294967295 : Int64)), .second, .val (.long z1), .second, .val (.int (1 : Int32)), .val (.int r), .val (.int tp), .val (.long q), .second, .val (.long co), .second, .unset, .unset, .unset, .unset, .unset, .unset, .unset, .unset, .unset, .unset] [(.int (0 : Int32))]))
          refine Go.via (fun t_ k_ => XS.iload Hj.here hx rfl (hb hby at_304) rfl k_) ?_
          show Go _ _ _ _ (Tj.setTop (mkF m 306 #[.val (.int p1), .val (.int p2), .val (.int p3), .val (.int x), .val (.int y), .val (.int kk), .val (.long (4294967295 : Int64)), .second, .val (.long z1), .second, .val (.int (1 : Int32)), .val (.int r), .val (.int tp), .val (.long q), .second, .val (.long co), .second, .unset, .unset, .unset, .unset, .unset, .unset, .unset, .unset, .unset, .unset] [(.int y), (.int (0 : Int32))]))
          refine Go.via (fun t_ k_ => XS.ifYes Hj.here hx rfl (pc0 := 306) (pc' := 313) rfl (hb hby at_306) rfl ((if0 _ _).trans (feq (show ¬ (y = (0 : Int32)) from (fun u => hc290 ((own_lastz hX hY qz1).mpr ⟨(own_eqi qx (m := 65535) (by decide)).mp hc301, (own_eqi qy (m := 0) (by decide)).mp u⟩)))).2) (by decide) (by decide) k_) ?_
          show Go _ _ _ _ (Tj.setTop (mkF m 313 #[.val (.int p1), .val (.int p2), .val (.int p3), .val (.int x), .val (.int y), .val (.int kk), .val (.long (4294967295 : Int64)), .second, .val (.long z1), .second, .val (.int (1 : Int32)), .val (.int r), .val (.int tp), .val (.long q), .second, .val (.long co), .second, .unset, .unset, .unset, .unset, .unset, .unset, .unset, .unset, .unset, .unset] [(.int (0 : Int32))]))
          refine Go.via (fun t_ k_ => XS.iconst Hj.here hx rfl (hb hby at_313) k_) ?_
          show Go _ _ _ _ (Tj.setTop (mkF m 314 #[.val (.int p1), .val (.int p2), .val (.int p3), .val (.int x), .val (.int y), .val (.int kk), .val (.long (4294967295 : Int64)), .second, .val (.long z1), .second, .val (.int (1 : Int32)), .val (.int r), .val (.int tp), .val (.long q), .second, .val (.long co), .second, .unset, .unset, .unset, .unset, .unset, .unset, .unset, .unset, .unset, .unset] [(.int (0 : Int32)), (.int (0 : Int32))]))
          refine Go.via (fun t_ k_ => XS.icmpNo Hj.here hx rfl (hb hby at_314) rfl ((teq (show (0 : Int32) = (0 : Int32) from (by decide))).2) k_) ?_
          show Go _ _ _ _ (Tj.setTop (mkF m 317 #[.val (.int p1), .val (.int p2), .val (.int p3), .val (.int x), .val (.int y), .val (.int kk), .val (.long (4294967295 : Int64)), .second, .val (.long z1), .second, .val (.int (1 : Int32)), .val (.int r), .val (.int tp), .val (.long q), .second, .val (.long co), .second, .unset, .unset, .unset, .unset, .unset, .unset, .unset, .unset, .unset, .unset] []))
          refine Go.via (fun t_ k_ => XS.iconst Hj.here hx rfl (hb hby at_317) k_) ?_
          show Go _ _ _ _ (Tj.setTop (mkF m 318 #[.val (.int p1), .val (.int p2), .val (.int p3), .val (.int x), .val (.int y), .val (.int kk), .val (.long (4294967295 : Int64)), .second, .val (.long z1), .second, .val (.int (1 : Int32)), .val (.int r), .val (.int tp), .val (.long q), .second, .val (.long co), .second, .unset, .unset, .unset, .unset, .unset, .unset, .unset, .unset, .unset, .unset] [(.int (1 : Int32))]))
          refine Go.via (fun t_ k_ => XS.goto Hj.here hx rfl (pc0 := 318) (pc' := 322) rfl (hb hby at_318) (by decide) (by decide) k_) ?_
          show Go _ _ _ _ (Tj.setTop (mkF m 322 #[.val (.int p1), .val (.int p2), .val (.int p3), .val (.int x), .val (.int y), .val (.int kk), .val (.long (4294967295 : Int64)), .second, .val (.long z1), .second, .val (.int (1 : Int32)), .val (.int r), .val (.int tp), .val (.long q), .second, .val (.long co), .second, .unset, .unset, .unset, .unset, .unset, .unset, .unset, .unset, .unset, .unset] [(.int (1 : Int32))]))
          refine Go.via (fun t_ k_ => XS.istore Hj.here hx rfl (hb hby at_322) rfl (l' := #[.val (.int p1), .val (.int p2), .val (.int p3), .val (.int x), .val (.int y), .val (.int kk), .val (.long (4294967295 : Int64)), .second, .val (.long z1), .second, .val (.int (1 : Int32)), .val (.int r), .val (.int tp), .val (.long q), .second, .val (.long co), .second, .unset, .unset, .unset, .unset, .unset, .unset, .unset, .unset, .unset, .unset]) rfl k_) ?_
          show Go _ _ _ _ (Tj.setTop (mkF m 324 #[.val (.int p1), .val (.int p2), .val (.int p3), .val (.int x), .val (.int y), .val (.int kk), .val (.long (4294967295 : Int64)), .second, .val (.long z1), .second, .val (.int (1 : Int32)), .val (.int r), .val (.int tp), .val (.long q), .second, .val (.long co), .second, .unset, .unset, .unset, .unset, .unset, .unset, .unset, .unset, .unset, .unset] []))
          exact J324 Tj r tp q co Hj
        · refine Go.via (fun t_ k_ => XS.icmpYes Hj.here hx rfl (pc0 := 301) (pc' := 313) rfl (hb hby at_301) rfl ((feq hc301).2) (by decide) (by decide) k_) ?_
          show Go _ _ _ _ (Tj.setTop (mkF m 313 #[.val (.int p1), .val (.int p2), .val (.int p3), .val (.int x), .val (.int y), .val (.int kk), .val (.long (4294967295 : Int64)), .second, .val (.long z1), .second, .val (.int (1 : Int32)), .val (.int r), .val (.int tp), .val (.long q), .second, .val (.long co), .second, .unset, .unset, .unset, .unset, .unset, .unset, .unset, .unset, .unset, .unset] [(.int (0 : Int32))]))
          refine Go.via (fun t_ k_ => XS.iconst Hj.here hx rfl (hb hby at_313) k_) ?_
          show Go _ _ _ _ (Tj.setTop (mkF m 314 #[.val (.int p1), .val (.int p2), .val (.int p3), .val (.int x), .val (.int y), .val (.int kk), .val (.long (4294967295 : Int64)), .second, .val (.long z1), .second, .val (.int (1 : Int32)), .val (.int r), .val (.int tp), .val (.long q), .second, .val (.long co), .second, .unset, .unset, .unset, .unset, .unset, .unset, .unset, .unset, .unset, .unset] [(.int (0 : Int32)), (.int (0 : Int32))]))
          refine Go.via (fun t_ k_ => XS.icmpNo Hj.here hx rfl (hb hby at_314) rfl ((teq (show (0 : Int32) = (0 : Int32) from (by decide))).2) k_) ?_
          show Go _ _ _ _ (Tj.setTop (mkF m 317 #[.val (.int p1), .val (.int p2), .val (.int p3), .val (.int x), .val (.int y), .val (.int kk), .val (.long (4294967295 : Int64)), .second, .val (.long z1), .second, .val (.int (1 : Int32)), .val (.int r), .val (.int tp), .val (.long q), .second, .val (.long co), .second, .unset, .unset, .unset, .unset, .unset, .unset, .unset, .unset, .unset, .unset] []))
          refine Go.via (fun t_ k_ => XS.iconst Hj.here hx rfl (hb hby at_317) k_) ?_
          show Go _ _ _ _ (Tj.setTop (mkF m 318 #[.val (.int p1), .val (.int p2), .val (.int p3), .val (.int x), .val (.int y), .val (.int kk), .val (.long (4294967295 : Int64)), .second, .val (.long z1), .second, .val (.int (1 : Int32)), .val (.int r), .val (.int tp), .val (.long q), .second, .val (.long co), .second, .unset, .unset, .unset, .unset, .unset, .unset, .unset, .unset, .unset, .unset] [(.int (1 : Int32))]))
          refine Go.via (fun t_ k_ => XS.goto Hj.here hx rfl (pc0 := 318) (pc' := 322) rfl (hb hby at_318) (by decide) (by decide) k_) ?_
          show Go _ _ _ _ (Tj.setTop (mkF m 322 #[.val (.int p1), .val (.int p2), .val (.int p3), .val (.int x), .val (.int y), .val (.int kk), .val (.long (4294967295 : Int64)), .second, .val (.long z1), .second, .val (.int (1 : Int32)), .val (.int r), .val (.int tp), .val (.long q), .second, .val (.long co), .second, .unset, .unset, .unset, .unset, .unset, .unset, .unset, .unset, .unset, .unset] [(.int (1 : Int32))]))
          refine Go.via (fun t_ k_ => XS.istore Hj.here hx rfl (hb hby at_322) rfl (l' := #[.val (.int p1), .val (.int p2), .val (.int p3), .val (.int x), .val (.int y), .val (.int kk), .val (.long (4294967295 : Int64)), .second, .val (.long z1), .second, .val (.int (1 : Int32)), .val (.int r), .val (.int tp), .val (.long q), .second, .val (.long co), .second, .unset, .unset, .unset, .unset, .unset, .unset, .unset, .unset, .unset, .unset]) rfl k_) ?_
          show Go _ _ _ _ (Tj.setTop (mkF m 324 #[.val (.int p1), .val (.int p2), .val (.int p3), .val (.int x), .val (.int y), .val (.int kk), .val (.long (4294967295 : Int64)), .second, .val (.long z1), .second, .val (.int (1 : Int32)), .val (.int r), .val (.int tp), .val (.long q), .second, .val (.long co), .second, .unset, .unset, .unset, .unset, .unset, .unset, .unset, .unset, .unset, .unset] []))
          exact J324 Tj r tp q co Hj
    have J214 : ∀ (Tj : State) (r tp : Int32) (q : Int64) (co : Int64), Here p l e room_1 s m #[(.int p1), (.int p2), (.int p3)] below meth c n0 Tj h0 0 0 → (((z1.toUInt64 >>> (((2 : Int32) * kk) &&& 0x3f).toInt64.toUInt64).toInt64) = co) → Go p e below (Fini below s n0 (fun v h => v = some (.int (1 : Int32))) room_1.cells room_1.slots) (Tj.setTop (mkF m 214 #[.val (.int p1), .val (.int p2), .val (.int p3), .val (.int x), .val (.int y), .val (.int kk), .val (.long (4294967295 : Int64)), .second, .val (.long z1), .second, .val (.int (1 : Int32)), .val (.int r), .val (.int tp), .val (.long q), .second, .val (.long co), .second, .unset, .unset, .unset, .unset, .unset, .unset, .unset, .unset, .unset, .unset] [])) := by
      intro Tj r tp q co Hj hco
      show Go _ _ _ _ (Tj.setTop (mkF m 214 #[.val (.int p1), .val (.int p2), .val (.int p3), .val (.int x), .val (.int y), .val (.int kk), .val (.long (4294967295 : Int64)), .second, .val (.long z1), .second, .val (.int (1 : Int32)), .val (.int r), .val (.int tp), .val (.long q), .second, .val (.long co), .second, .unset, .unset, .unset, .unset, .unset, .unset, .unset, .unset, .unset, .unset] []))
      refine Go.via (fun t_ k_ => XS.iload Hj.here hx rfl (hb hby at_214) rfl k_) ?_
      show Go _ _ _ _ (Tj.setTop (mkF m 216 #[.val (.int p1), .val (.int p2), .val (.int p3), .val (.int x), .val (.int y), .val (.int kk), .val (.long (4294967295 : Int64)), .second, .val (.long z1), .second, .val (.int (1 : Int32)), .val (.int r), .val (.int tp), .val (.long q), .second, .val (.long co), .second, .unset, .unset, .unset, .unset, .unset, .unset, .unset, .unset, .unset, .unset] [(.int (1 : Int32))]))
      refine Go.via (fun t_ k_ => XS.ifNo Hj.here hx rfl (hb hby at_216) rfl ((if0 _ _).trans (feq (show ¬ ((1 : Int32) = (0 : Int32)) from (by decide))).1) k_) ?_
      show Go _ _ _ _ (Tj.setTop (mkF m 219 #[.val (.int p1), .val (.int p2), .val (.int p3), .val (.int x), .val (.int y), .val (.int kk), .val (.long (4294967295 : Int64)), .second, .val (.long z1), .second, .val (.int (1 : Int32)), .val (.int r), .val (.int tp), .val (.long q), .second, .val (.long co), .second, .unset, .unset, .unset, .unset, .unset, .unset, .unset, .unset, .unset, .unset] []))
      refine Go.via (fun t_ k_ => XS.lload Hj.here hx rfl (hb hby at_219) rfl k_) ?_
      show Go _ _ _ _ (Tj.setTop (mkF m 221 #[.val (.int p1), .val (.int p2), .val (.int p3), .val (.int x), .val (.int y), .val (.int kk), .val (.long (4294967295 : Int64)), .second, .val (.long z1), .second, .val (.int (1 : Int32)), .val (.int r), .val (.int tp), .val (.long q), .second, .val (.long co), .second, .unset, .unset, .unset, .unset, .unset, .unset, .unset, .unset, .unset, .unset] [(.long z1)]))
      refine Go.via (fun t_ k_ => XS.iconst Hj.here hx rfl (hb hby at_221) k_) ?_
      show Go _ _ _ _ (Tj.setTop (mkF m 222 #[.val (.int p1), .val (.int p2), .val (.int p3), .val (.int x), .val (.int y), .val (.int kk), .val (.long (4294967295 : Int64)), .second, .val (.long z1), .second, .val (.int (1 : Int32)), .val (.int r), .val (.int tp), .val (.long q), .second, .val (.long co), .second, .unset, .unset, .unset, .unset, .unset, .unset, .unset, .unset, .unset, .unset] [(.int (2 : Int32)), (.long z1)]))
      refine Go.via (fun t_ k_ => XS.iload Hj.here hx rfl (hb hby at_222) rfl k_) ?_
      show Go _ _ _ _ (Tj.setTop (mkF m 224 #[.val (.int p1), .val (.int p2), .val (.int p3), .val (.int x), .val (.int y), .val (.int kk), .val (.long (4294967295 : Int64)), .second, .val (.long z1), .second, .val (.int (1 : Int32)), .val (.int r), .val (.int tp), .val (.long q), .second, .val (.long co), .second, .unset, .unset, .unset, .unset, .unset, .unset, .unset, .unset, .unset, .unset] [(.int kk), (.int (2 : Int32)), (.long z1)]))
      refine Go.via (fun t_ k_ => XS.imul Hj.here hx rfl (hb hby at_224) rfl k_) ?_
      show Go _ _ _ _ (Tj.setTop (mkF m 225 #[.val (.int p1), .val (.int p2), .val (.int p3), .val (.int x), .val (.int y), .val (.int kk), .val (.long (4294967295 : Int64)), .second, .val (.long z1), .second, .val (.int (1 : Int32)), .val (.int r), .val (.int tp), .val (.long q), .second, .val (.long co), .second, .unset, .unset, .unset, .unset, .unset, .unset, .unset, .unset, .unset, .unset] [(.int ((2 : Int32) * kk)), (.long z1)]))
      refine Go.via (fun t_ k_ => XS.lushr Hj.here hx rfl (hb hby at_225) rfl k_) ?_
      show Go _ _ _ _ (Tj.setTop (mkF m 226 #[.val (.int p1), .val (.int p2), .val (.int p3), .val (.int x), .val (.int y), .val (.int kk), .val (.long (4294967295 : Int64)), .second, .val (.long z1), .second, .val (.int (1 : Int32)), .val (.int r), .val (.int tp), .val (.long q), .second, .val (.long co), .second, .unset, .unset, .unset, .unset, .unset, .unset, .unset, .unset, .unset, .unset] [(.long ((z1.toUInt64 >>> (((2 : Int32) * kk) &&& 0x3f).toInt64.toUInt64).toInt64))]))
      refine Go.via (fun t_ k_ => XS.lload Hj.here hx rfl (hb hby at_226) rfl k_) ?_
      show Go _ _ _ _ (Tj.setTop (mkF m 228 #[.val (.int p1), .val (.int p2), .val (.int p3), .val (.int x), .val (.int y), .val (.int kk), .val (.long (4294967295 : Int64)), .second, .val (.long z1), .second, .val (.int (1 : Int32)), .val (.int r), .val (.int tp), .val (.long q), .second, .val (.long co), .second, .unset, .unset, .unset, .unset, .unset, .unset, .unset, .unset, .unset, .unset] [(.long co), (.long ((z1.toUInt64 >>> (((2 : Int32) * kk) &&& 0x3f).toInt64.toUInt64).toInt64))]))
      refine Go.via (fun t_ k_ => XS.lcmp Hj.here hx rfl (hb hby at_228) rfl k_) ?_
      show Go _ _ _ _ (Tj.setTop (mkF m 229 #[.val (.int p1), .val (.int p2), .val (.int p3), .val (.int x), .val (.int y), .val (.int kk), .val (.long (4294967295 : Int64)), .second, .val (.long z1), .second, .val (.int (1 : Int32)), .val (.int r), .val (.int tp), .val (.long q), .second, .val (.long co), .second, .unset, .unset, .unset, .unset, .unset, .unset, .unset, .unset, .unset, .unset] [(.int (lcmpW ((z1.toUInt64 >>> (((2 : Int32) * kk) &&& 0x3f).toInt64.toUInt64).toInt64) co))]))
      refine Go.via (fun t_ k_ => XS.ifNo Hj.here hx rfl (hb hby at_229) rfl ((own_leq (show ((z1.toUInt64 >>> (((2 : Int32) * kk) &&& 0x3f).toInt64.toUInt64).toInt64) = co from hco)).2) k_) ?_
      show Go _ _ _ _ (Tj.setTop (mkF m 232 #[.val (.int p1), .val (.int p2), .val (.int p3), .val (.int x), .val (.int y), .val (.int kk), .val (.long (4294967295 : Int64)), .second, .val (.long z1), .second, .val (.int (1 : Int32)), .val (.int r), .val (.int tp), .val (.long q), .second, .val (.long co), .second, .unset, .unset, .unset, .unset, .unset, .unset, .unset, .unset, .unset, .unset] []))
      refine Go.via (fun t_ k_ => XS.iconst Hj.here hx rfl (hb hby at_232) k_) ?_
      show Go _ _ _ _ (Tj.setTop (mkF m 233 #[.val (.int p1), .val (.int p2), .val (.int p3), .val (.int x), .val (.int y), .val (.int kk), .val (.long (4294967295 : Int64)), .second, .val (.long z1), .second, .val (.int (1 : Int32)), .val (.int r), .val (.int tp), .val (.long q), .second, .val (.long co), .second, .unset, .unset, .unset, .unset, .unset, .unset, .unset, .unset, .unset, .unset] [(.int (1 : Int32))]))
      refine Go.via (fun t_ k_ => XS.goto Hj.here hx rfl (pc0 := 233) (pc' := 237) rfl (hb hby at_233) (by decide) (by decide) k_) ?_
      show Go _ _ _ _ (Tj.setTop (mkF m 237 #[.val (.int p1), .val (.int p2), .val (.int p3), .val (.int x), .val (.int y), .val (.int kk), .val (.long (4294967295 : Int64)), .second, .val (.long z1), .second, .val (.int (1 : Int32)), .val (.int r), .val (.int tp), .val (.long q), .second, .val (.long co), .second, .unset, .unset, .unset, .unset, .unset, .unset, .unset, .unset, .unset, .unset] [(.int (1 : Int32))]))
      refine Go.via (fun t_ k_ => XS.istore Hj.here hx rfl (hb hby at_237) rfl (l' := #[.val (.int p1), .val (.int p2), .val (.int p3), .val (.int x), .val (.int y), .val (.int kk), .val (.long (4294967295 : Int64)), .second, .val (.long z1), .second, .val (.int (1 : Int32)), .val (.int r), .val (.int tp), .val (.long q), .second, .val (.long co), .second, .unset, .unset, .unset, .unset, .unset, .unset, .unset, .unset, .unset, .unset]) rfl k_) ?_
      show Go _ _ _ _ (Tj.setTop (mkF m 239 #[.val (.int p1), .val (.int p2), .val (.int p3), .val (.int x), .val (.int y), .val (.int kk), .val (.long (4294967295 : Int64)), .second, .val (.long z1), .second, .val (.int (1 : Int32)), .val (.int r), .val (.int tp), .val (.long q), .second, .val (.long co), .second, .unset, .unset, .unset, .unset, .unset, .unset, .unset, .unset, .unset, .unset] []))
      refine Go.via (fun t_ k_ => XS.iload Hj.here hx rfl (hb hby at_239) rfl k_) ?_
      show Go _ _ _ _ (Tj.setTop (mkF m 241 #[.val (.int p1), .val (.int p2), .val (.int p3), .val (.int x), .val (.int y), .val (.int kk), .val (.long (4294967295 : Int64)), .second, .val (.long z1), .second, .val (.int (1 : Int32)), .val (.int r), .val (.int tp), .val (.long q), .second, .val (.long co), .second, .unset, .unset, .unset, .unset, .unset, .unset, .unset, .unset, .unset, .unset] [(.int (1 : Int32))]))
      refine Go.via (fun t_ k_ => XS.ifNo Hj.here hx rfl (hb hby at_241) rfl ((if0 _ _).trans (feq (show ¬ ((1 : Int32) = (0 : Int32)) from (by decide))).1) k_) ?_
      show Go _ _ _ _ (Tj.setTop (mkF m 244 #[.val (.int p1), .val (.int p2), .val (.int p3), .val (.int x), .val (.int y), .val (.int kk), .val (.long (4294967295 : Int64)), .second, .val (.long z1), .second, .val (.int (1 : Int32)), .val (.int r), .val (.int tp), .val (.long q), .second, .val (.long co), .second, .unset, .unset, .unset, .unset, .unset, .unset, .unset, .unset, .unset, .unset] []))
      refine Go.via (fun t_ k_ => XS.lload Hj.here hx rfl (hb hby at_244) rfl k_) ?_
      show Go _ _ _ _ (Tj.setTop (mkF m 246 #[.val (.int p1), .val (.int p2), .val (.int p3), .val (.int x), .val (.int y), .val (.int kk), .val (.long (4294967295 : Int64)), .second, .val (.long z1), .second, .val (.int (1 : Int32)), .val (.int r), .val (.int tp), .val (.long q), .second, .val (.long co), .second, .unset, .unset, .unset, .unset, .unset, .unset, .unset, .unset, .unset, .unset] [(.long z1)]))
      refine Go.via (fun t_ k_ => XS.lconst Hj.here hx rfl (hb hby at_246) k_) ?_
      show Go _ _ _ _ (Tj.setTop (mkF m 247 #[.val (.int p1), .val (.int p2), .val (.int p3), .val (.int x), .val (.int y), .val (.int kk), .val (.long (4294967295 : Int64)), .second, .val (.long z1), .second, .val (.int (1 : Int32)), .val (.int r), .val (.int tp), .val (.long q), .second, .val (.long co), .second, .unset, .unset, .unset, .unset, .unset, .unset, .unset, .unset, .unset, .unset] [(.long (0 : Int64)), (.long z1)]))
      refine Go.via (fun t_ k_ => XS.lcmp Hj.here hx rfl (hb hby at_247) rfl k_) ?_
      show Go _ _ _ _ (Tj.setTop (mkF m 248 #[.val (.int p1), .val (.int p2), .val (.int p3), .val (.int x), .val (.int y), .val (.int kk), .val (.long (4294967295 : Int64)), .second, .val (.long z1), .second, .val (.int (1 : Int32)), .val (.int r), .val (.int tp), .val (.long q), .second, .val (.long co), .second, .unset, .unset, .unset, .unset, .unset, .unset, .unset, .unset, .unset, .unset] [(.int (lcmpW z1 (0 : Int64)))]))
      by_cases hc248 : z1 = (0 : Int64)
      · refine Go.via (fun t_ k_ => XS.ifNo Hj.here hx rfl (hb hby at_248) rfl ((own_leq hc248).2) k_) ?_
        show Go _ _ _ _ (Tj.setTop (mkF m 251 #[.val (.int p1), .val (.int p2), .val (.int p3), .val (.int x), .val (.int y), .val (.int kk), .val (.long (4294967295 : Int64)), .second, .val (.long z1), .second, .val (.int (1 : Int32)), .val (.int r), .val (.int tp), .val (.long q), .second, .val (.long co), .second, .unset, .unset, .unset, .unset, .unset, .unset, .unset, .unset, .unset, .unset] []))
        refine Go.via (fun t_ k_ => XS.iconst Hj.here hx rfl (hb hby at_251) k_) ?_
        show Go _ _ _ _ (Tj.setTop (mkF m 252 #[.val (.int p1), .val (.int p2), .val (.int p3), .val (.int x), .val (.int y), .val (.int kk), .val (.long (4294967295 : Int64)), .second, .val (.long z1), .second, .val (.int (1 : Int32)), .val (.int r), .val (.int tp), .val (.long q), .second, .val (.long co), .second, .unset, .unset, .unset, .unset, .unset, .unset, .unset, .unset, .unset, .unset] [(.int (1 : Int32))]))
        refine Go.via (fun t_ k_ => XS.goto Hj.here hx rfl (pc0 := 252) (pc' := 256) rfl (hb hby at_252) (by decide) (by decide) k_) ?_
        show Go _ _ _ _ (Tj.setTop (mkF m 256 #[.val (.int p1), .val (.int p2), .val (.int p3), .val (.int x), .val (.int y), .val (.int kk), .val (.long (4294967295 : Int64)), .second, .val (.long z1), .second, .val (.int (1 : Int32)), .val (.int r), .val (.int tp), .val (.long q), .second, .val (.long co), .second, .unset, .unset, .unset, .unset, .unset, .unset, .unset, .unset, .unset, .unset] [(.int (1 : Int32))]))
        refine Go.via (fun t_ k_ => XS.iloadN Hj.here hx rfl (hb hby at_256) rfl k_) ?_
        show Go _ _ _ _ (Tj.setTop (mkF m 257 #[.val (.int p1), .val (.int p2), .val (.int p3), .val (.int x), .val (.int y), .val (.int kk), .val (.long (4294967295 : Int64)), .second, .val (.long z1), .second, .val (.int (1 : Int32)), .val (.int r), .val (.int tp), .val (.long q), .second, .val (.long co), .second, .unset, .unset, .unset, .unset, .unset, .unset, .unset, .unset, .unset, .unset] [(.int x), (.int (1 : Int32))]))
        refine Go.via (fun t_ k_ => XS.ifNo Hj.here hx rfl (hb hby at_257) rfl ((if0 _ _).trans (teq (show x = (0 : Int32) from ((own_eqi qx (m := 0) (by decide)).mpr ((own_zero hX hY qz1).mp hc248).1))).2) k_) ?_
        show Go _ _ _ _ (Tj.setTop (mkF m 260 #[.val (.int p1), .val (.int p2), .val (.int p3), .val (.int x), .val (.int y), .val (.int kk), .val (.long (4294967295 : Int64)), .second, .val (.long z1), .second, .val (.int (1 : Int32)), .val (.int r), .val (.int tp), .val (.long q), .second, .val (.long co), .second, .unset, .unset, .unset, .unset, .unset, .unset, .unset, .unset, .unset, .unset] [(.int (1 : Int32))]))
        refine Go.via (fun t_ k_ => XS.iload Hj.here hx rfl (hb hby at_260) rfl k_) ?_
        show Go _ _ _ _ (Tj.setTop (mkF m 262 #[.val (.int p1), .val (.int p2), .val (.int p3), .val (.int x), .val (.int y), .val (.int kk), .val (.long (4294967295 : Int64)), .second, .val (.long z1), .second, .val (.int (1 : Int32)), .val (.int r), .val (.int tp), .val (.long q), .second, .val (.long co), .second, .unset, .unset, .unset, .unset, .unset, .unset, .unset, .unset, .unset, .unset] [(.int y), (.int (1 : Int32))]))
        refine Go.via (fun t_ k_ => XS.ifNo Hj.here hx rfl (hb hby at_262) rfl ((if0 _ _).trans (teq (show y = (0 : Int32) from ((own_eqi qy (m := 0) (by decide)).mpr ((own_zero hX hY qz1).mp hc248).2))).2) k_) ?_
        show Go _ _ _ _ (Tj.setTop (mkF m 265 #[.val (.int p1), .val (.int p2), .val (.int p3), .val (.int x), .val (.int y), .val (.int kk), .val (.long (4294967295 : Int64)), .second, .val (.long z1), .second, .val (.int (1 : Int32)), .val (.int r), .val (.int tp), .val (.long q), .second, .val (.long co), .second, .unset, .unset, .unset, .unset, .unset, .unset, .unset, .unset, .unset, .unset] [(.int (1 : Int32))]))
        refine Go.via (fun t_ k_ => XS.iconst Hj.here hx rfl (hb hby at_265) k_) ?_
        show Go _ _ _ _ (Tj.setTop (mkF m 266 #[.val (.int p1), .val (.int p2), .val (.int p3), .val (.int x), .val (.int y), .val (.int kk), .val (.long (4294967295 : Int64)), .second, .val (.long z1), .second, .val (.int (1 : Int32)), .val (.int r), .val (.int tp), .val (.long q), .second, .val (.long co), .second, .unset, .unset, .unset, .unset, .unset, .unset, .unset, .unset, .unset, .unset] [(.int (1 : Int32)), (.int (1 : Int32))]))
        refine Go.via (fun t_ k_ => XS.goto Hj.here hx rfl (pc0 := 266) (pc' := 270) rfl (hb hby at_266) (by decide) (by decide) k_) ?_
        show Go _ _ _ _ (Tj.setTop (mkF m 270 #[.val (.int p1), .val (.int p2), .val (.int p3), .val (.int x), .val (.int y), .val (.int kk), .val (.long (4294967295 : Int64)), .second, .val (.long z1), .second, .val (.int (1 : Int32)), .val (.int r), .val (.int tp), .val (.long q), .second, .val (.long co), .second, .unset, .unset, .unset, .unset, .unset, .unset, .unset, .unset, .unset, .unset] [(.int (1 : Int32)), (.int (1 : Int32))]))
        refine Go.via (fun t_ k_ => XS.icmpNo Hj.here hx rfl (hb hby at_270) rfl ((teq (show (1 : Int32) = (1 : Int32) from (by decide))).2) k_) ?_
        show Go _ _ _ _ (Tj.setTop (mkF m 273 #[.val (.int p1), .val (.int p2), .val (.int p3), .val (.int x), .val (.int y), .val (.int kk), .val (.long (4294967295 : Int64)), .second, .val (.long z1), .second, .val (.int (1 : Int32)), .val (.int r), .val (.int tp), .val (.long q), .second, .val (.long co), .second, .unset, .unset, .unset, .unset, .unset, .unset, .unset, .unset, .unset, .unset] []))
        refine Go.via (fun t_ k_ => XS.iconst Hj.here hx rfl (hb hby at_273) k_) ?_
        show Go _ _ _ _ (Tj.setTop (mkF m 274 #[.val (.int p1), .val (.int p2), .val (.int p3), .val (.int x), .val (.int y), .val (.int kk), .val (.long (4294967295 : Int64)), .second, .val (.long z1), .second, .val (.int (1 : Int32)), .val (.int r), .val (.int tp), .val (.long q), .second, .val (.long co), .second, .unset, .unset, .unset, .unset, .unset, .unset, .unset, .unset, .unset, .unset] [(.int (1 : Int32))]))
        refine Go.via (fun t_ k_ => XS.goto Hj.here hx rfl (pc0 := 274) (pc' := 278) rfl (hb hby at_274) (by decide) (by decide) k_) ?_
        show Go _ _ _ _ (Tj.setTop (mkF m 278 #[.val (.int p1), .val (.int p2), .val (.int p3), .val (.int x), .val (.int y), .val (.int kk), .val (.long (4294967295 : Int64)), .second, .val (.long z1), .second, .val (.int (1 : Int32)), .val (.int r), .val (.int tp), .val (.long q), .second, .val (.long co), .second, .unset, .unset, .unset, .unset, .unset, .unset, .unset, .unset, .unset, .unset] [(.int (1 : Int32))]))
        refine Go.via (fun t_ k_ => XS.istore Hj.here hx rfl (hb hby at_278) rfl (l' := #[.val (.int p1), .val (.int p2), .val (.int p3), .val (.int x), .val (.int y), .val (.int kk), .val (.long (4294967295 : Int64)), .second, .val (.long z1), .second, .val (.int (1 : Int32)), .val (.int r), .val (.int tp), .val (.long q), .second, .val (.long co), .second, .unset, .unset, .unset, .unset, .unset, .unset, .unset, .unset, .unset, .unset]) rfl k_) ?_
        show Go _ _ _ _ (Tj.setTop (mkF m 280 #[.val (.int p1), .val (.int p2), .val (.int p3), .val (.int x), .val (.int y), .val (.int kk), .val (.long (4294967295 : Int64)), .second, .val (.long z1), .second, .val (.int (1 : Int32)), .val (.int r), .val (.int tp), .val (.long q), .second, .val (.long co), .second, .unset, .unset, .unset, .unset, .unset, .unset, .unset, .unset, .unset, .unset] []))
        exact J280 Tj r tp q co Hj
      · refine Go.via (fun t_ k_ => XS.ifYes Hj.here hx rfl (pc0 := 248) (pc' := 255) rfl (hb hby at_248) rfl ((own_neq hc248).2) (by decide) (by decide) k_) ?_
        show Go _ _ _ _ (Tj.setTop (mkF m 255 #[.val (.int p1), .val (.int p2), .val (.int p3), .val (.int x), .val (.int y), .val (.int kk), .val (.long (4294967295 : Int64)), .second, .val (.long z1), .second, .val (.int (1 : Int32)), .val (.int r), .val (.int tp), .val (.long q), .second, .val (.long co), .second, .unset, .unset, .unset, .unset, .unset, .unset, .unset, .unset, .unset, .unset] []))
        refine Go.via (fun t_ k_ => XS.iconst Hj.here hx rfl (hb hby at_255) k_) ?_
        show Go _ _ _ _ (Tj.setTop (mkF m 256 #[.val (.int p1), .val (.int p2), .val (.int p3), .val (.int x), .val (.int y), .val (.int kk), .val (.long (4294967295 : Int64)), .second, .val (.long z1), .second, .val (.int (1 : Int32)), .val (.int r), .val (.int tp), .val (.long q), .second, .val (.long co), .second, .unset, .unset, .unset, .unset, .unset, .unset, .unset, .unset, .unset, .unset] [(.int (0 : Int32))]))
        refine Go.via (fun t_ k_ => XS.iloadN Hj.here hx rfl (hb hby at_256) rfl k_) ?_
        show Go _ _ _ _ (Tj.setTop (mkF m 257 #[.val (.int p1), .val (.int p2), .val (.int p3), .val (.int x), .val (.int y), .val (.int kk), .val (.long (4294967295 : Int64)), .second, .val (.long z1), .second, .val (.int (1 : Int32)), .val (.int r), .val (.int tp), .val (.long q), .second, .val (.long co), .second, .unset, .unset, .unset, .unset, .unset, .unset, .unset, .unset, .unset, .unset] [(.int x), (.int (0 : Int32))]))
        by_cases hc257 : x = (0 : Int32)
        · refine Go.via (fun t_ k_ => XS.ifNo Hj.here hx rfl (hb hby at_257) rfl ((if0 _ _).trans (teq hc257).2) k_) ?_
          show Go _ _ _ _ (Tj.setTop (mkF m 260 #[.val (.int p1), .val (.int p2), .val (.int p3), .val (.int x), .val (.int y), .val (.int kk), .val (.long (4294967295 : Int64)), .second, .val (.long z1), .second, .val (.int (1 : Int32)), .val (.int r), .val (.int tp), .val (.long q), .second, .val (.long co), .second, .unset, .unset, .unset, .unset, .unset, .unset, .unset, .unset, .unset, .unset] [(.int (0 : Int32))]))
          refine Go.via (fun t_ k_ => XS.iload Hj.here hx rfl (hb hby at_260) rfl k_) ?_
          show Go _ _ _ _ (Tj.setTop (mkF m 262 #[.val (.int p1), .val (.int p2), .val (.int p3), .val (.int x), .val (.int y), .val (.int kk), .val (.long (4294967295 : Int64)), .second, .val (.long z1), .second, .val (.int (1 : Int32)), .val (.int r), .val (.int tp), .val (.long q), .second, .val (.long co), .second, .unset, .unset, .unset, .unset, .unset, .unset, .unset, .unset, .unset, .unset] [(.int y), (.int (0 : Int32))]))
          refine Go.via (fun t_ k_ => XS.ifYes Hj.here hx rfl (pc0 := 262) (pc' := 269) rfl (hb hby at_262) rfl ((if0 _ _).trans (feq (show ¬ (y = (0 : Int32)) from (fun u => hc248 ((own_zero hX hY qz1).mpr ⟨(own_eqi qx (m := 0) (by decide)).mp hc257, (own_eqi qy (m := 0) (by decide)).mp u⟩)))).2) (by decide) (by decide) k_) ?_
          show Go _ _ _ _ (Tj.setTop (mkF m 269 #[.val (.int p1), .val (.int p2), .val (.int p3), .val (.int x), .val (.int y), .val (.int kk), .val (.long (4294967295 : Int64)), .second, .val (.long z1), .second, .val (.int (1 : Int32)), .val (.int r), .val (.int tp), .val (.long q), .second, .val (.long co), .second, .unset, .unset, .unset, .unset, .unset, .unset, .unset, .unset, .unset, .unset] [(.int (0 : Int32))]))
          refine Go.via (fun t_ k_ => XS.iconst Hj.here hx rfl (hb hby at_269) k_) ?_
          show Go _ _ _ _ (Tj.setTop (mkF m 270 #[.val (.int p1), .val (.int p2), .val (.int p3), .val (.int x), .val (.int y), .val (.int kk), .val (.long (4294967295 : Int64)), .second, .val (.long z1), .second, .val (.int (1 : Int32)), .val (.int r), .val (.int tp), .val (.long q), .second, .val (.long co), .second, .unset, .unset, .unset, .unset, .unset, .unset, .unset, .unset, .unset, .unset] [(.int (0 : Int32)), (.int (0 : Int32))]))
          refine Go.via (fun t_ k_ => XS.icmpNo Hj.here hx rfl (hb hby at_270) rfl ((teq (show (0 : Int32) = (0 : Int32) from (by decide))).2) k_) ?_
          show Go _ _ _ _ (Tj.setTop (mkF m 273 #[.val (.int p1), .val (.int p2), .val (.int p3), .val (.int x), .val (.int y), .val (.int kk), .val (.long (4294967295 : Int64)), .second, .val (.long z1), .second, .val (.int (1 : Int32)), .val (.int r), .val (.int tp), .val (.long q), .second, .val (.long co), .second, .unset, .unset, .unset, .unset, .unset, .unset, .unset, .unset, .unset, .unset] []))
          refine Go.via (fun t_ k_ => XS.iconst Hj.here hx rfl (hb hby at_273) k_) ?_
          show Go _ _ _ _ (Tj.setTop (mkF m 274 #[.val (.int p1), .val (.int p2), .val (.int p3), .val (.int x), .val (.int y), .val (.int kk), .val (.long (4294967295 : Int64)), .second, .val (.long z1), .second, .val (.int (1 : Int32)), .val (.int r), .val (.int tp), .val (.long q), .second, .val (.long co), .second, .unset, .unset, .unset, .unset, .unset, .unset, .unset, .unset, .unset, .unset] [(.int (1 : Int32))]))
          refine Go.via (fun t_ k_ => XS.goto Hj.here hx rfl (pc0 := 274) (pc' := 278) rfl (hb hby at_274) (by decide) (by decide) k_) ?_
          show Go _ _ _ _ (Tj.setTop (mkF m 278 #[.val (.int p1), .val (.int p2), .val (.int p3), .val (.int x), .val (.int y), .val (.int kk), .val (.long (4294967295 : Int64)), .second, .val (.long z1), .second, .val (.int (1 : Int32)), .val (.int r), .val (.int tp), .val (.long q), .second, .val (.long co), .second, .unset, .unset, .unset, .unset, .unset, .unset, .unset, .unset, .unset, .unset] [(.int (1 : Int32))]))
          refine Go.via (fun t_ k_ => XS.istore Hj.here hx rfl (hb hby at_278) rfl (l' := #[.val (.int p1), .val (.int p2), .val (.int p3), .val (.int x), .val (.int y), .val (.int kk), .val (.long (4294967295 : Int64)), .second, .val (.long z1), .second, .val (.int (1 : Int32)), .val (.int r), .val (.int tp), .val (.long q), .second, .val (.long co), .second, .unset, .unset, .unset, .unset, .unset, .unset, .unset, .unset, .unset, .unset]) rfl k_) ?_
          show Go _ _ _ _ (Tj.setTop (mkF m 280 #[.val (.int p1), .val (.int p2), .val (.int p3), .val (.int x), .val (.int y), .val (.int kk), .val (.long (4294967295 : Int64)), .second, .val (.long z1), .second, .val (.int (1 : Int32)), .val (.int r), .val (.int tp), .val (.long q), .second, .val (.long co), .second, .unset, .unset, .unset, .unset, .unset, .unset, .unset, .unset, .unset, .unset] []))
          exact J280 Tj r tp q co Hj
        · refine Go.via (fun t_ k_ => XS.ifYes Hj.here hx rfl (pc0 := 257) (pc' := 269) rfl (hb hby at_257) rfl ((if0 _ _).trans (feq hc257).2) (by decide) (by decide) k_) ?_
          show Go _ _ _ _ (Tj.setTop (mkF m 269 #[.val (.int p1), .val (.int p2), .val (.int p3), .val (.int x), .val (.int y), .val (.int kk), .val (.long (4294967295 : Int64)), .second, .val (.long z1), .second, .val (.int (1 : Int32)), .val (.int r), .val (.int tp), .val (.long q), .second, .val (.long co), .second, .unset, .unset, .unset, .unset, .unset, .unset, .unset, .unset, .unset, .unset] [(.int (0 : Int32))]))
          refine Go.via (fun t_ k_ => XS.iconst Hj.here hx rfl (hb hby at_269) k_) ?_
          show Go _ _ _ _ (Tj.setTop (mkF m 270 #[.val (.int p1), .val (.int p2), .val (.int p3), .val (.int x), .val (.int y), .val (.int kk), .val (.long (4294967295 : Int64)), .second, .val (.long z1), .second, .val (.int (1 : Int32)), .val (.int r), .val (.int tp), .val (.long q), .second, .val (.long co), .second, .unset, .unset, .unset, .unset, .unset, .unset, .unset, .unset, .unset, .unset] [(.int (0 : Int32)), (.int (0 : Int32))]))
          refine Go.via (fun t_ k_ => XS.icmpNo Hj.here hx rfl (hb hby at_270) rfl ((teq (show (0 : Int32) = (0 : Int32) from (by decide))).2) k_) ?_
          show Go _ _ _ _ (Tj.setTop (mkF m 273 #[.val (.int p1), .val (.int p2), .val (.int p3), .val (.int x), .val (.int y), .val (.int kk), .val (.long (4294967295 : Int64)), .second, .val (.long z1), .second, .val (.int (1 : Int32)), .val (.int r), .val (.int tp), .val (.long q), .second, .val (.long co), .second, .unset, .unset, .unset, .unset, .unset, .unset, .unset, .unset, .unset, .unset] []))
          refine Go.via (fun t_ k_ => XS.iconst Hj.here hx rfl (hb hby at_273) k_) ?_
          show Go _ _ _ _ (Tj.setTop (mkF m 274 #[.val (.int p1), .val (.int p2), .val (.int p3), .val (.int x), .val (.int y), .val (.int kk), .val (.long (4294967295 : Int64)), .second, .val (.long z1), .second, .val (.int (1 : Int32)), .val (.int r), .val (.int tp), .val (.long q), .second, .val (.long co), .second, .unset, .unset, .unset, .unset, .unset, .unset, .unset, .unset, .unset, .unset] [(.int (1 : Int32))]))
          refine Go.via (fun t_ k_ => XS.goto Hj.here hx rfl (pc0 := 274) (pc' := 278) rfl (hb hby at_274) (by decide) (by decide) k_) ?_
          show Go _ _ _ _ (Tj.setTop (mkF m 278 #[.val (.int p1), .val (.int p2), .val (.int p3), .val (.int x), .val (.int y), .val (.int kk), .val (.long (4294967295 : Int64)), .second, .val (.long z1), .second, .val (.int (1 : Int32)), .val (.int r), .val (.int tp), .val (.long q), .second, .val (.long co), .second, .unset, .unset, .unset, .unset, .unset, .unset, .unset, .unset, .unset, .unset] [(.int (1 : Int32))]))
          refine Go.via (fun t_ k_ => XS.istore Hj.here hx rfl (hb hby at_278) rfl (l' := #[.val (.int p1), .val (.int p2), .val (.int p3), .val (.int x), .val (.int y), .val (.int kk), .val (.long (4294967295 : Int64)), .second, .val (.long z1), .second, .val (.int (1 : Int32)), .val (.int r), .val (.int tp), .val (.long q), .second, .val (.long co), .second, .unset, .unset, .unset, .unset, .unset, .unset, .unset, .unset, .unset, .unset]) rfl k_) ?_
          show Go _ _ _ _ (Tj.setTop (mkF m 280 #[.val (.int p1), .val (.int p2), .val (.int p3), .val (.int x), .val (.int y), .val (.int kk), .val (.long (4294967295 : Int64)), .second, .val (.long z1), .second, .val (.int (1 : Int32)), .val (.int r), .val (.int tp), .val (.long q), .second, .val (.long co), .second, .unset, .unset, .unset, .unset, .unset, .unset, .unset, .unset, .unset, .unset] []))
          exact J280 Tj r tp q co Hj
    have J153 : ∀ (Tj : State) (r tp : Int32) (q : Int64), Here p l e room_1 s m #[(.int p1), (.int p2), (.int p3)] below meth c n0 Tj h0 0 0 → (((z1.toUInt64 >>> ((30 : Int32) &&& 0x3f).toInt64.toUInt64).toInt64) = q) → Go p e below (Fini below s n0 (fun v h => v = some (.int (1 : Int32))) room_1.cells room_1.slots) (Tj.setTop (mkF m 153 #[.val (.int p1), .val (.int p2), .val (.int p3), .val (.int x), .val (.int y), .val (.int kk), .val (.long (4294967295 : Int64)), .second, .val (.long z1), .second, .val (.int (1 : Int32)), .val (.int r), .val (.int tp), .val (.long q), .second, .unset, .unset, .unset, .unset, .unset, .unset, .unset, .unset, .unset, .unset, .unset, .unset] [])) := by
      intro Tj r tp q Hj hq
      show Go _ _ _ _ (Tj.setTop (mkF m 153 #[.val (.int p1), .val (.int p2), .val (.int p3), .val (.int x), .val (.int y), .val (.int kk), .val (.long (4294967295 : Int64)), .second, .val (.long z1), .second, .val (.int (1 : Int32)), .val (.int r), .val (.int tp), .val (.long q), .second, .unset, .unset, .unset, .unset, .unset, .unset, .unset, .unset, .unset, .unset, .unset, .unset] []))
      refine Go.via (fun t_ k_ => XS.iload Hj.here hx rfl (hb hby at_153) rfl k_) ?_
      show Go _ _ _ _ (Tj.setTop (mkF m 155 #[.val (.int p1), .val (.int p2), .val (.int p3), .val (.int x), .val (.int y), .val (.int kk), .val (.long (4294967295 : Int64)), .second, .val (.long z1), .second, .val (.int (1 : Int32)), .val (.int r), .val (.int tp), .val (.long q), .second, .unset, .unset, .unset, .unset, .unset, .unset, .unset, .unset, .unset, .unset, .unset, .unset] [(.int (1 : Int32))]))
      refine Go.via (fun t_ k_ => XS.ifNo Hj.here hx rfl (hb hby at_155) rfl ((if0 _ _).trans (feq (show ¬ ((1 : Int32) = (0 : Int32)) from (by decide))).1) k_) ?_
      show Go _ _ _ _ (Tj.setTop (mkF m 158 #[.val (.int p1), .val (.int p2), .val (.int p3), .val (.int x), .val (.int y), .val (.int kk), .val (.long (4294967295 : Int64)), .second, .val (.long z1), .second, .val (.int (1 : Int32)), .val (.int r), .val (.int tp), .val (.long q), .second, .unset, .unset, .unset, .unset, .unset, .unset, .unset, .unset, .unset, .unset, .unset, .unset] []))
      refine Go.via (fun t_ k_ => XS.lload Hj.here hx rfl (hb hby at_158) rfl k_) ?_
      show Go _ _ _ _ (Tj.setTop (mkF m 160 #[.val (.int p1), .val (.int p2), .val (.int p3), .val (.int x), .val (.int y), .val (.int kk), .val (.long (4294967295 : Int64)), .second, .val (.long z1), .second, .val (.int (1 : Int32)), .val (.int r), .val (.int tp), .val (.long q), .second, .unset, .unset, .unset, .unset, .unset, .unset, .unset, .unset, .unset, .unset, .unset, .unset] [(.long z1)]))
      refine Go.via (fun t_ k_ => XS.bipush Hj.here hx rfl (hb hby at_160) k_) ?_
      show Go _ _ _ _ (Tj.setTop (mkF m 162 #[.val (.int p1), .val (.int p2), .val (.int p3), .val (.int x), .val (.int y), .val (.int kk), .val (.long (4294967295 : Int64)), .second, .val (.long z1), .second, .val (.int (1 : Int32)), .val (.int r), .val (.int tp), .val (.long q), .second, .unset, .unset, .unset, .unset, .unset, .unset, .unset, .unset, .unset, .unset, .unset, .unset] [(.int (30 : Int32)), (.long z1)]))
      refine Go.via (fun t_ k_ => XS.lushr Hj.here hx rfl (hb hby at_162) rfl k_) ?_
      show Go _ _ _ _ (Tj.setTop (mkF m 163 #[.val (.int p1), .val (.int p2), .val (.int p3), .val (.int x), .val (.int y), .val (.int kk), .val (.long (4294967295 : Int64)), .second, .val (.long z1), .second, .val (.int (1 : Int32)), .val (.int r), .val (.int tp), .val (.long q), .second, .unset, .unset, .unset, .unset, .unset, .unset, .unset, .unset, .unset, .unset, .unset, .unset] [(.long ((z1.toUInt64 >>> ((30 : Int32) &&& 0x3f).toInt64.toUInt64).toInt64))]))
      refine Go.via (fun t_ k_ => XS.lload Hj.here hx rfl (hb hby at_163) rfl k_) ?_
      show Go _ _ _ _ (Tj.setTop (mkF m 165 #[.val (.int p1), .val (.int p2), .val (.int p3), .val (.int x), .val (.int y), .val (.int kk), .val (.long (4294967295 : Int64)), .second, .val (.long z1), .second, .val (.int (1 : Int32)), .val (.int r), .val (.int tp), .val (.long q), .second, .unset, .unset, .unset, .unset, .unset, .unset, .unset, .unset, .unset, .unset, .unset, .unset] [(.long q), (.long ((z1.toUInt64 >>> ((30 : Int32) &&& 0x3f).toInt64.toUInt64).toInt64))]))
      refine Go.via (fun t_ k_ => XS.lcmp Hj.here hx rfl (hb hby at_165) rfl k_) ?_
      show Go _ _ _ _ (Tj.setTop (mkF m 166 #[.val (.int p1), .val (.int p2), .val (.int p3), .val (.int x), .val (.int y), .val (.int kk), .val (.long (4294967295 : Int64)), .second, .val (.long z1), .second, .val (.int (1 : Int32)), .val (.int r), .val (.int tp), .val (.long q), .second, .unset, .unset, .unset, .unset, .unset, .unset, .unset, .unset, .unset, .unset, .unset, .unset] [(.int (lcmpW ((z1.toUInt64 >>> ((30 : Int32) &&& 0x3f).toInt64.toUInt64).toInt64) q))]))
      refine Go.via (fun t_ k_ => XS.ifNo Hj.here hx rfl (hb hby at_166) rfl ((own_leq (show ((z1.toUInt64 >>> ((30 : Int32) &&& 0x3f).toInt64.toUInt64).toInt64) = q from hq)).2) k_) ?_
      show Go _ _ _ _ (Tj.setTop (mkF m 169 #[.val (.int p1), .val (.int p2), .val (.int p3), .val (.int x), .val (.int y), .val (.int kk), .val (.long (4294967295 : Int64)), .second, .val (.long z1), .second, .val (.int (1 : Int32)), .val (.int r), .val (.int tp), .val (.long q), .second, .unset, .unset, .unset, .unset, .unset, .unset, .unset, .unset, .unset, .unset, .unset, .unset] []))
      refine Go.via (fun t_ k_ => XS.iconst Hj.here hx rfl (hb hby at_169) k_) ?_
      show Go _ _ _ _ (Tj.setTop (mkF m 170 #[.val (.int p1), .val (.int p2), .val (.int p3), .val (.int x), .val (.int y), .val (.int kk), .val (.long (4294967295 : Int64)), .second, .val (.long z1), .second, .val (.int (1 : Int32)), .val (.int r), .val (.int tp), .val (.long q), .second, .unset, .unset, .unset, .unset, .unset, .unset, .unset, .unset, .unset, .unset, .unset, .unset] [(.int (1 : Int32))]))
      refine Go.via (fun t_ k_ => XS.goto Hj.here hx rfl (pc0 := 170) (pc' := 174) rfl (hb hby at_170) (by decide) (by decide) k_) ?_
      show Go _ _ _ _ (Tj.setTop (mkF m 174 #[.val (.int p1), .val (.int p2), .val (.int p3), .val (.int x), .val (.int y), .val (.int kk), .val (.long (4294967295 : Int64)), .second, .val (.long z1), .second, .val (.int (1 : Int32)), .val (.int r), .val (.int tp), .val (.long q), .second, .unset, .unset, .unset, .unset, .unset, .unset, .unset, .unset, .unset, .unset, .unset, .unset] [(.int (1 : Int32))]))
      refine Go.via (fun t_ k_ => XS.istore Hj.here hx rfl (hb hby at_174) rfl (l' := #[.val (.int p1), .val (.int p2), .val (.int p3), .val (.int x), .val (.int y), .val (.int kk), .val (.long (4294967295 : Int64)), .second, .val (.long z1), .second, .val (.int (1 : Int32)), .val (.int r), .val (.int tp), .val (.long q), .second, .unset, .unset, .unset, .unset, .unset, .unset, .unset, .unset, .unset, .unset, .unset, .unset]) rfl k_) ?_
      show Go _ _ _ _ (Tj.setTop (mkF m 176 #[.val (.int p1), .val (.int p2), .val (.int p3), .val (.int x), .val (.int y), .val (.int kk), .val (.long (4294967295 : Int64)), .second, .val (.long z1), .second, .val (.int (1 : Int32)), .val (.int r), .val (.int tp), .val (.long q), .second, .unset, .unset, .unset, .unset, .unset, .unset, .unset, .unset, .unset, .unset, .unset, .unset] []))
      refine Go.via (fun t_ k_ => XS.iload Hj.here hx rfl (hb hby at_176) rfl k_) ?_
      show Go _ _ _ _ (Tj.setTop (mkF m 178 #[.val (.int p1), .val (.int p2), .val (.int p3), .val (.int x), .val (.int y), .val (.int kk), .val (.long (4294967295 : Int64)), .second, .val (.long z1), .second, .val (.int (1 : Int32)), .val (.int r), .val (.int tp), .val (.long q), .second, .unset, .unset, .unset, .unset, .unset, .unset, .unset, .unset, .unset, .unset, .unset, .unset] [(.int kk)]))
      refine Go.via (fun t_ k_ => XS.iconst Hj.here hx rfl (hb hby at_178) k_) ?_
      show Go _ _ _ _ (Tj.setTop (mkF m 179 #[.val (.int p1), .val (.int p2), .val (.int p3), .val (.int x), .val (.int y), .val (.int kk), .val (.long (4294967295 : Int64)), .second, .val (.long z1), .second, .val (.int (1 : Int32)), .val (.int r), .val (.int tp), .val (.long q), .second, .unset, .unset, .unset, .unset, .unset, .unset, .unset, .unset, .unset, .unset, .unset, .unset] [(.int (1 : Int32)), (.int kk)]))
      refine Go.via (fun t_ k_ => XS.iand Hj.here hx rfl (hb hby at_179) rfl k_) ?_
      show Go _ _ _ _ (Tj.setTop (mkF m 180 #[.val (.int p1), .val (.int p2), .val (.int p3), .val (.int x), .val (.int y), .val (.int kk), .val (.long (4294967295 : Int64)), .second, .val (.long z1), .second, .val (.int (1 : Int32)), .val (.int r), .val (.int tp), .val (.long q), .second, .unset, .unset, .unset, .unset, .unset, .unset, .unset, .unset, .unset, .unset, .unset, .unset] [(.int (kk &&& (1 : Int32)))]))
      by_cases hc180 : (kk &&& (1 : Int32)) = (0 : Int32)
      · refine Go.via (fun t_ k_ => XS.ifNo Hj.here hx rfl (hb hby at_180) rfl ((if0 _ _).trans (teq hc180).2) k_) ?_
        show Go _ _ _ _ (Tj.setTop (mkF m 183 #[.val (.int p1), .val (.int p2), .val (.int p3), .val (.int x), .val (.int y), .val (.int kk), .val (.long (4294967295 : Int64)), .second, .val (.long z1), .second, .val (.int (1 : Int32)), .val (.int r), .val (.int tp), .val (.long q), .second, .unset, .unset, .unset, .unset, .unset, .unset, .unset, .unset, .unset, .unset, .unset, .unset] []))
        refine Go.via (fun t_ k_ => XS.iloadN Hj.here hx rfl (hb hby at_183) rfl k_) ?_
        show Go _ _ _ _ (Tj.setTop (mkF m 184 #[.val (.int p1), .val (.int p2), .val (.int p3), .val (.int x), .val (.int y), .val (.int kk), .val (.long (4294967295 : Int64)), .second, .val (.long z1), .second, .val (.int (1 : Int32)), .val (.int r), .val (.int tp), .val (.long q), .second, .unset, .unset, .unset, .unset, .unset, .unset, .unset, .unset, .unset, .unset, .unset, .unset] [(.int x)]))
        refine Go.via (fun t_ k_ => XS.iload Hj.here hx rfl (hb hby at_184) rfl k_) ?_
        show Go _ _ _ _ (Tj.setTop (mkF m 186 #[.val (.int p1), .val (.int p2), .val (.int p3), .val (.int x), .val (.int y), .val (.int kk), .val (.long (4294967295 : Int64)), .second, .val (.long z1), .second, .val (.int (1 : Int32)), .val (.int r), .val (.int tp), .val (.long q), .second, .unset, .unset, .unset, .unset, .unset, .unset, .unset, .unset, .unset, .unset, .unset, .unset] [(.int kk), (.int x)]))
        refine Go.via (fun t_ k_ => XS.ishr Hj.here hx rfl (hb hby at_186) rfl k_) ?_
        show Go _ _ _ _ (Tj.setTop (mkF m 187 #[.val (.int p1), .val (.int p2), .val (.int p3), .val (.int x), .val (.int y), .val (.int kk), .val (.long (4294967295 : Int64)), .second, .val (.long z1), .second, .val (.int (1 : Int32)), .val (.int r), .val (.int tp), .val (.long q), .second, .unset, .unset, .unset, .unset, .unset, .unset, .unset, .unset, .unset, .unset, .unset, .unset] [(.int (x >>> (kk &&& 31)))]))
        refine Go.via (fun t_ k_ => XS.iload Hj.here hx rfl (hb hby at_187) rfl k_) ?_
        show Go _ _ _ _ (Tj.setTop (mkF m 189 #[.val (.int p1), .val (.int p2), .val (.int p3), .val (.int x), .val (.int y), .val (.int kk), .val (.long (4294967295 : Int64)), .second, .val (.long z1), .second, .val (.int (1 : Int32)), .val (.int r), .val (.int tp), .val (.long q), .second, .unset, .unset, .unset, .unset, .unset, .unset, .unset, .unset, .unset, .unset, .unset, .unset] [(.int y), (.int (x >>> (kk &&& 31)))]))
        refine Go.via (fun t_ k_ => XS.iload Hj.here hx rfl (hb hby at_189) rfl k_) ?_
        show Go _ _ _ _ (Tj.setTop (mkF m 191 #[.val (.int p1), .val (.int p2), .val (.int p3), .val (.int x), .val (.int y), .val (.int kk), .val (.long (4294967295 : Int64)), .second, .val (.long z1), .second, .val (.int (1 : Int32)), .val (.int r), .val (.int tp), .val (.long q), .second, .unset, .unset, .unset, .unset, .unset, .unset, .unset, .unset, .unset, .unset, .unset, .unset] [(.int kk), (.int y), (.int (x >>> (kk &&& 31)))]))
        refine Go.via (fun t_ k_ => XS.ishr Hj.here hx rfl (hb hby at_191) rfl k_) ?_
        show Go _ _ _ _ (Tj.setTop (mkF m 192 #[.val (.int p1), .val (.int p2), .val (.int p3), .val (.int x), .val (.int y), .val (.int kk), .val (.long (4294967295 : Int64)), .second, .val (.long z1), .second, .val (.int (1 : Int32)), .val (.int r), .val (.int tp), .val (.long q), .second, .unset, .unset, .unset, .unset, .unset, .unset, .unset, .unset, .unset, .unset, .unset, .unset] [(.int (y >>> (kk &&& 31))), (.int (x >>> (kk &&& 31)))]))
        refine own_callS Hj hx hZ (y := (⟨"com/example/neardb/neardb/index/Grid", "hilbertPlace", "(II)J"⟩ : MethodName)) hown (hw _ (List.mem_of_getElem? (i := 2) rfl)) (hw _ (List.mem_of_getElem? (i := 3) rfl)) (hw _ (List.mem_of_getElem? (i := 4) rfl)) (hw _ (List.mem_of_getElem? (i := 5) rfl)) (by decide) (rmH l Z a0 hw (x >>> (kk &&& 31)) (y >>> (kk &&& 31)) (X / 2 ^ K) (Y / 2 ^ K) h0 n0 (own_shr qx qk hK) (own_shr qy qk hK) (Nat.lt_of_le_of_lt (Nat.div_le_self _ _) hX) (Nat.lt_of_le_of_lt (Nat.div_le_self _ _) hY)) (g := (mkF m 192 #[.val (.int p1), .val (.int p2), .val (.int p3), .val (.int x), .val (.int y), .val (.int kk), .val (.long (4294967295 : Int64)), .second, .val (.long z1), .second, .val (.int (1 : Int32)), .val (.int r), .val (.int tp), .val (.long q), .second, .unset, .unset, .unset, .unset, .unset, .unset, .unset, .unset, .unset, .unset, .unset, .unset] [(.int (y >>> (kk &&& 31))), (.int (x >>> (kk &&& 31)))])) rfl (by rw [hml]; rfl) (argsL := [(.int (x >>> (kk &&& 31))), (.int (y >>> (kk &&& 31)))]) (rest := []) (lenOf pd_0 rfl) rfl 0 (Nat.le_of_eq rfl) (hb hby at_192) (by decide) (by decide) (by decide) (by decide) ?_
        rintro _ T6 _ ⟨z6, rfl, qz6, rfl⟩ H6
        show Go _ _ _ _ (T6.setTop (mkF m 195 #[.val (.int p1), .val (.int p2), .val (.int p3), .val (.int x), .val (.int y), .val (.int kk), .val (.long (4294967295 : Int64)), .second, .val (.long z1), .second, .val (.int (1 : Int32)), .val (.int r), .val (.int tp), .val (.long q), .second, .unset, .unset, .unset, .unset, .unset, .unset, .unset, .unset, .unset, .unset, .unset, .unset] [(.long z6)]))
        refine Go.via (fun t_ k_ => XS.lstore H6.here hx rfl (hb hby at_195) rfl (l' := #[.val (.int p1), .val (.int p2), .val (.int p3), .val (.int x), .val (.int y), .val (.int kk), .val (.long (4294967295 : Int64)), .second, .val (.long z1), .second, .val (.int (1 : Int32)), .val (.int r), .val (.int tp), .val (.long q), .second, .val (.long z6), .second, .unset, .unset, .unset, .unset, .unset, .unset, .unset, .unset, .unset, .unset]) rfl k_) ?_
        show Go _ _ _ _ (T6.setTop (mkF m 197 #[.val (.int p1), .val (.int p2), .val (.int p3), .val (.int x), .val (.int y), .val (.int kk), .val (.long (4294967295 : Int64)), .second, .val (.long z1), .second, .val (.int (1 : Int32)), .val (.int r), .val (.int tp), .val (.long q), .second, .val (.long z6), .second, .unset, .unset, .unset, .unset, .unset, .unset, .unset, .unset, .unset, .unset] []))
        refine Go.via (fun t_ k_ => XS.goto H6.here hx rfl (pc0 := 197) (pc' := 214) rfl (hb hby at_197) (by decide) (by decide) k_) ?_
        show Go _ _ _ _ (T6.setTop (mkF m 214 #[.val (.int p1), .val (.int p2), .val (.int p3), .val (.int x), .val (.int y), .val (.int kk), .val (.long (4294967295 : Int64)), .second, .val (.long z1), .second, .val (.int (1 : Int32)), .val (.int r), .val (.int tp), .val (.long q), .second, .val (.long z6), .second, .unset, .unset, .unset, .unset, .unset, .unset, .unset, .unset, .unset, .unset] []))
        exact J214 T6 r tp q z6 H6 (own_coz hK qk qz1 qz6 (by rw [own_coarse hX hY hK, if_pos ((own_even qk).mp hc180)]))
      · refine Go.via (fun t_ k_ => XS.ifYes Hj.here hx rfl (pc0 := 180) (pc' := 200) rfl (hb hby at_180) rfl ((if0 _ _).trans (feq hc180).2) (by decide) (by decide) k_) ?_
        show Go _ _ _ _ (Tj.setTop (mkF m 200 #[.val (.int p1), .val (.int p2), .val (.int p3), .val (.int x), .val (.int y), .val (.int kk), .val (.long (4294967295 : Int64)), .second, .val (.long z1), .second, .val (.int (1 : Int32)), .val (.int r), .val (.int tp), .val (.long q), .second, .unset, .unset, .unset, .unset, .unset, .unset, .unset, .unset, .unset, .unset, .unset, .unset] []))
        refine Go.via (fun t_ k_ => XS.iload Hj.here hx rfl (hb hby at_200) rfl k_) ?_
        show Go _ _ _ _ (Tj.setTop (mkF m 202 #[.val (.int p1), .val (.int p2), .val (.int p3), .val (.int x), .val (.int y), .val (.int kk), .val (.long (4294967295 : Int64)), .second, .val (.long z1), .second, .val (.int (1 : Int32)), .val (.int r), .val (.int tp), .val (.long q), .second, .unset, .unset, .unset, .unset, .unset, .unset, .unset, .unset, .unset, .unset, .unset, .unset] [(.int y)]))
        refine Go.via (fun t_ k_ => XS.iload Hj.here hx rfl (hb hby at_202) rfl k_) ?_
        show Go _ _ _ _ (Tj.setTop (mkF m 204 #[.val (.int p1), .val (.int p2), .val (.int p3), .val (.int x), .val (.int y), .val (.int kk), .val (.long (4294967295 : Int64)), .second, .val (.long z1), .second, .val (.int (1 : Int32)), .val (.int r), .val (.int tp), .val (.long q), .second, .unset, .unset, .unset, .unset, .unset, .unset, .unset, .unset, .unset, .unset, .unset, .unset] [(.int kk), (.int y)]))
        refine Go.via (fun t_ k_ => XS.ishr Hj.here hx rfl (hb hby at_204) rfl k_) ?_
        show Go _ _ _ _ (Tj.setTop (mkF m 205 #[.val (.int p1), .val (.int p2), .val (.int p3), .val (.int x), .val (.int y), .val (.int kk), .val (.long (4294967295 : Int64)), .second, .val (.long z1), .second, .val (.int (1 : Int32)), .val (.int r), .val (.int tp), .val (.long q), .second, .unset, .unset, .unset, .unset, .unset, .unset, .unset, .unset, .unset, .unset, .unset, .unset] [(.int (y >>> (kk &&& 31)))]))
        refine Go.via (fun t_ k_ => XS.iloadN Hj.here hx rfl (hb hby at_205) rfl k_) ?_
        show Go _ _ _ _ (Tj.setTop (mkF m 206 #[.val (.int p1), .val (.int p2), .val (.int p3), .val (.int x), .val (.int y), .val (.int kk), .val (.long (4294967295 : Int64)), .second, .val (.long z1), .second, .val (.int (1 : Int32)), .val (.int r), .val (.int tp), .val (.long q), .second, .unset, .unset, .unset, .unset, .unset, .unset, .unset, .unset, .unset, .unset, .unset, .unset] [(.int x), (.int (y >>> (kk &&& 31)))]))
        refine Go.via (fun t_ k_ => XS.iload Hj.here hx rfl (hb hby at_206) rfl k_) ?_
        show Go _ _ _ _ (Tj.setTop (mkF m 208 #[.val (.int p1), .val (.int p2), .val (.int p3), .val (.int x), .val (.int y), .val (.int kk), .val (.long (4294967295 : Int64)), .second, .val (.long z1), .second, .val (.int (1 : Int32)), .val (.int r), .val (.int tp), .val (.long q), .second, .unset, .unset, .unset, .unset, .unset, .unset, .unset, .unset, .unset, .unset, .unset, .unset] [(.int kk), (.int x), (.int (y >>> (kk &&& 31)))]))
        refine Go.via (fun t_ k_ => XS.ishr Hj.here hx rfl (hb hby at_208) rfl k_) ?_
        show Go _ _ _ _ (Tj.setTop (mkF m 209 #[.val (.int p1), .val (.int p2), .val (.int p3), .val (.int x), .val (.int y), .val (.int kk), .val (.long (4294967295 : Int64)), .second, .val (.long z1), .second, .val (.int (1 : Int32)), .val (.int r), .val (.int tp), .val (.long q), .second, .unset, .unset, .unset, .unset, .unset, .unset, .unset, .unset, .unset, .unset, .unset, .unset] [(.int (x >>> (kk &&& 31))), (.int (y >>> (kk &&& 31)))]))
        refine own_callS Hj hx hZ (y := (⟨"com/example/neardb/neardb/index/Grid", "hilbertPlace", "(II)J"⟩ : MethodName)) hown (hw _ (List.mem_of_getElem? (i := 2) rfl)) (hw _ (List.mem_of_getElem? (i := 3) rfl)) (hw _ (List.mem_of_getElem? (i := 4) rfl)) (hw _ (List.mem_of_getElem? (i := 5) rfl)) (by decide) (rmH l Z a0 hw (y >>> (kk &&& 31)) (x >>> (kk &&& 31)) (Y / 2 ^ K) (X / 2 ^ K) h0 n0 (own_shr qy qk hK) (own_shr qx qk hK) (Nat.lt_of_le_of_lt (Nat.div_le_self _ _) hY) (Nat.lt_of_le_of_lt (Nat.div_le_self _ _) hX)) (g := (mkF m 209 #[.val (.int p1), .val (.int p2), .val (.int p3), .val (.int x), .val (.int y), .val (.int kk), .val (.long (4294967295 : Int64)), .second, .val (.long z1), .second, .val (.int (1 : Int32)), .val (.int r), .val (.int tp), .val (.long q), .second, .unset, .unset, .unset, .unset, .unset, .unset, .unset, .unset, .unset, .unset, .unset, .unset] [(.int (x >>> (kk &&& 31))), (.int (y >>> (kk &&& 31)))])) rfl (by rw [hml]; rfl) (argsL := [(.int (y >>> (kk &&& 31))), (.int (x >>> (kk &&& 31)))]) (rest := []) (lenOf pd_0 rfl) rfl 0 (Nat.le_of_eq rfl) (hb hby at_209) (by decide) (by decide) (by decide) (by decide) ?_
        rintro _ T7 _ ⟨z7, rfl, qz7, rfl⟩ H7
        show Go _ _ _ _ (T7.setTop (mkF m 212 #[.val (.int p1), .val (.int p2), .val (.int p3), .val (.int x), .val (.int y), .val (.int kk), .val (.long (4294967295 : Int64)), .second, .val (.long z1), .second, .val (.int (1 : Int32)), .val (.int r), .val (.int tp), .val (.long q), .second, .unset, .unset, .unset, .unset, .unset, .unset, .unset, .unset, .unset, .unset, .unset, .unset] [(.long z7)]))
        refine Go.via (fun t_ k_ => XS.lstore H7.here hx rfl (hb hby at_212) rfl (l' := #[.val (.int p1), .val (.int p2), .val (.int p3), .val (.int x), .val (.int y), .val (.int kk), .val (.long (4294967295 : Int64)), .second, .val (.long z1), .second, .val (.int (1 : Int32)), .val (.int r), .val (.int tp), .val (.long q), .second, .val (.long z7), .second, .unset, .unset, .unset, .unset, .unset, .unset, .unset, .unset, .unset, .unset]) rfl k_) ?_
        show Go _ _ _ _ (T7.setTop (mkF m 214 #[.val (.int p1), .val (.int p2), .val (.int p3), .val (.int x), .val (.int y), .val (.int kk), .val (.long (4294967295 : Int64)), .second, .val (.long z1), .second, .val (.int (1 : Int32)), .val (.int r), .val (.int tp), .val (.long q), .second, .val (.long z7), .second, .unset, .unset, .unset, .unset, .unset, .unset, .unset, .unset, .unset, .unset] []))
        exact J214 T7 r tp q z7 H7 (own_coz hK qk qz1 qz7 (by rw [own_coarse hX hY hK, if_neg (fun u => hc180 ((own_even qk).mpr u))]))
    refine Go.via (fun t_ k_ => XS.lload H1.here hx rfl (hb hby at_30) rfl k_) ?_
    show Go _ _ _ _ (T1.setTop (mkF m 32 #[.val (.int p1), .val (.int p2), .val (.int p3), .val (.int x), .val (.int y), .val (.int kk), .val (.long (4294967295 : Int64)), .second, .val (.long z1), .second, .unset, .unset, .unset, .unset, .unset, .unset, .unset, .unset, .unset, .unset, .unset, .unset, .unset, .unset, .unset, .unset, .unset] [(.long z1)]))
    refine Go.via (fun t_ k_ => XS.lconst H1.here hx rfl (hb hby at_32) k_) ?_
    show Go _ _ _ _ (T1.setTop (mkF m 33 #[.val (.int p1), .val (.int p2), .val (.int p3), .val (.int x), .val (.int y), .val (.int kk), .val (.long (4294967295 : Int64)), .second, .val (.long z1), .second, .unset, .unset, .unset, .unset, .unset, .unset, .unset, .unset, .unset, .unset, .unset, .unset, .unset, .unset, .unset, .unset, .unset] [(.long (0 : Int64)), (.long z1)]))
    refine Go.via (fun t_ k_ => XS.lcmp H1.here hx rfl (hb hby at_33) rfl k_) ?_
    show Go _ _ _ _ (T1.setTop (mkF m 34 #[.val (.int p1), .val (.int p2), .val (.int p3), .val (.int x), .val (.int y), .val (.int kk), .val (.long (4294967295 : Int64)), .second, .val (.long z1), .second, .unset, .unset, .unset, .unset, .unset, .unset, .unset, .unset, .unset, .unset, .unset, .unset, .unset, .unset, .unset, .unset, .unset] [(.int (lcmpW z1 (0 : Int64)))]))
    refine Go.via (fun t_ k_ => XS.ifNo H1.here hx rfl (hb hby at_34) rfl ((own_nlt (show ¬ (z1 < (0 : Int64)) from rg1)).1) k_) ?_
    show Go _ _ _ _ (T1.setTop (mkF m 37 #[.val (.int p1), .val (.int p2), .val (.int p3), .val (.int x), .val (.int y), .val (.int kk), .val (.long (4294967295 : Int64)), .second, .val (.long z1), .second, .unset, .unset, .unset, .unset, .unset, .unset, .unset, .unset, .unset, .unset, .unset, .unset, .unset, .unset, .unset, .unset, .unset] []))
    refine Go.via (fun t_ k_ => XS.lload H1.here hx rfl (hb hby at_37) rfl k_) ?_
    show Go _ _ _ _ (T1.setTop (mkF m 39 #[.val (.int p1), .val (.int p2), .val (.int p3), .val (.int x), .val (.int y), .val (.int kk), .val (.long (4294967295 : Int64)), .second, .val (.long z1), .second, .unset, .unset, .unset, .unset, .unset, .unset, .unset, .unset, .unset, .unset, .unset, .unset, .unset, .unset, .unset, .unset, .unset] [(.long z1)]))
    refine Go.via (fun t_ k_ => XS.lload H1.here hx rfl (hb hby at_39) rfl k_) ?_
    show Go _ _ _ _ (T1.setTop (mkF m 41 #[.val (.int p1), .val (.int p2), .val (.int p3), .val (.int x), .val (.int y), .val (.int kk), .val (.long (4294967295 : Int64)), .second, .val (.long z1), .second, .unset, .unset, .unset, .unset, .unset, .unset, .unset, .unset, .unset, .unset, .unset, .unset, .unset, .unset, .unset, .unset, .unset] [(.long (4294967295 : Int64)), (.long z1)]))
    refine Go.via (fun t_ k_ => XS.lcmp H1.here hx rfl (hb hby at_41) rfl k_) ?_
    show Go _ _ _ _ (T1.setTop (mkF m 42 #[.val (.int p1), .val (.int p2), .val (.int p3), .val (.int x), .val (.int y), .val (.int kk), .val (.long (4294967295 : Int64)), .second, .val (.long z1), .second, .unset, .unset, .unset, .unset, .unset, .unset, .unset, .unset, .unset, .unset, .unset, .unset, .unset, .unset, .unset, .unset, .unset] [(.int (lcmpW z1 (4294967295 : Int64)))]))
    refine Go.via (fun t_ k_ => XS.ifNo H1.here hx rfl (hb hby at_42) rfl ((own_ngt (show ¬ ((4294967295 : Int64) < z1) from rg2)).1) k_) ?_
    show Go _ _ _ _ (T1.setTop (mkF m 45 #[.val (.int p1), .val (.int p2), .val (.int p3), .val (.int x), .val (.int y), .val (.int kk), .val (.long (4294967295 : Int64)), .second, .val (.long z1), .second, .unset, .unset, .unset, .unset, .unset, .unset, .unset, .unset, .unset, .unset, .unset, .unset, .unset, .unset, .unset, .unset, .unset] []))
    refine Go.via (fun t_ k_ => XS.iconst H1.here hx rfl (hb hby at_45) k_) ?_
    show Go _ _ _ _ (T1.setTop (mkF m 46 #[.val (.int p1), .val (.int p2), .val (.int p3), .val (.int x), .val (.int y), .val (.int kk), .val (.long (4294967295 : Int64)), .second, .val (.long z1), .second, .unset, .unset, .unset, .unset, .unset, .unset, .unset, .unset, .unset, .unset, .unset, .unset, .unset, .unset, .unset, .unset, .unset] [(.int (1 : Int32))]))
    refine Go.via (fun t_ k_ => XS.goto H1.here hx rfl (pc0 := 46) (pc' := 50) rfl (hb hby at_46) (by decide) (by decide) k_) ?_
    show Go _ _ _ _ (T1.setTop (mkF m 50 #[.val (.int p1), .val (.int p2), .val (.int p3), .val (.int x), .val (.int y), .val (.int kk), .val (.long (4294967295 : Int64)), .second, .val (.long z1), .second, .unset, .unset, .unset, .unset, .unset, .unset, .unset, .unset, .unset, .unset, .unset, .unset, .unset, .unset, .unset, .unset, .unset] [(.int (1 : Int32))]))
    refine Go.via (fun t_ k_ => XS.istore H1.here hx rfl (hb hby at_50) rfl (l' := #[.val (.int p1), .val (.int p2), .val (.int p3), .val (.int x), .val (.int y), .val (.int kk), .val (.long (4294967295 : Int64)), .second, .val (.long z1), .second, .val (.int (1 : Int32)), .unset, .unset, .unset, .unset, .unset, .unset, .unset, .unset, .unset, .unset, .unset, .unset, .unset, .unset, .unset, .unset]) rfl k_) ?_
    show Go _ _ _ _ (T1.setTop (mkF m 52 #[.val (.int p1), .val (.int p2), .val (.int p3), .val (.int x), .val (.int y), .val (.int kk), .val (.long (4294967295 : Int64)), .second, .val (.long z1), .second, .val (.int (1 : Int32)), .unset, .unset, .unset, .unset, .unset, .unset, .unset, .unset, .unset, .unset, .unset, .unset, .unset, .unset, .unset, .unset] []))
    refine Go.via (fun t_ k_ => XS.iload H1.here hx rfl (hb hby at_52) rfl k_) ?_
    show Go _ _ _ _ (T1.setTop (mkF m 54 #[.val (.int p1), .val (.int p2), .val (.int p3), .val (.int x), .val (.int y), .val (.int kk), .val (.long (4294967295 : Int64)), .second, .val (.long z1), .second, .val (.int (1 : Int32)), .unset, .unset, .unset, .unset, .unset, .unset, .unset, .unset, .unset, .unset, .unset, .unset, .unset, .unset, .unset, .unset] [(.int (1 : Int32))]))
    refine Go.via (fun t_ k_ => XS.ifNo H1.here hx rfl (hb hby at_54) rfl ((if0 _ _).trans (feq (show ¬ ((1 : Int32) = (0 : Int32)) from (by decide))).1) k_) ?_
    show Go _ _ _ _ (T1.setTop (mkF m 57 #[.val (.int p1), .val (.int p2), .val (.int p3), .val (.int x), .val (.int y), .val (.int kk), .val (.long (4294967295 : Int64)), .second, .val (.long z1), .second, .val (.int (1 : Int32)), .unset, .unset, .unset, .unset, .unset, .unset, .unset, .unset, .unset, .unset, .unset, .unset, .unset, .unset, .unset, .unset] []))
    refine Go.via (fun t_ k_ => XS.lload H1.here hx rfl (hb hby at_57) rfl k_) ?_
    show Go _ _ _ _ (T1.setTop (mkF m 59 #[.val (.int p1), .val (.int p2), .val (.int p3), .val (.int x), .val (.int y), .val (.int kk), .val (.long (4294967295 : Int64)), .second, .val (.long z1), .second, .val (.int (1 : Int32)), .unset, .unset, .unset, .unset, .unset, .unset, .unset, .unset, .unset, .unset, .unset, .unset, .unset, .unset, .unset, .unset] [(.long z1)]))
    refine Go.via (fun t_ k_ => XS.lconst H1.here hx rfl (hb hby at_59) k_) ?_
    show Go _ _ _ _ (T1.setTop (mkF m 60 #[.val (.int p1), .val (.int p2), .val (.int p3), .val (.int x), .val (.int y), .val (.int kk), .val (.long (4294967295 : Int64)), .second, .val (.long z1), .second, .val (.int (1 : Int32)), .unset, .unset, .unset, .unset, .unset, .unset, .unset, .unset, .unset, .unset, .unset, .unset, .unset, .unset, .unset, .unset] [(.long (1 : Int64)), (.long z1)]))
    refine Go.via (fun t_ k_ => XS.land H1.here hx rfl (hb hby at_60) rfl k_) ?_
    show Go _ _ _ _ (T1.setTop (mkF m 61 #[.val (.int p1), .val (.int p2), .val (.int p3), .val (.int x), .val (.int y), .val (.int kk), .val (.long (4294967295 : Int64)), .second, .val (.long z1), .second, .val (.int (1 : Int32)), .unset, .unset, .unset, .unset, .unset, .unset, .unset, .unset, .unset, .unset, .unset, .unset, .unset, .unset, .unset, .unset] [(.long (z1 &&& (1 : Int64)))]))
    refine Go.via (fun t_ k_ => XS.iloadN H1.here hx rfl (hb hby at_61) rfl k_) ?_
    show Go _ _ _ _ (T1.setTop (mkF m 62 #[.val (.int p1), .val (.int p2), .val (.int p3), .val (.int x), .val (.int y), .val (.int kk), .val (.long (4294967295 : Int64)), .second, .val (.long z1), .second, .val (.int (1 : Int32)), .unset, .unset, .unset, .unset, .unset, .unset, .unset, .unset, .unset, .unset, .unset, .unset, .unset, .unset, .unset, .unset] [(.int x), (.long (z1 &&& (1 : Int64)))]))
    refine Go.via (fun t_ k_ => XS.iload H1.here hx rfl (hb hby at_62) rfl k_) ?_
    show Go _ _ _ _ (T1.setTop (mkF m 64 #[.val (.int p1), .val (.int p2), .val (.int p3), .val (.int x), .val (.int y), .val (.int kk), .val (.long (4294967295 : Int64)), .second, .val (.long z1), .second, .val (.int (1 : Int32)), .unset, .unset, .unset, .unset, .unset, .unset, .unset, .unset, .unset, .unset, .unset, .unset, .unset, .unset, .unset, .unset] [(.int y), (.int x), (.long (z1 &&& (1 : Int64)))]))
    refine Go.via (fun t_ k_ => XS.iadd H1.here hx rfl (hb hby at_64) rfl k_) ?_
    show Go _ _ _ _ (T1.setTop (mkF m 65 #[.val (.int p1), .val (.int p2), .val (.int p3), .val (.int x), .val (.int y), .val (.int kk), .val (.long (4294967295 : Int64)), .second, .val (.long z1), .second, .val (.int (1 : Int32)), .unset, .unset, .unset, .unset, .unset, .unset, .unset, .unset, .unset, .unset, .unset, .unset, .unset, .unset, .unset, .unset] [(.int (x + y)), (.long (z1 &&& (1 : Int64)))]))
    refine Go.via (fun t_ k_ => XS.iconst H1.here hx rfl (hb hby at_65) k_) ?_
    show Go _ _ _ _ (T1.setTop (mkF m 66 #[.val (.int p1), .val (.int p2), .val (.int p3), .val (.int x), .val (.int y), .val (.int kk), .val (.long (4294967295 : Int64)), .second, .val (.long z1), .second, .val (.int (1 : Int32)), .unset, .unset, .unset, .unset, .unset, .unset, .unset, .unset, .unset, .unset, .unset, .unset, .unset, .unset, .unset, .unset] [(.int (1 : Int32)), (.int (x + y)), (.long (z1 &&& (1 : Int64)))]))
    refine Go.via (fun t_ k_ => XS.iand H1.here hx rfl (hb hby at_66) rfl k_) ?_
    show Go _ _ _ _ (T1.setTop (mkF m 67 #[.val (.int p1), .val (.int p2), .val (.int p3), .val (.int x), .val (.int y), .val (.int kk), .val (.long (4294967295 : Int64)), .second, .val (.long z1), .second, .val (.int (1 : Int32)), .unset, .unset, .unset, .unset, .unset, .unset, .unset, .unset, .unset, .unset, .unset, .unset, .unset, .unset, .unset, .unset] [(.int ((x + y) &&& (1 : Int32))), (.long (z1 &&& (1 : Int64)))]))
    refine Go.via (fun t_ k_ => XS.i2l H1.here hx rfl (hb hby at_67) rfl k_) ?_
    show Go _ _ _ _ (T1.setTop (mkF m 68 #[.val (.int p1), .val (.int p2), .val (.int p3), .val (.int x), .val (.int y), .val (.int kk), .val (.long (4294967295 : Int64)), .second, .val (.long z1), .second, .val (.int (1 : Int32)), .unset, .unset, .unset, .unset, .unset, .unset, .unset, .unset, .unset, .unset, .unset, .unset, .unset, .unset, .unset, .unset] [(.long (((x + y) &&& (1 : Int32)).toInt64)), (.long (z1 &&& (1 : Int64)))]))
    refine Go.via (fun t_ k_ => XS.lcmp H1.here hx rfl (hb hby at_68) rfl k_) ?_
    show Go _ _ _ _ (T1.setTop (mkF m 69 #[.val (.int p1), .val (.int p2), .val (.int p3), .val (.int x), .val (.int y), .val (.int kk), .val (.long (4294967295 : Int64)), .second, .val (.long z1), .second, .val (.int (1 : Int32)), .unset, .unset, .unset, .unset, .unset, .unset, .unset, .unset, .unset, .unset, .unset, .unset, .unset, .unset, .unset, .unset] [(.int (lcmpW (z1 &&& (1 : Int64)) (((x + y) &&& (1 : Int32)).toInt64)))]))
    refine Go.via (fun t_ k_ => XS.ifNo H1.here hx rfl (hb hby at_69) rfl ((own_leq (show (z1 &&& (1 : Int64)) = (((x + y) &&& (1 : Int32)).toInt64) from (own_par qx qy hX hY qz1))).2) k_) ?_
    show Go _ _ _ _ (T1.setTop (mkF m 72 #[.val (.int p1), .val (.int p2), .val (.int p3), .val (.int x), .val (.int y), .val (.int kk), .val (.long (4294967295 : Int64)), .second, .val (.long z1), .second, .val (.int (1 : Int32)), .unset, .unset, .unset, .unset, .unset, .unset, .unset, .unset, .unset, .unset, .unset, .unset, .unset, .unset, .unset, .unset] []))
    refine Go.via (fun t_ k_ => XS.iconst H1.here hx rfl (hb hby at_72) k_) ?_
    show Go _ _ _ _ (T1.setTop (mkF m 73 #[.val (.int p1), .val (.int p2), .val (.int p3), .val (.int x), .val (.int y), .val (.int kk), .val (.long (4294967295 : Int64)), .second, .val (.long z1), .second, .val (.int (1 : Int32)), .unset, .unset, .unset, .unset, .unset, .unset, .unset, .unset, .unset, .unset, .unset, .unset, .unset, .unset, .unset, .unset] [(.int (1 : Int32))]))
    refine Go.via (fun t_ k_ => XS.goto H1.here hx rfl (pc0 := 73) (pc' := 77) rfl (hb hby at_73) (by decide) (by decide) k_) ?_
    show Go _ _ _ _ (T1.setTop (mkF m 77 #[.val (.int p1), .val (.int p2), .val (.int p3), .val (.int x), .val (.int y), .val (.int kk), .val (.long (4294967295 : Int64)), .second, .val (.long z1), .second, .val (.int (1 : Int32)), .unset, .unset, .unset, .unset, .unset, .unset, .unset, .unset, .unset, .unset, .unset, .unset, .unset, .unset, .unset, .unset] [(.int (1 : Int32))]))
    refine Go.via (fun t_ k_ => XS.istore H1.here hx rfl (hb hby at_77) rfl (l' := #[.val (.int p1), .val (.int p2), .val (.int p3), .val (.int x), .val (.int y), .val (.int kk), .val (.long (4294967295 : Int64)), .second, .val (.long z1), .second, .val (.int (1 : Int32)), .unset, .unset, .unset, .unset, .unset, .unset, .unset, .unset, .unset, .unset, .unset, .unset, .unset, .unset, .unset, .unset]) rfl k_) ?_
    show Go _ _ _ _ (T1.setTop (mkF m 79 #[.val (.int p1), .val (.int p2), .val (.int p3), .val (.int x), .val (.int y), .val (.int kk), .val (.long (4294967295 : Int64)), .second, .val (.long z1), .second, .val (.int (1 : Int32)), .unset, .unset, .unset, .unset, .unset, .unset, .unset, .unset, .unset, .unset, .unset, .unset, .unset, .unset, .unset, .unset] []))
    refine Go.via (fun t_ k_ => XS.iloadN H1.here hx rfl (hb hby at_79) rfl k_) ?_
    show Go _ _ _ _ (T1.setTop (mkF m 80 #[.val (.int p1), .val (.int p2), .val (.int p3), .val (.int x), .val (.int y), .val (.int kk), .val (.long (4294967295 : Int64)), .second, .val (.long z1), .second, .val (.int (1 : Int32)), .unset, .unset, .unset, .unset, .unset, .unset, .unset, .unset, .unset, .unset, .unset, .unset, .unset, .unset, .unset, .unset] [(.int x)]))
    refine own_ldcI H1 hx hZ hown (hw _ (List.mem_of_getElem? (i := 7) rfl)) (g := (mkF m 80 #[.val (.int p1), .val (.int p2), .val (.int p3), .val (.int x), .val (.int y), .val (.int kk), .val (.long (4294967295 : Int64)), .second, .val (.long z1), .second, .val (.int (1 : Int32)), .unset, .unset, .unset, .unset, .unset, .unset, .unset, .unset, .unset, .unset, .unset, .unset, .unset, .unset, .unset, .unset] [(.int x)])) rfl (hb hby at_80) ?_
    show Go _ _ _ _ (T1.setTop (mkF m 82 #[.val (.int p1), .val (.int p2), .val (.int p3), .val (.int x), .val (.int y), .val (.int kk), .val (.long (4294967295 : Int64)), .second, .val (.long z1), .second, .val (.int (1 : Int32)), .unset, .unset, .unset, .unset, .unset, .unset, .unset, .unset, .unset, .unset, .unset, .unset, .unset, .unset, .unset, .unset] [(.int (32768 : Int32)), (.int x)]))
    refine Go.via (fun t_ k_ => XS.iand H1.here hx rfl (hb hby at_82) rfl k_) ?_
    show Go _ _ _ _ (T1.setTop (mkF m 83 #[.val (.int p1), .val (.int p2), .val (.int p3), .val (.int x), .val (.int y), .val (.int kk), .val (.long (4294967295 : Int64)), .second, .val (.long z1), .second, .val (.int (1 : Int32)), .unset, .unset, .unset, .unset, .unset, .unset, .unset, .unset, .unset, .unset, .unset, .unset, .unset, .unset, .unset, .unset] [(.int (x &&& (32768 : Int32)))]))
    by_cases hc83 : (x &&& (32768 : Int32)) = (0 : Int32)
    · refine Go.via (fun t_ k_ => XS.ifYes H1.here hx rfl (pc0 := 83) (pc' := 90) rfl (hb hby at_83) rfl ((if0 _ _).trans (teq hc83).1) (by decide) (by decide) k_) ?_
      show Go _ _ _ _ (T1.setTop (mkF m 90 #[.val (.int p1), .val (.int p2), .val (.int p3), .val (.int x), .val (.int y), .val (.int kk), .val (.long (4294967295 : Int64)), .second, .val (.long z1), .second, .val (.int (1 : Int32)), .unset, .unset, .unset, .unset, .unset, .unset, .unset, .unset, .unset, .unset, .unset, .unset, .unset, .unset, .unset, .unset] []))
      refine Go.via (fun t_ k_ => XS.iconst H1.here hx rfl (hb hby at_90) k_) ?_
      show Go _ _ _ _ (T1.setTop (mkF m 91 #[.val (.int p1), .val (.int p2), .val (.int p3), .val (.int x), .val (.int y), .val (.int kk), .val (.long (4294967295 : Int64)), .second, .val (.long z1), .second, .val (.int (1 : Int32)), .unset, .unset, .unset, .unset, .unset, .unset, .unset, .unset, .unset, .unset, .unset, .unset, .unset, .unset, .unset, .unset] [(.int (0 : Int32))]))
      refine Go.via (fun t_ k_ => XS.istore H1.here hx rfl (hb hby at_91) rfl (l' := #[.val (.int p1), .val (.int p2), .val (.int p3), .val (.int x), .val (.int y), .val (.int kk), .val (.long (4294967295 : Int64)), .second, .val (.long z1), .second, .val (.int (1 : Int32)), .val (.int (0 : Int32)), .unset, .unset, .unset, .unset, .unset, .unset, .unset, .unset, .unset, .unset, .unset, .unset, .unset, .unset, .unset]) rfl k_) ?_
      show Go _ _ _ _ (T1.setTop (mkF m 93 #[.val (.int p1), .val (.int p2), .val (.int p3), .val (.int x), .val (.int y), .val (.int kk), .val (.long (4294967295 : Int64)), .second, .val (.long z1), .second, .val (.int (1 : Int32)), .val (.int (0 : Int32)), .unset, .unset, .unset, .unset, .unset, .unset, .unset, .unset, .unset, .unset, .unset, .unset, .unset, .unset, .unset] []))
      refine Go.via (fun t_ k_ => XS.iload H1.here hx rfl (hb hby at_93) rfl k_) ?_
      show Go _ _ _ _ (T1.setTop (mkF m 95 #[.val (.int p1), .val (.int p2), .val (.int p3), .val (.int x), .val (.int y), .val (.int kk), .val (.long (4294967295 : Int64)), .second, .val (.long z1), .second, .val (.int (1 : Int32)), .val (.int (0 : Int32)), .unset, .unset, .unset, .unset, .unset, .unset, .unset, .unset, .unset, .unset, .unset, .unset, .unset, .unset, .unset] [(.int y)]))
      refine own_ldcI H1 hx hZ hown (hw _ (List.mem_of_getElem? (i := 7) rfl)) (g := (mkF m 95 #[.val (.int p1), .val (.int p2), .val (.int p3), .val (.int x), .val (.int y), .val (.int kk), .val (.long (4294967295 : Int64)), .second, .val (.long z1), .second, .val (.int (1 : Int32)), .val (.int (0 : Int32)), .unset, .unset, .unset, .unset, .unset, .unset, .unset, .unset, .unset, .unset, .unset, .unset, .unset, .unset, .unset] [(.int y)])) rfl (hb hby at_95) ?_
      show Go _ _ _ _ (T1.setTop (mkF m 97 #[.val (.int p1), .val (.int p2), .val (.int p3), .val (.int x), .val (.int y), .val (.int kk), .val (.long (4294967295 : Int64)), .second, .val (.long z1), .second, .val (.int (1 : Int32)), .val (.int (0 : Int32)), .unset, .unset, .unset, .unset, .unset, .unset, .unset, .unset, .unset, .unset, .unset, .unset, .unset, .unset, .unset] [(.int (32768 : Int32)), (.int y)]))
      refine Go.via (fun t_ k_ => XS.iand H1.here hx rfl (hb hby at_97) rfl k_) ?_
      show Go _ _ _ _ (T1.setTop (mkF m 98 #[.val (.int p1), .val (.int p2), .val (.int p3), .val (.int x), .val (.int y), .val (.int kk), .val (.long (4294967295 : Int64)), .second, .val (.long z1), .second, .val (.int (1 : Int32)), .val (.int (0 : Int32)), .unset, .unset, .unset, .unset, .unset, .unset, .unset, .unset, .unset, .unset, .unset, .unset, .unset, .unset, .unset] [(.int (y &&& (32768 : Int32)))]))
      by_cases hc98 : (y &&& (32768 : Int32)) = (0 : Int32)
      · refine Go.via (fun t_ k_ => XS.ifYes H1.here hx rfl (pc0 := 98) (pc' := 105) rfl (hb hby at_98) rfl ((if0 _ _).trans (teq hc98).1) (by decide) (by decide) k_) ?_
        show Go _ _ _ _ (T1.setTop (mkF m 105 #[.val (.int p1), .val (.int p2), .val (.int p3), .val (.int x), .val (.int y), .val (.int kk), .val (.long (4294967295 : Int64)), .second, .val (.long z1), .second, .val (.int (1 : Int32)), .val (.int (0 : Int32)), .unset, .unset, .unset, .unset, .unset, .unset, .unset, .unset, .unset, .unset, .unset, .unset, .unset, .unset, .unset] []))
        refine Go.via (fun t_ k_ => XS.iconst H1.here hx rfl (hb hby at_105) k_) ?_
        show Go _ _ _ _ (T1.setTop (mkF m 106 #[.val (.int p1), .val (.int p2), .val (.int p3), .val (.int x), .val (.int y), .val (.int kk), .val (.long (4294967295 : Int64)), .second, .val (.long z1), .second, .val (.int (1 : Int32)), .val (.int (0 : Int32)), .unset, .unset, .unset, .unset, .unset, .unset, .unset, .unset, .unset, .unset, .unset, .unset, .unset, .unset, .unset] [(.int (0 : Int32))]))
        refine Go.via (fun t_ k_ => XS.istore H1.here hx rfl (hb hby at_106) rfl (l' := #[.val (.int p1), .val (.int p2), .val (.int p3), .val (.int x), .val (.int y), .val (.int kk), .val (.long (4294967295 : Int64)), .second, .val (.long z1), .second, .val (.int (1 : Int32)), .val (.int (0 : Int32)), .val (.int (0 : Int32)), .unset, .unset, .unset, .unset, .unset, .unset, .unset, .unset, .unset, .unset, .unset, .unset, .unset, .unset]) rfl k_) ?_
        show Go _ _ _ _ (T1.setTop (mkF m 108 #[.val (.int p1), .val (.int p2), .val (.int p3), .val (.int x), .val (.int y), .val (.int kk), .val (.long (4294967295 : Int64)), .second, .val (.long z1), .second, .val (.int (1 : Int32)), .val (.int (0 : Int32)), .val (.int (0 : Int32)), .unset, .unset, .unset, .unset, .unset, .unset, .unset, .unset, .unset, .unset, .unset, .unset, .unset, .unset] []))
        refine Go.via (fun t_ k_ => XS.iload H1.here hx rfl (hb hby at_108) rfl k_) ?_
        show Go _ _ _ _ (T1.setTop (mkF m 110 #[.val (.int p1), .val (.int p2), .val (.int p3), .val (.int x), .val (.int y), .val (.int kk), .val (.long (4294967295 : Int64)), .second, .val (.long z1), .second, .val (.int (1 : Int32)), .val (.int (0 : Int32)), .val (.int (0 : Int32)), .unset, .unset, .unset, .unset, .unset, .unset, .unset, .unset, .unset, .unset, .unset, .unset, .unset, .unset] [(.int (0 : Int32))]))
        refine Go.via (fun t_ k_ => XS.ifNo H1.here hx rfl (hb hby at_110) rfl ((if0 _ _).trans (teq (show (0 : Int32) = (0 : Int32) from (by decide))).2) k_) ?_
        show Go _ _ _ _ (T1.setTop (mkF m 113 #[.val (.int p1), .val (.int p2), .val (.int p3), .val (.int x), .val (.int y), .val (.int kk), .val (.long (4294967295 : Int64)), .second, .val (.long z1), .second, .val (.int (1 : Int32)), .val (.int (0 : Int32)), .val (.int (0 : Int32)), .unset, .unset, .unset, .unset, .unset, .unset, .unset, .unset, .unset, .unset, .unset, .unset, .unset, .unset] []))
        refine Go.via (fun t_ k_ => XS.iload H1.here hx rfl (hb hby at_113) rfl k_) ?_
        show Go _ _ _ _ (T1.setTop (mkF m 115 #[.val (.int p1), .val (.int p2), .val (.int p3), .val (.int x), .val (.int y), .val (.int kk), .val (.long (4294967295 : Int64)), .second, .val (.long z1), .second, .val (.int (1 : Int32)), .val (.int (0 : Int32)), .val (.int (0 : Int32)), .unset, .unset, .unset, .unset, .unset, .unset, .unset, .unset, .unset, .unset, .unset, .unset, .unset, .unset] [(.int (0 : Int32))]))
        refine Go.via (fun t_ k_ => XS.ifNo H1.here hx rfl (hb hby at_115) rfl ((if0 _ _).trans (teq (show (0 : Int32) = (0 : Int32) from (by decide))).2) k_) ?_
        show Go _ _ _ _ (T1.setTop (mkF m 118 #[.val (.int p1), .val (.int p2), .val (.int p3), .val (.int x), .val (.int y), .val (.int kk), .val (.long (4294967295 : Int64)), .second, .val (.long z1), .second, .val (.int (1 : Int32)), .val (.int (0 : Int32)), .val (.int (0 : Int32)), .unset, .unset, .unset, .unset, .unset, .unset, .unset, .unset, .unset, .unset, .unset, .unset, .unset, .unset] []))
        refine Go.via (fun t_ k_ => XS.lconst H1.here hx rfl (hb hby at_118) k_) ?_
        show Go _ _ _ _ (T1.setTop (mkF m 119 #[.val (.int p1), .val (.int p2), .val (.int p3), .val (.int x), .val (.int y), .val (.int kk), .val (.long (4294967295 : Int64)), .second, .val (.long z1), .second, .val (.int (1 : Int32)), .val (.int (0 : Int32)), .val (.int (0 : Int32)), .unset, .unset, .unset, .unset, .unset, .unset, .unset, .unset, .unset, .unset, .unset, .unset, .unset, .unset] [(.long (0 : Int64))]))
        refine Go.via (fun t_ k_ => XS.lstore H1.here hx rfl (hb hby at_119) rfl (l' := #[.val (.int p1), .val (.int p2), .val (.int p3), .val (.int x), .val (.int y), .val (.int kk), .val (.long (4294967295 : Int64)), .second, .val (.long z1), .second, .val (.int (1 : Int32)), .val (.int (0 : Int32)), .val (.int (0 : Int32)), .val (.long (0 : Int64)), .second, .unset, .unset, .unset, .unset, .unset, .unset, .unset, .unset, .unset, .unset, .unset, .unset]) rfl k_) ?_
        show Go _ _ _ _ (T1.setTop (mkF m 121 #[.val (.int p1), .val (.int p2), .val (.int p3), .val (.int x), .val (.int y), .val (.int kk), .val (.long (4294967295 : Int64)), .second, .val (.long z1), .second, .val (.int (1 : Int32)), .val (.int (0 : Int32)), .val (.int (0 : Int32)), .val (.long (0 : Int64)), .second, .unset, .unset, .unset, .unset, .unset, .unset, .unset, .unset, .unset, .unset, .unset, .unset] []))
        refine Go.via (fun t_ k_ => XS.goto H1.here hx rfl (pc0 := 121) (pc' := 153) rfl (hb hby at_121) (by decide) (by decide) k_) ?_
        show Go _ _ _ _ (T1.setTop (mkF m 153 #[.val (.int p1), .val (.int p2), .val (.int p3), .val (.int x), .val (.int y), .val (.int kk), .val (.long (4294967295 : Int64)), .second, .val (.long z1), .second, .val (.int (1 : Int32)), .val (.int (0 : Int32)), .val (.int (0 : Int32)), .val (.long (0 : Int64)), .second, .unset, .unset, .unset, .unset, .unset, .unset, .unset, .unset, .unset, .unset, .unset, .unset] []))
        exact J153 T1 (0 : Int32) (0 : Int32) (0 : Int64) H1 (own_qz qz1 (n := 0) (by decide) (by rw [own_quad hX hY, if_pos ((own_bit (n := 15) qx (by decide) hX).mp hc83), if_pos ((own_bit (n := 15) qy (by decide) hY).mp hc98)]))
      · refine Go.via (fun t_ k_ => XS.ifNo H1.here hx rfl (hb hby at_98) rfl ((if0 _ _).trans (feq hc98).1) k_) ?_
        show Go _ _ _ _ (T1.setTop (mkF m 101 #[.val (.int p1), .val (.int p2), .val (.int p3), .val (.int x), .val (.int y), .val (.int kk), .val (.long (4294967295 : Int64)), .second, .val (.long z1), .second, .val (.int (1 : Int32)), .val (.int (0 : Int32)), .unset, .unset, .unset, .unset, .unset, .unset, .unset, .unset, .unset, .unset, .unset, .unset, .unset, .unset, .unset] []))
        refine Go.via (fun t_ k_ => XS.iconst H1.here hx rfl (hb hby at_101) k_) ?_
        show Go _ _ _ _ (T1.setTop (mkF m 102 #[.val (.int p1), .val (.int p2), .val (.int p3), .val (.int x), .val (.int y), .val (.int kk), .val (.long (4294967295 : Int64)), .second, .val (.long z1), .second, .val (.int (1 : Int32)), .val (.int (0 : Int32)), .unset, .unset, .unset, .unset, .unset, .unset, .unset, .unset, .unset, .unset, .unset, .unset, .unset, .unset, .unset] [(.int (1 : Int32))]))
        refine Go.via (fun t_ k_ => XS.goto H1.here hx rfl (pc0 := 102) (pc' := 106) rfl (hb hby at_102) (by decide) (by decide) k_) ?_
        show Go _ _ _ _ (T1.setTop (mkF m 106 #[.val (.int p1), .val (.int p2), .val (.int p3), .val (.int x), .val (.int y), .val (.int kk), .val (.long (4294967295 : Int64)), .second, .val (.long z1), .second, .val (.int (1 : Int32)), .val (.int (0 : Int32)), .unset, .unset, .unset, .unset, .unset, .unset, .unset, .unset, .unset, .unset, .unset, .unset, .unset, .unset, .unset] [(.int (1 : Int32))]))
        refine Go.via (fun t_ k_ => XS.istore H1.here hx rfl (hb hby at_106) rfl (l' := #[.val (.int p1), .val (.int p2), .val (.int p3), .val (.int x), .val (.int y), .val (.int kk), .val (.long (4294967295 : Int64)), .second, .val (.long z1), .second, .val (.int (1 : Int32)), .val (.int (0 : Int32)), .val (.int (1 : Int32)), .unset, .unset, .unset, .unset, .unset, .unset, .unset, .unset, .unset, .unset, .unset, .unset, .unset, .unset]) rfl k_) ?_
        show Go _ _ _ _ (T1.setTop (mkF m 108 #[.val (.int p1), .val (.int p2), .val (.int p3), .val (.int x), .val (.int y), .val (.int kk), .val (.long (4294967295 : Int64)), .second, .val (.long z1), .second, .val (.int (1 : Int32)), .val (.int (0 : Int32)), .val (.int (1 : Int32)), .unset, .unset, .unset, .unset, .unset, .unset, .unset, .unset, .unset, .unset, .unset, .unset, .unset, .unset] []))
        refine Go.via (fun t_ k_ => XS.iload H1.here hx rfl (hb hby at_108) rfl k_) ?_
        show Go _ _ _ _ (T1.setTop (mkF m 110 #[.val (.int p1), .val (.int p2), .val (.int p3), .val (.int x), .val (.int y), .val (.int kk), .val (.long (4294967295 : Int64)), .second, .val (.long z1), .second, .val (.int (1 : Int32)), .val (.int (0 : Int32)), .val (.int (1 : Int32)), .unset, .unset, .unset, .unset, .unset, .unset, .unset, .unset, .unset, .unset, .unset, .unset, .unset, .unset] [(.int (0 : Int32))]))
        refine Go.via (fun t_ k_ => XS.ifNo H1.here hx rfl (hb hby at_110) rfl ((if0 _ _).trans (teq (show (0 : Int32) = (0 : Int32) from (by decide))).2) k_) ?_
        show Go _ _ _ _ (T1.setTop (mkF m 113 #[.val (.int p1), .val (.int p2), .val (.int p3), .val (.int x), .val (.int y), .val (.int kk), .val (.long (4294967295 : Int64)), .second, .val (.long z1), .second, .val (.int (1 : Int32)), .val (.int (0 : Int32)), .val (.int (1 : Int32)), .unset, .unset, .unset, .unset, .unset, .unset, .unset, .unset, .unset, .unset, .unset, .unset, .unset, .unset] []))
        refine Go.via (fun t_ k_ => XS.iload H1.here hx rfl (hb hby at_113) rfl k_) ?_
        show Go _ _ _ _ (T1.setTop (mkF m 115 #[.val (.int p1), .val (.int p2), .val (.int p3), .val (.int x), .val (.int y), .val (.int kk), .val (.long (4294967295 : Int64)), .second, .val (.long z1), .second, .val (.int (1 : Int32)), .val (.int (0 : Int32)), .val (.int (1 : Int32)), .unset, .unset, .unset, .unset, .unset, .unset, .unset, .unset, .unset, .unset, .unset, .unset, .unset, .unset] [(.int (1 : Int32))]))
        refine Go.via (fun t_ k_ => XS.ifYes H1.here hx rfl (pc0 := 115) (pc' := 124) rfl (hb hby at_115) rfl ((if0 _ _).trans (feq (show ¬ ((1 : Int32) = (0 : Int32)) from (by decide))).2) (by decide) (by decide) k_) ?_
        show Go _ _ _ _ (T1.setTop (mkF m 124 #[.val (.int p1), .val (.int p2), .val (.int p3), .val (.int x), .val (.int y), .val (.int kk), .val (.long (4294967295 : Int64)), .second, .val (.long z1), .second, .val (.int (1 : Int32)), .val (.int (0 : Int32)), .val (.int (1 : Int32)), .unset, .unset, .unset, .unset, .unset, .unset, .unset, .unset, .unset, .unset, .unset, .unset, .unset, .unset] []))
        refine Go.via (fun t_ k_ => XS.iload H1.here hx rfl (hb hby at_124) rfl k_) ?_
        show Go _ _ _ _ (T1.setTop (mkF m 126 #[.val (.int p1), .val (.int p2), .val (.int p3), .val (.int x), .val (.int y), .val (.int kk), .val (.long (4294967295 : Int64)), .second, .val (.long z1), .second, .val (.int (1 : Int32)), .val (.int (0 : Int32)), .val (.int (1 : Int32)), .unset, .unset, .unset, .unset, .unset, .unset, .unset, .unset, .unset, .unset, .unset, .unset, .unset, .unset] [(.int (0 : Int32))]))
        refine Go.via (fun t_ k_ => XS.ifNo H1.here hx rfl (hb hby at_126) rfl ((if0 _ _).trans (teq (show (0 : Int32) = (0 : Int32) from (by decide))).2) k_) ?_
        show Go _ _ _ _ (T1.setTop (mkF m 129 #[.val (.int p1), .val (.int p2), .val (.int p3), .val (.int x), .val (.int y), .val (.int kk), .val (.long (4294967295 : Int64)), .second, .val (.long z1), .second, .val (.int (1 : Int32)), .val (.int (0 : Int32)), .val (.int (1 : Int32)), .unset, .unset, .unset, .unset, .unset, .unset, .unset, .unset, .unset, .unset, .unset, .unset, .unset, .unset] []))
        refine Go.via (fun t_ k_ => XS.lconst H1.here hx rfl (hb hby at_129) k_) ?_
        show Go _ _ _ _ (T1.setTop (mkF m 130 #[.val (.int p1), .val (.int p2), .val (.int p3), .val (.int x), .val (.int y), .val (.int kk), .val (.long (4294967295 : Int64)), .second, .val (.long z1), .second, .val (.int (1 : Int32)), .val (.int (0 : Int32)), .val (.int (1 : Int32)), .unset, .unset, .unset, .unset, .unset, .unset, .unset, .unset, .unset, .unset, .unset, .unset, .unset, .unset] [(.long (1 : Int64))]))
        refine Go.via (fun t_ k_ => XS.lstore H1.here hx rfl (hb hby at_130) rfl (l' := #[.val (.int p1), .val (.int p2), .val (.int p3), .val (.int x), .val (.int y), .val (.int kk), .val (.long (4294967295 : Int64)), .second, .val (.long z1), .second, .val (.int (1 : Int32)), .val (.int (0 : Int32)), .val (.int (1 : Int32)), .val (.long (1 : Int64)), .second, .unset, .unset, .unset, .unset, .unset, .unset, .unset, .unset, .unset, .unset, .unset, .unset]) rfl k_) ?_
        show Go _ _ _ _ (T1.setTop (mkF m 132 #[.val (.int p1), .val (.int p2), .val (.int p3), .val (.int x), .val (.int y), .val (.int kk), .val (.long (4294967295 : Int64)), .second, .val (.long z1), .second, .val (.int (1 : Int32)), .val (.int (0 : Int32)), .val (.int (1 : Int32)), .val (.long (1 : Int64)), .second, .unset, .unset, .unset, .unset, .unset, .unset, .unset, .unset, .unset, .unset, .unset, .unset] []))
        refine Go.via (fun t_ k_ => XS.goto H1.here hx rfl (pc0 := 132) (pc' := 153) rfl (hb hby at_132) (by decide) (by decide) k_) ?_
        show Go _ _ _ _ (T1.setTop (mkF m 153 #[.val (.int p1), .val (.int p2), .val (.int p3), .val (.int x), .val (.int y), .val (.int kk), .val (.long (4294967295 : Int64)), .second, .val (.long z1), .second, .val (.int (1 : Int32)), .val (.int (0 : Int32)), .val (.int (1 : Int32)), .val (.long (1 : Int64)), .second, .unset, .unset, .unset, .unset, .unset, .unset, .unset, .unset, .unset, .unset, .unset, .unset] []))
        exact J153 T1 (0 : Int32) (1 : Int32) (1 : Int64) H1 (own_qz qz1 (n := 1) (by decide) (by rw [own_quad hX hY, if_pos ((own_bit (n := 15) qx (by decide) hX).mp hc83), if_neg (fun u => hc98 ((own_bit (n := 15) qy (by decide) hY).mpr u))]))
    · refine Go.via (fun t_ k_ => XS.ifNo H1.here hx rfl (hb hby at_83) rfl ((if0 _ _).trans (feq hc83).1) k_) ?_
      show Go _ _ _ _ (T1.setTop (mkF m 86 #[.val (.int p1), .val (.int p2), .val (.int p3), .val (.int x), .val (.int y), .val (.int kk), .val (.long (4294967295 : Int64)), .second, .val (.long z1), .second, .val (.int (1 : Int32)), .unset, .unset, .unset, .unset, .unset, .unset, .unset, .unset, .unset, .unset, .unset, .unset, .unset, .unset, .unset, .unset] []))
      refine Go.via (fun t_ k_ => XS.iconst H1.here hx rfl (hb hby at_86) k_) ?_
      show Go _ _ _ _ (T1.setTop (mkF m 87 #[.val (.int p1), .val (.int p2), .val (.int p3), .val (.int x), .val (.int y), .val (.int kk), .val (.long (4294967295 : Int64)), .second, .val (.long z1), .second, .val (.int (1 : Int32)), .unset, .unset, .unset, .unset, .unset, .unset, .unset, .unset, .unset, .unset, .unset, .unset, .unset, .unset, .unset, .unset] [(.int (1 : Int32))]))
      refine Go.via (fun t_ k_ => XS.goto H1.here hx rfl (pc0 := 87) (pc' := 91) rfl (hb hby at_87) (by decide) (by decide) k_) ?_
      show Go _ _ _ _ (T1.setTop (mkF m 91 #[.val (.int p1), .val (.int p2), .val (.int p3), .val (.int x), .val (.int y), .val (.int kk), .val (.long (4294967295 : Int64)), .second, .val (.long z1), .second, .val (.int (1 : Int32)), .unset, .unset, .unset, .unset, .unset, .unset, .unset, .unset, .unset, .unset, .unset, .unset, .unset, .unset, .unset, .unset] [(.int (1 : Int32))]))
      refine Go.via (fun t_ k_ => XS.istore H1.here hx rfl (hb hby at_91) rfl (l' := #[.val (.int p1), .val (.int p2), .val (.int p3), .val (.int x), .val (.int y), .val (.int kk), .val (.long (4294967295 : Int64)), .second, .val (.long z1), .second, .val (.int (1 : Int32)), .val (.int (1 : Int32)), .unset, .unset, .unset, .unset, .unset, .unset, .unset, .unset, .unset, .unset, .unset, .unset, .unset, .unset, .unset]) rfl k_) ?_
      show Go _ _ _ _ (T1.setTop (mkF m 93 #[.val (.int p1), .val (.int p2), .val (.int p3), .val (.int x), .val (.int y), .val (.int kk), .val (.long (4294967295 : Int64)), .second, .val (.long z1), .second, .val (.int (1 : Int32)), .val (.int (1 : Int32)), .unset, .unset, .unset, .unset, .unset, .unset, .unset, .unset, .unset, .unset, .unset, .unset, .unset, .unset, .unset] []))
      refine Go.via (fun t_ k_ => XS.iload H1.here hx rfl (hb hby at_93) rfl k_) ?_
      show Go _ _ _ _ (T1.setTop (mkF m 95 #[.val (.int p1), .val (.int p2), .val (.int p3), .val (.int x), .val (.int y), .val (.int kk), .val (.long (4294967295 : Int64)), .second, .val (.long z1), .second, .val (.int (1 : Int32)), .val (.int (1 : Int32)), .unset, .unset, .unset, .unset, .unset, .unset, .unset, .unset, .unset, .unset, .unset, .unset, .unset, .unset, .unset] [(.int y)]))
      refine own_ldcI H1 hx hZ hown (hw _ (List.mem_of_getElem? (i := 7) rfl)) (g := (mkF m 95 #[.val (.int p1), .val (.int p2), .val (.int p3), .val (.int x), .val (.int y), .val (.int kk), .val (.long (4294967295 : Int64)), .second, .val (.long z1), .second, .val (.int (1 : Int32)), .val (.int (1 : Int32)), .unset, .unset, .unset, .unset, .unset, .unset, .unset, .unset, .unset, .unset, .unset, .unset, .unset, .unset, .unset] [(.int y)])) rfl (hb hby at_95) ?_
      show Go _ _ _ _ (T1.setTop (mkF m 97 #[.val (.int p1), .val (.int p2), .val (.int p3), .val (.int x), .val (.int y), .val (.int kk), .val (.long (4294967295 : Int64)), .second, .val (.long z1), .second, .val (.int (1 : Int32)), .val (.int (1 : Int32)), .unset, .unset, .unset, .unset, .unset, .unset, .unset, .unset, .unset, .unset, .unset, .unset, .unset, .unset, .unset] [(.int (32768 : Int32)), (.int y)]))
      refine Go.via (fun t_ k_ => XS.iand H1.here hx rfl (hb hby at_97) rfl k_) ?_
      show Go _ _ _ _ (T1.setTop (mkF m 98 #[.val (.int p1), .val (.int p2), .val (.int p3), .val (.int x), .val (.int y), .val (.int kk), .val (.long (4294967295 : Int64)), .second, .val (.long z1), .second, .val (.int (1 : Int32)), .val (.int (1 : Int32)), .unset, .unset, .unset, .unset, .unset, .unset, .unset, .unset, .unset, .unset, .unset, .unset, .unset, .unset, .unset] [(.int (y &&& (32768 : Int32)))]))
      by_cases hc98 : (y &&& (32768 : Int32)) = (0 : Int32)
      · refine Go.via (fun t_ k_ => XS.ifYes H1.here hx rfl (pc0 := 98) (pc' := 105) rfl (hb hby at_98) rfl ((if0 _ _).trans (teq hc98).1) (by decide) (by decide) k_) ?_
        show Go _ _ _ _ (T1.setTop (mkF m 105 #[.val (.int p1), .val (.int p2), .val (.int p3), .val (.int x), .val (.int y), .val (.int kk), .val (.long (4294967295 : Int64)), .second, .val (.long z1), .second, .val (.int (1 : Int32)), .val (.int (1 : Int32)), .unset, .unset, .unset, .unset, .unset, .unset, .unset, .unset, .unset, .unset, .unset, .unset, .unset, .unset, .unset] []))
        refine Go.via (fun t_ k_ => XS.iconst H1.here hx rfl (hb hby at_105) k_) ?_
        show Go _ _ _ _ (T1.setTop (mkF m 106 #[.val (.int p1), .val (.int p2), .val (.int p3), .val (.int x), .val (.int y), .val (.int kk), .val (.long (4294967295 : Int64)), .second, .val (.long z1), .second, .val (.int (1 : Int32)), .val (.int (1 : Int32)), .unset, .unset, .unset, .unset, .unset, .unset, .unset, .unset, .unset, .unset, .unset, .unset, .unset, .unset, .unset] [(.int (0 : Int32))]))
        refine Go.via (fun t_ k_ => XS.istore H1.here hx rfl (hb hby at_106) rfl (l' := #[.val (.int p1), .val (.int p2), .val (.int p3), .val (.int x), .val (.int y), .val (.int kk), .val (.long (4294967295 : Int64)), .second, .val (.long z1), .second, .val (.int (1 : Int32)), .val (.int (1 : Int32)), .val (.int (0 : Int32)), .unset, .unset, .unset, .unset, .unset, .unset, .unset, .unset, .unset, .unset, .unset, .unset, .unset, .unset]) rfl k_) ?_
        show Go _ _ _ _ (T1.setTop (mkF m 108 #[.val (.int p1), .val (.int p2), .val (.int p3), .val (.int x), .val (.int y), .val (.int kk), .val (.long (4294967295 : Int64)), .second, .val (.long z1), .second, .val (.int (1 : Int32)), .val (.int (1 : Int32)), .val (.int (0 : Int32)), .unset, .unset, .unset, .unset, .unset, .unset, .unset, .unset, .unset, .unset, .unset, .unset, .unset, .unset] []))
        refine Go.via (fun t_ k_ => XS.iload H1.here hx rfl (hb hby at_108) rfl k_) ?_
        show Go _ _ _ _ (T1.setTop (mkF m 110 #[.val (.int p1), .val (.int p2), .val (.int p3), .val (.int x), .val (.int y), .val (.int kk), .val (.long (4294967295 : Int64)), .second, .val (.long z1), .second, .val (.int (1 : Int32)), .val (.int (1 : Int32)), .val (.int (0 : Int32)), .unset, .unset, .unset, .unset, .unset, .unset, .unset, .unset, .unset, .unset, .unset, .unset, .unset, .unset] [(.int (1 : Int32))]))
        refine Go.via (fun t_ k_ => XS.ifYes H1.here hx rfl (pc0 := 110) (pc' := 124) rfl (hb hby at_110) rfl ((if0 _ _).trans (feq (show ¬ ((1 : Int32) = (0 : Int32)) from (by decide))).2) (by decide) (by decide) k_) ?_
        show Go _ _ _ _ (T1.setTop (mkF m 124 #[.val (.int p1), .val (.int p2), .val (.int p3), .val (.int x), .val (.int y), .val (.int kk), .val (.long (4294967295 : Int64)), .second, .val (.long z1), .second, .val (.int (1 : Int32)), .val (.int (1 : Int32)), .val (.int (0 : Int32)), .unset, .unset, .unset, .unset, .unset, .unset, .unset, .unset, .unset, .unset, .unset, .unset, .unset, .unset] []))
        refine Go.via (fun t_ k_ => XS.iload H1.here hx rfl (hb hby at_124) rfl k_) ?_
        show Go _ _ _ _ (T1.setTop (mkF m 126 #[.val (.int p1), .val (.int p2), .val (.int p3), .val (.int x), .val (.int y), .val (.int kk), .val (.long (4294967295 : Int64)), .second, .val (.long z1), .second, .val (.int (1 : Int32)), .val (.int (1 : Int32)), .val (.int (0 : Int32)), .unset, .unset, .unset, .unset, .unset, .unset, .unset, .unset, .unset, .unset, .unset, .unset, .unset, .unset] [(.int (1 : Int32))]))
        refine Go.via (fun t_ k_ => XS.ifYes H1.here hx rfl (pc0 := 126) (pc' := 135) rfl (hb hby at_126) rfl ((if0 _ _).trans (feq (show ¬ ((1 : Int32) = (0 : Int32)) from (by decide))).2) (by decide) (by decide) k_) ?_
        show Go _ _ _ _ (T1.setTop (mkF m 135 #[.val (.int p1), .val (.int p2), .val (.int p3), .val (.int x), .val (.int y), .val (.int kk), .val (.long (4294967295 : Int64)), .second, .val (.long z1), .second, .val (.int (1 : Int32)), .val (.int (1 : Int32)), .val (.int (0 : Int32)), .unset, .unset, .unset, .unset, .unset, .unset, .unset, .unset, .unset, .unset, .unset, .unset, .unset, .unset] []))
        refine Go.via (fun t_ k_ => XS.iload H1.here hx rfl (hb hby at_135) rfl k_) ?_
        show Go _ _ _ _ (T1.setTop (mkF m 137 #[.val (.int p1), .val (.int p2), .val (.int p3), .val (.int x), .val (.int y), .val (.int kk), .val (.long (4294967295 : Int64)), .second, .val (.long z1), .second, .val (.int (1 : Int32)), .val (.int (1 : Int32)), .val (.int (0 : Int32)), .unset, .unset, .unset, .unset, .unset, .unset, .unset, .unset, .unset, .unset, .unset, .unset, .unset, .unset] [(.int (0 : Int32))]))
        refine Go.via (fun t_ k_ => XS.ifYes H1.here hx rfl (pc0 := 137) (pc' := 148) rfl (hb hby at_137) rfl ((if0 _ _).trans (teq (show (0 : Int32) = (0 : Int32) from (by decide))).1) (by decide) (by decide) k_) ?_
        show Go _ _ _ _ (T1.setTop (mkF m 148 #[.val (.int p1), .val (.int p2), .val (.int p3), .val (.int x), .val (.int y), .val (.int kk), .val (.long (4294967295 : Int64)), .second, .val (.long z1), .second, .val (.int (1 : Int32)), .val (.int (1 : Int32)), .val (.int (0 : Int32)), .unset, .unset, .unset, .unset, .unset, .unset, .unset, .unset, .unset, .unset, .unset, .unset, .unset, .unset] []))
        refine own_ldcL H1 hx hZ hown (hw _ (List.mem_of_getElem? (i := 10) rfl)) (g := (mkF m 148 #[.val (.int p1), .val (.int p2), .val (.int p3), .val (.int x), .val (.int y), .val (.int kk), .val (.long (4294967295 : Int64)), .second, .val (.long z1), .second, .val (.int (1 : Int32)), .val (.int (1 : Int32)), .val (.int (0 : Int32)), .unset, .unset, .unset, .unset, .unset, .unset, .unset, .unset, .unset, .unset, .unset, .unset, .unset, .unset] [])) rfl (hb hby at_148) ?_
        show Go _ _ _ _ (T1.setTop (mkF m 151 #[.val (.int p1), .val (.int p2), .val (.int p3), .val (.int x), .val (.int y), .val (.int kk), .val (.long (4294967295 : Int64)), .second, .val (.long z1), .second, .val (.int (1 : Int32)), .val (.int (1 : Int32)), .val (.int (0 : Int32)), .unset, .unset, .unset, .unset, .unset, .unset, .unset, .unset, .unset, .unset, .unset, .unset, .unset, .unset] [(.long (3 : Int64))]))
        refine Go.via (fun t_ k_ => XS.lstore H1.here hx rfl (hb hby at_151) rfl (l' := #[.val (.int p1), .val (.int p2), .val (.int p3), .val (.int x), .val (.int y), .val (.int kk), .val (.long (4294967295 : Int64)), .second, .val (.long z1), .second, .val (.int (1 : Int32)), .val (.int (1 : Int32)), .val (.int (0 : Int32)), .val (.long (3 : Int64)), .second, .unset, .unset, .unset, .unset, .unset, .unset, .unset, .unset, .unset, .unset, .unset, .unset]) rfl k_) ?_
        show Go _ _ _ _ (T1.setTop (mkF m 153 #[.val (.int p1), .val (.int p2), .val (.int p3), .val (.int x), .val (.int y), .val (.int kk), .val (.long (4294967295 : Int64)), .second, .val (.long z1), .second, .val (.int (1 : Int32)), .val (.int (1 : Int32)), .val (.int (0 : Int32)), .val (.long (3 : Int64)), .second, .unset, .unset, .unset, .unset, .unset, .unset, .unset, .unset, .unset, .unset, .unset, .unset] []))
        exact J153 T1 (1 : Int32) (0 : Int32) (3 : Int64) H1 (own_qz qz1 (n := 3) (by decide) (by rw [own_quad hX hY, if_neg (fun u => hc83 ((own_bit (n := 15) qx (by decide) hX).mpr u)), if_pos ((own_bit (n := 15) qy (by decide) hY).mp hc98)]))
      · refine Go.via (fun t_ k_ => XS.ifNo H1.here hx rfl (hb hby at_98) rfl ((if0 _ _).trans (feq hc98).1) k_) ?_
        show Go _ _ _ _ (T1.setTop (mkF m 101 #[.val (.int p1), .val (.int p2), .val (.int p3), .val (.int x), .val (.int y), .val (.int kk), .val (.long (4294967295 : Int64)), .second, .val (.long z1), .second, .val (.int (1 : Int32)), .val (.int (1 : Int32)), .unset, .unset, .unset, .unset, .unset, .unset, .unset, .unset, .unset, .unset, .unset, .unset, .unset, .unset, .unset] []))
        refine Go.via (fun t_ k_ => XS.iconst H1.here hx rfl (hb hby at_101) k_) ?_
        show Go _ _ _ _ (T1.setTop (mkF m 102 #[.val (.int p1), .val (.int p2), .val (.int p3), .val (.int x), .val (.int y), .val (.int kk), .val (.long (4294967295 : Int64)), .second, .val (.long z1), .second, .val (.int (1 : Int32)), .val (.int (1 : Int32)), .unset, .unset, .unset, .unset, .unset, .unset, .unset, .unset, .unset, .unset, .unset, .unset, .unset, .unset, .unset] [(.int (1 : Int32))]))
        refine Go.via (fun t_ k_ => XS.goto H1.here hx rfl (pc0 := 102) (pc' := 106) rfl (hb hby at_102) (by decide) (by decide) k_) ?_
        show Go _ _ _ _ (T1.setTop (mkF m 106 #[.val (.int p1), .val (.int p2), .val (.int p3), .val (.int x), .val (.int y), .val (.int kk), .val (.long (4294967295 : Int64)), .second, .val (.long z1), .second, .val (.int (1 : Int32)), .val (.int (1 : Int32)), .unset, .unset, .unset, .unset, .unset, .unset, .unset, .unset, .unset, .unset, .unset, .unset, .unset, .unset, .unset] [(.int (1 : Int32))]))
        refine Go.via (fun t_ k_ => XS.istore H1.here hx rfl (hb hby at_106) rfl (l' := #[.val (.int p1), .val (.int p2), .val (.int p3), .val (.int x), .val (.int y), .val (.int kk), .val (.long (4294967295 : Int64)), .second, .val (.long z1), .second, .val (.int (1 : Int32)), .val (.int (1 : Int32)), .val (.int (1 : Int32)), .unset, .unset, .unset, .unset, .unset, .unset, .unset, .unset, .unset, .unset, .unset, .unset, .unset, .unset]) rfl k_) ?_
        show Go _ _ _ _ (T1.setTop (mkF m 108 #[.val (.int p1), .val (.int p2), .val (.int p3), .val (.int x), .val (.int y), .val (.int kk), .val (.long (4294967295 : Int64)), .second, .val (.long z1), .second, .val (.int (1 : Int32)), .val (.int (1 : Int32)), .val (.int (1 : Int32)), .unset, .unset, .unset, .unset, .unset, .unset, .unset, .unset, .unset, .unset, .unset, .unset, .unset, .unset] []))
        refine Go.via (fun t_ k_ => XS.iload H1.here hx rfl (hb hby at_108) rfl k_) ?_
        show Go _ _ _ _ (T1.setTop (mkF m 110 #[.val (.int p1), .val (.int p2), .val (.int p3), .val (.int x), .val (.int y), .val (.int kk), .val (.long (4294967295 : Int64)), .second, .val (.long z1), .second, .val (.int (1 : Int32)), .val (.int (1 : Int32)), .val (.int (1 : Int32)), .unset, .unset, .unset, .unset, .unset, .unset, .unset, .unset, .unset, .unset, .unset, .unset, .unset, .unset] [(.int (1 : Int32))]))
        refine Go.via (fun t_ k_ => XS.ifYes H1.here hx rfl (pc0 := 110) (pc' := 124) rfl (hb hby at_110) rfl ((if0 _ _).trans (feq (show ¬ ((1 : Int32) = (0 : Int32)) from (by decide))).2) (by decide) (by decide) k_) ?_
        show Go _ _ _ _ (T1.setTop (mkF m 124 #[.val (.int p1), .val (.int p2), .val (.int p3), .val (.int x), .val (.int y), .val (.int kk), .val (.long (4294967295 : Int64)), .second, .val (.long z1), .second, .val (.int (1 : Int32)), .val (.int (1 : Int32)), .val (.int (1 : Int32)), .unset, .unset, .unset, .unset, .unset, .unset, .unset, .unset, .unset, .unset, .unset, .unset, .unset, .unset] []))
        refine Go.via (fun t_ k_ => XS.iload H1.here hx rfl (hb hby at_124) rfl k_) ?_
        show Go _ _ _ _ (T1.setTop (mkF m 126 #[.val (.int p1), .val (.int p2), .val (.int p3), .val (.int x), .val (.int y), .val (.int kk), .val (.long (4294967295 : Int64)), .second, .val (.long z1), .second, .val (.int (1 : Int32)), .val (.int (1 : Int32)), .val (.int (1 : Int32)), .unset, .unset, .unset, .unset, .unset, .unset, .unset, .unset, .unset, .unset, .unset, .unset, .unset, .unset] [(.int (1 : Int32))]))
        refine Go.via (fun t_ k_ => XS.ifYes H1.here hx rfl (pc0 := 126) (pc' := 135) rfl (hb hby at_126) rfl ((if0 _ _).trans (feq (show ¬ ((1 : Int32) = (0 : Int32)) from (by decide))).2) (by decide) (by decide) k_) ?_
        show Go _ _ _ _ (T1.setTop (mkF m 135 #[.val (.int p1), .val (.int p2), .val (.int p3), .val (.int x), .val (.int y), .val (.int kk), .val (.long (4294967295 : Int64)), .second, .val (.long z1), .second, .val (.int (1 : Int32)), .val (.int (1 : Int32)), .val (.int (1 : Int32)), .unset, .unset, .unset, .unset, .unset, .unset, .unset, .unset, .unset, .unset, .unset, .unset, .unset, .unset] []))
        refine Go.via (fun t_ k_ => XS.iload H1.here hx rfl (hb hby at_135) rfl k_) ?_
        show Go _ _ _ _ (T1.setTop (mkF m 137 #[.val (.int p1), .val (.int p2), .val (.int p3), .val (.int x), .val (.int y), .val (.int kk), .val (.long (4294967295 : Int64)), .second, .val (.long z1), .second, .val (.int (1 : Int32)), .val (.int (1 : Int32)), .val (.int (1 : Int32)), .unset, .unset, .unset, .unset, .unset, .unset, .unset, .unset, .unset, .unset, .unset, .unset, .unset, .unset] [(.int (1 : Int32))]))
        refine Go.via (fun t_ k_ => XS.ifNo H1.here hx rfl (hb hby at_137) rfl ((if0 _ _).trans (feq (show ¬ ((1 : Int32) = (0 : Int32)) from (by decide))).1) k_) ?_
        show Go _ _ _ _ (T1.setTop (mkF m 140 #[.val (.int p1), .val (.int p2), .val (.int p3), .val (.int x), .val (.int y), .val (.int kk), .val (.long (4294967295 : Int64)), .second, .val (.long z1), .second, .val (.int (1 : Int32)), .val (.int (1 : Int32)), .val (.int (1 : Int32)), .unset, .unset, .unset, .unset, .unset, .unset, .unset, .unset, .unset, .unset, .unset, .unset, .unset, .unset] []))
        refine own_ldcL H1 hx hZ hown (hw _ (List.mem_of_getElem? (i := 9) rfl)) (g := (mkF m 140 #[.val (.int p1), .val (.int p2), .val (.int p3), .val (.int x), .val (.int y), .val (.int kk), .val (.long (4294967295 : Int64)), .second, .val (.long z1), .second, .val (.int (1 : Int32)), .val (.int (1 : Int32)), .val (.int (1 : Int32)), .unset, .unset, .unset, .unset, .unset, .unset, .unset, .unset, .unset, .unset, .unset, .unset, .unset, .unset] [])) rfl (hb hby at_140) ?_
        show Go _ _ _ _ (T1.setTop (mkF m 143 #[.val (.int p1), .val (.int p2), .val (.int p3), .val (.int x), .val (.int y), .val (.int kk), .val (.long (4294967295 : Int64)), .second, .val (.long z1), .second, .val (.int (1 : Int32)), .val (.int (1 : Int32)), .val (.int (1 : Int32)), .unset, .unset, .unset, .unset, .unset, .unset, .unset, .unset, .unset, .unset, .unset, .unset, .unset, .unset] [(.long (2 : Int64))]))
        refine Go.via (fun t_ k_ => XS.lstore H1.here hx rfl (hb hby at_143) rfl (l' := #[.val (.int p1), .val (.int p2), .val (.int p3), .val (.int x), .val (.int y), .val (.int kk), .val (.long (4294967295 : Int64)), .second, .val (.long z1), .second, .val (.int (1 : Int32)), .val (.int (1 : Int32)), .val (.int (1 : Int32)), .val (.long (2 : Int64)), .second, .unset, .unset, .unset, .unset, .unset, .unset, .unset, .unset, .unset, .unset, .unset, .unset]) rfl k_) ?_
        show Go _ _ _ _ (T1.setTop (mkF m 145 #[.val (.int p1), .val (.int p2), .val (.int p3), .val (.int x), .val (.int y), .val (.int kk), .val (.long (4294967295 : Int64)), .second, .val (.long z1), .second, .val (.int (1 : Int32)), .val (.int (1 : Int32)), .val (.int (1 : Int32)), .val (.long (2 : Int64)), .second, .unset, .unset, .unset, .unset, .unset, .unset, .unset, .unset, .unset, .unset, .unset, .unset] []))
        refine Go.via (fun t_ k_ => XS.goto H1.here hx rfl (pc0 := 145) (pc' := 153) rfl (hb hby at_145) (by decide) (by decide) k_) ?_
        show Go _ _ _ _ (T1.setTop (mkF m 153 #[.val (.int p1), .val (.int p2), .val (.int p3), .val (.int x), .val (.int y), .val (.int kk), .val (.long (4294967295 : Int64)), .second, .val (.long z1), .second, .val (.int (1 : Int32)), .val (.int (1 : Int32)), .val (.int (1 : Int32)), .val (.long (2 : Int64)), .second, .unset, .unset, .unset, .unset, .unset, .unset, .unset, .unset, .unset, .unset, .unset, .unset] []))
        exact J153 T1 (1 : Int32) (1 : Int32) (2 : Int64) H1 (own_qz qz1 (n := 2) (by decide) (by rw [own_quad hX hY, if_neg (fun u => hc83 ((own_bit (n := 15) qx (by decide) hX).mpr u)), if_neg (fun u => hc98 ((own_bit (n := 15) qy (by decide) hY).mpr u))]))
  show Go _ _ _ _ (T0.setTop (mkF m 0 #[.val (.int p1), .val (.int p2), .val (.int p3), .unset, .unset, .unset, .unset, .unset, .unset, .unset, .unset, .unset, .unset, .unset, .unset, .unset, .unset, .unset, .unset, .unset, .unset, .unset, .unset, .unset, .unset, .unset, .unset] []))
  refine Go.via (fun t_ k_ => XS.iloadN H0.here hx rfl (hb hby at_0) rfl k_) ?_
  show Go _ _ _ _ (T0.setTop (mkF m 1 #[.val (.int p1), .val (.int p2), .val (.int p3), .unset, .unset, .unset, .unset, .unset, .unset, .unset, .unset, .unset, .unset, .unset, .unset, .unset, .unset, .unset, .unset, .unset, .unset, .unset, .unset, .unset, .unset, .unset, .unset] [(.int p1)]))
  refine own_ldcI H0 hx hZ hown (hw _ (List.mem_of_getElem? (i := 0) rfl)) (g := (mkF m 1 #[.val (.int p1), .val (.int p2), .val (.int p3), .unset, .unset, .unset, .unset, .unset, .unset, .unset, .unset, .unset, .unset, .unset, .unset, .unset, .unset, .unset, .unset, .unset, .unset, .unset, .unset, .unset, .unset, .unset, .unset] [(.int p1)])) rfl (hb hby at_1) ?_
  show Go _ _ _ _ (T0.setTop (mkF m 3 #[.val (.int p1), .val (.int p2), .val (.int p3), .unset, .unset, .unset, .unset, .unset, .unset, .unset, .unset, .unset, .unset, .unset, .unset, .unset, .unset, .unset, .unset, .unset, .unset, .unset, .unset, .unset, .unset, .unset, .unset] [(.int (65535 : Int32)), (.int p1)]))
  refine Go.via (fun t_ k_ => XS.iand H0.here hx rfl (hb hby at_3) rfl k_) ?_
  show Go _ _ _ _ (T0.setTop (mkF m 4 #[.val (.int p1), .val (.int p2), .val (.int p3), .unset, .unset, .unset, .unset, .unset, .unset, .unset, .unset, .unset, .unset, .unset, .unset, .unset, .unset, .unset, .unset, .unset, .unset, .unset, .unset, .unset, .unset, .unset, .unset] [(.int (p1 &&& (65535 : Int32)))]))
  refine Go.via (fun t_ k_ => XS.istoreN H0.here hx rfl (hb hby at_4) rfl (l' := #[.val (.int p1), .val (.int p2), .val (.int p3), .val (.int (p1 &&& (65535 : Int32))), .unset, .unset, .unset, .unset, .unset, .unset, .unset, .unset, .unset, .unset, .unset, .unset, .unset, .unset, .unset, .unset, .unset, .unset, .unset, .unset, .unset, .unset, .unset]) rfl k_) ?_
  show Go _ _ _ _ (T0.setTop (mkF m 5 #[.val (.int p1), .val (.int p2), .val (.int p3), .val (.int (p1 &&& (65535 : Int32))), .unset, .unset, .unset, .unset, .unset, .unset, .unset, .unset, .unset, .unset, .unset, .unset, .unset, .unset, .unset, .unset, .unset, .unset, .unset, .unset, .unset, .unset, .unset] []))
  refine Go.via (fun t_ k_ => XS.iloadN H0.here hx rfl (hb hby at_5) rfl k_) ?_
  show Go _ _ _ _ (T0.setTop (mkF m 6 #[.val (.int p1), .val (.int p2), .val (.int p3), .val (.int (p1 &&& (65535 : Int32))), .unset, .unset, .unset, .unset, .unset, .unset, .unset, .unset, .unset, .unset, .unset, .unset, .unset, .unset, .unset, .unset, .unset, .unset, .unset, .unset, .unset, .unset, .unset] [(.int p2)]))
  refine own_ldcI H0 hx hZ hown (hw _ (List.mem_of_getElem? (i := 0) rfl)) (g := (mkF m 6 #[.val (.int p1), .val (.int p2), .val (.int p3), .val (.int (p1 &&& (65535 : Int32))), .unset, .unset, .unset, .unset, .unset, .unset, .unset, .unset, .unset, .unset, .unset, .unset, .unset, .unset, .unset, .unset, .unset, .unset, .unset, .unset, .unset, .unset, .unset] [(.int p2)])) rfl (hb hby at_6) ?_
  show Go _ _ _ _ (T0.setTop (mkF m 8 #[.val (.int p1), .val (.int p2), .val (.int p3), .val (.int (p1 &&& (65535 : Int32))), .unset, .unset, .unset, .unset, .unset, .unset, .unset, .unset, .unset, .unset, .unset, .unset, .unset, .unset, .unset, .unset, .unset, .unset, .unset, .unset, .unset, .unset, .unset] [(.int (65535 : Int32)), (.int p2)]))
  refine Go.via (fun t_ k_ => XS.iand H0.here hx rfl (hb hby at_8) rfl k_) ?_
  show Go _ _ _ _ (T0.setTop (mkF m 9 #[.val (.int p1), .val (.int p2), .val (.int p3), .val (.int (p1 &&& (65535 : Int32))), .unset, .unset, .unset, .unset, .unset, .unset, .unset, .unset, .unset, .unset, .unset, .unset, .unset, .unset, .unset, .unset, .unset, .unset, .unset, .unset, .unset, .unset, .unset] [(.int (p2 &&& (65535 : Int32)))]))
  refine Go.via (fun t_ k_ => XS.istore H0.here hx rfl (hb hby at_9) rfl (l' := #[.val (.int p1), .val (.int p2), .val (.int p3), .val (.int (p1 &&& (65535 : Int32))), .val (.int (p2 &&& (65535 : Int32))), .unset, .unset, .unset, .unset, .unset, .unset, .unset, .unset, .unset, .unset, .unset, .unset, .unset, .unset, .unset, .unset, .unset, .unset, .unset, .unset, .unset, .unset]) rfl k_) ?_
  show Go _ _ _ _ (T0.setTop (mkF m 11 #[.val (.int p1), .val (.int p2), .val (.int p3), .val (.int (p1 &&& (65535 : Int32))), .val (.int (p2 &&& (65535 : Int32))), .unset, .unset, .unset, .unset, .unset, .unset, .unset, .unset, .unset, .unset, .unset, .unset, .unset, .unset, .unset, .unset, .unset, .unset, .unset, .unset, .unset, .unset] []))
  refine Go.via (fun t_ k_ => XS.iloadN H0.here hx rfl (hb hby at_11) rfl k_) ?_
  show Go _ _ _ _ (T0.setTop (mkF m 12 #[.val (.int p1), .val (.int p2), .val (.int p3), .val (.int (p1 &&& (65535 : Int32))), .val (.int (p2 &&& (65535 : Int32))), .unset, .unset, .unset, .unset, .unset, .unset, .unset, .unset, .unset, .unset, .unset, .unset, .unset, .unset, .unset, .unset, .unset, .unset, .unset, .unset, .unset, .unset] [(.int p3)]))
  refine Go.via (fun t_ k_ => XS.bipush H0.here hx rfl (hb hby at_12) k_) ?_
  show Go _ _ _ _ (T0.setTop (mkF m 14 #[.val (.int p1), .val (.int p2), .val (.int p3), .val (.int (p1 &&& (65535 : Int32))), .val (.int (p2 &&& (65535 : Int32))), .unset, .unset, .unset, .unset, .unset, .unset, .unset, .unset, .unset, .unset, .unset, .unset, .unset, .unset, .unset, .unset, .unset, .unset, .unset, .unset, .unset, .unset] [(.int (15 : Int32)), (.int p3)]))
  refine Go.via (fun t_ k_ => XS.iand H0.here hx rfl (hb hby at_14) rfl k_) ?_
  show Go _ _ _ _ (T0.setTop (mkF m 15 #[.val (.int p1), .val (.int p2), .val (.int p3), .val (.int (p1 &&& (65535 : Int32))), .val (.int (p2 &&& (65535 : Int32))), .unset, .unset, .unset, .unset, .unset, .unset, .unset, .unset, .unset, .unset, .unset, .unset, .unset, .unset, .unset, .unset, .unset, .unset, .unset, .unset, .unset, .unset] [(.int (p3 &&& (15 : Int32)))]))
  refine Go.via (fun t_ k_ => XS.istore H0.here hx rfl (hb hby at_15) rfl (l' := #[.val (.int p1), .val (.int p2), .val (.int p3), .val (.int (p1 &&& (65535 : Int32))), .val (.int (p2 &&& (65535 : Int32))), .val (.int (p3 &&& (15 : Int32))), .unset, .unset, .unset, .unset, .unset, .unset, .unset, .unset, .unset, .unset, .unset, .unset, .unset, .unset, .unset, .unset, .unset, .unset, .unset, .unset, .unset]) rfl k_) ?_
  show Go _ _ _ _ (T0.setTop (mkF m 17 #[.val (.int p1), .val (.int p2), .val (.int p3), .val (.int (p1 &&& (65535 : Int32))), .val (.int (p2 &&& (65535 : Int32))), .val (.int (p3 &&& (15 : Int32))), .unset, .unset, .unset, .unset, .unset, .unset, .unset, .unset, .unset, .unset, .unset, .unset, .unset, .unset, .unset, .unset, .unset, .unset, .unset, .unset, .unset] []))
  refine own_ldcL H0 hx hZ hown (hw _ (List.mem_of_getElem? (i := 1) rfl)) (g := (mkF m 17 #[.val (.int p1), .val (.int p2), .val (.int p3), .val (.int (p1 &&& (65535 : Int32))), .val (.int (p2 &&& (65535 : Int32))), .val (.int (p3 &&& (15 : Int32))), .unset, .unset, .unset, .unset, .unset, .unset, .unset, .unset, .unset, .unset, .unset, .unset, .unset, .unset, .unset, .unset, .unset, .unset, .unset, .unset, .unset] [])) rfl (hb hby at_17) ?_
  show Go _ _ _ _ (T0.setTop (mkF m 20 #[.val (.int p1), .val (.int p2), .val (.int p3), .val (.int (p1 &&& (65535 : Int32))), .val (.int (p2 &&& (65535 : Int32))), .val (.int (p3 &&& (15 : Int32))), .unset, .unset, .unset, .unset, .unset, .unset, .unset, .unset, .unset, .unset, .unset, .unset, .unset, .unset, .unset, .unset, .unset, .unset, .unset, .unset, .unset] [(.long (4294967295 : Int64))]))
  refine Go.via (fun t_ k_ => XS.lstore H0.here hx rfl (hb hby at_20) rfl (l' := #[.val (.int p1), .val (.int p2), .val (.int p3), .val (.int (p1 &&& (65535 : Int32))), .val (.int (p2 &&& (65535 : Int32))), .val (.int (p3 &&& (15 : Int32))), .val (.long (4294967295 : Int64)), .second, .unset, .unset, .unset, .unset, .unset, .unset, .unset, .unset, .unset, .unset, .unset, .unset, .unset, .unset, .unset, .unset, .unset, .unset, .unset]) rfl k_) ?_
  show Go _ _ _ _ (T0.setTop (mkF m 22 #[.val (.int p1), .val (.int p2), .val (.int p3), .val (.int (p1 &&& (65535 : Int32))), .val (.int (p2 &&& (65535 : Int32))), .val (.int (p3 &&& (15 : Int32))), .val (.long (4294967295 : Int64)), .second, .unset, .unset, .unset, .unset, .unset, .unset, .unset, .unset, .unset, .unset, .unset, .unset, .unset, .unset, .unset, .unset, .unset, .unset, .unset] []))
  obtain ⟨X, qx, hX⟩ := own_m16 p1
  obtain ⟨Y, qy, hY⟩ := own_m16 p2
  obtain ⟨K, qk, hK⟩ := own_m4 p3
  exact J22 T0 _ _ _ X Y K H0 qx qy qk hX hY hK
set_option maxRecDepth 65536 in
set_option maxHeartbeats 40000000 in
theorem comes_1 {Post : Tables → Env → Array Value → State → Outcome → State → Prop} (hpost : ∀ tb e args s v u, (limb_1_1.after args s (.returned v) u = true ∧ limb_1_2.after args s (.returned v) u = true ∧ True) → FrameEnd s (.returned v) u (Jvm.fieldLocs frame_1_writes args s ++ Jvm.arrayLocs frame_1_arrays args s ++ Jvm.staticLocs frame_1_statics s) 0 0 → Post tb e args s (.returned v) u) :
    ArmFor flags0 classFile x code maxLocals ret World_1 tables_1 room_1 Calls_1 rest_1 Pre_1 Post := by
  intro l hfl _ _ p e ha hc hk s m args below hf hA hF happ hP
  obtain ⟨hcalls, hrest, hpre⟩ := hP
  obtain ⟨-, -, -, hnamed, -, -, -, hat⟩ := (Spec.applies_iff hf).mp happ
  obtain ⟨hg, hn⟩ := and_e (Cond.before_iff.mp (show (Jvm.Cond.and given_1 narrow_1).before args s = true from hpre))
  obtain ⟨g0, g1⟩ := and_e hg
  obtain ⟨i0, r0⟩ := and_e g1
  obtain ⟨i1, r1⟩ := and_e r0
  obtain ⟨w0, w1, w2, rfl⟩ : ∃ w0 w1 w2 : Value, args = #[w0, w1, w2] := by
    have hs : args.size = 3 := by simpa [Cond.value, given_1] using g0
    obtain ⟨L⟩ := args
    match L, hs with
    | [w0, w1, w2], _ => exact ⟨w0, w1, w2, rfl⟩
  have hw := fun d (hd : d ∈ tables_1) => atoms_spec (ws := Jvm.Cond.code x code maxLocals ret :: tables_1) hat d (List.mem_cons_of_mem _ hd)
  have hfit : Fit s := fun {y c} hc i hi => by
    obtain ⟨ha, rfl⟩ := Array.getElem?_eq_some_iff.mp hc
    have q := List.all_eq_true.mp ((Array.all_eq_true_iff_forall_mem.mp hF) _ (Array.getElem_mem ha)) i (List.mem_range.mpr hi)
    simpa [Array.getElem?_eq_getElem hi] using q
  obtain ⟨v0, e0⟩ := is_v i0
  obtain rfl : w0 = (.int v0) := Option.some.inj e0
  obtain ⟨v1, e1⟩ := is_v i1
  obtain rfl : w1 = (.int v1) := Option.some.inj e1
  obtain ⟨v2, e2⟩ := is_v r1
  obtain rfl : w2 = (.int v2) := Option.some.inj e2
  obtain ⟨n, o, h1, h2, h3, _, L, rfl, ⟨rfl, N⟩, hq⟩ := rm0 l s _ hw v0 v1 v2 s.heap s.heap.size tables_1 p e ha hc hk s m _ below hf ((Spec.applies_iff_loose hf).mp happ).1 ⟨rfl, State.Warmed39.refl s, rfl⟩ trivial
  refine ⟨n, _, h1, h2, h3, hpost _ _ _ _ _ _ ⟨Cond.after_iff.mpr rfl, Cond.after_iff.mpr (eq_i res_at (Term.int_eval (1)) rfl), trivial⟩ ⟨hq.1, hq.2.1, (hq.2.2.sift fun y hy => Or.inr (N y hy)).mono (by decide) (by decide)⟩⟩
theorem main_1_1 : Claimed_1_1 := comes_1 fun _ _ _ _ _ _ h hF => ⟨h.1, hF⟩
theorem main_1_2 : Claimed_1_2 := comes_1 fun _ _ _ _ _ _ h hF => ⟨h.2.1, hF⟩
end Jvm.Pilot.@@N@@
namespace Jvm.Pilot.@@N@@
open Jvm Jvm.ClassFile Sem Op Lib Jvm.Free Jvm.Stand Jvm.Pilot.@@N@@.Jvm.D
/-! MADE BY PROGRAM (witnessworld.py) out of the Statement's table words and the real class files: 9 classes; the members and pool entries that the words name. The judged class is class 1, her method 1. -/
namespace start1
open Jvm.ClassFile
def u (s : String) : CpInfo := .utf8 (stringToUtf16 s)
/-- a pool by its gaps: so many unusable entries, then the entry; so many at the end -/
def gap : Nat → List CpInfo → List CpInfo
  | 0, r => r
  | n + 1, r => .unusable :: gap n r
def poolList (es : List (Nat × CpInfo)) (last : Nat) : List CpInfo := es.foldr (fun e r => gap e.1 (e.2 :: r)) (gap last [])
def pool (es : List (Nat × CpInfo)) (last : Nat) : Array CpInfo := ⟨poolList es last⟩
def fileOf (pool : Array CpInfo) (this : Nat) (attrs : Array Attribute := #[]) (ms : Array MethodInfo := #[]) (fl : Nat := 33) (sup : Nat := 0) (ifs : Array Nat := #[]) (fds : Array FieldInfo := #[]) : ClassFile where
  minorVersion := 0
  majorVersion := 65
  constantPool := pool
  accessFlags := fl
  thisClass := this
  superClass := sup
  interfaces := ifs
  fields := fds
  methods := ms
  attributes := attrs
def plain (name : String) (sup : Option ClassId) : Class where
  name := name
  kind := .ordinary
  loader := none
  accessFlags := 33
  super := sup
  interfaces := #[]
  cf := none
  fields := #[]
  methods := #[]
  instanceTypes := #[]
  staticTypes := #[]
  resolved := #[]
  callSites := []
  init := .initialized
  statics := none
  mirror := none

def pool0 : Array CpInfo := pool [(5, u "<init>"), (0, u "()V"), (1, .class_ 10), (1, u "java/lang/Object")] 113

def k0m0 : Method := { name := "<init>", desc := "()V", sig := { parameters := [], returnType := none }, accessFlags := 1, code := none }
/-- java/lang/Object -/
def k0 : Class := { plain "java/lang/Object" none with
  accessFlags := 33
  interfaces := #[]
  cf := some (fileOf pool0 8 #[] #[{ accessFlags := 1, nameIndex := 5, descriptorIndex := 6, attributes := #[] }] 33 0 #[] #[])
  fields := #[]
  methods := #[k0m0]
  instanceTypes := #[]
  staticTypes := #[]
  resolved := Array.replicate 124 none
  statics := none }

def pool1 : Array CpInfo := pool [(2, .class_ 4), (1, u "java/lang/Object"), (0, u "<init>"), (0, u "()V"), (0, .integer 65535), (0, .long 4294967295), (1, .methodref 11 12), (0, .class_ 13), (0, .nameAndType 14 15), (0, u "com/example/neardb/neardb/index/Grid"), (0, u "hilbertPlace"), (0, u "(II)J"), (0, .integer 32768), (0, .long 2), (1, .long 3), (1, .long 18446744073709551615), (1, .class_ 24), (0, u "com/example/neardb/neardb/index/GridHilbertPlacePinLaw"), (2, u "law"), (0, u "(III)Z")] 3

def k1m0 : Method := { name := "<init>", desc := "()V", sig := { parameters := [], returnType := none }, accessFlags := 2, code := none }
def k1c1 : Code := { maxStack := 6, maxLocals := 27, code := code, exceptionTable := #[], attributes := #[] }
def k1m1 : Method := { name := "law", desc := "(III)Z", sig := { parameters := [.int, .int, .int], returnType := some .boolean }, accessFlags := 9, code := some k1c1 }
/-- com/example/neardb/neardb/index/GridHilbertPlacePinLaw -/
def k1 : Class := { plain "com/example/neardb/neardb/index/GridHilbertPlacePinLaw" (some 0) with
  accessFlags := 49
  interfaces := #[]
  cf := some (fileOf pool1 23 #[] #[{ accessFlags := 2, nameIndex := 5, descriptorIndex := 6, attributes := #[] }, { accessFlags := 9, nameIndex := 27, descriptorIndex := 28, attributes := #[] }] 49 2 #[] #[])
  fields := #[]
  methods := #[k1m0, k1m1]
  instanceTypes := #[]
  staticTypes := #[]
  resolved := Array.replicate 32 none
  statics := none }

def pool2 : Array CpInfo := pool [(1, .class_ 2), (0, u "com/example/neardb/neardb/index/Grid"), (1, .class_ 6), (1, u "java/lang/Object"), (0, u "<init>"), (0, u "()V"), (29, .integer 32768), (0, u "CELLS"), (0, u "I"), (1, u "CELL_SHARE"), (0, u "D"), (5, u "hilbertPlace"), (0, u "(II)J")] 2

def k2m0 : Method := { name := "<init>", desc := "()V", sig := { parameters := [], returnType := none }, accessFlags := 2, code := none }
def k2c1 : Code := { maxStack := 6, maxLocals := 11, code := prog_28_method_4_code, exceptionTable := #[], attributes := #[] }
def k2m1 : Method := { name := "hilbertPlace", desc := "(II)J", sig := { parameters := [.int, .int], returnType := some .long }, accessFlags := 8, code := some k2c1 }
/-- com/example/neardb/neardb/index/Grid -/
def k2 : Class := { plain "com/example/neardb/neardb/index/Grid" (some 0) with
  accessFlags := 48
  interfaces := #[]
  cf := some (fileOf pool2 1 #[] #[{ accessFlags := 2, nameIndex := 7, descriptorIndex := 8, attributes := #[] }, { accessFlags := 8, nameIndex := 49, descriptorIndex := 50, attributes := #[] }] 48 4 #[] #[{ accessFlags := 24, nameIndex := 39, descriptorIndex := 40, attributes := #[] }, { accessFlags := 26, nameIndex := 42, descriptorIndex := 43, attributes := #[] }])
  fields := #[{ name := "CELLS", type := .int, accessFlags := 24, slot := 0, constantValue := 0 }, { name := "CELL_SHARE", type := .double, accessFlags := 26, slot := 1, constantValue := 0 }]
  methods := #[k2m0, k2m1]
  instanceTypes := #[]
  staticTypes := #[.int, .double]
  resolved := Array.replicate 53 none
  statics := none }

def pool3 : Array CpInfo := pool [(1, u "java/lang/Cloneable"), (0, .class_ 1), (0, u "java/lang/Object"), (0, .class_ 3)] 3

/-- java/lang/Cloneable -/
def k3 : Class := { plain "java/lang/Cloneable" (some 0) with
  accessFlags := 1537
  interfaces := #[]
  cf := some (fileOf pool3 2 #[] #[] 1537 4 #[] #[])
  fields := #[]
  methods := #[]
  instanceTypes := #[]
  staticTypes := #[]
  resolved := Array.replicate 8 none
  statics := none }

def pool4 : Array CpInfo := pool [(1, u "java/io/Serializable"), (0, .class_ 1), (0, u "java/lang/Object"), (0, .class_ 3)] 3

/-- java/io/Serializable -/
def k4 : Class := { plain "java/io/Serializable" (some 0) with
  accessFlags := 1537
  interfaces := #[]
  cf := some (fileOf pool4 2 #[] #[] 1537 4 #[] #[])
  fields := #[]
  methods := #[]
  instanceTypes := #[]
  staticTypes := #[]
  resolved := Array.replicate 8 none
  statics := none }

/-- the primitive byte -/
def k5 : Class := { plain "byte" none with kind := .primitive 'B', accessFlags := 0x411 }
/-- [B -/
def k6 : Class := { plain "[B" (some 0) with kind := .array 5 .byte, interfaces := #[3, 4], accessFlags := 1041 }

/-- the primitive int -/
def k7 : Class := { plain "int" none with kind := .primitive 'I', accessFlags := 0x411 }
/-- [I -/
def k8 : Class := { plain "[I" (some 0) with kind := .array 7 .int, interfaces := #[3, 4], accessFlags := 1041 }

def heap : Heap := #[]
def classes : Array Class := #[k0, k1, k2, k3, k4, k5, k6, k7, k8]
def interned : List (Array UInt16 × Addr) := []
def slotsUsed : Nat := 0
def theMethod : MethodId := ⟨1, 1⟩
def args0 : Array Value := #[.int 5, .int 6, .int 7]
def aboutOver (below : List Frame) : State where
  vm := { classes := classes, interned := interned.toArray }
  heap := heap
  slotsUsed := slotsUsed
  threads := #[{ frames := .invoking theMethod args0 :: below }]
def below0 : List Frame := [.native { method := ⟨0, 0⟩, args := #[] }]
def about1 : State := aboutOver below0
def p0 : Program := .bare "" "" ""
def e0 : Env := launch0.env 0 0 0
theorem w_frames : about1.frames = Frame.invoking theMethod args0 :: below0 := rfl
set_option maxRecDepth 65536 in
theorem w_args : argsFit about1.vm theMethod args0 = true := by decide +kernel
set_option maxRecDepth 65536 in
theorem w_heap : heapFits about1 = true := by decide +kernel
set_option maxRecDepth 65536 in
theorem w_runnable : about1.curStatus? = some .runnable := by decide +kernel
set_option maxRecDepth 65536 in
theorem w_alone : about1.alone = true := by decide +kernel
set_option maxRecDepth 65536 in
theorem w_named : about1.methodNamed? x = some theMethod := by decide +kernel
set_option maxRecDepth 65536 in
theorem w_hears : about1.hears theMethod below0 = true := by decide +kernel
set_option maxRecDepth 65536 in
theorem w_ripe : about1.ripe theMethod args0 below0 = true := by decide +kernel
theorem w_running : about1.status = .running := rfl
set_option maxRecDepth 65536 in
theorem w_room : about1.hasRoom e0.platform room_1 = true :=
  launch0.hasRoom_least _ room_1 (by decide +kernel) (by decide +kernel) (by decide +kernel) (by decide +kernel) (by decide +kernel) (by decide +kernel)
theorem allAtoms_all (ts : List Jvm.Cond) (a : Array Jvm.Value) (st : Jvm.State) : (allAtoms ts).before a st = ts.all (fun c => c.before a st) := by
  induction ts with
  | nil => rfl
  | cons c t ih =>
    show (Jvm.Cond.and c (allAtoms t)).before a st = _
    rw [Jvm.Cond.before_and, ih, List.all_cons]
def words1 : List Jvm.Cond := Jvm.Cond.code x code maxLocals ret :: tables_1
/-- a 'code' word, met by the world's own term for the bytes: nothing is compared byte by byte -/
theorem code_word {y : MethodName} {bytes : ByteArray} {mx : Nat} {rt : Option FieldType} {a : Array Value} {s : State} {m : MethodId} {meth : Method} {c : Code} (h1 : s.methodNamed? y = some m) (h2 : s.vm.method? m = some meth) (h3 : meth.code = some c) (h4 : c.code = bytes)
    (h5 : (c.maxLocals == mx && c.exceptionTable.isEmpty && decide (c.maxStack ≤ mostOperands) && decide (meth.sig.returnType = rt) && !meth.locks && decide (parseMethodDescriptor y.desc = some meth.sig)) = true) : (Jvm.Cond.code y bytes mx rt).before a s = true := by
  simp only [Bool.and_eq_true, beq_iff_eq, Bool.not_eq_true', decide_eq_true_eq] at h5
  obtain ⟨⟨⟨⟨⟨g1, g2⟩, g3⟩, g4⟩, g5⟩, g6⟩ := h5
  simp [Cond.before, Cond.holds, Cond.value, h1, h2, h3, h4, g1, g2, g3, g4, g5, g6]
def isCode : Jvm.Cond → Bool
  | .code _ _ _ _ => true
  | _ => false
theorem all_split {L : List Jvm.Cond} {P : Jvm.Cond → Bool} (h1 : L.all (fun c => isCode c || P c) = true) (h2 : ∀ c ∈ L.filter isCode, P c = true) : L.all P = true := by
  refine List.all_eq_true.mpr fun c hc => ?_
  have h := List.all_eq_true.mp h1 c hc
  rcases Bool.eq_false_or_eq_true (isCode c) with hi | hi
  · exact h2 c (List.mem_filter.mpr ⟨hc, hi⟩)
  · simpa [hi] using h
set_option maxRecDepth 65536 in
theorem w_c0 : (Jvm.Cond.code x code maxLocals ret).before args0 about1 = true := code_word (m := ⟨1, 1⟩) (meth := k1m1) (c := k1c1) (by decide +kernel) rfl rfl rfl (by decide +kernel)
set_option maxRecDepth 65536 in
theorem w_c1 : (Jvm.Cond.code ({ cls := "com/example/neardb/neardb/index/Grid", name := "hilbertPlace", desc := "(II)J" } : Jvm.MethodName) prog_28_method_4_code (11 : Nat) (Option.some Jvm.ClassFile.FieldType.long)).before args0 about1 = true := code_word (m := ⟨2, 1⟩) (meth := k2m1) (c := k2c1) (by decide +kernel) rfl rfl rfl (by decide +kernel)
def codes1 : List Jvm.Cond := [Jvm.Cond.code x code maxLocals ret, Jvm.Cond.code ({ cls := "com/example/neardb/neardb/index/Grid", name := "hilbertPlace", desc := "(II)J" } : Jvm.MethodName) prog_28_method_4_code (11 : Nat) (Option.some Jvm.ClassFile.FieldType.long)]
set_option maxRecDepth 65536 in
theorem codes_eq : words1.filter isCode = codes1 := rfl
theorem w_codes : ∀ c ∈ words1.filter isCode, c.before args0 about1 = true := by
  rw [codes_eq]
  intro c hc
  simp only [codes1, List.mem_cons, List.not_mem_nil, or_false] at hc
  rcases hc with rfl | rfl
  · exact w_c0
  · exact w_c1
set_option maxRecDepth 65536 in
theorem w_t1 : words1.all (fun c => isCode c || c.before args0 about1) = true := by decide +kernel
theorem w_tables : (allAtoms (Jvm.Cond.code x code maxLocals ret :: tables_1)).before args0 about1 = true := by
  rw [allAtoms_all]
  show words1.all (fun c => c.before args0 about1) = true
  refine all_split ?_ w_codes
  rw [w_t1]
set_option maxRecDepth 65536 in
theorem w_case : (Jvm.Cond.and given_1 narrow_1).before args0 about1 = true := by decide +kernel
theorem w_applies : (headSpec (Jvm.Cond.code x code maxLocals ret :: tables_1) room_1).applies x e0.platform about1 = true :=
  (Spec.applies_iff w_frames).mpr ⟨w_running, w_runnable, w_alone, w_named, w_hears, w_ripe, w_room, w_tables⟩
theorem atStart : AtStart classFile x code maxLocals ret World_1 tables_1 room_1 Calls_1 rest_1 Pre_1 launch0 p0 e0 about1 theMethod args0 below0 :=
  ⟨lists_1, trivial, launch0.admits_env _ _ _, launch0.least_env, fairChoices_fair.cas, fairChoices_fair.clock, w_frames, w_args, w_heap, w_applies, trivial, trivial, w_case⟩
end start1
theorem witness_1 : WitnessClaimed_1 := ⟨start1.p0, start1.e0, start1.about1, start1.theMethod, start1.args0, start1.below0, start1.atStart⟩
end Jvm.Pilot.@@N@@
