import JvmDerived
import JvmDerived.Pilot.@@N@@Statement
import JvmDerived.Pilot.@@N@@Code
set_option linter.unusedVariables false
set_option linter.unusedSimpArgs false
@@BLOCK:NumsL.lean.txt@@
@@BLOCK:LamKit.lean.txt@@
namespace Jvm.Pilot.@@N@@
open Jvm Jvm.ClassFile Sem Op Lib Jvm.Free Jvm.Stand Jvm.LawKit Jvm.RoadKit Bundle Jvm.Pilot.@@N@@.Jvm.D
section Own
variable {p : Program} {l : Launch} {e : Env} {R : Room} {s : State} {m : MethodId} {args : Array Value} {below : List Frame} {meth : Method} {c : Code} {T : State} {locs : List Loc} {cells slots : Nat} {Z : State} {a0 : Array Value} {h h' : Heap} {Po : Outcome → State → Prop}
/-- from the frame g on top of T the run comes to an end of which Po holds -/
def own_Go (p : Program) (e : Env) (below : List Frame) (Po : Outcome → State → Prop) (T : State) (g : JFrame) : Prop :=
  ∃ U o, Steps p.tables e below (T.setTop g) U ∧ U.status = .running ∧ Ended U below o ∧ Po o U
theorem own_go {T T' : State} {g g' : JFrame} (st : ∀ t, Steps p.tables e below (T'.setTop g') t → Steps p.tables e below (T.setTop g) t) (k : own_Go p e below Po T' g') : own_Go p e below Po T g := by
  obtain ⟨U, o, h1, h2⟩ := k
  exact ⟨U, o, st U h1, h2⟩
/-- what a body leaves: it returned v, Q holds of v, of the heap at its end and of the places written -/
def own_Po (s : State) (Q : Option Value → Heap → List Loc → Prop) (C S : Nat) (o : Outcome) (U : State) : Prop :=
  ∃ v L, o = .returned v ∧ Q v U.heap L ∧ FrameEnd s o U L C S
theorem own_end (X : Stand p l e R s m args below meth c T locs cells slots) (hlk : meth.locks = false) {g : JFrame} {v : Option Value} (hv : meth.sig.returnType = none → v = none) {Q : Option Value → Heap → List Loc → Prop} {C S : Nat}
    (st : ∀ fs, (∀ (f : JFrame) (acts : List Action), f.method = m → f.locked = none → f.entered = [] → (doReturn e (T.setTop f) acts v).1 = T.setFrames fs) → Steps p.tables e below (T.setTop g) (T.setFrames fs))
    (hq : Q v T.heap locs) (hc : cells ≤ C) (hs : slots ≤ S) : own_Go p e below (own_Po s Q C S) T g := by
  obtain ⟨fs, hr, hrun, hended, hW, hsame⟩ := X.leave (v := v) hv hlk
  exact ⟨_, _, st fs hr, hrun, hended, _, _, rfl, hq, ⟨_, rfl⟩, hW, hsame.mono hc hs⟩
theorem own_retI (X : Stand p l e R s m args below meth c T locs cells slots) (hx : p.tables.exec = Jvm.exec) (hlk : meth.locks = false) (hret : meth.sig.returnType = some .int) (eT : T.heap = h) {pc : Nat} {Ls : Array Slot} {z : Int32} {rest : List Value} (hd : decode c.code pc = .ok (.ireturn, 1)) {Q : Option Value → Heap → List Loc → Prop} {C S : Nat}
    (hq : Q (some (.int z)) h locs) (hc : cells ≤ C) (hs : slots ≤ S) : own_Go p e below (own_Po s Q C S) T (mkF m pc Ls (.int z :: rest)) :=
  own_end X hlk (v := some (.int z)) (fun q => by rw [hret] at q; cases q) (fun _ hr => retOut X hx hret rfl (Or.inl ⟨rfl, Or.inl rfl, _, rfl⟩) hd hr) (by rw [eT]; exact hq) hc hs
theorem own_retZ (X : Stand p l e R s m args below meth c T locs cells slots) (hx : p.tables.exec = Jvm.exec) (hlk : meth.locks = false) (hret : meth.sig.returnType = some .boolean) (eT : T.heap = h) {pc : Nat} {Ls : Array Slot} {z : Int32} {rest : List Value} (hd : decode c.code pc = .ok (.ireturn, 1)) {Q : Option Value → Heap → List Loc → Prop} {C S : Nat}
    (hq : Q (some (.int (z &&& 1))) h locs) (hc : cells ≤ C) (hs : slots ≤ S) : own_Go p e below (own_Po s Q C S) T (mkF m pc Ls (.int z :: rest)) :=
  own_end X hlk (v := some (.int (nar .boolean z))) (fun q => by rw [hret] at q; cases q) (fun _ hr => retN X hx (t := .boolean) hret (Or.inl rfl) hd hr) (by rw [eT]; exact hq) hc hs
theorem own_retJ (X : Stand p l e R s m args below meth c T locs cells slots) (hx : p.tables.exec = Jvm.exec) (hlk : meth.locks = false) (hret : meth.sig.returnType = some .long) (eT : T.heap = h) {pc : Nat} {Ls : Array Slot} {z : Int64} {rest : List Value} (hd : decode c.code pc = .ok (.lreturn, 1)) {Q : Option Value → Heap → List Loc → Prop} {C S : Nat}
    (hq : Q (some (.long z)) h locs) (hc : cells ≤ C) (hs : slots ≤ S) : own_Go p e below (own_Po s Q C S) T (mkF m pc Ls (.long z :: rest)) :=
  own_end X hlk (v := some (.long z)) (fun q => by rw [hret] at q; cases q) (fun _ hr => retOut X hx hret rfl (Or.inr (Or.inl ⟨rfl, rfl, _, rfl⟩)) hd hr) (by rw [eT]; exact hq) hc hs
theorem own_retA (X : Stand p l e R s m args below meth c T locs cells slots) (hx : p.tables.exec = Jvm.exec) (hlk : meth.locks = false) {t : FieldType} (ht : t.isReference = true) (hret : meth.sig.returnType = some t) (eT : T.heap = h) {pc : Nat} {Ls : Array Slot} {z : Value} (hz : z.isRef = true) (hn : narrow t z = z) {rest : List Value} (hd : decode c.code pc = .ok (.areturn, 1)) {Q : Option Value → Heap → List Loc → Prop} {C S : Nat}
    (hq : Q (some z) h locs) (hc : cells ≤ C) (hs : slots ≤ S) : own_Go p e below (own_Po s Q C S) T (mkF m pc Ls (z :: rest)) :=
  own_end X hlk (v := some z) (fun q => by rw [hret] at q; cases q) (fun _ hr => retOut X hx hret hn (Or.inr (Or.inr (Or.inr (Or.inr ⟨rfl, ht, hz⟩)))) hd hr) (by rw [eT]; exact hq) hc hs
theorem own_ret0 (X : Stand p l e R s m args below meth c T locs cells slots) (hx : p.tables.exec = Jvm.exec) (hlk : meth.locks = false) (hret : meth.sig.returnType = none) (eT : T.heap = h) {pc : Nat} {Ls : Array Slot} (hd : decode c.code pc = .ok (.return_, 1)) {Q : Option Value → Heap → List Loc → Prop} {C S : Nat}
    (hq : Q none h locs) (hc : cells ≤ C) (hs : slots ≤ S) : own_Go p e below (own_Po s Q C S) T (mkF m pc Ls []) :=
  own_end X hlk (v := none) (fun _ => rfl) (fun _ hr => X.returnOut hx hret hd hr) (by rw [eT]; exact hq) hc hs
/-- a body's contract -/
def own_Met (l : Launch) (y : MethodName) (bytes : ByteArray) (maxL : Nat) (ret : Option FieldType) (ws : List Jvm.Cond) (rm : Room) (Z : State) (as' : Array Value) (h0 : Heap) (Q : Option Value → Heap → List Loc → Prop) : Prop :=
  MetFree l y (head1 (Jvm.Cond.code y bytes maxL ret :: ws) rm) (fun a U => a = as' ∧ Z.Warmed39 U.vm ∧ U.heap = h0) (fun _ _ _ _ _ => True) (fun _ U o U' => ∃ v L, o = .returned v ∧ Q v U'.heap L ∧ FrameEnd U o U' L rm.cells rm.slots)
theorem own_enter {y : MethodName} {bytes : ByteArray} {maxL : Nat} {ret : Option FieldType} {ws : List Jvm.Cond} {rm : Room} {as' : Array Value} {h0 : Heap} {Q : Option Value → Heap → List Loc → Prop} (hp : plainFor y = true)
    (body : ∀ (p : Program) (e : Env) (s : State) (m : MethodId) (below : List Frame) (meth : Method) (c : Code) (T : State), Stand p l e rm s m as' below meth c T [] 0 0 → p.tables.exec = Jvm.exec → c.code = bytes → c.maxLocals = maxL → Z.Warmed39 s.vm → s.vm.findClass y.cls = some m.cls → T.heap = h0 → meth.sig.returnType = ret → meth.locks = false → meth.name = y.name →
      own_Go p e below (own_Po s Q rm.cells rm.slots) T (entryFrame m as' maxL)) : own_Met l y bytes maxL ret ws rm Z as' h0 Q := by
  refine MetFree.of_bodySF hp hisR ?_
  intro p e s m args below meth c s₁ Bd hml0 hP hK
  obtain ⟨rfl, hZ, hh⟩ := hP
  exact body p e s m below meth c s₁ (Stand.of_body Bd) Bd.exec Bd.bytes hml0 hZ (findClass_of_methodNamed Bd.named) (by rw [← hh, Bd.state]; rfl) Bd.returns Bd.notSynchronized (name_of_methodNamed Bd.named Bd.method).1
theorem own_start {g g' : JFrame} (q : g = g') (k : own_Go p e below Po T g') : own_Go p e below Po T g := q ▸ k
theorem own_callS (X : Stand p l e R s m args below meth c T locs cells slots) (hx : p.tables.exec = Jvm.exec) (hZ : Z.Warmed39 s.vm) {own : String} (hown : s.vm.findClass own = some m.cls) (eT : T.heap = h) {index : Nat} {y : MethodName} {bytes : ByteArray} {maxL : Nat} {ret : Option FieldType} {rm : Room} {Q : Option Value → Heap → List Loc → Prop}
    (w1 : (Jvm.Cond.methodLink own index y).before a0 Z = true) (w2 : (Jvm.Cond.static y).before a0 Z = true) (w3 : (Jvm.Cond.initialized y.cls).before a0 Z = true) (w4 : (Jvm.Cond.code y bytes maxL ret).before a0 Z = true) (hy : y.cls ≠ "java/lang/invoke/MethodHandle" ∧ y.cls ≠ "java/lang/invoke/VarHandle")
    {pc : Nat} {Ls : Array Slot} {argsL rest st : List Value} (M : own_Met l y bytes maxL ret [] rm Z argsL.toArray h Q) (hml : Ls.size = c.maxLocals) {ps : List FieldType} {r : Option FieldType} (hps : parseMethodDescriptor y.desc = some ⟨ps, r⟩) (hl : argsL.length = ps.length) (hst : st = argsL.reverse ++ rest)
    (hd : decode c.code pc = .ok (.invokestatic index, 3)) {W : Nat} (hW : (rest.map fun v => v.category).sum ≤ W) (hf : rm.frames + 1 ≤ R.frames) (hlo : W + (maxL + 11) + rm.locals ≤ R.locals) (hc : cells + rm.cells ≤ R.cells) (hs : slots + rm.slots ≤ R.slots)
    (k : ∀ v T' L, Stand p l e R s m args below meth c T' (locs ++ L) (cells + rm.cells) (slots + rm.slots) → Q v T'.heap L → own_Go p e below Po T' (mkF m (pc + 3) Ls (v.toList ++ rest))) : own_Go p e below Po T (mkF m pc Ls st) := by
  subst hst
  obtain ⟨v, vm₁, ⟨T', L', k', n'⟩, -, X', ⟨L, hQ, l1, y1, z1⟩, st⟩ := Jvm.LawKit.callS X hx hown (mvT hZ w1) (mvT hZ w2) (mvT hZ w3) (mvT hZ w4) hy (backOf (W := W) M hZ w4 w3 hf hlo) (g := mkF m pc Ls (argsL.reverse ++ rest)) rfl hml (argsL := argsL) (rest := rest) (lenOf hps hl) rfl (by show 2 * 0 + _ ≤ _; simpa using hW) hd (fun _ _ => ⟨rfl, eT, hc, hs⟩)
  dsimp only [Pt.U, Pt.locs, Pt.cells, Pt.slots] at X' l1 y1 z1 st hQ
  subst l1 y1 z1
  exact own_go st (k v T' L X' hQ)
theorem own_callC (X : Stand p l e R s m args below meth c T locs cells slots) (hx : p.tables.exec = Jvm.exec) (hZ : Z.Warmed39 s.vm) {own : String} (hown : s.vm.findClass own = some m.cls) (eT : T.heap = h) {index : Nat} {y : MethodName} {bytes : ByteArray} {maxL : Nat} {rm : Room} {Q : Option Value → Heap → List Loc → Prop} (hy1 : y.name = "<init>")
    (w1 : (Jvm.Cond.methodLink own index y).before a0 Z = true) (w2 : (Jvm.Cond.instanceMethod y).before a0 Z = true) (w3 : (Jvm.Cond.initialized y.cls).before a0 Z = true) (w4 : (Jvm.Cond.code y bytes maxL none).before a0 Z = true) (hy : y.cls ≠ "java/lang/invoke/MethodHandle" ∧ y.cls ≠ "java/lang/invoke/VarHandle")
    {pc : Nat} {Ls : Array Slot} {a : Addr} {argsL rest st : List Value} (M : own_Met l y bytes maxL none [] rm Z (.ref a :: argsL).toArray h Q) (hml : Ls.size = c.maxLocals) {ps : List FieldType} {r : Option FieldType} (hps : parseMethodDescriptor y.desc = some ⟨ps, r⟩) (hl : argsL.length = ps.length) (hst : st = argsL.reverse ++ .ref a :: rest)
    (hd : decode c.code pc = .ok (.invokespecial index, 3)) {W : Nat} (hW : (rest.map fun v => v.category).sum ≤ W) (hf : rm.frames + 1 ≤ R.frames) (hlo : W + (maxL + 11) + rm.locals ≤ R.locals) (hc : cells + rm.cells ≤ R.cells) (hs : slots + rm.slots ≤ R.slots)
    (k : ∀ v T' L, Stand p l e R s m args below meth c T' (locs ++ L) (cells + rm.cells) (slots + rm.slots) → Q v T'.heap L → own_Go p e below Po T' (mkF m (pc + 3) Ls (v.toList ++ rest))) : own_Go p e below Po T (mkF m pc Ls st) := by
  subst hst
  obtain ⟨v, vm₁, ⟨T', L', k', n'⟩, -, X', ⟨L, hQ, l1, y1, z1⟩, st⟩ := X.specialBack hx (y := y) hy1 hown (mvT hZ w1) (mvT hZ w2) (mvT hZ w4) hy (backOf (W := W) M hZ w4 w3 hf hlo) (g := mkF m pc Ls (argsL.reverse ++ .ref a :: rest)) rfl hml (Steps.refl _) (a := a) (argsL := argsL) (rest := rest) (lenOf hps hl) rfl (by show 2 * 0 + _ ≤ _; simpa using hW) hd (fun _ _ => ⟨rfl, eT, hc, hs⟩)
  dsimp only [Pt.U, Pt.locs, Pt.cells, Pt.slots] at X' l1 y1 z1 st hQ
  subst l1 y1 z1
  exact own_go (fun _ kk => st.trans kk) (k v T' L X' hQ)
theorem own_callV (X : Stand p l e R s m args below meth c T locs cells slots) (hx : p.tables.exec = Jvm.exec) (hZ : Z.Warmed39 s.vm) {own C : String} (hown : s.vm.findClass own = some m.cls) (eT : T.heap = h) {index : Nat} {y : MethodName} {bytes : ByteArray} {maxL : Nat} {ret : Option FieldType} {rm : Room} {Q : Option Value → Heap → List Loc → Prop}
    (w1 : (Jvm.Cond.methodLink own index y).before a0 Z = true) (w2 : (Jvm.Cond.declares y).before a0 Z = true) (w5 : (Jvm.Cond.selects C y y).before a0 Z = true) (w6 : (Jvm.Cond.instanceMethod y).before a0 Z = true) (w3 : (Jvm.Cond.initialized y.cls).before a0 Z = true) (w4 : (Jvm.Cond.code y bytes maxL ret).before a0 Z = true) (hy : y.cls ≠ "java/lang/invoke/MethodHandle" ∧ y.cls ≠ "java/lang/invoke/VarHandle")
    {pc : Nat} {Ls : Array Slot} {a : Addr} (E : Exa Z h a C) {argsL rest st : List Value} (M : own_Met l y bytes maxL ret [] rm Z (.ref a :: argsL).toArray h Q) (hml : Ls.size = c.maxLocals) {ps : List FieldType} {r : Option FieldType} (hps : parseMethodDescriptor y.desc = some ⟨ps, r⟩) (hl : argsL.length = ps.length) (hst : st = argsL.reverse ++ .ref a :: rest)
    (hd : decode c.code pc = .ok (.invokevirtual index, 3)) {W : Nat} (hW : (rest.map fun v => v.category).sum ≤ W) (hf : rm.frames + 1 ≤ R.frames) (hlo : W + (maxL + 11) + rm.locals ≤ R.locals) (hc : cells + rm.cells ≤ R.cells) (hs : slots + rm.slots ≤ R.slots)
    (k : ∀ v T' L, Stand p l e R s m args below meth c T' (locs ++ L) (cells + rm.cells) (slots + rm.slots) → Q v T'.heap L → own_Go p e below Po T' (mkF m (pc + 3) Ls (v.toList ++ rest))) : own_Go p e below Po T (mkF m pc Ls st) := by
  subst hst
  obtain ⟨cq, kq, qa, qb, qc⟩ := isOf hZ eT E
  obtain ⟨v, vm₁, ⟨T', L', k', n'⟩, -, X', ⟨L, hQ, l1, y1, z1⟩, st⟩ := X.virtualBack hx (y := y) (z := y) hown (mvT hZ w1) (mvT hZ w2) (notFace_of_selects (args := #[]) (mvT hZ w5)) (mvT hZ w5) (mvT hZ w6) hy (backOf (W := W) M hZ w4 w3 hf hlo) qa qc (g := mkF m pc Ls (argsL.reverse ++ .ref a :: rest)) rfl hml (Steps.refl _) (argsL := argsL) (rest := rest) (lenOf hps hl) rfl (by show 2 * 0 + _ ≤ _; simpa using hW) hd (fun _ _ => ⟨rfl, eT, hc, hs⟩)
  dsimp only [Pt.U, Pt.locs, Pt.cells, Pt.slots] at X' l1 y1 z1 st hQ
  subst l1 y1 z1
  exact own_go (fun _ kk => st.trans kk) (k v T' L X' hQ)
/-- an array of n places, place j holds f j -/
def own_Ar (Z : State) (h : Heap) (a : Addr) (ty : FieldType) (n : Nat) (f : Nat → Value) : Prop := ∃ cl : Cell, Arr Z h a cl ty ∧ cl.slots.size = n ∧ ∀ j, j < n → cl.slots[j]? = some (f j)
def own_up (f : Nat → Value) (k : Nat) (v : Value) : Nat → Value := fun i => if i = k then v else f i
theorem own_up_eq (f : Nat → Value) (k : Nat) (v : Value) : own_up f k v k = v := if_pos rfl
theorem own_up_ne (f : Nat → Value) {k j : Nat} (v : Value) (q : j ≠ k) : own_up f k v j = f j := if_neg q
variable {a b : Addr} {ty : FieldType} {n sl : Nat} {f : Nat → Value} {v : Value} {wl : List Addr}
theorem own_Ar_lt (F : own_Ar Z h a ty n f) : a < h.size := by
  obtain ⟨_, A, _⟩ := F
  exact A.lt
theorem own_Ar_ext (F : own_Ar Z h a ty n f) (E : Ext h h') : own_Ar Z h' a ty n f := by
  obtain ⟨cl, A, r⟩ := F
  exact ⟨cl, A.ext E, r⟩
theorem own_Ar_other (F : own_Ar Z h b ty n f) (W : Wr h h' a sl v) (q : b ≠ a) : own_Ar Z h' b ty n f := by
  obtain ⟨cl, A, r⟩ := F
  exact ⟨cl, A.other W q, r⟩
theorem own_Ar_keep (F : own_Ar Z h a ty n f) (K : Keep h h' wl) (q : a ∉ wl) : own_Ar Z h' a ty n f := by
  obtain ⟨cl, A, r⟩ := F
  exact ⟨cl, ⟨K.2.1 _ _ A.1 q, A.2⟩, r⟩
theorem own_Ar_new {cA : ClassId} {z : Int32} (A : Arr Z h a (newA cA ty z) ty) (q : z.toNatClampNeg = n) : own_Ar Z h a ty n (fun _ => defaultValue ty) := by
  refine ⟨_, A, (sz_new cA ty z).trans q, fun j hj => ?_⟩
  simp [newA, q, hj]
theorem own_Ar_set (F : own_Ar Z h a ty n f) (W : Wr h h' a sl v) : own_Ar Z h' a ty n (own_up f sl v) := by
  obtain ⟨cl, A, r, g⟩ := F
  refine ⟨_, A.same W, (sz_set cl sl v).trans r, fun j hj => ?_⟩
  show (cl.slots.setIfInBounds sl v)[j]? = some (if j = sl then v else f j)
  rw [Array.getElem?_setIfInBounds]
  by_cases q : sl = j
  · subst q
    simp [r, hj]
  · rw [if_neg q, if_neg (Ne.symm q)]
    exact g j hj
theorem own_Ar_eq {g : Nat → Value} (F : own_Ar Z h a ty n f) (q : ∀ i, i < n → f i = g i) : own_Ar Z h a ty n g := by
  obtain ⟨cl, A, r, w⟩ := F
  exact ⟨cl, A, r, fun j hj => (w j hj).trans (congrArg some (q j hj))⟩
theorem own_idx {j : Int32} {k n : Nat} (hj : j.toInt = (k : Int)) (hk : k < n) : j.toNatClampNeg = k ∧ ¬ (j < 0 ∨ n ≤ j.toNatClampNeg) := by
  have h1 : j.toNatClampNeg = k := by
    show j.toInt.toNat = k
    rw [hj]; rfl
  refine ⟨h1, ?_⟩
  have h0 : (0 : Int32).toInt = 0 := rfl
  rw [h1, Int32.lt_iff_toInt_lt, hj, h0]
  omega
theorem own_iaload (X : Stand p l e R s m args below meth c T locs cells slots) (hx : p.tables.exec = Jvm.exec) (hZ : Z.Warmed39 s.vm) (eT : T.heap = h) (A : own_Ar Z h a .int n f) {j : Int32} (k : Nat) (hj : j.toInt = (k : Int)) (hk : k < n) {pc : Nat} {Ls : Array Slot} {st : List Value} (hd : decode c.code pc = .ok (.iaload, 1))
    (go : own_Go p e below Po T (mkF m (pc + 1) Ls (f k :: st))) : own_Go p e below Po T (mkF m pc Ls (.int j :: .ref a :: st)) := by
  obtain ⟨cl, A, r, w⟩ := A
  obtain ⟨q1, q2⟩ := own_idx hj hk
  exact own_go (fun _ kk => X.iaload hx (j := j) (v := f k) (by rw [eT]; exact A.1) (State.isArrayOf_alike hZ.alike A.2.1) A.2.2 (by rw [r]; exact q2) (by rw [q1]; exact w k hk) (g := mkF m pc Ls (.int j :: .ref a :: st)) rfl rfl hd _ kk) go
theorem own_laload (X : Stand p l e R s m args below meth c T locs cells slots) (hx : p.tables.exec = Jvm.exec) (hZ : Z.Warmed39 s.vm) (eT : T.heap = h) (A : own_Ar Z h a .long n f) {j : Int32} (k : Nat) (hj : j.toInt = (k : Int)) (hk : k < n) {pc : Nat} {Ls : Array Slot} {st : List Value} (hd : decode c.code pc = .ok (.laload, 1))
    (go : own_Go p e below Po T (mkF m (pc + 1) Ls (f k :: st))) : own_Go p e below Po T (mkF m pc Ls (.int j :: .ref a :: st)) := by
  obtain ⟨cl, A, r, w⟩ := A
  obtain ⟨q1, q2⟩ := own_idx hj hk
  exact own_go (fun _ kk => X.laload hx (j := j) (v := f k) (by rw [eT]; exact A.1) (State.isArrayOf_alike hZ.alike A.2.1) A.2.2 (by rw [r]; exact q2) (by rw [q1]; exact w k hk) (g := mkF m pc Ls (.int j :: .ref a :: st)) rfl rfl hd _ kk) go
theorem own_baload (X : Stand p l e R s m args below meth c T locs cells slots) (hx : p.tables.exec = Jvm.exec) (hZ : Z.Warmed39 s.vm) (eT : T.heap = h) (A : own_Ar Z h a .byte n f) {j : Int32} (k : Nat) (hj : j.toInt = (k : Int)) (hk : k < n) {pc : Nat} {Ls : Array Slot} {st : List Value} (hd : decode c.code pc = .ok (.baload, 1))
    (go : own_Go p e below Po T (mkF m (pc + 1) Ls (f k :: st))) : own_Go p e below Po T (mkF m pc Ls (.int j :: .ref a :: st)) := by
  obtain ⟨cl, A, r, w⟩ := A
  obtain ⟨q1, q2⟩ := own_idx hj hk
  exact own_go (fun _ kk => X.baloadBytes hx (j := j) (v := f k) (by rw [eT]; exact A.1) (State.isArrayOf_alike hZ.alike A.2.1) A.2.2 (by rw [r]; exact q2) (by rw [q1]; exact w k hk) (g := mkF m pc Ls (.int j :: .ref a :: st)) rfl rfl hd _ kk) go
theorem own_aaload (X : Stand p l e R s m args below meth c T locs cells slots) (hx : p.tables.exec = Jvm.exec) (hZ : Z.Warmed39 s.vm) (eT : T.heap = h) (A : own_Ar Z h a ty n f) (hty : ty.isReference = true) {j : Int32} (k : Nat) (hj : j.toInt = (k : Int)) (hk : k < n) {pc : Nat} {Ls : Array Slot} {st : List Value} (hd : decode c.code pc = .ok (.aaload, 1))
    (go : own_Go p e below Po T (mkF m (pc + 1) Ls (f k :: st))) : own_Go p e below Po T (mkF m pc Ls (.int j :: .ref a :: st)) := by
  obtain ⟨cl, A, r, w⟩ := A
  obtain ⟨q1, q2⟩ := own_idx hj hk
  exact own_go (fun _ kk => X.aaload hx (j := j) (v := f k) (by rw [eT]; exact A.1) (State.isArrayOf_alike hZ.alike A.2.1) hty A.2.2 (by rw [r]; exact q2) (by rw [q1]; exact w k hk) (g := mkF m pc Ls (.int j :: .ref a :: st)) rfl rfl hd _ kk) go
theorem own_len (X : Stand p l e R s m args below meth c T locs cells slots) (hx : p.tables.exec = Jvm.exec) (hZ : Z.Warmed39 s.vm) (eT : T.heap = h) (A : own_Ar Z h a ty n f) {pc : Nat} {Ls : Array Slot} {st : List Value} (hd : decode c.code pc = .ok (.arraylength, 1)) (z : Int32) (hz : n.toInt32 = z)
    (go : own_Go p e below Po T (mkF m (pc + 1) Ls (.int z :: st))) : own_Go p e below Po T (mkF m pc Ls (.ref a :: st)) := by
  obtain ⟨cl, A, r, w⟩ := A
  refine own_go (fun _ kk => X.arraylength hx (by rw [eT]; exact A.1) (State.isArrayOf_alike hZ.alike A.2.1) (g := mkF m pc Ls (.ref a :: st)) rfl rfl hd _ kk) ?_
  rw [r, hz]
  exact go
theorem own_iastore (X : Stand p l e R s m args below meth c T locs cells slots) (hx : p.tables.exec = Jvm.exec) (hZ : Z.Warmed39 s.vm) (eT : T.heap = h) (A : own_Ar Z h a .int n f) {j x : Int32} (k : Nat) (hj : j.toInt = (k : Int)) (hk : k < n) {pc : Nat} {Ls : Array Slot} {st : List Value} (hd : decode c.code pc = .ok (.iastore, 1))
    (go : ∀ T' h', Stand p l e R s m args below meth c T' (locs ++ [⟨a, k⟩]) cells slots → T'.heap = h' → Wr h h' a k (.int x) → own_Go p e below Po T' (mkF m (pc + 1) Ls st)) : own_Go p e below Po T (mkF m pc Ls (.int x :: .int j :: .ref a :: st)) := by
  obtain ⟨cl, A, r, w⟩ := A
  obtain ⟨q1, q2⟩ := own_idx hj hk
  obtain ⟨T', h', X', e', W, st'⟩ := stI X hx hZ eT A (j := j) (x := x) (by rw [r]; exact q2) (g := mkF m pc Ls (.int x :: .int j :: .ref a :: st)) rfl rfl hd
  rw [q1] at X' W
  exact own_go st' (go T' h' X' e' W)
theorem own_lastore (X : Stand p l e R s m args below meth c T locs cells slots) (hx : p.tables.exec = Jvm.exec) (hZ : Z.Warmed39 s.vm) (eT : T.heap = h) (A : own_Ar Z h a .long n f) {j : Int32} {x : Int64} (k : Nat) (hj : j.toInt = (k : Int)) (hk : k < n) {pc : Nat} {Ls : Array Slot} {st : List Value} (hd : decode c.code pc = .ok (.lastore, 1))
    (go : ∀ T' h', Stand p l e R s m args below meth c T' (locs ++ [⟨a, k⟩]) cells slots → T'.heap = h' → Wr h h' a k (.long x) → own_Go p e below Po T' (mkF m (pc + 1) Ls st)) : own_Go p e below Po T (mkF m pc Ls (.long x :: .int j :: .ref a :: st)) := by
  obtain ⟨cl, A, r, w⟩ := A
  obtain ⟨q1, q2⟩ := own_idx hj hk
  obtain ⟨T', h', X', e', W, st'⟩ := stJ X hx hZ eT A (j := j) (x := x) (by rw [r]; exact q2) (g := mkF m pc Ls (.long x :: .int j :: .ref a :: st)) rfl rfl hd
  rw [q1] at X' W
  exact own_go st' (go T' h' X' e' W)
theorem own_bastore (X : Stand p l e R s m args below meth c T locs cells slots) (hx : p.tables.exec = Jvm.exec) (hZ : Z.Warmed39 s.vm) (eT : T.heap = h) (A : own_Ar Z h a .byte n f) {j x : Int32} (k : Nat) (hj : j.toInt = (k : Int)) (hk : k < n) {pc : Nat} {Ls : Array Slot} {st : List Value} (hd : decode c.code pc = .ok (.bastore, 1))
    (go : ∀ T' h', Stand p l e R s m args below meth c T' (locs ++ [⟨a, k⟩]) cells slots → T'.heap = h' → Wr h h' a k (.int x.toInt8.toInt32) → own_Go p e below Po T' (mkF m (pc + 1) Ls st)) : own_Go p e below Po T (mkF m pc Ls (.int x :: .int j :: .ref a :: st)) := by
  obtain ⟨cl, A, r, w⟩ := A
  obtain ⟨q1, q2⟩ := own_idx hj hk
  obtain ⟨T', h', X', e', W, st'⟩ := stB X hx hZ eT A (j := j) (x := x) (by rw [r]; exact q2) (g := mkF m pc Ls (.int x :: .int j :: .ref a :: st)) rfl rfl hd
  rw [q1] at X' W
  exact own_go st' (go T' h' X' e' W)
theorem own_newP (X : Stand p l e R s m args below meth c T locs cells slots) (hx : p.tables.exec = Jvm.exec) (hZ : Z.Warmed39 s.vm) (eT : T.heap = h) {aty : ArrayType} (w : (Jvm.Cond.arrayClass (newarray.typeOf aty)).before a0 Z = true) {z : Int32} (n : Nat) (hz : z.toNatClampNeg = n) (hz0 : ¬ z < 0) (hb8 : n * 8 ≤ 536870912) (hc : cells + 1 ≤ R.cells) (hs : slots + n ≤ R.slots) {pc : Nat} {Ls : Array Slot} {st : List Value} (hd : decode c.code pc = .ok (.newarray aty, 2))
    (go : ∀ T' h' b, b = h.size → Stand p l e R s m args below meth c T' locs (cells + 1) (slots + n) → T'.heap = h' → Ext h h' → own_Ar Z h' b (newarray.typeOf aty) n (fun _ => defaultValue (newarray.typeOf aty)) → own_Go p e below Po T' (mkF m (pc + 2) Ls (.ref b :: st))) : own_Go p e below Po T (mkF m pc Ls (.int z :: st)) := by
  obtain ⟨T', h', cA, X', e', E, A, st'⟩ := newP X hx hZ w eT (g := mkF m pc Ls (.int z :: st)) rfl hd rfl hz0 (cap := n) (Nat.le_of_eq hz) hb8 hc hs
  exact own_go st' (go T' h' _ rfl X' e' E (own_Ar_new A hz))
end Own
section OwnI
variable {Z : State} {h h' : Heap} {a b : Addr} {ty : FieldType} {n sl : Nat} {f : Nat → Int32} {v : Value} {wl : List Addr} {x : Int32}
/-- an array of ints (bytes): place j holds f j -/
def own_Ai (Z : State) (h : Heap) (a : Addr) (ty : FieldType) (n : Nat) (f : Nat → Int32) : Prop := own_Ar Z h a ty n (fun i => .int (f i))
def own_upi (f : Nat → Int32) (k : Nat) (x : Int32) : Nat → Int32 := fun i => if i = k then x else f i
theorem own_Ai_set (F : own_Ai Z h a ty n f) (W : Wr h h' a sl (.int x)) : own_Ai Z h' a ty n (own_upi f sl x) :=
  own_Ar_eq (own_Ar_set F W) (fun i _ => by unfold own_up own_upi; split <;> rfl)
theorem own_Ai_eq {g : Nat → Int32} (F : own_Ai Z h a ty n f) (q : ∀ i, i < n → f i = g i) : own_Ai Z h a ty n g := own_Ar_eq F fun i hi => by rw [q i hi]
end OwnI
section OwnO
variable {p : Program} {l : Launch} {e : Env} {R : Room} {s : State} {m : MethodId} {args : Array Value} {below : List Frame} {meth : Method} {c : Code} {T : State} {locs : List Loc} {cells slots : Nat} {Z : State} {a0 : Array Value} {h h' : Heap} {Po : Outcome → State → Prop} {a b : Addr} {n sl : Nat} {v : Value} {wl : List Addr} {C : String} {fs : List (String × String × String)} {g : Nat → Value}
/-- the fields of a class, as the sheet lays them -/
def own_Lds (Z : State) (a0 : Array Value) (C : String) : List (String × String × String) → Prop
  | [] => True
  | x :: r => Laid Z a0 C x.1 x.2.1 x.2.2 ∧ own_Lds Z a0 C r
def own_okFs (fs : List (String × String × String)) : Bool := fs.all (fun x => (parseFieldDescriptor x.2.2).isSome) && decide ((fs.map fun x => x.2.1).Nodup)
/-- an object of the class C whose i-th field (of the list fs) holds g i -/
def own_Ob (Z : State) (h : Heap) (a : Addr) (C : String) (fs : List (String × String × String)) (g : Nat → Value) : Prop := Exa Z h a C ∧ ∀ i x, fs[i]? = some x → Fld Z h a x.1 x.2.1 x.2.2 (g i)
theorem own_Lds_at : ∀ {fs : List (String × String × String)} {i : Nat} {x : String × String × String}, own_Lds Z a0 C fs → fs[i]? = some x → Laid Z a0 C x.1 x.2.1 x.2.2
  | [], _, _, _, q => by simp at q
  | y :: r, 0, x, H, q => by
    obtain rfl : y = x := by simpa using q
    exact H.1
  | y :: r, i + 1, x, H, q => own_Lds_at (fs := r) (i := i) H.2 (by simpa using q)
theorem own_ok_desc (ok : own_okFs fs = true) {i : Nat} {x : String × String × String} (q : fs[i]? = some x) : ∃ t, parseFieldDescriptor x.2.2 = some t := by
  have h := (Bool.and_eq_true _ _ ▸ ok : _ ∧ _).1
  exact Option.isSome_iff_exists.mp (List.all_eq_true.mp h x (List.mem_of_getElem? q))
theorem own_ok_ne (ok : own_okFs fs = true) {i j : Nat} {x y : String × String × String} (qx : fs[i]? = some x) (qy : fs[j]? = some y) (hij : i ≠ j) : x.2.1 ≠ y.2.1 := by
  have h := of_decide_eq_true (Bool.and_eq_true _ _ ▸ ok : _ ∧ _).2
  intro e
  have h1 : (fs.map fun x => x.2.1)[i]? = some x.2.1 := by simp [qx]
  have h2 : (fs.map fun x => x.2.1)[j]? = some x.2.1 := by simp [qy, e]
  obtain ⟨l1, e1⟩ := List.getElem?_eq_some_iff.mp h1
  obtain ⟨l2, e2⟩ := List.getElem?_eq_some_iff.mp h2
  exact hij ((List.getElem_inj h).mp (e1.trans e2.symm))
theorem own_Ob_lt (B : own_Ob Z h a C fs g) : a < h.size := B.1.lt
theorem own_Ob_fld (B : own_Ob Z h a C fs g) (i : Nat) {O nm d : String} (q : fs[i]? = some (O, nm, d)) : Fld Z h a O nm d (g i) := B.2 i _ q
theorem own_Ob_ext (B : own_Ob Z h a C fs g) (E : Ext h h') : own_Ob Z h' a C fs g := ⟨B.1.ext E, fun i x q => (B.2 i x q).ext E⟩
theorem own_Ob_other (B : own_Ob Z h b C fs g) (W : Wr h h' a sl v) (q : b ≠ a) : own_Ob Z h' b C fs g := ⟨B.1.wr W, fun i x r => (B.2 i x r).other W (Or.inl q)⟩
theorem own_Ob_keep (B : own_Ob Z h a C fs g) (K : Keep h h' wl) (q : a ∉ wl) : own_Ob Z h' a C fs g := ⟨B.1.keep K, fun i x r => (B.2 i x r).keep K q⟩
theorem own_Ob_put (B : own_Ob Z h a C fs g) (ok : own_okFs fs = true) (Ld : own_Lds Z a0 C fs) (i : Nat) {O nm d : String} (q : fs[i]? = some (O, nm, d)) (W : Wr h h' a (Jvm.RoadKit.slotOf Z O nm d) v) : own_Ob Z h' a C fs (own_up g i v) := by
  refine ⟨B.1.wr W, fun j x r => ?_⟩
  obtain ⟨xO, xn, xd⟩ := x
  have Fj : Fld Z h a xO xn xd (g j) := B.2 j _ r
  by_cases hj : j = i
  · subst hj
    have q2 := Option.some.inj (r.symm.trans q)
    have e1 : xO = O := congrArg (fun z => z.1) q2
    have e2 : xn = nm := congrArg (fun z => z.2.1) q2
    have e3 : xd = d := congrArg (fun z => z.2.2) q2
    subst e1 e2 e3
    rw [own_up_eq]
    exact Fj.same W
  · rw [own_up_ne _ _ hj]
    obtain ⟨t, ht⟩ := own_ok_desc ok r
    obtain ⟨t', ht'⟩ := own_ok_desc ok q
    have L1 : Laid Z a0 C xO xn xd := own_Lds_at (x := (xO, xn, xd)) Ld r
    have L2 : Laid Z a0 C O nm d := own_Lds_at (x := (O, nm, d)) Ld q
    have hne : xn ≠ nm := own_ok_ne (x := (xO, xn, xd)) (y := (O, nm, d)) ok r q hj
    have hsl : Jvm.RoadKit.slotOf Z xO xn xd ≠ Jvm.RoadKit.slotOf Z O nm d := slot_ne L1 L2 hne ht ht'
    exact Fj.other W (Or.inr hsl)
theorem own_Ob_eq {g' : Nat → Value} (B : own_Ob Z h a C fs g) (q : ∀ i, i < fs.length → g i = g' i) : own_Ob Z h a C fs g' :=
  ⟨B.1, fun i x r => q i (List.getElem?_eq_some_iff.mp r).1 ▸ B.2 i x r⟩
theorem own_getF (X : Stand p l e R s m args below meth c T locs cells slots) (hx : p.tables.exec = Jvm.exec) (hZ : Z.Warmed39 s.vm) {own R0 O nm d host : String} {index : Nat} (hown : s.vm.findClass own = some m.cls) (eT : T.heap = h) (w : (Jvm.Cond.fieldLink own index R0 nm d).before a0 Z = true ∨ (Jvm.Cond.fieldLinkNest own index R0 nm d host).before a0 Z = true) (via : Via Z R0 O nm d)
    (F : Fld Z h a O nm d v) {pc : Nat} {Ls : Array Slot} {st : List Value} (hd : decode c.code pc = .ok (.getfield index, 3))
    (go : ∀ T', Stand p l e R s m args below meth c T' locs cells slots → T'.heap = h → own_Go p e below Po T' (mkF m (pc + 3) Ls (v :: st))) : own_Go p e below Po T (mkF m pc Ls (.ref a :: st)) := by
  obtain ⟨T', X', e', st'⟩ := getF X hx hZ hown w via eT F (g := mkF m pc Ls (.ref a :: st)) rfl rfl hd
  exact own_go st' (go T' X' e')
theorem own_getS (X : Stand p l e R s m args below meth c T locs cells slots) (hx : p.tables.exec = Jvm.exec) (hZ : Z.Warmed39 s.vm) {own R0 O nm d host : String} {index : Nat} (hown : s.vm.findClass own = some m.cls) (eT : T.heap = h) (w : (Jvm.Cond.fieldLink own index R0 nm d).before a0 Z = true ∨ (Jvm.Cond.fieldLinkNest own index R0 nm d host).before a0 Z = true) (via : Via Z R0 O nm d)
    (F : Sta Z h O nm d v) {pc : Nat} {Ls : Array Slot} {st : List Value} (hd : decode c.code pc = .ok (.getstatic index, 3))
    (go : ∀ T', Stand p l e R s m args below meth c T' locs cells slots → T'.heap = h → own_Go p e below Po T' (mkF m (pc + 3) Ls (v :: st))) : own_Go p e below Po T (mkF m pc Ls st) := by
  obtain ⟨T', X', e', st'⟩ := getS2 X hx hZ hown w via eT F (g := mkF m pc Ls st) rfl hd
  exact own_go st' (go T' X' e')
theorem own_putF (X : Stand p l e R s m args below meth c T locs cells slots) (hx : p.tables.exec = Jvm.exec) (hZ : Z.Warmed39 s.vm) {own R0 O nm d host : String} {index kk : Nat} {ty : FieldType} (hown : s.vm.findClass own = some m.cls) (eT : T.heap = h) (w : (Jvm.Cond.fieldLink own index R0 nm d).before a0 Z = true ∨ (Jvm.Cond.fieldLinkNest own index R0 nm d host).before a0 Z = true) (via : Via Z R0 O nm d)
    {old : Value} (F : Fld Z h a O nm d old) (E : Exa Z h a C) (L : (Jvm.Cond.lays C O nm d).before a0 Z = true ∨ ((Jvm.Cond.laysFinal C O nm d).before a0 Z = true ∧ own = O ∧ meth.name = "<init>")) (wi : (Jvm.Cond.instantiable C kk).before a0 Z = true) (hty : parseFieldDescriptor d = some ty) (hn : narrow ty v = v) (hf : fits ty v = true)
    {pc : Nat} {Ls : Array Slot} {st : List Value} (hd : decode c.code pc = .ok (.putfield index, 3))
    (go : ∀ T' h', Stand p l e R s m args below meth c T' (locs ++ [⟨a, Jvm.RoadKit.slotOf Z O nm d⟩]) cells slots → T'.heap = h' → Wr h h' a (Jvm.RoadKit.slotOf Z O nm d) v → own_Go p e below Po T' (mkF m (pc + 3) Ls st)) : own_Go p e below Po T (mkF m pc Ls (v :: .ref a :: st)) := by
  obtain ⟨T', h', X', e', W, st'⟩ := putF X hx hZ hown w via eT F E L wi hty hn hf (g := mkF m pc Ls (v :: .ref a :: st)) rfl rfl hd
  exact own_go st' (go T' h' X' e' W)
theorem own_putFN (X : Stand p l e R s m args below meth c T locs cells slots) (hx : p.tables.exec = Jvm.exec) (hZ : Z.Warmed39 s.vm) {own R0 O nm d : String} {index kk : Nat} {ty : FieldType} (hown : s.vm.findClass own = some m.cls) (eT : T.heap = h) (w : (Jvm.Cond.fieldLink own index R0 nm d).before a0 Z = true) (via : Via Z R0 O nm d)
    {old v' : Value} (F : Fld Z h a O nm d old) (E : Exa Z h a C) (L : (Jvm.Cond.lays C O nm d).before a0 Z = true ∨ ((Jvm.Cond.laysFinal C O nm d).before a0 Z = true ∧ own = O ∧ meth.name = "<init>")) (wi : (Jvm.Cond.instantiable C kk).before a0 Z = true) (hty : parseFieldDescriptor d = some ty) (hn : narrow ty v = v') (hf : fits ty v' = true)
    {pc : Nat} {Ls : Array Slot} {st : List Value} (hd : decode c.code pc = .ok (.putfield index, 3))
    (go : ∀ T' h', Stand p l e R s m args below meth c T' (locs ++ [⟨a, Jvm.RoadKit.slotOf Z O nm d⟩]) cells slots → T'.heap = h' → Wr h h' a (Jvm.RoadKit.slotOf Z O nm d) v' → own_Go p e below Po T' (mkF m (pc + 3) Ls st)) : own_Go p e below Po T (mkF m pc Ls (v :: .ref a :: st)) := by
  obtain ⟨T', h', X', e', W, st'⟩ := putFN X hx hZ hown w via eT F E L wi hty hn hf (g := mkF m pc Ls (v :: .ref a :: st)) rfl rfl hd
  exact own_go st' (go T' h' X' e' W)
/-- the fields' first values -/
def own_Dfs : List (String × String × String) → List Value → Prop
  | [], [] => True
  | x :: r, v :: q => (∃ t, parseFieldDescriptor x.2.2 = some t ∧ v = defaultValue t) ∧ own_Dfs r q
  | _, _ => False
theorem own_Dfs_at : ∀ {fs : List (String × String × String)} {gl : List Value} {i : Nat} {x : String × String × String}, own_Dfs fs gl → fs[i]? = some x → ∃ t, parseFieldDescriptor x.2.2 = some t ∧ gl.getD i .null = defaultValue t
  | [], _, _, _, _, q => by simp at q
  | _ :: _, [], _, _, H, _ => H.elim
  | y :: r, v :: q, 0, x, H, e => by
    obtain rfl : y = x := by simpa using e
    exact H.1
  | y :: r, v :: q, i + 1, x, H, e => own_Dfs_at (fs := r) (gl := q) (i := i) H.2 (by simpa using e)
def own_gl (gl : List Value) : Nat → Value := fun i => gl.getD i .null
theorem own_newO (X : Stand p l e R s m args below meth c T locs cells slots) (hx : p.tables.exec = Jvm.exec) (hZ : Z.Warmed39 s.vm) {own : String} {index kk : Nat} (hown : s.vm.findClass own = some m.cls) (eT : T.heap = h) (w : (Jvm.Cond.classLink own index C).before a0 Z = true) (wi : (Jvm.Cond.instantiable C kk).before a0 Z = true) (wz : (Jvm.Cond.initialized C).before a0 Z = true)
    (Ld : own_Lds Z a0 C fs) {gl : List Value} (Df : own_Dfs fs gl) (hc : cells + 1 ≤ R.cells) (hs : slots + kk ≤ R.slots) {pc : Nat} {Ls : Array Slot} {st : List Value} (hd : decode c.code pc = .ok (.new index, 3))
    (go : ∀ T' h' b, b = h.size → Stand p l e R s m args below meth c T' locs (cells + 1) (slots + kk) → T'.heap = h' → Ext h h' → own_Ob Z h' b C fs (own_gl gl) → own_Go p e below Po T' (mkF m (pc + 3) Ls (.ref b :: st))) : own_Go p e below Po T (mkF m pc Ls st) := by
  obtain ⟨T', h', X', e', E, A, D, -, st'⟩ := newO X hx hZ hown w wi wz eT (g := mkF m pc Ls st) rfl hd hc hs
  refine own_go st' (go T' h' _ rfl X' e' E ⟨A, fun i x q => ?_⟩)
  obtain ⟨t, ht, hgt⟩ := own_Dfs_at Df q
  show Fld Z h' _ x.1 x.2.1 x.2.2 (gl.getD i .null)
  rw [hgt]
  exact D (own_Lds_at Ld q) ht
theorem own_initO (X : Stand p l e R s m args below meth c T locs cells slots) (hx : p.tables.exec = Jvm.exec) (hZ : Z.Warmed39 s.vm) {own : String} {index : Nat} (hown : s.vm.findClass own = some m.cls) (eT : T.heap = h) (w1 : (Jvm.Cond.methodLink own index Lib.objectInit).before a0 Z = true) (w2 : (Jvm.Cond.instanceMethod Lib.objectInit).before a0 Z = true)
    (w3 : (Jvm.Cond.code Lib.objectInit object_method_1_code 1 none).before a0 Z = true) {pc : Nat} {Ls : Array Slot} {st : List Value} (hml : Ls.size = c.maxLocals) (hd : decode c.code pc = .ok (.invokespecial index, 3)) (hf : 1 ≤ R.frames) {W : Nat} (hW : (st.map fun v => v.category).sum ≤ W) (hl : W + 12 ≤ R.locals)
    (go : ∀ T', Stand p l e R s m args below meth c T' locs cells slots → T'.heap = h → own_Go p e below Po T' (mkF m (pc + 3) Ls st)) : own_Go p e below Po T (mkF m pc Ls (.ref a :: st)) := by
  obtain ⟨T', X', e', st'⟩ := initO X hx hZ hown w1 w2 w3 eT (g := mkF m pc Ls (.ref a :: st)) rfl hml rfl hd hf (W := W) (by show 2 * 0 + _ ≤ _; simpa using hW) hl
  exact own_go st' (go T' X' e')
end OwnO
section OwnRr
variable {p : Program} {l : Launch} {e : Env} {R : Room} {s : State} {m : MethodId} {args : Array Value} {below : List Frame} {meth : Method} {c : Code} {T : State} {locs : List Loc} {cells slots : Nat} {Z : State} {a0 : Array Value} {h h' : Heap} {Po : Outcome → State → Prop} {a b : Addr} {n sl : Nat} {v : Value} {wl : List Addr} {C : String} {f : Nat → Value}
/-- an array of references of the class C; it may hold every object of C -/
def own_Rr (Z : State) (h : Heap) (a : Addr) (C : String) (n : Nat) (f : Nat → Value) : Prop := ∃ cl : Cell, Arr Z h a cl (.object C) ∧ Ovr Z cl.cls C ∧ cl.slots.size = n ∧ ∀ j, j < n → cl.slots[j]? = some (f j)
theorem own_Rr_ar (F : own_Rr Z h a C n f) : own_Ar Z h a (.object C) n f := by
  obtain ⟨cl, A, O, r⟩ := F
  exact ⟨cl, A, r⟩
theorem own_Rr_lt (F : own_Rr Z h a C n f) : a < h.size := own_Ar_lt (own_Rr_ar F)
theorem own_Rr_ext (F : own_Rr Z h a C n f) (E : Ext h h') : own_Rr Z h' a C n f := by
  obtain ⟨cl, A, r⟩ := F
  exact ⟨cl, A.ext E, r⟩
theorem own_Rr_other (F : own_Rr Z h b C n f) (W : Wr h h' a sl v) (q : b ≠ a) : own_Rr Z h' b C n f := by
  obtain ⟨cl, A, r⟩ := F
  exact ⟨cl, A.other W q, r⟩
theorem own_Rr_keep (F : own_Rr Z h a C n f) (K : Keep h h' wl) (q : a ∉ wl) : own_Rr Z h' a C n f := by
  obtain ⟨cl, A, r⟩ := F
  exact ⟨cl, ⟨K.2.1 _ _ A.1 q, A.2⟩, r⟩
theorem own_Rr_set (F : own_Rr Z h a C n f) (W : Wr h h' a sl v) : own_Rr Z h' a C n (own_up f sl v) := by
  obtain ⟨cl, A, O, r, g⟩ := F
  refine ⟨_, A.same W, O, (sz_set cl sl v).trans r, fun j hj => ?_⟩
  show (cl.slots.setIfInBounds sl v)[j]? = some (if j = sl then v else f j)
  rw [Array.getElem?_setIfInBounds]
  by_cases q : sl = j
  · subst q
    simp [r, hj]
  · rw [if_neg q, if_neg (Ne.symm q)]
    exact g j hj
theorem own_Rr_eq {g : Nat → Value} (F : own_Rr Z h a C n f) (q : ∀ i, i < n → f i = g i) : own_Rr Z h a C n g := by
  obtain ⟨cl, A, O, r, w⟩ := F
  exact ⟨cl, A, O, r, fun j hj => (w j hj).trans (congrArg some (q j hj))⟩
theorem own_newR (X : Stand p l e R s m args below meth c T locs cells slots) (hx : p.tables.exec = Jvm.exec) (hZ : Z.Warmed39 s.vm) {own : String} {index : Nat} (hown : s.vm.findClass own = some m.cls) (eT : T.heap = h) (w1 : (Jvm.Cond.classLink own index C).before a0 Z = true) (w2 : (Jvm.Cond.arrayOver (.object C)).before a0 Z = true) {z : Int32} (n : Nat) (hz : z.toNatClampNeg = n) (hz0 : ¬ z < 0) (hb8 : n * 8 ≤ 536870912) (hc : cells + 1 ≤ R.cells) (hs : slots + n ≤ R.slots) {pc : Nat} {Ls : Array Slot} {st : List Value} (hd : decode c.code pc = .ok (.anewarray index, 3))
    (go : ∀ T' h' b, b = h.size → Stand p l e R s m args below meth c T' locs (cells + 1) (slots + n) → T'.heap = h' → Ext h h' → own_Rr Z h' b C n (fun _ => .null) → own_Go p e below Po T' (mkF m (pc + 3) Ls (.ref b :: st))) : own_Go p e below Po T (mkF m pc Ls (.int z :: st)) := by
  obtain ⟨T', h', cA, X', e', E, A, O, st'⟩ := newR X hx hZ hown w1 w2 eT (g := mkF m pc Ls (.int z :: st)) rfl hd rfl hz0 (cap := n) (Nat.le_of_eq hz) hb8 hc hs
  exact own_go st' (go T' h' _ rfl X' e' E ⟨_, A, O, (sz_new cA _ z).trans hz, fun j hj => by simp [newA, hz, hj, defaultValue]⟩)
theorem own_aastore (X : Stand p l e R s m args below meth c T locs cells slots) (hx : p.tables.exec = Jvm.exec) (hZ : Z.Warmed39 s.vm) (eT : T.heap = h) (A : own_Rr Z h a C n f) {y : Addr} (I : Ins Z h y C true) {j : Int32} (k : Nat) (hj : j.toInt = (k : Int)) (hk : k < n) {pc : Nat} {Ls : Array Slot} {st : List Value} (hd : decode c.code pc = .ok (.aastore, 1))
    (go : ∀ T' h', Stand p l e R s m args below meth c T' (locs ++ [⟨a, k⟩]) cells slots → T'.heap = h' → Wr h h' a k (.ref y) → own_Go p e below Po T' (mkF m (pc + 1) Ls st)) : own_Go p e below Po T (mkF m pc Ls (.ref y :: .int j :: .ref a :: st)) := by
  obtain ⟨cl, A, O, r, w⟩ := A
  obtain ⟨q1, q2⟩ := own_idx hj hk
  obtain ⟨T', h', X', e', W, st'⟩ := stR X hx hZ eT A (j := j) (by rw [r]; exact q2) rfl (Sto.of A O I) (g := mkF m pc Ls (.ref y :: .int j :: .ref a :: st)) rfl rfl hd
  rw [q1] at X' W
  exact own_go st' (go T' h' X' e' W)
end OwnRr
section OwnLam
variable {p : Program} {l : Launch} {e : Env} {R : Room} {s : State} {m : MethodId} {args : Array Value} {below : List Frame} {meth : Method} {c : Code} {T : State} {locs : List Loc} {cells slots : Nat} {Z : State} {a0 : Array Value} {h h' : Heap} {Po : Outcome → State → Prop}
/-- as own_enter, with the method's own identity -/
theorem own_enterN {y : MethodName} {bytes : ByteArray} {maxL : Nat} {ret : Option FieldType} {ws : List Jvm.Cond} {rm : Room} {as' : Array Value} {h0 : Heap} {Q : Option Value → Heap → List Loc → Prop} (hp : plainFor y = true)
    (body : ∀ (p : Program) (e : Env) (s : State) (m : MethodId) (below : List Frame) (meth : Method) (c : Code) (T : State), s.methodNamed? y = some m → Stand p l e rm s m as' below meth c T [] 0 0 → p.tables.exec = Jvm.exec → c.code = bytes → c.maxLocals = maxL → Z.Warmed39 s.vm → s.vm.findClass y.cls = some m.cls → T.heap = h0 → meth.sig.returnType = ret → meth.locks = false → meth.name = y.name →
      own_Go p e below (own_Po s Q rm.cells rm.slots) T (entryFrame m as' maxL)) : own_Met l y bytes maxL ret ws rm Z as' h0 Q := by
  refine MetFree.of_bodySF hp hisR ?_
  intro p e s m args below meth c s₁ Bd hml0 hP hK
  obtain ⟨rfl, hZ, hh⟩ := hP
  exact body p e s m below meth c s₁ Bd.named (Stand.of_body Bd) Bd.exec Bd.bytes hml0 hZ (findClass_of_methodNamed Bd.named) (by rw [← hh, Bd.state]; rfl) Bd.returns Bd.notSynchronized (name_of_methodNamed Bd.named Bd.method).1
/-- a call site that is linked to one object -/
theorem own_indy (X : Stand p l e R s m args below meth c T locs cells slots) (hx : p.tables.exec = Jvm.exec) (hZ : Z.Warmed39 s.vm) {y : MethodName} {pc index : Nat} {σ : Lambda.Shape} (hna : s.methodNamed? y = some m) (w : (Jvm.Cond.lambdaSite y pc index σ).before a0 Z = true) (hcap : σ.captured = [])
    {Ls : Array Slot} {st : List Value} (hml : Ls.size = c.maxLocals) (hd : decode c.code pc = .ok (.invokedynamic index, 5)) (hW : (st.map fun v => v.category).sum + 3072 ≤ R.locals)
    (go : ∀ a, own_Go p e below Po T (mkF m (pc + 5) Ls (.ref a :: st))) : own_Go p e below Po T (mkF m pc Ls st) := by
  obtain ⟨cc, one, hl⟩ := Cond.lambdaSite_spec w
  obtain ⟨m', k, cf, i0, p0, ln, hm', hk, -, -, -, hfind, -, -, hor⟩ := State.lambdaAt?_spec hl
  rcases hor with ⟨a, cell, rfl, -⟩ | ⟨-, -, hne⟩
  · have q := State.methodNamed?_setVm (s := Z) hZ.alike y
    rw [hm'] at q
    have q' : s.methodNamed? y = some m' := q
    cases hna.symm.trans q'
    obtain ⟨k', hk', he⟩ := hZ.alike.2.2 _ _ hk
    have hpl : e.platform.lambdaLinkWords = 3072 := by rw [X.admits.platform]
    exact own_go (fun t kk => X.lambdaConstant hx (g := mkF m pc Ls st) rfl hml hd hk' (by rw [he]; exact hfind) (by rw [hpl]; show 2 * 0 + _ + 3072 ≤ _; simpa using hW) kk) (go a)
  · exact absurd hcap hne
end OwnLam
theorem pn_0 : plainName "com/example/gangplank/gangplank/gang/RowsFirstHoldingAtMostPinLaw" = true := by first | (simp [plainName, overriddenIn]; done) | decide +kernel
theorem pd_0 : parseMethodDescriptor "(IIIIII)Z" = some ⟨[.int, .int, .int, .int, .int, .int], some .boolean⟩ := by decide +kernel
theorem ef_0 (m : MethodId) (x0 : Int32) (x1 : Int32) (x2 : Int32) (x3 : Int32) (x4 : Int32) (x5 : Int32) : entryFrame m #[(.int x0), (.int x1), (.int x2), (.int x3), (.int x4), (.int x5)] maxLocals = mkF m 0 #[.val (.int x0), .val (.int x1), .val (.int x2), .val (.int x3), .val (.int x4), .val (.int x5), .unset, .unset, .unset, .unset, .unset, .unset, .unset, .unset] [] := by first | (simp [entryFrame, mkF, argsToLocals, Value.category, maxLocals]; done) | rfl
theorem d1_0 : decode prog_126_method_1_code 0 = .ok (.aload_n 0, 1) := by decide +kernel
theorem d1_1 : decode prog_126_method_1_code 1 = .ok (.invokespecial 1, 3) := by decide +kernel
theorem d1_4 : decode prog_126_method_1_code 4 = .ok (.aload_n 0, 1) := by decide +kernel
theorem d1_5 : decode prog_126_method_1_code 5 = .ok (.iconst 4, 1) := by decide +kernel
theorem d1_6 : decode prog_126_method_1_code 6 = .ok (.anewarray 9, 3) := by decide +kernel
theorem d1_9 : decode prog_126_method_1_code 9 = .ok (.putfield 11, 3) := by decide +kernel
theorem d1_12 : decode prog_126_method_1_code 12 = .ok (.return_, 1) := by decide +kernel
theorem pn_1 : plainName "com/example/gangplank/gangplank/gang/Rows" = true := by first | (simp [plainName, overriddenIn]; done) | decide +kernel
theorem pd_1 : parseMethodDescriptor "()V" = some ⟨[], none⟩ := by decide +kernel
theorem ef_1 (m : MethodId) (x0 : Addr) : entryFrame m #[(.ref x0)] 1 = mkF m 0 #[.val (.ref x0)] [] := by first | (simp [entryFrame, mkF, argsToLocals, Value.category]; done) | rfl
theorem d3_0 : decode prog_123_method_1_code 0 = .ok (.aload_n 0, 1) := by decide +kernel
theorem d3_1 : decode prog_123_method_1_code 1 = .ok (.invokespecial 1, 3) := by decide +kernel
theorem d3_4 : decode prog_123_method_1_code 4 = .ok (.aload_n 0, 1) := by decide +kernel
theorem d3_5 : decode prog_123_method_1_code 5 = .ok (.iconst (-1), 1) := by decide +kernel
theorem d3_6 : decode prog_123_method_1_code 6 = .ok (.putfield 7, 3) := by decide +kernel
theorem d3_9 : decode prog_123_method_1_code 9 = .ok (.aload_n 0, 1) := by decide +kernel
theorem d3_10 : decode prog_123_method_1_code 10 = .ok (.new 13, 3) := by decide +kernel
theorem d3_13 : decode prog_123_method_1_code 13 = .ok (.dup, 1) := by decide +kernel
theorem d3_14 : decode prog_123_method_1_code 14 = .ok (.invokedynamic 15, 5) := by decide +kernel
theorem d3_19 : decode prog_123_method_1_code 19 = .ok (.invokespecial 19, 3) := by decide +kernel
theorem d3_22 : decode prog_123_method_1_code 22 = .ok (.putfield 22, 3) := by decide +kernel
theorem d3_25 : decode prog_123_method_1_code 25 = .ok (.aload_n 0, 1) := by decide +kernel
theorem d3_26 : decode prog_123_method_1_code 26 = .ok (.new 26, 3) := by decide +kernel
theorem d3_29 : decode prog_123_method_1_code 29 = .ok (.dup, 1) := by decide +kernel
theorem d3_30 : decode prog_123_method_1_code 30 = .ok (.invokespecial 28, 3) := by decide +kernel
theorem d3_33 : decode prog_123_method_1_code 33 = .ok (.putfield 29, 3) := by decide +kernel
theorem d3_36 : decode prog_123_method_1_code 36 = .ok (.aload_n 0, 1) := by decide +kernel
theorem d3_37 : decode prog_123_method_1_code 37 = .ok (.lload_n 1, 1) := by decide +kernel
theorem d3_38 : decode prog_123_method_1_code 38 = .ok (.putfield 33, 3) := by decide +kernel
theorem d3_41 : decode prog_123_method_1_code 41 = .ok (.aload_n 0, 1) := by decide +kernel
theorem d3_42 : decode prog_123_method_1_code 42 = .ok (.lload_n 3, 1) := by decide +kernel
theorem d3_43 : decode prog_123_method_1_code 43 = .ok (.putfield 37, 3) := by decide +kernel
theorem d3_46 : decode prog_123_method_1_code 46 = .ok (.return_, 1) := by decide +kernel
theorem pn_3 : plainName "com/example/gangplank/gangplank/gang/Row" = true := by first | (simp [plainName, overriddenIn]; done) | decide +kernel
theorem pd_3 : parseMethodDescriptor "(JJ)V" = some ⟨[.long, .long], none⟩ := by decide +kernel
theorem ef_3 (m : MethodId) (x0 : Addr) (x1 : Int64) (x2 : Int64) : entryFrame m #[(.ref x0), (.long x1), (.long x2)] 5 = mkF m 0 #[.val (.ref x0), .val (.long x1), .second, .val (.long x2), .second] [] := by first | (simp [entryFrame, mkF, argsToLocals, Value.category]; done) | rfl
theorem d4_0 : decode jdk_2655_method_3_code 0 = .ok (.aload_n 0, 1) := by decide +kernel
theorem d4_1 : decode jdk_2655_method_3_code 1 = .ok (.bipush 11, 2) := by decide +kernel
theorem d4_3 : decode jdk_2655_method_3_code 3 = .ok (.aload_n 1, 1) := by decide +kernel
theorem d4_4 : decode jdk_2655_method_3_code 4 = .ok (.invokespecial 3, 3) := by decide +kernel
theorem d4_7 : decode jdk_2655_method_3_code 7 = .ok (.return_, 1) := by decide +kernel
theorem pn_4 : plainName "java/util/PriorityQueue" = true := by first | (simp [plainName, overriddenIn]; done) | decide +kernel
theorem pd_4 : parseMethodDescriptor "(Ljava/util/Comparator;)V" = some ⟨[(.object "java/util/Comparator")], none⟩ := by decide +kernel
theorem ef_4 (m : MethodId) (x0 : Addr) (x1 : Addr) : entryFrame m #[(.ref x0), (.ref x1)] 2 = mkF m 0 #[.val (.ref x0), .val (.ref x1)] [] := by first | (simp [entryFrame, mkF, argsToLocals, Value.category]; done) | rfl
theorem d5_0 : decode jdk_2655_method_4_code 0 = .ok (.aload_n 0, 1) := by decide +kernel
theorem d5_1 : decode jdk_2655_method_4_code 1 = .ok (.invokespecial 7, 3) := by decide +kernel
theorem d5_4 : decode jdk_2655_method_4_code 4 = .ok (.iload_n 1, 1) := by decide +kernel
theorem d5_5 : decode jdk_2655_method_4_code 5 = .ok (.iconst 1, 1) := by decide +kernel
theorem d5_6 : decode jdk_2655_method_4_code 6 = .ok (.if_icmp .ge 11, 3) := by decide +kernel
theorem d5_9 : decode jdk_2655_method_4_code 9 = .ok (.new 12, 3) := by decide +kernel
theorem d5_12 : decode jdk_2655_method_4_code 12 = .ok (.dup, 1) := by decide +kernel
theorem d5_13 : decode jdk_2655_method_4_code 13 = .ok (.invokespecial 14, 3) := by decide +kernel
theorem d5_16 : decode jdk_2655_method_4_code 16 = .ok (.athrow, 1) := by decide +kernel
theorem d5_17 : decode jdk_2655_method_4_code 17 = .ok (.aload_n 0, 1) := by decide +kernel
theorem d5_18 : decode jdk_2655_method_4_code 18 = .ok (.iload_n 1, 1) := by decide +kernel
theorem d5_19 : decode jdk_2655_method_4_code 19 = .ok (.anewarray 15, 3) := by decide +kernel
theorem d5_22 : decode jdk_2655_method_4_code 22 = .ok (.putfield 17, 3) := by decide +kernel
theorem d5_25 : decode jdk_2655_method_4_code 25 = .ok (.aload_n 0, 1) := by decide +kernel
theorem d5_26 : decode jdk_2655_method_4_code 26 = .ok (.aload_n 2, 1) := by decide +kernel
theorem d5_27 : decode jdk_2655_method_4_code 27 = .ok (.putfield 21, 3) := by decide +kernel
theorem d5_30 : decode jdk_2655_method_4_code 30 = .ok (.return_, 1) := by decide +kernel
theorem pn_5 : plainName "java/util/PriorityQueue" = true := by first | (simp [plainName, overriddenIn]; done) | decide +kernel
theorem pd_5 : parseMethodDescriptor "(ILjava/util/Comparator;)V" = some ⟨[.int, (.object "java/util/Comparator")], none⟩ := by decide +kernel
theorem ef_5 (m : MethodId) (x0 : Addr) (x1 : Int32) (x2 : Addr) : entryFrame m #[(.ref x0), (.int x1), (.ref x2)] 3 = mkF m 0 #[.val (.ref x0), .val (.int x1), .val (.ref x2)] [] := by first | (simp [entryFrame, mkF, argsToLocals, Value.category]; done) | rfl
theorem d6_0 : decode jdk_2435_method_1_code 0 = .ok (.aload_n 0, 1) := by decide +kernel
theorem d6_1 : decode jdk_2435_method_1_code 1 = .ok (.invokespecial 1, 3) := by decide +kernel
theorem d6_4 : decode jdk_2435_method_1_code 4 = .ok (.return_, 1) := by decide +kernel
theorem pn_6 : plainName "java/util/AbstractQueue" = true := by first | (simp [plainName, overriddenIn]; done) | decide +kernel
theorem pd_6 : parseMethodDescriptor "()V" = some ⟨[], none⟩ := by decide +kernel
theorem ef_6 (m : MethodId) (x0 : Addr) : entryFrame m #[(.ref x0)] 1 = mkF m 0 #[.val (.ref x0)] [] := by first | (simp [entryFrame, mkF, argsToLocals, Value.category]; done) | rfl
theorem d7_0 : decode jdk_22_method_1_code 0 = .ok (.aload_n 0, 1) := by decide +kernel
theorem d7_1 : decode jdk_22_method_1_code 1 = .ok (.invokespecial 1, 3) := by decide +kernel
theorem d7_4 : decode jdk_22_method_1_code 4 = .ok (.return_, 1) := by decide +kernel
theorem pn_7 : plainName "java/util/AbstractCollection" = true := by first | (simp [plainName, overriddenIn]; done) | decide +kernel
theorem pd_7 : parseMethodDescriptor "()V" = some ⟨[], none⟩ := by decide +kernel
theorem ef_7 (m : MethodId) (x0 : Addr) : entryFrame m #[(.ref x0)] 1 = mkF m 0 #[.val (.ref x0)] [] := by first | (simp [entryFrame, mkF, argsToLocals, Value.category]; done) | rfl
theorem d8_0 : decode jdk_38_method_2_code 0 = .ok (.aload_n 0, 1) := by decide +kernel
theorem d8_1 : decode jdk_38_method_2_code 1 = .ok (.invokespecial 1, 3) := by decide +kernel
theorem d8_4 : decode jdk_38_method_2_code 4 = .ok (.aload_n 0, 1) := by decide +kernel
theorem d8_5 : decode jdk_38_method_2_code 5 = .ok (.getstatic 39, 3) := by decide +kernel
theorem d8_8 : decode jdk_38_method_2_code 8 = .ok (.putfield 9, 3) := by decide +kernel
theorem d8_11 : decode jdk_38_method_2_code 11 = .ok (.return_, 1) := by decide +kernel
theorem pn_8 : plainName "java/util/ArrayList" = true := by first | (simp [plainName, overriddenIn]; done) | decide +kernel
theorem pd_8 : parseMethodDescriptor "()V" = some ⟨[], none⟩ := by decide +kernel
theorem ef_8 (m : MethodId) (x0 : Addr) : entryFrame m #[(.ref x0)] 1 = mkF m 0 #[.val (.ref x0)] [] := by first | (simp [entryFrame, mkF, argsToLocals, Value.category]; done) | rfl
theorem d9_0 : decode jdk_39_method_1_code 0 = .ok (.aload_n 0, 1) := by decide +kernel
theorem d9_1 : decode jdk_39_method_1_code 1 = .ok (.invokespecial 1, 3) := by decide +kernel
theorem d9_4 : decode jdk_39_method_1_code 4 = .ok (.aload_n 0, 1) := by decide +kernel
theorem d9_5 : decode jdk_39_method_1_code 5 = .ok (.iconst 0, 1) := by decide +kernel
theorem d9_6 : decode jdk_39_method_1_code 6 = .ok (.putfield 7, 3) := by decide +kernel
theorem d9_9 : decode jdk_39_method_1_code 9 = .ok (.return_, 1) := by decide +kernel
theorem pn_9 : plainName "java/util/AbstractList" = true := by first | (simp [plainName, overriddenIn]; done) | decide +kernel
theorem pd_9 : parseMethodDescriptor "()V" = some ⟨[], none⟩ := by decide +kernel
theorem ef_9 (m : MethodId) (x0 : Addr) : entryFrame m #[(.ref x0)] 1 = mkF m 0 #[.val (.ref x0)] [] := by first | (simp [entryFrame, mkF, argsToLocals, Value.category]; done) | rfl
theorem d10_0 : decode prog_126_method_8_code 0 = .ok (.aload_n 0, 1) := by decide +kernel
theorem d10_1 : decode prog_126_method_8_code 1 = .ok (.getfield 19, 3) := by decide +kernel
theorem d10_4 : decode prog_126_method_8_code 4 = .ok (.ifnonnull 41, 3) := by decide +kernel
theorem d10_7 : decode prog_126_method_8_code 7 = .ok (.iconst 0, 1) := by decide +kernel
theorem d10_8 : decode prog_126_method_8_code 8 = .ok (.istore_n 2, 1) := by decide +kernel
theorem d10_9 : decode prog_126_method_8_code 9 = .ok (.iload_n 2, 1) := by decide +kernel
theorem d10_10 : decode prog_126_method_8_code 10 = .ok (.aload_n 0, 1) := by decide +kernel
theorem d10_11 : decode prog_126_method_8_code 11 = .ok (.getfield 15, 3) := by decide +kernel
theorem d10_14 : decode prog_126_method_8_code 14 = .ok (.if_icmp .ge 29, 3) := by decide +kernel
theorem d10_17 : decode prog_126_method_8_code 17 = .ok (.aload_n 0, 1) := by decide +kernel
theorem d10_18 : decode prog_126_method_8_code 18 = .ok (.getfield 11, 3) := by decide +kernel
theorem d10_21 : decode prog_126_method_8_code 21 = .ok (.iload_n 2, 1) := by decide +kernel
theorem d10_22 : decode prog_126_method_8_code 22 = .ok (.aaload, 1) := by decide +kernel
theorem d10_23 : decode prog_126_method_8_code 23 = .ok (.getfield 54, 3) := by decide +kernel
theorem d10_26 : decode prog_126_method_8_code 26 = .ok (.iload_n 1, 1) := by decide +kernel
theorem d10_27 : decode prog_126_method_8_code 27 = .ok (.if_icmp .gt 10, 3) := by decide +kernel
theorem d10_30 : decode prog_126_method_8_code 30 = .ok (.aload_n 0, 1) := by decide +kernel
theorem d10_31 : decode prog_126_method_8_code 31 = .ok (.getfield 11, 3) := by decide +kernel
theorem d10_34 : decode prog_126_method_8_code 34 = .ok (.iload_n 2, 1) := by decide +kernel
theorem d10_35 : decode prog_126_method_8_code 35 = .ok (.aaload, 1) := by decide +kernel
theorem d10_36 : decode prog_126_method_8_code 36 = .ok (.areturn, 1) := by decide +kernel
theorem d10_37 : decode prog_126_method_8_code 37 = .ok (.iinc 2 1, 3) := by decide +kernel
theorem d10_40 : decode prog_126_method_8_code 40 = .ok (.goto (-31), 3) := by decide +kernel
theorem d10_43 : decode prog_126_method_8_code 43 = .ok (.aconst_null, 1) := by decide +kernel
theorem d10_44 : decode prog_126_method_8_code 44 = .ok (.areturn, 1) := by decide +kernel
theorem d10_45 : decode prog_126_method_8_code 45 = .ok (.aload_n 0, 1) := by decide +kernel
theorem d10_46 : decode prog_126_method_8_code 46 = .ok (.getfield 57, 3) := by decide +kernel
theorem d10_49 : decode prog_126_method_8_code 49 = .ok (.iconst 1, 1) := by decide +kernel
theorem d10_50 : decode prog_126_method_8_code 50 = .ok (.iaload, 1) := by decide +kernel
theorem d10_51 : decode prog_126_method_8_code 51 = .ok (.iload_n 1, 1) := by decide +kernel
theorem d10_52 : decode prog_126_method_8_code 52 = .ok (.if_icmp .le 5, 3) := by decide +kernel
theorem d10_55 : decode prog_126_method_8_code 55 = .ok (.aconst_null, 1) := by decide +kernel
theorem d10_56 : decode prog_126_method_8_code 56 = .ok (.areturn, 1) := by decide +kernel
theorem d10_57 : decode prog_126_method_8_code 57 = .ok (.iconst 1, 1) := by decide +kernel
theorem d10_58 : decode prog_126_method_8_code 58 = .ok (.istore_n 2, 1) := by decide +kernel
theorem d10_59 : decode prog_126_method_8_code 59 = .ok (.iload_n 2, 1) := by decide +kernel
theorem d10_60 : decode prog_126_method_8_code 60 = .ok (.aload_n 0, 1) := by decide +kernel
theorem d10_61 : decode prog_126_method_8_code 61 = .ok (.getfield 11, 3) := by decide +kernel
theorem d10_64 : decode prog_126_method_8_code 64 = .ok (.arraylength, 1) := by decide +kernel
theorem d10_65 : decode prog_126_method_8_code 65 = .ok (.if_icmp .ge 30, 3) := by decide +kernel
theorem d10_68 : decode prog_126_method_8_code 68 = .ok (.aload_n 0, 1) := by decide +kernel
theorem d10_69 : decode prog_126_method_8_code 69 = .ok (.getfield 57, 3) := by decide +kernel
theorem d10_72 : decode prog_126_method_8_code 72 = .ok (.iconst 2, 1) := by decide +kernel
theorem d10_73 : decode prog_126_method_8_code 73 = .ok (.iload_n 2, 1) := by decide +kernel
theorem d10_74 : decode prog_126_method_8_code 74 = .ok (.imul, 1) := by decide +kernel
theorem d10_75 : decode prog_126_method_8_code 75 = .ok (.iaload, 1) := by decide +kernel
theorem d10_76 : decode prog_126_method_8_code 76 = .ok (.iload_n 1, 1) := by decide +kernel
theorem d10_77 : decode prog_126_method_8_code 77 = .ok (.if_icmp .gt 9, 3) := by decide +kernel
theorem d10_80 : decode prog_126_method_8_code 80 = .ok (.iconst 2, 1) := by decide +kernel
theorem d10_81 : decode prog_126_method_8_code 81 = .ok (.iload_n 2, 1) := by decide +kernel
theorem d10_82 : decode prog_126_method_8_code 82 = .ok (.imul, 1) := by decide +kernel
theorem d10_83 : decode prog_126_method_8_code 83 = .ok (.goto 8, 3) := by decide +kernel
theorem d10_86 : decode prog_126_method_8_code 86 = .ok (.iconst 2, 1) := by decide +kernel
theorem d10_87 : decode prog_126_method_8_code 87 = .ok (.iload_n 2, 1) := by decide +kernel
theorem d10_88 : decode prog_126_method_8_code 88 = .ok (.imul, 1) := by decide +kernel
theorem d10_89 : decode prog_126_method_8_code 89 = .ok (.iconst 1, 1) := by decide +kernel
theorem d10_90 : decode prog_126_method_8_code 90 = .ok (.iadd, 1) := by decide +kernel
theorem d10_91 : decode prog_126_method_8_code 91 = .ok (.istore_n 2, 1) := by decide +kernel
theorem d10_92 : decode prog_126_method_8_code 92 = .ok (.goto (-33), 3) := by decide +kernel
theorem d10_95 : decode prog_126_method_8_code 95 = .ok (.aload_n 0, 1) := by decide +kernel
theorem d10_96 : decode prog_126_method_8_code 96 = .ok (.getfield 11, 3) := by decide +kernel
theorem d10_99 : decode prog_126_method_8_code 99 = .ok (.iload_n 2, 1) := by decide +kernel
theorem d10_100 : decode prog_126_method_8_code 100 = .ok (.aload_n 0, 1) := by decide +kernel
theorem d10_101 : decode prog_126_method_8_code 101 = .ok (.getfield 11, 3) := by decide +kernel
theorem d10_104 : decode prog_126_method_8_code 104 = .ok (.arraylength, 1) := by decide +kernel
theorem d10_105 : decode prog_126_method_8_code 105 = .ok (.isub, 1) := by decide +kernel
theorem d10_106 : decode prog_126_method_8_code 106 = .ok (.aaload, 1) := by decide +kernel
theorem d10_107 : decode prog_126_method_8_code 107 = .ok (.areturn, 1) := by decide +kernel
theorem pn_10 : plainName "com/example/gangplank/gangplank/gang/Rows" = true := by first | (simp [plainName, overriddenIn]; done) | decide +kernel
theorem pd_10 : parseMethodDescriptor "(I)Lcom/example/gangplank/gangplank/gang/Row;" = some ⟨[.int], some (.object "com/example/gangplank/gangplank/gang/Row")⟩ := by decide +kernel
theorem ef_10 (m : MethodId) (x0 : Addr) (x1 : Int32) : entryFrame m #[(.ref x0), (.int x1)] 3 = mkF m 0 #[.val (.ref x0), .val (.int x1), .unset] [] := by first | (simp [entryFrame, mkF, argsToLocals, Value.category]; done) | rfl
theorem d11_0 : decode prog_126_method_3_code 0 = .ok (.aload_n 0, 1) := by decide +kernel
theorem d11_1 : decode prog_126_method_3_code 1 = .ok (.getfield 19, 3) := by decide +kernel
theorem d11_4 : decode prog_126_method_3_code 4 = .ok (.ifnonnull 20, 3) := by decide +kernel
theorem d11_7 : decode prog_126_method_3_code 7 = .ok (.aload_n 0, 1) := by decide +kernel
theorem d11_8 : decode prog_126_method_3_code 8 = .ok (.getfield 15, 3) := by decide +kernel
theorem d11_11 : decode prog_126_method_3_code 11 = .ok (.bipush 64, 2) := by decide +kernel
theorem d11_13 : decode prog_126_method_3_code 13 = .ok (.if_icmp .ne 11, 3) := by decide +kernel
theorem d11_16 : decode prog_126_method_3_code 16 = .ok (.aload_n 0, 1) := by decide +kernel
theorem d11_17 : decode prog_126_method_3_code 17 = .ok (.iconst 1, 1) := by decide +kernel
theorem d11_18 : decode prog_126_method_3_code 18 = .ok (.invokevirtual 23, 3) := by decide +kernel
theorem d11_21 : decode prog_126_method_3_code 21 = .ok (.goto 31, 3) := by decide +kernel
theorem d11_24 : decode prog_126_method_3_code 24 = .ok (.aload_n 0, 1) := by decide +kernel
theorem d11_25 : decode prog_126_method_3_code 25 = .ok (.getfield 27, 3) := by decide +kernel
theorem d11_28 : decode prog_126_method_3_code 28 = .ok (.aload_n 0, 1) := by decide +kernel
theorem d11_29 : decode prog_126_method_3_code 29 = .ok (.getfield 11, 3) := by decide +kernel
theorem d11_32 : decode prog_126_method_3_code 32 = .ok (.arraylength, 1) := by decide +kernel
theorem d11_33 : decode prog_126_method_3_code 33 = .ok (.if_icmp .ne 19, 3) := by decide +kernel
theorem d11_36 : decode prog_126_method_3_code 36 = .ok (.aload_n 0, 1) := by decide +kernel
theorem d11_37 : decode prog_126_method_3_code 37 = .ok (.aload_n 0, 1) := by decide +kernel
theorem d11_38 : decode prog_126_method_3_code 38 = .ok (.getfield 19, 3) := by decide +kernel
theorem d11_41 : decode prog_126_method_3_code 41 = .ok (.ifnull 7, 3) := by decide +kernel
theorem d11_44 : decode prog_126_method_3_code 44 = .ok (.iconst 1, 1) := by decide +kernel
theorem d11_45 : decode prog_126_method_3_code 45 = .ok (.goto 4, 3) := by decide +kernel
theorem d11_48 : decode prog_126_method_3_code 48 = .ok (.iconst 0, 1) := by decide +kernel
theorem d11_49 : decode prog_126_method_3_code 49 = .ok (.invokevirtual 23, 3) := by decide +kernel
theorem d11_52 : decode prog_126_method_3_code 52 = .ok (.aload_n 1, 1) := by decide +kernel
theorem d11_53 : decode prog_126_method_3_code 53 = .ok (.aload_n 0, 1) := by decide +kernel
theorem d11_54 : decode prog_126_method_3_code 54 = .ok (.getfield 27, 3) := by decide +kernel
theorem d11_57 : decode prog_126_method_3_code 57 = .ok (.putfield 30, 3) := by decide +kernel
theorem d11_60 : decode prog_126_method_3_code 60 = .ok (.aload_n 0, 1) := by decide +kernel
theorem d11_61 : decode prog_126_method_3_code 61 = .ok (.getfield 11, 3) := by decide +kernel
theorem d11_64 : decode prog_126_method_3_code 64 = .ok (.aload_n 0, 1) := by decide +kernel
theorem d11_65 : decode prog_126_method_3_code 65 = .ok (.getfield 27, 3) := by decide +kernel
theorem d11_68 : decode prog_126_method_3_code 68 = .ok (.aload_n 1, 1) := by decide +kernel
theorem d11_69 : decode prog_126_method_3_code 69 = .ok (.aastore, 1) := by decide +kernel
theorem d11_70 : decode prog_126_method_3_code 70 = .ok (.aload_n 0, 1) := by decide +kernel
theorem d11_71 : decode prog_126_method_3_code 71 = .ok (.dup, 1) := by decide +kernel
theorem d11_72 : decode prog_126_method_3_code 72 = .ok (.getfield 27, 3) := by decide +kernel
theorem d11_75 : decode prog_126_method_3_code 75 = .ok (.iconst 1, 1) := by decide +kernel
theorem d11_76 : decode prog_126_method_3_code 76 = .ok (.iadd, 1) := by decide +kernel
theorem d11_77 : decode prog_126_method_3_code 77 = .ok (.putfield 27, 3) := by decide +kernel
theorem d11_80 : decode prog_126_method_3_code 80 = .ok (.aload_n 0, 1) := by decide +kernel
theorem d11_81 : decode prog_126_method_3_code 81 = .ok (.dup, 1) := by decide +kernel
theorem d11_82 : decode prog_126_method_3_code 82 = .ok (.getfield 15, 3) := by decide +kernel
theorem d11_85 : decode prog_126_method_3_code 85 = .ok (.iconst 1, 1) := by decide +kernel
theorem d11_86 : decode prog_126_method_3_code 86 = .ok (.iadd, 1) := by decide +kernel
theorem d11_87 : decode prog_126_method_3_code 87 = .ok (.putfield 15, 3) := by decide +kernel
theorem d11_90 : decode prog_126_method_3_code 90 = .ok (.aload_n 0, 1) := by decide +kernel
theorem d11_91 : decode prog_126_method_3_code 91 = .ok (.aload_n 1, 1) := by decide +kernel
theorem d11_92 : decode prog_126_method_3_code 92 = .ok (.invokevirtual 33, 3) := by decide +kernel
theorem d11_95 : decode prog_126_method_3_code 95 = .ok (.return_, 1) := by decide +kernel
theorem pn_11 : plainName "com/example/gangplank/gangplank/gang/Rows" = true := by first | (simp [plainName, overriddenIn]; done) | decide +kernel
theorem pd_11 : parseMethodDescriptor "(Lcom/example/gangplank/gangplank/gang/Row;)V" = some ⟨[(.object "com/example/gangplank/gangplank/gang/Row")], none⟩ := by decide +kernel
theorem ef_11 (m : MethodId) (x0 : Addr) (x1 : Addr) : entryFrame m #[(.ref x0), (.ref x1)] 2 = mkF m 0 #[.val (.ref x0), .val (.ref x1)] [] := by first | (simp [entryFrame, mkF, argsToLocals, Value.category]; done) | rfl
theorem d12_0 : decode prog_126_method_5_code 0 = .ok (.aload_n 0, 1) := by decide +kernel
theorem d12_1 : decode prog_126_method_5_code 1 = .ok (.getfield 19, 3) := by decide +kernel
theorem d12_4 : decode prog_126_method_5_code 4 = .ok (.ifnull 11, 3) := by decide +kernel
theorem d12_7 : decode prog_126_method_5_code 7 = .ok (.aload_n 0, 1) := by decide +kernel
theorem d12_8 : decode prog_126_method_5_code 8 = .ok (.aload_n 1, 1) := by decide +kernel
theorem d12_9 : decode prog_126_method_5_code 9 = .ok (.getfield 30, 3) := by decide +kernel
theorem d12_12 : decode prog_126_method_5_code 12 = .ok (.invokevirtual 37, 3) := by decide +kernel
theorem d12_15 : decode prog_126_method_5_code 15 = .ok (.return_, 1) := by decide +kernel
theorem pn_12 : plainName "com/example/gangplank/gangplank/gang/Rows" = true := by first | (simp [plainName, overriddenIn]; done) | decide +kernel
theorem pd_12 : parseMethodDescriptor "(Lcom/example/gangplank/gangplank/gang/Row;)V" = some ⟨[(.object "com/example/gangplank/gangplank/gang/Row")], none⟩ := by decide +kernel
theorem ef_12 (m : MethodId) (x0 : Addr) (x1 : Addr) : entryFrame m #[(.ref x0), (.ref x1)] 2 = mkF m 0 #[.val (.ref x0), .val (.ref x1)] [] := by first | (simp [entryFrame, mkF, argsToLocals, Value.category]; done) | rfl
def own_fs1 : List (String × String × String) := [("com/example/gangplank/gangplank/gang/Rows", "slots", "[Lcom/example/gangplank/gangplank/gang/Row;"), ("com/example/gangplank/gangplank/gang/Rows", "count", "[I"), ("com/example/gangplank/gangplank/gang/Rows", "size", "I"), ("com/example/gangplank/gangplank/gang/Rows", "tail", "I"), ("com/example/gangplank/gangplank/gang/Rows", "fewestUsed", "[I")]
theorem own_ok1 : own_okFs own_fs1 = true := by decide +kernel
theorem own_ld1 {Z : State} {a0 : Array Value} (hw : ∀ d ∈ tables_1, d.before a0 Z = true) : own_Lds Z a0 "com/example/gangplank/gangplank/gang/Rows" own_fs1 := ⟨Or.inl (hw _ (List.mem_of_getElem? (i := 13) rfl)), Or.inl (hw _ (List.mem_of_getElem? (i := 92) rfl)), Or.inl (hw _ (List.mem_of_getElem? (i := 94) rfl)), Or.inl (hw _ (List.mem_of_getElem? (i := 101) rfl)), Or.inl (hw _ (List.mem_of_getElem? (i := 111) rfl)), trivial⟩
def own_dl1 : List Value := [.null, .null, (.int (0 : Int32)), (.int (0 : Int32)), .null]
theorem own_df1 : own_Dfs own_fs1 own_dl1 := ⟨⟨(.array (.object "com/example/gangplank/gangplank/gang/Row")), by decide, rfl⟩, ⟨(.array .int), by decide, rfl⟩, ⟨.int, by decide, rfl⟩, ⟨.int, by decide, rfl⟩, ⟨(.array .int), by decide, rfl⟩, trivial⟩
def own_fs2 : List (String × String × String) := [("com/example/gangplank/gangplank/gang/Row", "heapPlace", "I"), ("com/example/gangplank/gangplank/gang/Row", "members", "Ljava/util/PriorityQueue;"), ("com/example/gangplank/gangplank/gang/Row", "unstarted", "Ljava/util/List;"), ("com/example/gangplank/gangplank/gang/Row", "order", "J"), ("com/example/gangplank/gangplank/gang/Row", "nextRound", "J"), ("com/example/gangplank/gangplank/gang/Row", "used", "I"), ("com/example/gangplank/gangplank/gang/Row", "slot", "I")]
theorem own_ok2 : own_okFs own_fs2 = true := by decide +kernel
theorem own_ld2 {Z : State} {a0 : Array Value} (hw : ∀ d ∈ tables_1, d.before a0 Z = true) : own_Lds Z a0 "com/example/gangplank/gangplank/gang/Row" own_fs2 := ⟨Or.inl (hw _ (List.mem_of_getElem? (i := 22) rfl)), Or.inr (hw _ (List.mem_of_getElem? (i := 56) rfl)), Or.inr (hw _ (List.mem_of_getElem? (i := 77) rfl)), Or.inr (hw _ (List.mem_of_getElem? (i := 79) rfl)), Or.inl (hw _ (List.mem_of_getElem? (i := 81) rfl)), Or.inl (hw _ (List.mem_of_getElem? (i := 85) rfl)), Or.inl (hw _ (List.mem_of_getElem? (i := 103) rfl)), trivial⟩
def own_dl2 : List Value := [(.int (0 : Int32)), .null, .null, (.long (0 : Int64)), (.long (0 : Int64)), (.int (0 : Int32)), (.int (0 : Int32))]
theorem own_df2 : own_Dfs own_fs2 own_dl2 := ⟨⟨.int, by decide, rfl⟩, ⟨(.object "java/util/PriorityQueue"), by decide, rfl⟩, ⟨(.object "java/util/List"), by decide, rfl⟩, ⟨.long, by decide, rfl⟩, ⟨.long, by decide, rfl⟩, ⟨.int, by decide, rfl⟩, ⟨.int, by decide, rfl⟩, trivial⟩
def own_fs3 : List (String × String × String) := [("java/util/PriorityQueue", "queue", "[Ljava/lang/Object;"), ("java/util/PriorityQueue", "comparator", "Ljava/util/Comparator;")]
theorem own_ok3 : own_okFs own_fs3 = true := by decide +kernel
theorem own_ld3 {Z : State} {a0 : Array Value} (hw : ∀ d ∈ tables_1, d.before a0 Z = true) : own_Lds Z a0 "java/util/PriorityQueue" own_fs3 := ⟨Or.inl (hw _ (List.mem_of_getElem? (i := 52) rfl)), Or.inr (hw _ (List.mem_of_getElem? (i := 54) rfl)), trivial⟩
def own_dl3 : List Value := [.null, .null]
theorem own_df3 : own_Dfs own_fs3 own_dl3 := ⟨⟨(.array (.object "java/lang/Object")), by decide, rfl⟩, ⟨(.object "java/util/Comparator"), by decide, rfl⟩, trivial⟩
def own_fs4 : List (String × String × String) := [("java/util/AbstractList", "modCount", "I"), ("java/util/ArrayList", "elementData", "[Ljava/lang/Object;")]
theorem own_ok4 : own_okFs own_fs4 = true := by decide +kernel
theorem own_ld4 {Z : State} {a0 : Array Value} (hw : ∀ d ∈ tables_1, d.before a0 Z = true) : own_Lds Z a0 "java/util/ArrayList" own_fs4 := ⟨Or.inl (hw _ (List.mem_of_getElem? (i := 72) rfl)), Or.inl (hw _ (List.mem_of_getElem? (i := 75) rfl)), trivial⟩
def own_dl4 : List Value := [(.int (0 : Int32)), .null]
theorem own_df4 : own_Dfs own_fs4 own_dl4 := ⟨⟨.int, by decide, rfl⟩, ⟨(.array (.object "java/lang/Object")), by decide, rfl⟩, trivial⟩
def own_Qn (h0 : Heap) (v : Option Value) (h : Heap) (L : List Loc) : Prop := v = none ∧ h = h0 ∧ L = []
def own_QV (z : Value) (h0 : Heap) (v : Option Value) (h : Heap) (L : List Loc) : Prop := v = some z ∧ h = h0 ∧ L = []
def own_QK (a : Addr) (h0 : Heap) (n0 : Nat) (v : Option Value) (h : Heap) (L : List Loc) : Prop := v = none ∧ Fr n0 L ∧ Keep h0 h [a]
def own_QO (Z : State) (a : Addr) (C : String) (fs : List (String × String × String)) (h0 : Heap) (n0 : Nat) (v : Option Value) (h : Heap) (L : List Loc) : Prop := v = none ∧ Fr n0 L ∧ Keep h0 h [a] ∧ ∃ g, own_Ob Z h a C fs g
def own_gR (b : Addr) (x : Int32) : Nat → Value := own_gl [.ref b, .null, .int x, .int x, .null]
def own_QS (Z : State) (a : Addr) (h0 : Heap) (n0 : Nat) (v : Option Value) (h : Heap) (L : List Loc) : Prop := v = none ∧ Fr n0 L ∧ Keep h0 h [a] ∧ ∃ b, b ≠ a ∧ h0.size ≤ b ∧ own_Ob Z h a "com/example/gangplank/gangplank/gang/Rows" own_fs1 (own_gR b 0) ∧ own_Rr Z h b "com/example/gangplank/gangplank/gang/Row" 4 (fun _ => .null)
def own_QA (Z : State) (a b r : Addr) (ii : Int32) (i : Nat) (f gr : Nat → Value) (h0 : Heap) (n0 : Nat) (v : Option Value) (h : Heap) (L : List Loc) : Prop := v = none ∧ Fr n0 L ∧ Keep h0 h [a, b, r] ∧ own_Ob Z h a "com/example/gangplank/gangplank/gang/Rows" own_fs1 (own_gR b (ii + 1)) ∧ own_Rr Z h b "com/example/gangplank/gangplank/gang/Row" 4 (own_up f i (.ref r)) ∧ own_Ob Z h r "com/example/gangplank/gangplank/gang/Row" own_fs2 (own_up gr 6 (.int ii))
def own_fst (us : Nat → Int32) (rs : Nat → Addr) (most : Int32) : Nat → Nat → Value
  | 0, _ => .null
  | d + 1, i => if most < us i then own_fst us rs most d (i + 1) else .ref (rs i)
def own_us (a b c d : Int32) : Nat → Int32 := fun i => if i = 0 then a else if i = 1 then b else if i = 2 then c else d
def own_rs (a b c d : Addr) : Nat → Addr := fun i => if i = 0 then a else if i = 1 then b else if i = 2 then c else d
def own_Q0 (n0 : Nat) (v : Option Value) (h : Heap) (L : List Loc) : Prop := v = some (.int 1) ∧ Fr n0 L
theorem own_inc {iv : Int32} {i : Nat} (h : iv.toInt = (i : Int)) (hi : i < 900) : (iv + 1).toInt = ((i + 1 : Nat) : Int) := by
  have h1 : (1 : Int32).toInt = 1 := rfl
  rw [Jvm.Kit.i32_add (by omega) (by omega), h, h1]
  omega
theorem own_nek {ii : Int32} {i : Nat} (h : ii.toInt = (i : Int)) (k : Nat) (hk : k < 2 ^ 31) (hi : i ≠ k) : ¬ ii = Int32.ofNat k := by
  intro q
  rw [q, Int32.toInt_ofNat_small hk] at h
  omega
theorem own_n5 (p : Int32) : ((p &&& (2147483647 : Int32)) % (5 : Int32)) = 0 ∨ ((p &&& (2147483647 : Int32)) % (5 : Int32)) = 1 ∨ ((p &&& (2147483647 : Int32)) % (5 : Int32)) = 2 ∨ ((p &&& (2147483647 : Int32)) % (5 : Int32)) = 3 ∨ ((p &&& (2147483647 : Int32)) % (5 : Int32)) = 4 := by
  have h := Jvm.Kit.i32_mask p 2147483647 (k := 31) (by decide) (by decide)
  have h2 := Jvm.Kit.i32_rem_nonneg (x := p &&& (2147483647 : Int32)) (y := (5 : Int32)) (by omega)
  have h3 : (5 : Int32).toInt = 5 := rfl
  have e0 : (0 : Int32).toInt = 0 := rfl
  have e1 : (1 : Int32).toInt = 1 := rfl
  have e2 : (2 : Int32).toInt = 2 := rfl
  have e4 : (4 : Int32).toInt = 4 := rfl
  have e3 : (3 : Int32).toInt = 3 := rfl
  simp only [← Int32.toInt_inj, e0, e1, e2, e3, e4]
  rw [h2, h3]
  omega
set_option maxRecDepth 65536 in
set_option maxHeartbeats 40000000 in
theorem own_rmAC (l : Launch) (Z : State) (a0 : Array Value) (hw : ∀ d ∈ tables_1, d.before a0 Z = true) (ws : List Jvm.Cond) (a : Addr) (h0 : Heap) (n0 : Nat)  :
    own_Met l (⟨"java/util/AbstractCollection", "<init>", "()V"⟩ : MethodName) jdk_22_method_1_code 1 none ws ({ frames := 1, cells := 0, slots := 0, locals := 12 } : Room) Z #[(.ref a)] h0 (own_Qn h0) := by
  refine own_enter (plainFor_of_name pn_7) ?_
  intro p e s m below meth c T0 X0 hx hby hml hZ hown e0 hret hlk hnm
  have hown : s.vm.findClass "java/util/AbstractCollection" = some m.cls := hown
  have hml : c.maxLocals = 1 := hml
  have N0 := Fr.nil n0
  refine own_start (ef_7 m a) ?_
  show own_Go p e below _ T0 (mkF m 0 #[.val (.ref a)] [])
  refine own_go (g' := (mkF m 1 #[.val (.ref a)] [(.ref a)])) (fun _ k => XS.aloadN X0.here hx rfl (hb hby d7_0) rfl rfl k) ?_
  refine own_initO X0 hx hZ hown e0 (hw _ (List.mem_of_getElem? (i := 48) rfl)) (hw _ (List.mem_of_getElem? (i := 8) rfl)) (hw _ (List.mem_of_getElem? (i := 9) rfl)) (by rw [hml]; rfl) (hb hby d7_1) (by decide) (W := 0) (Nat.le_of_eq rfl) (by decide) ?_
  intro T1 X1 e1
  show own_Go p e below _ T1 (mkF m 4 #[.val (.ref a)] [])
  exact own_ret0 X1 hx hlk hret e1 (hb hby d7_4) ⟨rfl, rfl, rfl⟩ (by decide) (by decide)
set_option maxRecDepth 65536 in
set_option maxHeartbeats 40000000 in
theorem own_rmAQ (l : Launch) (Z : State) (a0 : Array Value) (hw : ∀ d ∈ tables_1, d.before a0 Z = true) (ws : List Jvm.Cond) (a : Addr) (h0 : Heap) (n0 : Nat)  :
    own_Met l (⟨"java/util/AbstractQueue", "<init>", "()V"⟩ : MethodName) jdk_2435_method_1_code 1 none ws ({ frames := 2, cells := 0, slots := 0, locals := 24 } : Room) Z #[(.ref a)] h0 (own_Qn h0) := by
  refine own_enter (plainFor_of_name pn_6) ?_
  intro p e s m below meth c T0 X0 hx hby hml hZ hown e0 hret hlk hnm
  have hown : s.vm.findClass "java/util/AbstractQueue" = some m.cls := hown
  have hml : c.maxLocals = 1 := hml
  have N0 := Fr.nil n0
  refine own_start (ef_6 m a) ?_
  show own_Go p e below _ T0 (mkF m 0 #[.val (.ref a)] [])
  refine own_go (g' := (mkF m 1 #[.val (.ref a)] [(.ref a)])) (fun _ k => XS.aloadN X0.here hx rfl (hb hby d6_0) rfl rfl k) ?_
  refine own_callC X0 hx hZ hown e0 (y := (⟨"java/util/AbstractCollection", "<init>", "()V"⟩ : MethodName)) (rm := ({ frames := 1, cells := 0, slots := 0, locals := 12 } : Room)) rfl (hw _ (List.mem_of_getElem? (i := 42) rfl)) (hw _ (List.mem_of_getElem? (i := 43) rfl)) (hw _ (List.mem_of_getElem? (i := 46) rfl)) (hw _ (List.mem_of_getElem? (i := 47) rfl)) (by decide) (a := a) (argsL := []) (rest := []) (own_rmAC l Z a0 hw [] a h0 n0) (by rw [hml]; rfl) pd_7 rfl rfl (hb hby d6_1) (W := 0) (Nat.le_of_eq rfl) (by decide) (by decide) (by decide) (by decide) ?_
  intro v2 T2 L2 X2 hQ2
  obtain ⟨rfl, e2, rfl⟩ := hQ2
  rw [List.append_nil] at X2
  show own_Go p e below _ T2 (mkF m 4 #[.val (.ref a)] [])
  exact own_ret0 X2 hx hlk hret e2 (hb hby d6_4) ⟨rfl, rfl, rfl⟩ (by decide) (by decide)
set_option maxRecDepth 65536 in
set_option maxHeartbeats 40000000 in
theorem own_rmP2 (l : Launch) (Z : State) (a0 : Array Value) (hw : ∀ d ∈ tables_1, d.before a0 Z = true) (ws : List Jvm.Cond) (a cm : Addr) (g : Nat → Value) (h0 : Heap) (n0 : Nat) (Z0 : n0 ≤ h0.size) (ga : n0 ≤ a) (B0 : own_Ob Z h0 a "java/util/PriorityQueue" own_fs3 g) :
    own_Met l (⟨"java/util/PriorityQueue", "<init>", "(ILjava/util/Comparator;)V"⟩ : MethodName) jdk_2655_method_4_code 3 none ws ({ frames := 3, cells := 1, slots := 11, locals := 36 } : Room) Z #[(.ref a), (.int (11 : Int32)), (.ref cm)] h0 (own_QK a h0 n0) := by
  refine own_enter (plainFor_of_name pn_5) ?_
  intro p e s m below meth c T0 X0 hx hby hml hZ hown e0 hret hlk hnm
  have hown : s.vm.findClass "java/util/PriorityQueue" = some m.cls := hown
  have hml : c.maxLocals = 3 := hml
  have N0 := Fr.nil n0
  refine own_start (ef_5 m a (11 : Int32) cm) ?_
  show own_Go p e below _ T0 (mkF m 0 #[.val (.ref a), .val (.int (11 : Int32)), .val (.ref cm)] [])
  have K0 := Keep.refl h0 [a]
  refine own_go (g' := (mkF m 1 #[.val (.ref a), .val (.int (11 : Int32)), .val (.ref cm)] [(.ref a)])) (fun _ k => XS.aloadN X0.here hx rfl (hb hby d5_0) rfl rfl k) ?_
  refine own_callC X0 hx hZ hown e0 (y := (⟨"java/util/AbstractQueue", "<init>", "()V"⟩ : MethodName)) (rm := ({ frames := 2, cells := 0, slots := 0, locals := 24 } : Room)) rfl (hw _ (List.mem_of_getElem? (i := 36) rfl)) (hw _ (List.mem_of_getElem? (i := 37) rfl)) (hw _ (List.mem_of_getElem? (i := 40) rfl)) (hw _ (List.mem_of_getElem? (i := 41) rfl)) (by decide) (a := a) (argsL := []) (rest := []) (own_rmAQ l Z a0 hw [] a h0 n0) (by rw [hml]; rfl) pd_6 rfl rfl (hb hby d5_1) (W := 0) (Nat.le_of_eq rfl) (by decide) (by decide) (by decide) (by decide) ?_
  intro v3 T3 L3 X3 hQ3
  obtain ⟨rfl, e3, rfl⟩ := hQ3
  rw [List.append_nil] at X3
  show own_Go p e below _ T3 (mkF m 4 #[.val (.ref a), .val (.int (11 : Int32)), .val (.ref cm)] [])
  refine own_go (g' := (mkF m 5 #[.val (.ref a), .val (.int (11 : Int32)), .val (.ref cm)] [(.int (11 : Int32))])) (fun _ k => XS.iloadN X3.here hx rfl (hb hby d5_4) rfl k) ?_
  refine own_go (g' := (mkF m 6 #[.val (.ref a), .val (.int (11 : Int32)), .val (.ref cm)] [(.int (1 : Int32)), (.int (11 : Int32))])) (fun _ k => XS.iconst X3.here hx rfl (hb hby d5_5) k) ?_
  refine own_go (g' := (mkF m 17 #[.val (.ref a), .val (.int (11 : Int32)), .val (.ref cm)] [])) (fun _ k => XS.icmpYes X3.here hx rfl (pc0 := 6) (pc' := 17) rfl (hb hby d5_6) rfl (XT.ii_ge_t (by decide)) (by decide) (by decide) k) ?_
  refine own_go (g' := (mkF m 18 #[.val (.ref a), .val (.int (11 : Int32)), .val (.ref cm)] [(.ref a)])) (fun _ k => XS.aloadN X3.here hx rfl (hb hby d5_17) rfl rfl k) ?_
  refine own_go (g' := (mkF m 19 #[.val (.ref a), .val (.int (11 : Int32)), .val (.ref cm)] [(.int (11 : Int32)), (.ref a)])) (fun _ k => XS.iloadN X3.here hx rfl (hb hby d5_18) rfl k) ?_
  refine own_newR X3 hx hZ hown e3 (hw _ (List.mem_of_getElem? (i := 49) rfl)) (hw _ (List.mem_of_getElem? (i := 50) rfl)) 11 (by decide) (by decide) (by decide) (by decide) (by decide) (hb hby d5_19) ?_
  intro T4 h4 b4 g4 X4 e4 E4 A4
  have ne5 : a ≠ b4 := Nat.ne_of_lt (Nat.lt_of_lt_of_le (own_Ob_lt B0) (Nat.le_of_eq g4.symm))
  have sz4 : h0.size ≤ b4 := Nat.le_trans K0.1 (Nat.le_of_eq g4.symm)
  have ge4 : n0 ≤ b4 := Nat.le_trans Z0 sz4
  have K4 := K0.ext E4
  show own_Go p e below _ T4 (mkF m 22 #[.val (.ref a), .val (.int (11 : Int32)), .val (.ref cm)] [(.ref b4), (.ref a)])
  have f6 := (own_Ob_ext B0 E4)
  refine own_putF X4 hx hZ (host := "") (ty := (.array (.object "java/lang/Object"))) hown e4 (Or.inl (hw _ (List.mem_of_getElem? (i := 51) rfl))) Via.refl (own_Ob_fld f6 0 rfl) f6.1 (Or.inl (hw _ (List.mem_of_getElem? (i := 52) rfl))) (hw _ (List.mem_of_getElem? (i := 24) rfl)) (by decide) rfl rfl (hb hby d5_22) ?_
  intro T7 h7 X7 e7 W7
  have B7 := own_Ob_put f6 own_ok3 (own_ld3 hw) 0 rfl W7
  have K7 := K4.wr W7 (Or.inl (List.mem_of_getElem? (i := 0) rfl))
  have N7 := Fr.snoc X7 N0 ga
  show own_Go p e below _ T7 (mkF m 25 #[.val (.ref a), .val (.int (11 : Int32)), .val (.ref cm)] [])
  refine own_go (g' := (mkF m 26 #[.val (.ref a), .val (.int (11 : Int32)), .val (.ref cm)] [(.ref a)])) (fun _ k => XS.aloadN X7.here hx rfl (hb hby d5_25) rfl rfl k) ?_
  refine own_go (g' := (mkF m 27 #[.val (.ref a), .val (.int (11 : Int32)), .val (.ref cm)] [(.ref cm), (.ref a)])) (fun _ k => XS.aloadN X7.here hx rfl (hb hby d5_26) rfl rfl k) ?_
  refine own_putF X7 hx hZ (host := "") (ty := (.object "java/util/Comparator")) hown e7 (Or.inl (hw _ (List.mem_of_getElem? (i := 53) rfl))) Via.refl (own_Ob_fld B7 1 rfl) B7.1 (Or.inr ⟨(hw _ (List.mem_of_getElem? (i := 54) rfl)), rfl, hnm⟩) (hw _ (List.mem_of_getElem? (i := 24) rfl)) (by decide) rfl rfl (hb hby d5_27) ?_
  intro T8 h8 X8 e8 W8
  have B8 := own_Ob_put B7 own_ok3 (own_ld3 hw) 1 rfl W8
  have K8 := K7.wr W8 (Or.inl (List.mem_of_getElem? (i := 0) rfl))
  have N8 := Fr.snoc X8 N7 ga
  show own_Go p e below _ T8 (mkF m 30 #[.val (.ref a), .val (.int (11 : Int32)), .val (.ref cm)] [])
  exact own_ret0 X8 hx hlk hret e8 (hb hby d5_30) ⟨rfl, N8, K8⟩ (by decide) (by decide)
set_option maxRecDepth 65536 in
set_option maxHeartbeats 40000000 in
theorem own_rmP1 (l : Launch) (Z : State) (a0 : Array Value) (hw : ∀ d ∈ tables_1, d.before a0 Z = true) (ws : List Jvm.Cond) (a cm : Addr) (g : Nat → Value) (h0 : Heap) (n0 : Nat) (Z0 : n0 ≤ h0.size) (ga : n0 ≤ a) (B0 : own_Ob Z h0 a "java/util/PriorityQueue" own_fs3 g) :
    own_Met l (⟨"java/util/PriorityQueue", "<init>", "(Ljava/util/Comparator;)V"⟩ : MethodName) jdk_2655_method_3_code 2 none ws ({ frames := 4, cells := 1, slots := 11, locals := 50 } : Room) Z #[(.ref a), (.ref cm)] h0 (own_QK a h0 n0) := by
  refine own_enter (plainFor_of_name pn_4) ?_
  intro p e s m below meth c T0 X0 hx hby hml hZ hown e0 hret hlk hnm
  have hown : s.vm.findClass "java/util/PriorityQueue" = some m.cls := hown
  have hml : c.maxLocals = 2 := hml
  have N0 := Fr.nil n0
  refine own_start (ef_4 m a cm) ?_
  show own_Go p e below _ T0 (mkF m 0 #[.val (.ref a), .val (.ref cm)] [])
  refine own_go (g' := (mkF m 1 #[.val (.ref a), .val (.ref cm)] [(.ref a)])) (fun _ k => XS.aloadN X0.here hx rfl (hb hby d4_0) rfl rfl k) ?_
  refine own_go (g' := (mkF m 3 #[.val (.ref a), .val (.ref cm)] [(.int (11 : Int32)), (.ref a)])) (fun _ k => XS.bipush X0.here hx rfl (hb hby d4_1) k) ?_
  refine own_go (g' := (mkF m 4 #[.val (.ref a), .val (.ref cm)] [(.ref cm), (.int (11 : Int32)), (.ref a)])) (fun _ k => XS.aloadN X0.here hx rfl (hb hby d4_3) rfl rfl k) ?_
  refine own_callC X0 hx hZ hown e0 (y := (⟨"java/util/PriorityQueue", "<init>", "(ILjava/util/Comparator;)V"⟩ : MethodName)) (rm := ({ frames := 3, cells := 1, slots := 11, locals := 36 } : Room)) rfl (hw _ (List.mem_of_getElem? (i := 32) rfl)) (hw _ (List.mem_of_getElem? (i := 33) rfl)) (hw _ (List.mem_of_getElem? (i := 25) rfl)) (hw _ (List.mem_of_getElem? (i := 35) rfl)) (by decide) (a := a) (argsL := [(.int (11 : Int32)), (.ref cm)]) (rest := []) (own_rmP2 l Z a0 hw [] a cm g h0 n0 Z0 ga B0) (by rw [hml]; rfl) pd_5 rfl rfl (hb hby d4_4) (W := 0) (Nat.le_of_eq rfl) (by decide) (by decide) (by decide) (by decide) ?_
  intro v9 T9 L9 X9 hQ9
  obtain ⟨rfl, N1, K1⟩ := hQ9
  show own_Go p e below _ T9 (mkF m 7 #[.val (.ref a), .val (.ref cm)] [])
  exact own_ret0 X9 hx hlk hret rfl (hb hby d4_7) ⟨rfl, Fr.app N0 N1, K1⟩ (by decide) (by decide)
set_option maxRecDepth 65536 in
set_option maxHeartbeats 40000000 in
theorem own_rmAB (l : Launch) (Z : State) (a0 : Array Value) (hw : ∀ d ∈ tables_1, d.before a0 Z = true) (ws : List Jvm.Cond) (a : Addr) (g : Nat → Value) (h0 : Heap) (n0 : Nat) (ga : n0 ≤ a) (B0 : own_Ob Z h0 a "java/util/ArrayList" own_fs4 g) :
    own_Met l (⟨"java/util/AbstractList", "<init>", "()V"⟩ : MethodName) jdk_39_method_1_code 1 none ws ({ frames := 2, cells := 0, slots := 0, locals := 24 } : Room) Z #[(.ref a)] h0 (own_QO Z a "java/util/ArrayList" own_fs4 h0 n0) := by
  refine own_enter (plainFor_of_name pn_9) ?_
  intro p e s m below meth c T0 X0 hx hby hml hZ hown e0 hret hlk hnm
  have hown : s.vm.findClass "java/util/AbstractList" = some m.cls := hown
  have hml : c.maxLocals = 1 := hml
  have N0 := Fr.nil n0
  refine own_start (ef_9 m a) ?_
  show own_Go p e below _ T0 (mkF m 0 #[.val (.ref a)] [])
  have K0 := Keep.refl h0 [a]
  refine own_go (g' := (mkF m 1 #[.val (.ref a)] [(.ref a)])) (fun _ k => XS.aloadN X0.here hx rfl (hb hby d9_0) rfl rfl k) ?_
  refine own_callC X0 hx hZ hown e0 (y := (⟨"java/util/AbstractCollection", "<init>", "()V"⟩ : MethodName)) (rm := ({ frames := 1, cells := 0, slots := 0, locals := 12 } : Room)) rfl (hw _ (List.mem_of_getElem? (i := 69) rfl)) (hw _ (List.mem_of_getElem? (i := 43) rfl)) (hw _ (List.mem_of_getElem? (i := 46) rfl)) (hw _ (List.mem_of_getElem? (i := 47) rfl)) (by decide) (a := a) (argsL := []) (rest := []) (own_rmAC l Z a0 hw [] a h0 n0) (by rw [hml]; rfl) pd_7 rfl rfl (hb hby d9_1) (W := 0) (Nat.le_of_eq rfl) (by decide) (by decide) (by decide) (by decide) ?_
  intro v10 T10 L10 X10 hQ10
  obtain ⟨rfl, e10, rfl⟩ := hQ10
  rw [List.append_nil] at X10
  show own_Go p e below _ T10 (mkF m 4 #[.val (.ref a)] [])
  refine own_go (g' := (mkF m 5 #[.val (.ref a)] [(.ref a)])) (fun _ k => XS.aloadN X10.here hx rfl (hb hby d9_4) rfl rfl k) ?_
  refine own_go (g' := (mkF m 6 #[.val (.ref a)] [(.int (0 : Int32)), (.ref a)])) (fun _ k => XS.iconst X10.here hx rfl (hb hby d9_5) k) ?_
  refine own_putF X10 hx hZ (host := "") (ty := .int) hown e10 (Or.inl (hw _ (List.mem_of_getElem? (i := 71) rfl))) Via.refl (own_Ob_fld B0 0 rfl) B0.1 (Or.inl (hw _ (List.mem_of_getElem? (i := 72) rfl))) (hw _ (List.mem_of_getElem? (i := 58) rfl)) (by decide) rfl rfl (hb hby d9_6) ?_
  intro T11 h11 X11 e11 W11
  have B11 := own_Ob_put B0 own_ok4 (own_ld4 hw) 0 rfl W11
  have K11 := K0.wr W11 (Or.inl (List.mem_of_getElem? (i := 0) rfl))
  have N11 := Fr.snoc X11 N0 ga
  show own_Go p e below _ T11 (mkF m 9 #[.val (.ref a)] [])
  exact own_ret0 X11 hx hlk hret e11 (hb hby d9_9) ⟨rfl, N11, K11, _, B11⟩ (by decide) (by decide)
set_option maxRecDepth 65536 in
set_option maxHeartbeats 40000000 in
theorem own_rmAL (l : Launch) (Z : State) (a0 : Array Value) (hw : ∀ d ∈ tables_1, d.before a0 Z = true) (ws : List Jvm.Cond) (a sv : Addr) (g : Nat → Value) (h0 : Heap) (n0 : Nat) (ga : n0 ≤ a) (O0 : Old Z n0 h0) (S0 : Sta Z Z.heap "java/util/ArrayList" "DEFAULTCAPACITY_EMPTY_ELEMENTDATA" "[Ljava/lang/Object;" (.ref sv)) (B0 : own_Ob Z h0 a "java/util/ArrayList" own_fs4 g) :
    own_Met l (⟨"java/util/ArrayList", "<init>", "()V"⟩ : MethodName) jdk_38_method_2_code 1 none ws ({ frames := 3, cells := 0, slots := 0, locals := 36 } : Room) Z #[(.ref a)] h0 (own_QK a h0 n0) := by
  refine own_enter (plainFor_of_name pn_8) ?_
  intro p e s m below meth c T0 X0 hx hby hml hZ hown e0 hret hlk hnm
  have hown : s.vm.findClass "java/util/ArrayList" = some m.cls := hown
  have hml : c.maxLocals = 1 := hml
  have N0 := Fr.nil n0
  refine own_start (ef_8 m a) ?_
  show own_Go p e below _ T0 (mkF m 0 #[.val (.ref a)] [])
  have K0 := Keep.refl h0 [a]
  refine own_go (g' := (mkF m 1 #[.val (.ref a)] [(.ref a)])) (fun _ k => XS.aloadN X0.here hx rfl (hb hby d8_0) rfl rfl k) ?_
  refine own_callC X0 hx hZ hown e0 (y := (⟨"java/util/AbstractList", "<init>", "()V"⟩ : MethodName)) (rm := ({ frames := 2, cells := 0, slots := 0, locals := 24 } : Room)) rfl (hw _ (List.mem_of_getElem? (i := 63) rfl)) (hw _ (List.mem_of_getElem? (i := 64) rfl)) (hw _ (List.mem_of_getElem? (i := 67) rfl)) (hw _ (List.mem_of_getElem? (i := 68) rfl)) (by decide) (a := a) (argsL := []) (rest := []) (own_rmAB l Z a0 hw [] a g h0 n0 ga B0) (by rw [hml]; rfl) pd_9 rfl rfl (hb hby d8_1) (W := 0) (Nat.le_of_eq rfl) (by decide) (by decide) (by decide) (by decide) ?_
  intro v12 T12 L12 X12 hQ12
  obtain ⟨rfl, N12q, K12q, g12, B12⟩ := hQ12
  have K12 := K0.trans K12q (allS (Or.inl (List.mem_of_getElem? (i := 0) rfl)) all0)
  have O12 := O0.keep K12q (allS ga all0)
  have N12 := Fr.app N0 N12q
  show own_Go p e below _ T12 (mkF m 4 #[.val (.ref a)] [])
  refine own_go (g' := (mkF m 5 #[.val (.ref a)] [(.ref a)])) (fun _ k => XS.aloadN X12.here hx rfl (hb hby d8_4) rfl rfl k) ?_
  refine own_getS X12 hx hZ (host := "") hown rfl (Or.inl (hw _ (List.mem_of_getElem? (i := 73) rfl))) Via.refl (S0.ext O12.2) (hb hby d8_5) ?_
  intro T13 X13 e13
  show own_Go p e below _ T13 (mkF m 8 #[.val (.ref a)] [(.ref sv), (.ref a)])
  refine own_putF X13 hx hZ (host := "") (ty := (.array (.object "java/lang/Object"))) hown e13 (Or.inl (hw _ (List.mem_of_getElem? (i := 74) rfl))) Via.refl (own_Ob_fld B12 1 rfl) B12.1 (Or.inl (hw _ (List.mem_of_getElem? (i := 75) rfl))) (hw _ (List.mem_of_getElem? (i := 58) rfl)) (by decide) rfl rfl (hb hby d8_8) ?_
  intro T14 h14 X14 e14 W14
  have B14 := own_Ob_put B12 own_ok4 (own_ld4 hw) 1 rfl W14
  have K14 := K12.wr W14 (Or.inl (List.mem_of_getElem? (i := 0) rfl))
  have O14 := O12.wr W14 ga
  have N14 := Fr.snoc X14 N12 ga
  show own_Go p e below _ T14 (mkF m 11 #[.val (.ref a)] [])
  exact own_ret0 X14 hx hlk hret e14 (hb hby d8_11) ⟨rfl, N14, K14⟩ (by decide) (by decide)
set_option maxRecDepth 65536 in
set_option maxHeartbeats 40000000 in
theorem own_rmRw (l : Launch) (Z : State) (a0 : Array Value) (hw : ∀ d ∈ tables_1, d.before a0 Z = true) (ws : List Jvm.Cond) (a sv : Addr) (q1 q2 : Int64) (g : Nat → Value) (h0 : Heap) (n0 : Nat) (Z0 : n0 ≤ h0.size) (ga : n0 ≤ a) (O0 : Old Z n0 h0) (S0 : Sta Z Z.heap "java/util/ArrayList" "DEFAULTCAPACITY_EMPTY_ELEMENTDATA" "[Ljava/lang/Object;" (.ref sv)) (B0 : own_Ob Z h0 a "com/example/gangplank/gangplank/gang/Row" own_fs2 g) :
    own_Met l (⟨"com/example/gangplank/gangplank/gang/Row", "<init>", "(JJ)V"⟩ : MethodName) prog_123_method_1_code 5 none ws ({ frames := 5, cells := 3, slots := 18, locals := 3075 } : Room) Z #[(.ref a), (.long q1), (.long q2)] h0 (own_QO Z a "com/example/gangplank/gangplank/gang/Row" own_fs2 h0 n0) := by
  refine own_enterN (plainFor_of_name pn_3) ?_
  intro p e s m below meth c T0 hna X0 hx hby hml hZ hown e0 hret hlk hnm
  have hown : s.vm.findClass "com/example/gangplank/gangplank/gang/Row" = some m.cls := hown
  have hml : c.maxLocals = 5 := hml
  have N0 := Fr.nil n0
  refine own_start (ef_3 m a q1 q2) ?_
  show own_Go p e below _ T0 (mkF m 0 #[.val (.ref a), .val (.long q1), .second, .val (.long q2), .second] [])
  have K0 := Keep.refl h0 [a]
  refine own_go (g' := (mkF m 1 #[.val (.ref a), .val (.long q1), .second, .val (.long q2), .second] [(.ref a)])) (fun _ k => XS.aloadN X0.here hx rfl (hb hby d3_0) rfl rfl k) ?_
  refine own_initO X0 hx hZ hown e0 (hw _ (List.mem_of_getElem? (i := 20) rfl)) (hw _ (List.mem_of_getElem? (i := 8) rfl)) (hw _ (List.mem_of_getElem? (i := 9) rfl)) (by rw [hml]; rfl) (hb hby d3_1) (by decide) (W := 0) (Nat.le_of_eq rfl) (by decide) ?_
  intro T15 X15 e15
  show own_Go p e below _ T15 (mkF m 4 #[.val (.ref a), .val (.long q1), .second, .val (.long q2), .second] [])
  refine own_go (g' := (mkF m 5 #[.val (.ref a), .val (.long q1), .second, .val (.long q2), .second] [(.ref a)])) (fun _ k => XS.aloadN X15.here hx rfl (hb hby d3_4) rfl rfl k) ?_
  refine own_go (g' := (mkF m 6 #[.val (.ref a), .val (.long q1), .second, .val (.long q2), .second] [(.int (-1 : Int32)), (.ref a)])) (fun _ k => XS.iconst X15.here hx rfl (hb hby d3_5) k) ?_
  refine own_putF X15 hx hZ (host := "") (ty := .int) hown e15 (Or.inl (hw _ (List.mem_of_getElem? (i := 21) rfl))) Via.refl (own_Ob_fld B0 0 rfl) B0.1 (Or.inl (hw _ (List.mem_of_getElem? (i := 22) rfl))) (hw _ (List.mem_of_getElem? (i := 15) rfl)) (by decide) rfl rfl (hb hby d3_6) ?_
  intro T16 h16 X16 e16 W16
  have B16 := own_Ob_put B0 own_ok2 (own_ld2 hw) 0 rfl W16
  have K16 := K0.wr W16 (Or.inl (List.mem_of_getElem? (i := 0) rfl))
  have O16 := O0.wr W16 ga
  have N16 := Fr.snoc X16 N0 ga
  show own_Go p e below _ T16 (mkF m 9 #[.val (.ref a), .val (.long q1), .second, .val (.long q2), .second] [])
  refine own_go (g' := (mkF m 10 #[.val (.ref a), .val (.long q1), .second, .val (.long q2), .second] [(.ref a)])) (fun _ k => XS.aloadN X16.here hx rfl (hb hby d3_9) rfl rfl k) ?_
  refine own_newO X16 hx hZ hown e16 (hw _ (List.mem_of_getElem? (i := 23) rfl)) (hw _ (List.mem_of_getElem? (i := 24) rfl)) (hw _ (List.mem_of_getElem? (i := 25) rfl)) (own_ld3 hw) own_df3 (by decide) (by decide) (hb hby d3_10) ?_
  intro T17 h17 b17 g17 X17 e17 E17 B17
  have ne18 : a ≠ b17 := Nat.ne_of_lt (Nat.lt_of_lt_of_le (own_Ob_lt B16) (Nat.le_of_eq g17.symm))
  have sz17 : h0.size ≤ b17 := Nat.le_trans K16.1 (Nat.le_of_eq g17.symm)
  have ge17 : n0 ≤ b17 := Nat.le_trans Z0 sz17
  have K17 := K16.ext E17
  have O17 := O16.ext E17
  show own_Go p e below _ T17 (mkF m 13 #[.val (.ref a), .val (.long q1), .second, .val (.long q2), .second] [(.ref b17), (.ref a)])
  refine own_go (g' := (mkF m 14 #[.val (.ref a), .val (.long q1), .second, .val (.long q2), .second] [(.ref b17), (.ref b17), (.ref a)])) (fun _ k => XS.dup X17.here hx rfl (hb hby d3_13) rfl rfl k) ?_
  refine own_indy X17 hx hZ hna (hw _ (List.mem_of_getElem? (i := 26) rfl)) rfl (by rw [hml]; rfl) (hb hby d3_14) (by show _ ≤ _; exact Nat.le_of_ble_eq_true rfl) ?_
  intro lm19
  show own_Go p e below _ T17 (mkF m 19 #[.val (.ref a), .val (.long q1), .second, .val (.long q2), .second] [(.ref lm19), (.ref b17), (.ref b17), (.ref a)])
  refine own_callC X17 hx hZ hown e17 (y := (⟨"java/util/PriorityQueue", "<init>", "(Ljava/util/Comparator;)V"⟩ : MethodName)) (rm := ({ frames := 4, cells := 1, slots := 11, locals := 50 } : Room)) rfl (hw _ (List.mem_of_getElem? (i := 29) rfl)) (hw _ (List.mem_of_getElem? (i := 30) rfl)) (hw _ (List.mem_of_getElem? (i := 25) rfl)) (hw _ (List.mem_of_getElem? (i := 31) rfl)) (by decide) (a := b17) (argsL := [(.ref lm19)]) (rest := [(.ref b17), (.ref a)]) (own_rmP1 l Z a0 hw [] b17 lm19 _ h17 n0 (Nat.le_trans Z0 K17.1) ge17 B17) (by rw [hml]; rfl) pd_4 rfl rfl (hb hby d3_19) (W := 2) (Nat.le_of_eq rfl) (by decide) (by decide) (by decide) (by decide) ?_
  intro v20 T20 L20 X20 hQ20
  obtain ⟨rfl, N20q, K20q⟩ := hQ20
  have K20 := K17.trans K20q (allS (Or.inr sz17) all0)
  have O20 := O17.keep K20q (allS ge17 all0)
  have N20 := Fr.app N16 N20q
  show own_Go p e below _ T20 (mkF m 22 #[.val (.ref a), .val (.long q1), .second, .val (.long q2), .second] [(.ref b17), (.ref a)])
  have f21 := (own_Ob_keep (own_Ob_ext B16 E17) K20q (ninS ne18 nin0))
  refine own_putF X20 hx hZ (host := "") (ty := (.object "java/util/PriorityQueue")) hown rfl (Or.inl (hw _ (List.mem_of_getElem? (i := 55) rfl))) Via.refl (own_Ob_fld f21 1 rfl) f21.1 (Or.inr ⟨(hw _ (List.mem_of_getElem? (i := 56) rfl)), rfl, hnm⟩) (hw _ (List.mem_of_getElem? (i := 15) rfl)) (by decide) rfl rfl (hb hby d3_22) ?_
  intro T22 h22 X22 e22 W22
  have B22 := own_Ob_put f21 own_ok2 (own_ld2 hw) 1 rfl W22
  have K22 := K20.wr W22 (Or.inl (List.mem_of_getElem? (i := 0) rfl))
  have O22 := O20.wr W22 ga
  have N22 := Fr.snoc X22 N20 ga
  show own_Go p e below _ T22 (mkF m 25 #[.val (.ref a), .val (.long q1), .second, .val (.long q2), .second] [])
  refine own_go (g' := (mkF m 26 #[.val (.ref a), .val (.long q1), .second, .val (.long q2), .second] [(.ref a)])) (fun _ k => XS.aloadN X22.here hx rfl (hb hby d3_25) rfl rfl k) ?_
  refine own_newO X22 hx hZ hown e22 (hw _ (List.mem_of_getElem? (i := 57) rfl)) (hw _ (List.mem_of_getElem? (i := 58) rfl)) (hw _ (List.mem_of_getElem? (i := 59) rfl)) (own_ld4 hw) own_df4 (by decide) (by decide) (hb hby d3_26) ?_
  intro T23 h23 b23 g23 X23 e23 E23 B23
  have ne24 : a ≠ b23 := Nat.ne_of_lt (Nat.lt_of_lt_of_le (own_Ob_lt B22) (Nat.le_of_eq g23.symm))
  have sz23 : h0.size ≤ b23 := Nat.le_trans K22.1 (Nat.le_of_eq g23.symm)
  have ge23 : n0 ≤ b23 := Nat.le_trans Z0 sz23
  have K23 := K22.ext E23
  have O23 := O22.ext E23
  show own_Go p e below _ T23 (mkF m 29 #[.val (.ref a), .val (.long q1), .second, .val (.long q2), .second] [(.ref b23), (.ref a)])
  refine own_go (g' := (mkF m 30 #[.val (.ref a), .val (.long q1), .second, .val (.long q2), .second] [(.ref b23), (.ref b23), (.ref a)])) (fun _ k => XS.dup X23.here hx rfl (hb hby d3_29) rfl rfl k) ?_
  refine own_callC X23 hx hZ hown e23 (y := (⟨"java/util/ArrayList", "<init>", "()V"⟩ : MethodName)) (rm := ({ frames := 3, cells := 0, slots := 0, locals := 36 } : Room)) rfl (hw _ (List.mem_of_getElem? (i := 60) rfl)) (hw _ (List.mem_of_getElem? (i := 61) rfl)) (hw _ (List.mem_of_getElem? (i := 59) rfl)) (hw _ (List.mem_of_getElem? (i := 62) rfl)) (by decide) (a := b23) (argsL := []) (rest := [(.ref b23), (.ref a)]) (own_rmAL l Z a0 hw [] b23 sv _ h23 n0 ge23 O23 S0 B23) (by rw [hml]; rfl) pd_8 rfl rfl (hb hby d3_30) (W := 2) (Nat.le_of_eq rfl) (by decide) (by decide) (by decide) (by decide) ?_
  intro v25 T25 L25 X25 hQ25
  obtain ⟨rfl, N25q, K25q⟩ := hQ25
  have K25 := K23.trans K25q (allS (Or.inr sz23) all0)
  have O25 := O23.keep K25q (allS ge23 all0)
  have N25 := Fr.app N22 N25q
  show own_Go p e below _ T25 (mkF m 33 #[.val (.ref a), .val (.long q1), .second, .val (.long q2), .second] [(.ref b23), (.ref a)])
  have f26 := (own_Ob_keep (own_Ob_ext B22 E23) K25q (ninS ne24 nin0))
  refine own_putF X25 hx hZ (host := "") (ty := (.object "java/util/List")) hown rfl (Or.inl (hw _ (List.mem_of_getElem? (i := 76) rfl))) Via.refl (own_Ob_fld f26 2 rfl) f26.1 (Or.inr ⟨(hw _ (List.mem_of_getElem? (i := 77) rfl)), rfl, hnm⟩) (hw _ (List.mem_of_getElem? (i := 15) rfl)) (by decide) rfl rfl (hb hby d3_33) ?_
  intro T27 h27 X27 e27 W27
  have B27 := own_Ob_put f26 own_ok2 (own_ld2 hw) 2 rfl W27
  have K27 := K25.wr W27 (Or.inl (List.mem_of_getElem? (i := 0) rfl))
  have O27 := O25.wr W27 ga
  have N27 := Fr.snoc X27 N25 ga
  show own_Go p e below _ T27 (mkF m 36 #[.val (.ref a), .val (.long q1), .second, .val (.long q2), .second] [])
  refine own_go (g' := (mkF m 37 #[.val (.ref a), .val (.long q1), .second, .val (.long q2), .second] [(.ref a)])) (fun _ k => XS.aloadN X27.here hx rfl (hb hby d3_36) rfl rfl k) ?_
  refine own_go (g' := (mkF m 38 #[.val (.ref a), .val (.long q1), .second, .val (.long q2), .second] [(.long q1), (.ref a)])) (fun _ k => XT.lloadN X27.here hx rfl (hb hby d3_37) rfl k) ?_
  refine own_putF X27 hx hZ (host := "") (ty := .long) hown e27 (Or.inl (hw _ (List.mem_of_getElem? (i := 78) rfl))) Via.refl (own_Ob_fld B27 3 rfl) B27.1 (Or.inr ⟨(hw _ (List.mem_of_getElem? (i := 79) rfl)), rfl, hnm⟩) (hw _ (List.mem_of_getElem? (i := 15) rfl)) (by decide) rfl rfl (hb hby d3_38) ?_
  intro T28 h28 X28 e28 W28
  have B28 := own_Ob_put B27 own_ok2 (own_ld2 hw) 3 rfl W28
  have K28 := K27.wr W28 (Or.inl (List.mem_of_getElem? (i := 0) rfl))
  have O28 := O27.wr W28 ga
  have N28 := Fr.snoc X28 N27 ga
  show own_Go p e below _ T28 (mkF m 41 #[.val (.ref a), .val (.long q1), .second, .val (.long q2), .second] [])
  refine own_go (g' := (mkF m 42 #[.val (.ref a), .val (.long q1), .second, .val (.long q2), .second] [(.ref a)])) (fun _ k => XS.aloadN X28.here hx rfl (hb hby d3_41) rfl rfl k) ?_
  refine own_go (g' := (mkF m 43 #[.val (.ref a), .val (.long q1), .second, .val (.long q2), .second] [(.long q2), (.ref a)])) (fun _ k => XT.lloadN X28.here hx rfl (hb hby d3_42) rfl k) ?_
  refine own_putF X28 hx hZ (host := "") (ty := .long) hown e28 (Or.inl (hw _ (List.mem_of_getElem? (i := 80) rfl))) Via.refl (own_Ob_fld B28 4 rfl) B28.1 (Or.inl (hw _ (List.mem_of_getElem? (i := 81) rfl))) (hw _ (List.mem_of_getElem? (i := 15) rfl)) (by decide) rfl rfl (hb hby d3_43) ?_
  intro T29 h29 X29 e29 W29
  have B29 := own_Ob_put B28 own_ok2 (own_ld2 hw) 4 rfl W29
  have K29 := K28.wr W29 (Or.inl (List.mem_of_getElem? (i := 0) rfl))
  have O29 := O28.wr W29 ga
  have N29 := Fr.snoc X29 N28 ga
  show own_Go p e below _ T29 (mkF m 46 #[.val (.ref a), .val (.long q1), .second, .val (.long q2), .second] [])
  exact own_ret0 X29 hx hlk hret e29 (hb hby d3_46) ⟨rfl, N29, K29, _, B29⟩ (by decide) (by decide)
set_option maxRecDepth 65536 in
set_option maxHeartbeats 40000000 in
theorem own_rmRs (l : Launch) (Z : State) (a0 : Array Value) (hw : ∀ d ∈ tables_1, d.before a0 Z = true) (ws : List Jvm.Cond) (a : Addr) (h0 : Heap) (n0 : Nat) (Z0 : n0 ≤ h0.size) (ga : n0 ≤ a) (B0 : own_Ob Z h0 a "com/example/gangplank/gangplank/gang/Rows" own_fs1 (own_gl own_dl1)) :
    own_Met l (⟨"com/example/gangplank/gangplank/gang/Rows", "<init>", "()V"⟩ : MethodName) prog_126_method_1_code 1 none ws ({ frames := 1, cells := 1, slots := 4, locals := 12 } : Room) Z #[(.ref a)] h0 (own_QS Z a h0 n0) := by
  refine own_enter (plainFor_of_name pn_1) ?_
  intro p e s m below meth c T0 X0 hx hby hml hZ hown e0 hret hlk hnm
  have hown : s.vm.findClass "com/example/gangplank/gangplank/gang/Rows" = some m.cls := hown
  have hml : c.maxLocals = 1 := hml
  have N0 := Fr.nil n0
  refine own_start (ef_1 m a) ?_
  show own_Go p e below _ T0 (mkF m 0 #[.val (.ref a)] [])
  have K0 := Keep.refl h0 [a]
  refine own_go (g' := (mkF m 1 #[.val (.ref a)] [(.ref a)])) (fun _ k => XS.aloadN X0.here hx rfl (hb hby d1_0) rfl rfl k) ?_
  refine own_initO X0 hx hZ hown e0 (hw _ (List.mem_of_getElem? (i := 7) rfl)) (hw _ (List.mem_of_getElem? (i := 8) rfl)) (hw _ (List.mem_of_getElem? (i := 9) rfl)) (by rw [hml]; rfl) (hb hby d1_1) (by decide) (W := 0) (Nat.le_of_eq rfl) (by decide) ?_
  intro T30 X30 e30
  show own_Go p e below _ T30 (mkF m 4 #[.val (.ref a)] [])
  refine own_go (g' := (mkF m 5 #[.val (.ref a)] [(.ref a)])) (fun _ k => XS.aloadN X30.here hx rfl (hb hby d1_4) rfl rfl k) ?_
  refine own_go (g' := (mkF m 6 #[.val (.ref a)] [(.int (4 : Int32)), (.ref a)])) (fun _ k => XS.iconst X30.here hx rfl (hb hby d1_5) k) ?_
  refine own_newR X30 hx hZ hown e30 (hw _ (List.mem_of_getElem? (i := 10) rfl)) (hw _ (List.mem_of_getElem? (i := 11) rfl)) 4 (by decide) (by decide) (by decide) (by decide) (by decide) (hb hby d1_6) ?_
  intro T31 h31 b31 g31 X31 e31 E31 A31
  have ne32 : a ≠ b31 := Nat.ne_of_lt (Nat.lt_of_lt_of_le (own_Ob_lt B0) (Nat.le_of_eq g31.symm))
  have sz31 : h0.size ≤ b31 := Nat.le_trans K0.1 (Nat.le_of_eq g31.symm)
  have ge31 : n0 ≤ b31 := Nat.le_trans Z0 sz31
  have K31 := K0.ext E31
  show own_Go p e below _ T31 (mkF m 9 #[.val (.ref a)] [(.ref b31), (.ref a)])
  have f33 := (own_Ob_ext B0 E31)
  refine own_putF X31 hx hZ (host := "") (ty := (.array (.object "com/example/gangplank/gangplank/gang/Row"))) hown e31 (Or.inl (hw _ (List.mem_of_getElem? (i := 12) rfl))) Via.refl (own_Ob_fld f33 0 rfl) f33.1 (Or.inl (hw _ (List.mem_of_getElem? (i := 13) rfl))) (hw _ (List.mem_of_getElem? (i := 2) rfl)) (by decide) rfl rfl (hb hby d1_9) ?_
  intro T34 h34 X34 e34 W34
  have B34 := own_Ob_put f33 own_ok1 (own_ld1 hw) 0 rfl W34
  have K34 := K31.wr W34 (Or.inl (List.mem_of_getElem? (i := 0) rfl))
  have N34 := Fr.snoc X34 N0 ga
  show own_Go p e below _ T34 (mkF m 12 #[.val (.ref a)] [])
  have f35 := (own_Rr_other A31 W34 (Ne.symm ne32))
  exact own_ret0 X34 hx hlk hret e34 (hb hby d1_12) ⟨rfl, N34, K34, _, (Ne.symm ne32), sz31, own_Ob_eq B34 (fun i hi => by have hi' : i < 5 := hi; match i, hi' with | 0, _ => rfl | 1, _ => rfl | 2, _ => rfl | 3, _ => rfl | 4, _ => rfl), f35⟩ (by decide) (by decide)
set_option maxRecDepth 65536 in
set_option maxHeartbeats 40000000 in
theorem own_rmUp (l : Launch) (Z : State) (a0 : Array Value) (hw : ∀ d ∈ tables_1, d.before a0 Z = true) (ws : List Jvm.Cond) (a r : Addr) (g : Nat → Value) (h0 : Heap) (n0 : Nat) (B0 : own_Ob Z h0 a "com/example/gangplank/gangplank/gang/Rows" own_fs1 g) (hg : g 1 = .null) :
    own_Met l (⟨"com/example/gangplank/gangplank/gang/Rows", "update", "(Lcom/example/gangplank/gangplank/gang/Row;)V"⟩ : MethodName) prog_126_method_5_code 2 none ws ({ frames := 0, cells := 0, slots := 0, locals := 0 } : Room) Z #[(.ref a), (.ref r)] h0 (own_Qn h0) := by
  refine own_enter (plainFor_of_name pn_12) ?_
  intro p e s m below meth c T0 X0 hx hby hml hZ hown e0 hret hlk hnm
  have hown : s.vm.findClass "com/example/gangplank/gangplank/gang/Rows" = some m.cls := hown
  have hml : c.maxLocals = 2 := hml
  have N0 := Fr.nil n0
  refine own_start (ef_12 m a r) ?_
  show own_Go p e below _ T0 (mkF m 0 #[.val (.ref a), .val (.ref r)] [])
  refine own_go (g' := (mkF m 1 #[.val (.ref a), .val (.ref r)] [(.ref a)])) (fun _ k => XS.aloadN X0.here hx rfl (hb hby d12_0) rfl rfl k) ?_
  refine own_getF X0 hx hZ (host := "") hown e0 (Or.inl (hw _ (List.mem_of_getElem? (i := 91) rfl))) Via.refl (own_Ob_fld B0 1 rfl) (hb hby d12_1) ?_
  intro T36 X36 e36
  rw [hg]
  show own_Go p e below _ T36 (mkF m 4 #[.val (.ref a), .val (.ref r)] [.null])
  refine own_go (g' := (mkF m 15 #[.val (.ref a), .val (.ref r)] [])) (fun _ k => XS.ifnullYes X36.here hx rfl (pc0 := 4) (pc' := 15) rfl (hb hby d12_4) rfl (by decide) (by decide) k) ?_
  exact own_ret0 X36 hx hlk hret e36 (hb hby d12_15) ⟨rfl, rfl, rfl⟩ (by decide) (by decide)
set_option maxRecDepth 65536 in
set_option maxHeartbeats 40000000 in
theorem own_rmAdd (l : Launch) (Z : State) (a0 : Array Value) (hw : ∀ d ∈ tables_1, d.before a0 Z = true) (ws : List Jvm.Cond) (a b r : Addr) (ii : Int32) (i : Nat) (f gr : Nat → Value) (h0 : Heap) (n0 : Nat) (ga : n0 ≤ a) (gb : n0 ≤ b) (gr0 : n0 ≤ r) (B0 : own_Ob Z h0 a "com/example/gangplank/gangplank/gang/Rows" own_fs1 (own_gR b ii)) (F0 : own_Rr Z h0 b "com/example/gangplank/gangplank/gang/Row" 4 f) (R0 : own_Ob Z h0 r "com/example/gangplank/gangplank/gang/Row" own_fs2 gr) (hba : b ≠ a) (hra : r ≠ a) (hrb : r ≠ b) (hi : ii.toInt = (i : Int)) (hi3 : i ≤ 3) :
    own_Met l (⟨"com/example/gangplank/gangplank/gang/Rows", "add", "(Lcom/example/gangplank/gangplank/gang/Row;)V"⟩ : MethodName) prog_126_method_3_code 2 none ws ({ frames := 1, cells := 0, slots := 0, locals := 13 } : Room) Z #[(.ref a), (.ref r)] h0 (own_QA Z a b r ii i f gr h0 n0) := by
  refine own_enter (plainFor_of_name pn_11) ?_
  intro p e s m below meth c T0 X0 hx hby hml hZ hown e0 hret hlk hnm
  have hown : s.vm.findClass "com/example/gangplank/gangplank/gang/Rows" = some m.cls := hown
  have hml : c.maxLocals = 2 := hml
  have N0 := Fr.nil n0
  refine own_start (ef_11 m a r) ?_
  show own_Go p e below _ T0 (mkF m 0 #[.val (.ref a), .val (.ref r)] [])
  have K0 := Keep.refl h0 [a, b, r]
  refine own_go (g' := (mkF m 1 #[.val (.ref a), .val (.ref r)] [(.ref a)])) (fun _ k => XS.aloadN X0.here hx rfl (hb hby d11_0) rfl rfl k) ?_
  refine own_getF X0 hx hZ (host := "") hown e0 (Or.inl (hw _ (List.mem_of_getElem? (i := 91) rfl))) Via.refl (own_Ob_fld B0 1 rfl) (hb hby d11_1) ?_
  intro T37 X37 e37
  show own_Go p e below _ T37 (mkF m 4 #[.val (.ref a), .val (.ref r)] [.null])
  refine own_go (g' := (mkF m 7 #[.val (.ref a), .val (.ref r)] [])) (fun _ k => XT.ifnonnullNo X37.here hx rfl (hb hby d11_4) rfl k) ?_
  refine own_go (g' := (mkF m 8 #[.val (.ref a), .val (.ref r)] [(.ref a)])) (fun _ k => XS.aloadN X37.here hx rfl (hb hby d11_7) rfl rfl k) ?_
  refine own_getF X37 hx hZ (host := "") hown e37 (Or.inl (hw _ (List.mem_of_getElem? (i := 93) rfl))) Via.refl (own_Ob_fld B0 2 rfl) (hb hby d11_8) ?_
  intro T38 X38 e38
  show own_Go p e below _ T38 (mkF m 11 #[.val (.ref a), .val (.ref r)] [(.int ii)])
  refine own_go (g' := (mkF m 13 #[.val (.ref a), .val (.ref r)] [(.int (64 : Int32)), (.int ii)])) (fun _ k => XS.bipush X38.here hx rfl (hb hby d11_11) k) ?_
  refine own_go (g' := (mkF m 24 #[.val (.ref a), .val (.ref r)] [])) (fun _ k => XS.icmpYes X38.here hx rfl (pc0 := 13) (pc' := 24) rfl (hb hby d11_13) rfl (XT.ii_ne_t (own_nek hi 64 (by decide) (by omega))) (by decide) (by decide) k) ?_
  refine own_go (g' := (mkF m 25 #[.val (.ref a), .val (.ref r)] [(.ref a)])) (fun _ k => XS.aloadN X38.here hx rfl (hb hby d11_24) rfl rfl k) ?_
  refine own_getF X38 hx hZ (host := "") hown e38 (Or.inl (hw _ (List.mem_of_getElem? (i := 100) rfl))) Via.refl (own_Ob_fld B0 3 rfl) (hb hby d11_25) ?_
  intro T39 X39 e39
  show own_Go p e below _ T39 (mkF m 28 #[.val (.ref a), .val (.ref r)] [(.int ii)])
  refine own_go (g' := (mkF m 29 #[.val (.ref a), .val (.ref r)] [(.ref a), (.int ii)])) (fun _ k => XS.aloadN X39.here hx rfl (hb hby d11_28) rfl rfl k) ?_
  refine own_getF X39 hx hZ (host := "") hown e39 (Or.inl (hw _ (List.mem_of_getElem? (i := 12) rfl))) Via.refl (own_Ob_fld B0 0 rfl) (hb hby d11_29) ?_
  intro T40 X40 e40
  show own_Go p e below _ T40 (mkF m 32 #[.val (.ref a), .val (.ref r)] [(.ref b), (.int ii)])
  refine own_len X40 hx hZ e40 (own_Rr_ar F0) (hb hby d11_32) (4 : Int32) rfl ?_
  show own_Go p e below _ T40 (mkF m 33 #[.val (.ref a), .val (.ref r)] [(.int (4 : Int32)), (.int ii)])
  refine own_go (g' := (mkF m 52 #[.val (.ref a), .val (.ref r)] [])) (fun _ k => XS.icmpYes X40.here hx rfl (pc0 := 33) (pc' := 52) rfl (hb hby d11_33) rfl (XT.ii_ne_t (own_nek hi 4 (by decide) (by omega))) (by decide) (by decide) k) ?_
  refine own_go (g' := (mkF m 53 #[.val (.ref a), .val (.ref r)] [(.ref r)])) (fun _ k => XS.aloadN X40.here hx rfl (hb hby d11_52) rfl rfl k) ?_
  refine own_go (g' := (mkF m 54 #[.val (.ref a), .val (.ref r)] [(.ref a), (.ref r)])) (fun _ k => XS.aloadN X40.here hx rfl (hb hby d11_53) rfl rfl k) ?_
  refine own_getF X40 hx hZ (host := "") hown e40 (Or.inl (hw _ (List.mem_of_getElem? (i := 100) rfl))) Via.refl (own_Ob_fld B0 3 rfl) (hb hby d11_54) ?_
  intro T41 X41 e41
  show own_Go p e below _ T41 (mkF m 57 #[.val (.ref a), .val (.ref r)] [(.int ii), (.ref r)])
  refine own_putF X41 hx hZ (host := "") (ty := .int) hown e41 (Or.inl (hw _ (List.mem_of_getElem? (i := 102) rfl))) Via.refl (own_Ob_fld R0 6 rfl) R0.1 (Or.inl (hw _ (List.mem_of_getElem? (i := 103) rfl))) (hw _ (List.mem_of_getElem? (i := 15) rfl)) (by decide) rfl rfl (hb hby d11_57) ?_
  intro T42 h42 X42 e42 W42
  have B42 := own_Ob_put R0 own_ok2 (own_ld2 hw) 6 rfl W42
  have K42 := K0.wr W42 (Or.inl (List.mem_of_getElem? (i := 2) rfl))
  have N42 := Fr.snoc X42 N0 gr0
  show own_Go p e below _ T42 (mkF m 60 #[.val (.ref a), .val (.ref r)] [])
  refine own_go (g' := (mkF m 61 #[.val (.ref a), .val (.ref r)] [(.ref a)])) (fun _ k => XS.aloadN X42.here hx rfl (hb hby d11_60) rfl rfl k) ?_
  have f43 := (own_Ob_other B0 W42 (Ne.symm hra))
  refine own_getF X42 hx hZ (host := "") hown e42 (Or.inl (hw _ (List.mem_of_getElem? (i := 12) rfl))) Via.refl (own_Ob_fld f43 0 rfl) (hb hby d11_61) ?_
  intro T44 X44 e44
  show own_Go p e below _ T44 (mkF m 64 #[.val (.ref a), .val (.ref r)] [(.ref b)])
  refine own_go (g' := (mkF m 65 #[.val (.ref a), .val (.ref r)] [(.ref a), (.ref b)])) (fun _ k => XS.aloadN X44.here hx rfl (hb hby d11_64) rfl rfl k) ?_
  refine own_getF X44 hx hZ (host := "") hown e44 (Or.inl (hw _ (List.mem_of_getElem? (i := 100) rfl))) Via.refl (own_Ob_fld f43 3 rfl) (hb hby d11_65) ?_
  intro T45 X45 e45
  show own_Go p e below _ T45 (mkF m 68 #[.val (.ref a), .val (.ref r)] [(.int ii), (.ref b)])
  refine own_go (g' := (mkF m 69 #[.val (.ref a), .val (.ref r)] [(.ref r), (.int ii), (.ref b)])) (fun _ k => XS.aloadN X45.here hx rfl (hb hby d11_68) rfl rfl k) ?_
  have f47 := (own_Rr_other F0 W42 (Ne.symm hrb))
  refine own_aastore X45 hx hZ e45 f47 (Ins.self B42.1) i hi (by omega) (hb hby d11_69) ?_
  intro T46 h46 X46 e46 W46
  have A46 := own_Rr_set f47 W46
  have K46 := K42.wr W46 (Or.inl (List.mem_of_getElem? (i := 1) rfl))
  have N46 := Fr.snoc X46 N42 gb
  show own_Go p e below _ T46 (mkF m 70 #[.val (.ref a), .val (.ref r)] [])
  refine own_go (g' := (mkF m 71 #[.val (.ref a), .val (.ref r)] [(.ref a)])) (fun _ k => XS.aloadN X46.here hx rfl (hb hby d11_70) rfl rfl k) ?_
  refine own_go (g' := (mkF m 72 #[.val (.ref a), .val (.ref r)] [(.ref a), (.ref a)])) (fun _ k => XS.dup X46.here hx rfl (hb hby d11_71) rfl rfl k) ?_
  have f48 := (own_Ob_other f43 W46 (Ne.symm hba))
  refine own_getF X46 hx hZ (host := "") hown e46 (Or.inl (hw _ (List.mem_of_getElem? (i := 100) rfl))) Via.refl (own_Ob_fld f48 3 rfl) (hb hby d11_72) ?_
  intro T49 X49 e49
  show own_Go p e below _ T49 (mkF m 75 #[.val (.ref a), .val (.ref r)] [(.int ii), (.ref a)])
  refine own_go (g' := (mkF m 76 #[.val (.ref a), .val (.ref r)] [(.int (1 : Int32)), (.int ii), (.ref a)])) (fun _ k => XS.iconst X49.here hx rfl (hb hby d11_75) k) ?_
  refine own_go (g' := (mkF m 77 #[.val (.ref a), .val (.ref r)] [(.int (ii + (1 : Int32))), (.ref a)])) (fun _ k => XS.iadd X49.here hx rfl (hb hby d11_76) rfl k) ?_
  refine own_putF X49 hx hZ (host := "") (ty := .int) hown e49 (Or.inl (hw _ (List.mem_of_getElem? (i := 100) rfl))) Via.refl (own_Ob_fld f48 3 rfl) f48.1 (Or.inl (hw _ (List.mem_of_getElem? (i := 101) rfl))) (hw _ (List.mem_of_getElem? (i := 2) rfl)) (by decide) rfl rfl (hb hby d11_77) ?_
  intro T50 h50 X50 e50 W50
  have B50 := own_Ob_put f48 own_ok1 (own_ld1 hw) 3 rfl W50
  have K50 := K46.wr W50 (Or.inl (List.mem_of_getElem? (i := 0) rfl))
  have N50 := Fr.snoc X50 N46 ga
  show own_Go p e below _ T50 (mkF m 80 #[.val (.ref a), .val (.ref r)] [])
  refine own_go (g' := (mkF m 81 #[.val (.ref a), .val (.ref r)] [(.ref a)])) (fun _ k => XS.aloadN X50.here hx rfl (hb hby d11_80) rfl rfl k) ?_
  refine own_go (g' := (mkF m 82 #[.val (.ref a), .val (.ref r)] [(.ref a), (.ref a)])) (fun _ k => XS.dup X50.here hx rfl (hb hby d11_81) rfl rfl k) ?_
  refine own_getF X50 hx hZ (host := "") hown e50 (Or.inl (hw _ (List.mem_of_getElem? (i := 93) rfl))) Via.refl (own_Ob_fld B50 2 rfl) (hb hby d11_82) ?_
  intro T51 X51 e51
  show own_Go p e below _ T51 (mkF m 85 #[.val (.ref a), .val (.ref r)] [(.int ii), (.ref a)])
  refine own_go (g' := (mkF m 86 #[.val (.ref a), .val (.ref r)] [(.int (1 : Int32)), (.int ii), (.ref a)])) (fun _ k => XS.iconst X51.here hx rfl (hb hby d11_85) k) ?_
  refine own_go (g' := (mkF m 87 #[.val (.ref a), .val (.ref r)] [(.int (ii + (1 : Int32))), (.ref a)])) (fun _ k => XS.iadd X51.here hx rfl (hb hby d11_86) rfl k) ?_
  refine own_putF X51 hx hZ (host := "") (ty := .int) hown e51 (Or.inl (hw _ (List.mem_of_getElem? (i := 93) rfl))) Via.refl (own_Ob_fld B50 2 rfl) B50.1 (Or.inl (hw _ (List.mem_of_getElem? (i := 94) rfl))) (hw _ (List.mem_of_getElem? (i := 2) rfl)) (by decide) rfl rfl (hb hby d11_87) ?_
  intro T52 h52 X52 e52 W52
  have B52 := own_Ob_put B50 own_ok1 (own_ld1 hw) 2 rfl W52
  have K52 := K50.wr W52 (Or.inl (List.mem_of_getElem? (i := 0) rfl))
  have N52 := Fr.snoc X52 N50 ga
  show own_Go p e below _ T52 (mkF m 90 #[.val (.ref a), .val (.ref r)] [])
  refine own_go (g' := (mkF m 91 #[.val (.ref a), .val (.ref r)] [(.ref a)])) (fun _ k => XS.aloadN X52.here hx rfl (hb hby d11_90) rfl rfl k) ?_
  refine own_go (g' := (mkF m 92 #[.val (.ref a), .val (.ref r)] [(.ref r), (.ref a)])) (fun _ k => XS.aloadN X52.here hx rfl (hb hby d11_91) rfl rfl k) ?_
  refine own_callV X52 hx hZ hown e52 (C := "com/example/gangplank/gangplank/gang/Rows") (y := (⟨"com/example/gangplank/gangplank/gang/Rows", "update", "(Lcom/example/gangplank/gangplank/gang/Row;)V"⟩ : MethodName)) (rm := ({ frames := 0, cells := 0, slots := 0, locals := 0 } : Room)) (hw _ (List.mem_of_getElem? (i := 104) rfl)) (hw _ (List.mem_of_getElem? (i := 105) rfl)) (hw _ (List.mem_of_getElem? (i := 107) rfl)) (hw _ (List.mem_of_getElem? (i := 106) rfl)) (hw _ (List.mem_of_getElem? (i := 3) rfl)) (hw _ (List.mem_of_getElem? (i := 108) rfl)) (by decide) (a := a) B52.1 (argsL := [(.ref r)]) (rest := []) (own_rmUp l Z a0 hw [] a r _ h52 n0 B52 rfl) (by rw [hml]; rfl) pd_12 rfl rfl (hb hby d11_92) (W := 0) (Nat.le_of_eq rfl) (by decide) (by decide) (by decide) (by decide) ?_
  intro v53 T53 L53 X53 hQ53
  obtain ⟨rfl, e53, rfl⟩ := hQ53
  rw [List.append_nil] at X53
  show own_Go p e below _ T53 (mkF m 95 #[.val (.ref a), .val (.ref r)] [])
  have f54 := (own_Rr_other (own_Rr_other A46 W50 hba) W52 hba)
  have f55 := (own_Ob_other (own_Ob_other (own_Ob_other B42 W46 hrb) W50 hra) W52 hra)
  exact own_ret0 X53 hx hlk hret e53 (hb hby d11_95) ⟨rfl, N52, K52, own_Ob_eq B52 (fun i hi => by have hi' : i < 5 := hi; match i, hi' with | 0, _ => rfl | 1, _ => rfl | 2, _ => rfl | 3, _ => rfl | 4, _ => rfl), f54, f55⟩ (by decide) (by decide)
set_option maxRecDepth 65536 in
set_option maxHeartbeats 40000000 in
theorem own_rmF (l : Launch) (Z : State) (a0 : Array Value) (hw : ∀ d ∈ tables_1, d.before a0 Z = true) (ws : List Jvm.Cond) (a b : Addr) (sz most : Int32) (f : Nat → Value) (rs : Nat → Addr) (us : Nat → Int32) (n : Nat) (h0 : Heap) (n0 : Nat) (B0 : own_Ob Z h0 a "com/example/gangplank/gangplank/gang/Rows" own_fs1 (own_gR b sz)) (F0 : own_Rr Z h0 b "com/example/gangplank/gangplank/gang/Row" 4 f) (hsz : sz.toInt = (n : Int)) (hn4 : n ≤ 4) (hf : ∀ i, i < n → f i = .ref (rs i)) (hu : ∀ i, i < n → Fld Z h0 (rs i) "com/example/gangplank/gangplank/gang/Row" "used" "I" (.int (us i))) :
    own_Met l (⟨"com/example/gangplank/gangplank/gang/Rows", "firstHoldingAtMost", "(I)Lcom/example/gangplank/gangplank/gang/Row;"⟩ : MethodName) prog_126_method_8_code 3 (some (.object "com/example/gangplank/gangplank/gang/Row")) ws ({ frames := 0, cells := 0, slots := 0, locals := 0 } : Room) Z #[(.ref a), (.int most)] h0 (own_QV (own_fst us rs most n 0) h0) := by
  refine own_enter (plainFor_of_name pn_10) ?_
  intro p e s m below meth c T0 X0 hx hby hml hZ hown e0 hret hlk hnm
  have hown : s.vm.findClass "com/example/gangplank/gangplank/gang/Rows" = some m.cls := hown
  have hml : c.maxLocals = 3 := hml
  have N0 := Fr.nil n0
  refine own_start (ef_10 m a most) ?_
  show own_Go p e below _ T0 (mkF m 0 #[.val (.ref a), .val (.int most), .unset] [])
  refine own_go (g' := (mkF m 1 #[.val (.ref a), .val (.int most), .unset] [(.ref a)])) (fun _ k => XS.aloadN X0.here hx rfl (hb hby d10_0) rfl rfl k) ?_
  refine own_getF X0 hx hZ (host := "") hown e0 (Or.inl (hw _ (List.mem_of_getElem? (i := 91) rfl))) Via.refl (own_Ob_fld B0 1 rfl) (hb hby d10_1) ?_
  intro T56 X56 e56
  show own_Go p e below _ T56 (mkF m 4 #[.val (.ref a), .val (.int most), .unset] [.null])
  refine own_go (g' := (mkF m 7 #[.val (.ref a), .val (.int most), .unset] [])) (fun _ k => XT.ifnonnullNo X56.here hx rfl (hb hby d10_4) rfl k) ?_
  refine own_go (g' := (mkF m 8 #[.val (.ref a), .val (.int most), .unset] [(.int (0 : Int32))])) (fun _ k => XS.iconst X56.here hx rfl (hb hby d10_7) k) ?_
  refine own_go (g' := (mkF m 9 #[.val (.ref a), .val (.int most), .val (.int (0 : Int32))] [])) (fun _ k => XS.istoreN X56.here hx rfl (hb hby d10_8) rfl (l' := #[.val (.ref a), .val (.int most), .val (.int (0 : Int32))]) rfl k) ?_
  suffices loop : ∀ (d i : Nat) (iv : Int32) (T' : State), Stand p l e ({ frames := 0, cells := 0, slots := 0, locals := 0 } : Room) s m #[(.ref a), (.int most)] below meth c T' [] 0 0 → T'.heap = h0 → i + d = n → iv.toInt = (i : Int) → own_fst us rs most n 0 = own_fst us rs most d i → own_Go p e below (own_Po s (own_QV (own_fst us rs most n 0) h0) 0 0) T' (mkF m 9 #[.val (.ref a), .val (.int most), .val (.int iv)] []) by
    exact loop n 0 0 _ X56 e56 (by omega) rfl rfl
  intro d
  induction d with
  | zero =>
    intro i iv T1 X1 e1 hid hiv hc
    refine own_go (g' := (mkF m 10 #[.val (.ref a), .val (.int most), .val (.int iv)] [(.int iv)])) (fun _ k => XS.iloadN X1.here hx rfl (hb hby d10_9) rfl k) ?_
    refine own_go (g' := (mkF m 11 #[.val (.ref a), .val (.int most), .val (.int iv)] [(.ref a), (.int iv)])) (fun _ k => XS.aloadN X1.here hx rfl (hb hby d10_10) rfl rfl k) ?_
    refine own_getF X1 hx hZ (host := "") hown e1 (Or.inl (hw _ (List.mem_of_getElem? (i := 93) rfl))) Via.refl (own_Ob_fld B0 2 rfl) (hb hby d10_11) ?_
    intro T57 X57 e57
    show own_Go p e below _ T57 (mkF m 14 #[.val (.ref a), .val (.int most), .val (.int iv)] [(.int sz), (.int iv)])
    refine own_go (g' := (mkF m 43 #[.val (.ref a), .val (.int most), .val (.int iv)] [])) (fun _ k => XS.icmpYes X57.here hx rfl (pc0 := 14) (pc' := 43) rfl (hb hby d10_14) rfl (XT.ii_ge_t (by rw [Int32.lt_iff_toInt_lt, hiv, hsz]; omega)) (by decide) (by decide) k) ?_
    refine own_go (g' := (mkF m 44 #[.val (.ref a), .val (.int most), .val (.int iv)] [.null])) (fun _ k => XS.aconstNull X57.here hx rfl (hb hby d10_43) k) ?_
    exact own_retA X57 hx hlk (t := (.object "com/example/gangplank/gangplank/gang/Row")) rfl hret e57 rfl rfl (hb hby d10_44) ⟨by rw [hc]; rfl, rfl, rfl⟩ (by decide) (by decide)
  | succ d ih =>
    intro i iv T1 X1 e1 hid hiv hc
    refine own_go (g' := (mkF m 10 #[.val (.ref a), .val (.int most), .val (.int iv)] [(.int iv)])) (fun _ k => XS.iloadN X1.here hx rfl (hb hby d10_9) rfl k) ?_
    refine own_go (g' := (mkF m 11 #[.val (.ref a), .val (.int most), .val (.int iv)] [(.ref a), (.int iv)])) (fun _ k => XS.aloadN X1.here hx rfl (hb hby d10_10) rfl rfl k) ?_
    refine own_getF X1 hx hZ (host := "") hown e1 (Or.inl (hw _ (List.mem_of_getElem? (i := 93) rfl))) Via.refl (own_Ob_fld B0 2 rfl) (hb hby d10_11) ?_
    intro T58 X58 e58
    show own_Go p e below _ T58 (mkF m 14 #[.val (.ref a), .val (.int most), .val (.int iv)] [(.int sz), (.int iv)])
    refine own_go (g' := (mkF m 17 #[.val (.ref a), .val (.int most), .val (.int iv)] [])) (fun _ k => XS.icmpNo X58.here hx rfl (hb hby d10_14) rfl (XT.ii_ge_f (by rw [Int32.lt_iff_toInt_lt, hiv, hsz]; omega)) k) ?_
    refine own_go (g' := (mkF m 18 #[.val (.ref a), .val (.int most), .val (.int iv)] [(.ref a)])) (fun _ k => XS.aloadN X58.here hx rfl (hb hby d10_17) rfl rfl k) ?_
    refine own_getF X58 hx hZ (host := "") hown e58 (Or.inl (hw _ (List.mem_of_getElem? (i := 12) rfl))) Via.refl (own_Ob_fld B0 0 rfl) (hb hby d10_18) ?_
    intro T59 X59 e59
    show own_Go p e below _ T59 (mkF m 21 #[.val (.ref a), .val (.int most), .val (.int iv)] [(.ref b)])
    refine own_go (g' := (mkF m 22 #[.val (.ref a), .val (.int most), .val (.int iv)] [(.int iv), (.ref b)])) (fun _ k => XS.iloadN X59.here hx rfl (hb hby d10_21) rfl k) ?_
    refine own_aaload X59 hx hZ e59 (own_Rr_ar F0) rfl i hiv (by omega) (hb hby d10_22) ?_
    rw [hf i (by omega)]
    show own_Go p e below _ T59 (mkF m 23 #[.val (.ref a), .val (.int most), .val (.int iv)] [(.ref (rs i))])
    refine own_getF X59 hx hZ (host := "") hown e59 (Or.inl (hw _ (List.mem_of_getElem? (i := 109) rfl))) Via.refl (hu i (by omega)) (hb hby d10_23) ?_
    intro T60 X60 e60
    show own_Go p e below _ T60 (mkF m 26 #[.val (.ref a), .val (.int most), .val (.int iv)] [(.int (us i))])
    refine own_go (g' := (mkF m 27 #[.val (.ref a), .val (.int most), .val (.int iv)] [(.int most), (.int (us i))])) (fun _ k => XS.iloadN X60.here hx rfl (hb hby d10_26) rfl k) ?_
    by_cases cu : most < (us i)
    · refine own_go (g' := (mkF m 37 #[.val (.ref a), .val (.int most), .val (.int iv)] [])) (fun _ k => XS.icmpYes X60.here hx rfl (pc0 := 27) (pc' := 37) rfl (hb hby d10_27) rfl (XT.ii_gt_t cu) (by decide) (by decide) k) ?_
      refine own_go (g' := (mkF m 40 #[.val (.ref a), .val (.int most), .val (.int (iv + (1 : Int32)))] [])) (fun _ k => XS.iinc X60.here hx rfl (hb hby d10_37) rfl (l' := #[.val (.ref a), .val (.int most), .val (.int (iv + (1 : Int32)))]) rfl k) ?_
      refine own_go (g' := (mkF m 9 #[.val (.ref a), .val (.int most), .val (.int (iv + (1 : Int32)))] [])) (fun _ k => XS.goto X60.here hx rfl (pc0 := 40) (pc' := 9) rfl (hb hby d10_40) (by decide) (by decide) k) ?_
      exact ih (i + 1) _ _ X60 e60 (by omega) (own_inc hiv (by omega)) (by rw [hc, own_fst, if_pos cu])
    · refine own_go (g' := (mkF m 30 #[.val (.ref a), .val (.int most), .val (.int iv)] [])) (fun _ k => XS.icmpNo X60.here hx rfl (hb hby d10_27) rfl (XT.ii_gt_f cu) k) ?_
      refine own_go (g' := (mkF m 31 #[.val (.ref a), .val (.int most), .val (.int iv)] [(.ref a)])) (fun _ k => XS.aloadN X60.here hx rfl (hb hby d10_30) rfl rfl k) ?_
      refine own_getF X60 hx hZ (host := "") hown e60 (Or.inl (hw _ (List.mem_of_getElem? (i := 12) rfl))) Via.refl (own_Ob_fld B0 0 rfl) (hb hby d10_31) ?_
      intro T61 X61 e61
      show own_Go p e below _ T61 (mkF m 34 #[.val (.ref a), .val (.int most), .val (.int iv)] [(.ref b)])
      refine own_go (g' := (mkF m 35 #[.val (.ref a), .val (.int most), .val (.int iv)] [(.int iv), (.ref b)])) (fun _ k => XS.iloadN X61.here hx rfl (hb hby d10_34) rfl k) ?_
      refine own_aaload X61 hx hZ e61 (own_Rr_ar F0) rfl i hiv (by omega) (hb hby d10_35) ?_
      rw [hf i (by omega)]
      show own_Go p e below _ T61 (mkF m 36 #[.val (.ref a), .val (.int most), .val (.int iv)] [(.ref (rs i))])
      exact own_retA X61 hx hlk (t := (.object "com/example/gangplank/gangplank/gang/Row")) rfl hret e61 rfl rfl (hb hby d10_36) ⟨by rw [hc, own_fst, if_neg cu], rfl, rfl⟩ (by decide) (by decide)
set_option maxRecDepth 65536 in
set_option maxHeartbeats 40000000 in
theorem own_rm0 (l : Launch) (Z : State) (a0 : Array Value) (hw : ∀ d ∈ tables_1, d.before a0 Z = true) (ws : List Jvm.Cond) (pk pa pb pc pd pm : Int32) (sv : Addr) (h0 : Heap) (n0 : Nat) (Z0 : n0 ≤ h0.size) (O0 : Old Z n0 h0) (S0 : Sta Z Z.heap "java/util/ArrayList" "DEFAULTCAPACITY_EMPTY_ELEMENTDATA" "[Ljava/lang/Object;" (.ref sv)) :
    own_Met l x code maxLocals ret ws room_1 Z #[(.int pk), (.int pa), (.int pb), (.int pc), (.int pd), (.int pm)] h0 (own_Q0 n0) := by
  refine own_enter (plainFor_of_name pn_0) ?_
  intro p e s m below meth c T0 X0 hx hby hml hZ hown e0 hret hlk hnm
  have hown : s.vm.findClass "com/example/gangplank/gangplank/gang/RowsFirstHoldingAtMostPinLaw" = some m.cls := hown
  have hml : c.maxLocals = 14 := hml
  have N0 := Fr.nil n0
  refine own_start (ef_0 m pk pa pb pc pd pm) ?_
  show own_Go p e below _ T0 (mkF m 0 #[.val (.int pk), .val (.int pa), .val (.int pb), .val (.int pc), .val (.int pd), .val (.int pm), .unset, .unset, .unset, .unset, .unset, .unset, .unset, .unset] [])
  have K0 := Keep.refl h0 []
  refine own_go (g' := (mkF m 1 #[.val (.int pk), .val (.int pa), .val (.int pb), .val (.int pc), .val (.int pd), .val (.int pm), .unset, .unset, .unset, .unset, .unset, .unset, .unset, .unset] [(.int pk)])) (fun _ k => XS.iloadN X0.here hx rfl (hb hby at_0) rfl k) ?_
  refine own_go (g' := (mkF m 3 #[.val (.int pk), .val (.int pa), .val (.int pb), .val (.int pc), .val (.int pd), .val (.int pm), .unset, .unset, .unset, .unset, .unset, .unset, .unset, .unset] [(.int (2147483647 : Int32)), (.int pk)])) (fun _ k => X0.ldcInt hx hown (mvT hZ (hw _ (List.mem_of_getElem? (i := 0) rfl))) (g := (mkF m 1 #[.val (.int pk), .val (.int pa), .val (.int pb), .val (.int pc), .val (.int pd), .val (.int pm), .unset, .unset, .unset, .unset, .unset, .unset, .unset, .unset] [(.int pk)])) rfl (hb hby at_1) _ k) ?_
  refine own_go (g' := (mkF m 4 #[.val (.int pk), .val (.int pa), .val (.int pb), .val (.int pc), .val (.int pd), .val (.int pm), .unset, .unset, .unset, .unset, .unset, .unset, .unset, .unset] [(.int (pk &&& (2147483647 : Int32)))])) (fun _ k => XS.iand X0.here hx rfl (hb hby at_3) rfl k) ?_
  refine own_go (g' := (mkF m 5 #[.val (.int pk), .val (.int pa), .val (.int pb), .val (.int pc), .val (.int pd), .val (.int pm), .unset, .unset, .unset, .unset, .unset, .unset, .unset, .unset] [(.int (5 : Int32)), (.int (pk &&& (2147483647 : Int32)))])) (fun _ k => XS.iconst X0.here hx rfl (hb hby at_4) k) ?_
  refine own_go (g' := (mkF m 6 #[.val (.int pk), .val (.int pa), .val (.int pb), .val (.int pc), .val (.int pd), .val (.int pm), .unset, .unset, .unset, .unset, .unset, .unset, .unset, .unset] [(.int ((pk &&& (2147483647 : Int32)) % (5 : Int32)))])) (fun _ k => Jvm.RoadKit.iremM X0 hx rfl (hb hby at_5) rfl (by decide) k) ?_
  refine own_go (g' := (mkF m 8 #[.val (.int pk), .val (.int pa), .val (.int pb), .val (.int pc), .val (.int pd), .val (.int pm), .val (.int ((pk &&& (2147483647 : Int32)) % (5 : Int32))), .unset, .unset, .unset, .unset, .unset, .unset, .unset] [])) (fun _ k => XS.istore X0.here hx rfl (hb hby at_6) rfl (l' := #[.val (.int pk), .val (.int pa), .val (.int pb), .val (.int pc), .val (.int pd), .val (.int pm), .val (.int ((pk &&& (2147483647 : Int32)) % (5 : Int32))), .unset, .unset, .unset, .unset, .unset, .unset, .unset]) rfl k) ?_
  obtain ⟨ni, hni⟩ : ∃ z : Int32, z = ((pk &&& (2147483647 : Int32)) % (5 : Int32)) := ⟨_, rfl⟩
  rw [← hni]
  show own_Go p e below _ T0 (mkF m 8 #[.val (.int pk), .val (.int pa), .val (.int pb), .val (.int pc), .val (.int pd), .val (.int pm), .val (.int ni), .unset, .unset, .unset, .unset, .unset, .unset, .unset] [])
  refine own_newO X0 hx hZ hown e0 (hw _ (List.mem_of_getElem? (i := 1) rfl)) (hw _ (List.mem_of_getElem? (i := 2) rfl)) (hw _ (List.mem_of_getElem? (i := 3) rfl)) (own_ld1 hw) own_df1 (by decide) (by decide) (hb hby at_8) ?_
  intro T62 h62 b62 g62 X62 e62 E62 B62
  have sz62 : h0.size ≤ b62 := Nat.le_trans K0.1 (Nat.le_of_eq g62.symm)
  have ge62 : n0 ≤ b62 := Nat.le_trans Z0 sz62
  have K62 := K0.ext E62
  have O62 := O0.ext E62
  show own_Go p e below _ T62 (mkF m 11 #[.val (.int pk), .val (.int pa), .val (.int pb), .val (.int pc), .val (.int pd), .val (.int pm), .val (.int ni), .unset, .unset, .unset, .unset, .unset, .unset, .unset] [(.ref b62)])
  refine own_go (g' := (mkF m 12 #[.val (.int pk), .val (.int pa), .val (.int pb), .val (.int pc), .val (.int pd), .val (.int pm), .val (.int ni), .unset, .unset, .unset, .unset, .unset, .unset, .unset] [(.ref b62), (.ref b62)])) (fun _ k => XS.dup X62.here hx rfl (hb hby at_11) rfl rfl k) ?_
  refine own_callC X62 hx hZ hown e62 (y := (⟨"com/example/gangplank/gangplank/gang/Rows", "<init>", "()V"⟩ : MethodName)) (rm := ({ frames := 1, cells := 1, slots := 4, locals := 12 } : Room)) rfl (hw _ (List.mem_of_getElem? (i := 4) rfl)) (hw _ (List.mem_of_getElem? (i := 5) rfl)) (hw _ (List.mem_of_getElem? (i := 3) rfl)) (hw _ (List.mem_of_getElem? (i := 6) rfl)) (by decide) (a := b62) (argsL := []) (rest := [(.ref b62)]) (own_rmRs l Z a0 hw [] b62 h62 n0 (Nat.le_trans Z0 K62.1) ge62 B62) (by rw [hml]; rfl) pd_1 rfl rfl (hb hby at_12) (W := 1) (Nat.le_of_eq rfl) (by decide) (by decide) (by decide) (by decide) ?_
  intro v63 T63 L63 X63 hQ63
  obtain ⟨rfl, N63q, K63q, sb, hsb, szq, B63, F63⟩ := hQ63
  have szb : h0.size ≤ sb := Nat.le_trans K62.1 szq
  have gsb : n0 ≤ sb := Nat.le_trans Z0 szb
  have K63 := K62.trans K63q (allS (Or.inr sz62) all0)
  have O63 := O62.keep K63q (allS ge62 all0)
  have N63 := Fr.app N0 N63q
  show own_Go p e below _ T63 (mkF m 15 #[.val (.int pk), .val (.int pa), .val (.int pb), .val (.int pc), .val (.int pd), .val (.int pm), .val (.int ni), .unset, .unset, .unset, .unset, .unset, .unset, .unset] [(.ref b62)])
  refine own_go (g' := (mkF m 17 #[.val (.int pk), .val (.int pa), .val (.int pb), .val (.int pc), .val (.int pd), .val (.int pm), .val (.int ni), .val (.ref b62), .unset, .unset, .unset, .unset, .unset, .unset] [])) (fun _ k => XS.astore X63.here hx rfl (hb hby at_15) rfl rfl (l' := #[.val (.int pk), .val (.int pa), .val (.int pb), .val (.int pc), .val (.int pd), .val (.int pm), .val (.int ni), .val (.ref b62), .unset, .unset, .unset, .unset, .unset, .unset]) rfl k) ?_
  refine own_newO X63 hx hZ hown rfl (hw _ (List.mem_of_getElem? (i := 14) rfl)) (hw _ (List.mem_of_getElem? (i := 15) rfl)) (hw _ (List.mem_of_getElem? (i := 16) rfl)) (own_ld2 hw) own_df2 (by decide) (by decide) (hb hby at_17) ?_
  intro T64 h64 b64 g64 X64 e64 E64 B64
  have ne65 : b62 ≠ b64 := Nat.ne_of_lt (Nat.lt_of_lt_of_le (own_Ob_lt B63) (Nat.le_of_eq g64.symm))
  have ne66 : sb ≠ b64 := Nat.ne_of_lt (Nat.lt_of_lt_of_le (own_Rr_lt F63) (Nat.le_of_eq g64.symm))
  have sz64 : h0.size ≤ b64 := Nat.le_trans K63.1 (Nat.le_of_eq g64.symm)
  have ge64 : n0 ≤ b64 := Nat.le_trans Z0 sz64
  have K64 := K63.ext E64
  have O64 := O63.ext E64
  show own_Go p e below _ T64 (mkF m 20 #[.val (.int pk), .val (.int pa), .val (.int pb), .val (.int pc), .val (.int pd), .val (.int pm), .val (.int ni), .val (.ref b62), .unset, .unset, .unset, .unset, .unset, .unset] [(.ref b64)])
  refine own_go (g' := (mkF m 21 #[.val (.int pk), .val (.int pa), .val (.int pb), .val (.int pc), .val (.int pd), .val (.int pm), .val (.int ni), .val (.ref b62), .unset, .unset, .unset, .unset, .unset, .unset] [(.ref b64), (.ref b64)])) (fun _ k => XS.dup X64.here hx rfl (hb hby at_20) rfl rfl k) ?_
  refine own_go (g' := (mkF m 22 #[.val (.int pk), .val (.int pa), .val (.int pb), .val (.int pc), .val (.int pd), .val (.int pm), .val (.int ni), .val (.ref b62), .unset, .unset, .unset, .unset, .unset, .unset] [(.long (0 : Int64)), (.ref b64), (.ref b64)])) (fun _ k => XT.lconst X64.here hx rfl (hb hby at_21) k) ?_
  refine own_go (g' := (mkF m 23 #[.val (.int pk), .val (.int pa), .val (.int pb), .val (.int pc), .val (.int pd), .val (.int pm), .val (.int ni), .val (.ref b62), .unset, .unset, .unset, .unset, .unset, .unset] [(.long (0 : Int64)), (.long (0 : Int64)), (.ref b64), (.ref b64)])) (fun _ k => XT.lconst X64.here hx rfl (hb hby at_22) k) ?_
  refine own_callC X64 hx hZ hown e64 (y := (⟨"com/example/gangplank/gangplank/gang/Row", "<init>", "(JJ)V"⟩ : MethodName)) (rm := ({ frames := 5, cells := 3, slots := 18, locals := 3075 } : Room)) rfl (hw _ (List.mem_of_getElem? (i := 17) rfl)) (hw _ (List.mem_of_getElem? (i := 18) rfl)) (hw _ (List.mem_of_getElem? (i := 16) rfl)) (hw _ (List.mem_of_getElem? (i := 19) rfl)) (by decide) (a := b64) (argsL := [(.long (0 : Int64)), (.long (0 : Int64))]) (rest := [(.ref b64)]) (own_rmRw l Z a0 hw [] b64 sv (0 : Int64) (0 : Int64) _ h64 n0 (Nat.le_trans Z0 K64.1) ge64 O64 S0 B64) (by rw [hml]; rfl) pd_3 rfl rfl (hb hby at_23) (W := 1) (Nat.le_of_eq rfl) (by decide) (by decide) (by decide) (by decide) ?_
  intro v67 T67 L67 X67 hQ67
  obtain ⟨rfl, N67q, K67q, g67, B67⟩ := hQ67
  have K67 := K64.trans K67q (allS (Or.inr sz64) all0)
  have O67 := O64.keep K67q (allS ge64 all0)
  have N67 := Fr.app N63 N67q
  show own_Go p e below _ T67 (mkF m 26 #[.val (.int pk), .val (.int pa), .val (.int pb), .val (.int pc), .val (.int pd), .val (.int pm), .val (.int ni), .val (.ref b62), .unset, .unset, .unset, .unset, .unset, .unset] [(.ref b64)])
  refine own_go (g' := (mkF m 28 #[.val (.int pk), .val (.int pa), .val (.int pb), .val (.int pc), .val (.int pd), .val (.int pm), .val (.int ni), .val (.ref b62), .val (.ref b64), .unset, .unset, .unset, .unset, .unset] [])) (fun _ k => XS.astore X67.here hx rfl (hb hby at_26) rfl rfl (l' := #[.val (.int pk), .val (.int pa), .val (.int pb), .val (.int pc), .val (.int pd), .val (.int pm), .val (.int ni), .val (.ref b62), .val (.ref b64), .unset, .unset, .unset, .unset, .unset]) rfl k) ?_
  refine own_newO X67 hx hZ hown rfl (hw _ (List.mem_of_getElem? (i := 14) rfl)) (hw _ (List.mem_of_getElem? (i := 15) rfl)) (hw _ (List.mem_of_getElem? (i := 16) rfl)) (own_ld2 hw) own_df2 (by decide) (by decide) (hb hby at_28) ?_
  intro T68 h68 b68 g68 X68 e68 E68 B68
  have f70 := (own_Ob_keep (own_Ob_ext B63 E64) K67q (ninS ne65 nin0))
  have ne69 : b62 ≠ b68 := Nat.ne_of_lt (Nat.lt_of_lt_of_le (own_Ob_lt f70) (Nat.le_of_eq g68.symm))
  have f72 := (own_Rr_keep (own_Rr_ext F63 E64) K67q (ninS ne66 nin0))
  have ne71 : sb ≠ b68 := Nat.ne_of_lt (Nat.lt_of_lt_of_le (own_Rr_lt f72) (Nat.le_of_eq g68.symm))
  have ne73 : b64 ≠ b68 := Nat.ne_of_lt (Nat.lt_of_lt_of_le (own_Ob_lt B67) (Nat.le_of_eq g68.symm))
  have sz68 : h0.size ≤ b68 := Nat.le_trans K67.1 (Nat.le_of_eq g68.symm)
  have ge68 : n0 ≤ b68 := Nat.le_trans Z0 sz68
  have K68 := K67.ext E68
  have O68 := O67.ext E68
  show own_Go p e below _ T68 (mkF m 31 #[.val (.int pk), .val (.int pa), .val (.int pb), .val (.int pc), .val (.int pd), .val (.int pm), .val (.int ni), .val (.ref b62), .val (.ref b64), .unset, .unset, .unset, .unset, .unset] [(.ref b68)])
  refine own_go (g' := (mkF m 32 #[.val (.int pk), .val (.int pa), .val (.int pb), .val (.int pc), .val (.int pd), .val (.int pm), .val (.int ni), .val (.ref b62), .val (.ref b64), .unset, .unset, .unset, .unset, .unset] [(.ref b68), (.ref b68)])) (fun _ k => XS.dup X68.here hx rfl (hb hby at_31) rfl rfl k) ?_
  refine own_go (g' := (mkF m 33 #[.val (.int pk), .val (.int pa), .val (.int pb), .val (.int pc), .val (.int pd), .val (.int pm), .val (.int ni), .val (.ref b62), .val (.ref b64), .unset, .unset, .unset, .unset, .unset] [(.long (1 : Int64)), (.ref b68), (.ref b68)])) (fun _ k => XT.lconst X68.here hx rfl (hb hby at_32) k) ?_
  refine own_go (g' := (mkF m 34 #[.val (.int pk), .val (.int pa), .val (.int pb), .val (.int pc), .val (.int pd), .val (.int pm), .val (.int ni), .val (.ref b62), .val (.ref b64), .unset, .unset, .unset, .unset, .unset] [(.long (0 : Int64)), (.long (1 : Int64)), (.ref b68), (.ref b68)])) (fun _ k => XT.lconst X68.here hx rfl (hb hby at_33) k) ?_
  refine own_callC X68 hx hZ hown e68 (y := (⟨"com/example/gangplank/gangplank/gang/Row", "<init>", "(JJ)V"⟩ : MethodName)) (rm := ({ frames := 5, cells := 3, slots := 18, locals := 3075 } : Room)) rfl (hw _ (List.mem_of_getElem? (i := 17) rfl)) (hw _ (List.mem_of_getElem? (i := 18) rfl)) (hw _ (List.mem_of_getElem? (i := 16) rfl)) (hw _ (List.mem_of_getElem? (i := 19) rfl)) (by decide) (a := b68) (argsL := [(.long (1 : Int64)), (.long (0 : Int64))]) (rest := [(.ref b68)]) (own_rmRw l Z a0 hw [] b68 sv (1 : Int64) (0 : Int64) _ h68 n0 (Nat.le_trans Z0 K68.1) ge68 O68 S0 B68) (by rw [hml]; rfl) pd_3 rfl rfl (hb hby at_34) (W := 1) (Nat.le_of_eq rfl) (by decide) (by decide) (by decide) (by decide) ?_
  intro v74 T74 L74 X74 hQ74
  obtain ⟨rfl, N74q, K74q, g74, B74⟩ := hQ74
  have K74 := K68.trans K74q (allS (Or.inr sz68) all0)
  have O74 := O68.keep K74q (allS ge68 all0)
  have N74 := Fr.app N67 N74q
  show own_Go p e below _ T74 (mkF m 37 #[.val (.int pk), .val (.int pa), .val (.int pb), .val (.int pc), .val (.int pd), .val (.int pm), .val (.int ni), .val (.ref b62), .val (.ref b64), .unset, .unset, .unset, .unset, .unset] [(.ref b68)])
  refine own_go (g' := (mkF m 39 #[.val (.int pk), .val (.int pa), .val (.int pb), .val (.int pc), .val (.int pd), .val (.int pm), .val (.int ni), .val (.ref b62), .val (.ref b64), .val (.ref b68), .unset, .unset, .unset, .unset] [])) (fun _ k => XS.astore X74.here hx rfl (hb hby at_37) rfl rfl (l' := #[.val (.int pk), .val (.int pa), .val (.int pb), .val (.int pc), .val (.int pd), .val (.int pm), .val (.int ni), .val (.ref b62), .val (.ref b64), .val (.ref b68), .unset, .unset, .unset, .unset]) rfl k) ?_
  refine own_newO X74 hx hZ hown rfl (hw _ (List.mem_of_getElem? (i := 14) rfl)) (hw _ (List.mem_of_getElem? (i := 15) rfl)) (hw _ (List.mem_of_getElem? (i := 16) rfl)) (own_ld2 hw) own_df2 (by decide) (by decide) (hb hby at_39) ?_
  intro T75 h75 b75 g75 X75 e75 E75 B75
  have f77 := (own_Ob_keep (own_Ob_ext f70 E68) K74q (ninS ne69 nin0))
  have ne76 : b62 ≠ b75 := Nat.ne_of_lt (Nat.lt_of_lt_of_le (own_Ob_lt f77) (Nat.le_of_eq g75.symm))
  have f79 := (own_Rr_keep (own_Rr_ext f72 E68) K74q (ninS ne71 nin0))
  have ne78 : sb ≠ b75 := Nat.ne_of_lt (Nat.lt_of_lt_of_le (own_Rr_lt f79) (Nat.le_of_eq g75.symm))
  have f81 := (own_Ob_keep (own_Ob_ext B67 E68) K74q (ninS ne73 nin0))
  have ne80 : b64 ≠ b75 := Nat.ne_of_lt (Nat.lt_of_lt_of_le (own_Ob_lt f81) (Nat.le_of_eq g75.symm))
  have ne82 : b68 ≠ b75 := Nat.ne_of_lt (Nat.lt_of_lt_of_le (own_Ob_lt B74) (Nat.le_of_eq g75.symm))
  have sz75 : h0.size ≤ b75 := Nat.le_trans K74.1 (Nat.le_of_eq g75.symm)
  have ge75 : n0 ≤ b75 := Nat.le_trans Z0 sz75
  have K75 := K74.ext E75
  have O75 := O74.ext E75
  show own_Go p e below _ T75 (mkF m 42 #[.val (.int pk), .val (.int pa), .val (.int pb), .val (.int pc), .val (.int pd), .val (.int pm), .val (.int ni), .val (.ref b62), .val (.ref b64), .val (.ref b68), .unset, .unset, .unset, .unset] [(.ref b75)])
  refine own_go (g' := (mkF m 43 #[.val (.int pk), .val (.int pa), .val (.int pb), .val (.int pc), .val (.int pd), .val (.int pm), .val (.int ni), .val (.ref b62), .val (.ref b64), .val (.ref b68), .unset, .unset, .unset, .unset] [(.ref b75), (.ref b75)])) (fun _ k => XS.dup X75.here hx rfl (hb hby at_42) rfl rfl k) ?_
  refine own_go (g' := (mkF m 46 #[.val (.int pk), .val (.int pa), .val (.int pb), .val (.int pc), .val (.int pd), .val (.int pm), .val (.int ni), .val (.ref b62), .val (.ref b64), .val (.ref b68), .unset, .unset, .unset, .unset] [(.long (2 : Int64)), (.ref b75), (.ref b75)])) (fun _ k => X75.ldc2Long hx hown (mvT hZ (hw _ (List.mem_of_getElem? (i := 82) rfl))) (g := (mkF m 43 #[.val (.int pk), .val (.int pa), .val (.int pb), .val (.int pc), .val (.int pd), .val (.int pm), .val (.int ni), .val (.ref b62), .val (.ref b64), .val (.ref b68), .unset, .unset, .unset, .unset] [(.ref b75), (.ref b75)])) rfl (hb hby at_43) _ k) ?_
  refine own_go (g' := (mkF m 47 #[.val (.int pk), .val (.int pa), .val (.int pb), .val (.int pc), .val (.int pd), .val (.int pm), .val (.int ni), .val (.ref b62), .val (.ref b64), .val (.ref b68), .unset, .unset, .unset, .unset] [(.long (0 : Int64)), (.long (2 : Int64)), (.ref b75), (.ref b75)])) (fun _ k => XT.lconst X75.here hx rfl (hb hby at_46) k) ?_
  refine own_callC X75 hx hZ hown e75 (y := (⟨"com/example/gangplank/gangplank/gang/Row", "<init>", "(JJ)V"⟩ : MethodName)) (rm := ({ frames := 5, cells := 3, slots := 18, locals := 3075 } : Room)) rfl (hw _ (List.mem_of_getElem? (i := 17) rfl)) (hw _ (List.mem_of_getElem? (i := 18) rfl)) (hw _ (List.mem_of_getElem? (i := 16) rfl)) (hw _ (List.mem_of_getElem? (i := 19) rfl)) (by decide) (a := b75) (argsL := [(.long (2 : Int64)), (.long (0 : Int64))]) (rest := [(.ref b75)]) (own_rmRw l Z a0 hw [] b75 sv (2 : Int64) (0 : Int64) _ h75 n0 (Nat.le_trans Z0 K75.1) ge75 O75 S0 B75) (by rw [hml]; rfl) pd_3 rfl rfl (hb hby at_47) (W := 1) (Nat.le_of_eq rfl) (by decide) (by decide) (by decide) (by decide) ?_
  intro v83 T83 L83 X83 hQ83
  obtain ⟨rfl, N83q, K83q, g83, B83⟩ := hQ83
  have K83 := K75.trans K83q (allS (Or.inr sz75) all0)
  have O83 := O75.keep K83q (allS ge75 all0)
  have N83 := Fr.app N74 N83q
  show own_Go p e below _ T83 (mkF m 50 #[.val (.int pk), .val (.int pa), .val (.int pb), .val (.int pc), .val (.int pd), .val (.int pm), .val (.int ni), .val (.ref b62), .val (.ref b64), .val (.ref b68), .unset, .unset, .unset, .unset] [(.ref b75)])
  refine own_go (g' := (mkF m 52 #[.val (.int pk), .val (.int pa), .val (.int pb), .val (.int pc), .val (.int pd), .val (.int pm), .val (.int ni), .val (.ref b62), .val (.ref b64), .val (.ref b68), .val (.ref b75), .unset, .unset, .unset] [])) (fun _ k => XS.astore X83.here hx rfl (hb hby at_50) rfl rfl (l' := #[.val (.int pk), .val (.int pa), .val (.int pb), .val (.int pc), .val (.int pd), .val (.int pm), .val (.int ni), .val (.ref b62), .val (.ref b64), .val (.ref b68), .val (.ref b75), .unset, .unset, .unset]) rfl k) ?_
  refine own_newO X83 hx hZ hown rfl (hw _ (List.mem_of_getElem? (i := 14) rfl)) (hw _ (List.mem_of_getElem? (i := 15) rfl)) (hw _ (List.mem_of_getElem? (i := 16) rfl)) (own_ld2 hw) own_df2 (by decide) (by decide) (hb hby at_52) ?_
  intro T84 h84 b84 g84 X84 e84 E84 B84
  have f86 := (own_Ob_keep (own_Ob_ext f77 E75) K83q (ninS ne76 nin0))
  have ne85 : b62 ≠ b84 := Nat.ne_of_lt (Nat.lt_of_lt_of_le (own_Ob_lt f86) (Nat.le_of_eq g84.symm))
  have f88 := (own_Rr_keep (own_Rr_ext f79 E75) K83q (ninS ne78 nin0))
  have ne87 : sb ≠ b84 := Nat.ne_of_lt (Nat.lt_of_lt_of_le (own_Rr_lt f88) (Nat.le_of_eq g84.symm))
  have f90 := (own_Ob_keep (own_Ob_ext f81 E75) K83q (ninS ne80 nin0))
  have ne89 : b64 ≠ b84 := Nat.ne_of_lt (Nat.lt_of_lt_of_le (own_Ob_lt f90) (Nat.le_of_eq g84.symm))
  have f92 := (own_Ob_keep (own_Ob_ext B74 E75) K83q (ninS ne82 nin0))
  have ne91 : b68 ≠ b84 := Nat.ne_of_lt (Nat.lt_of_lt_of_le (own_Ob_lt f92) (Nat.le_of_eq g84.symm))
  have ne93 : b75 ≠ b84 := Nat.ne_of_lt (Nat.lt_of_lt_of_le (own_Ob_lt B83) (Nat.le_of_eq g84.symm))
  have sz84 : h0.size ≤ b84 := Nat.le_trans K83.1 (Nat.le_of_eq g84.symm)
  have ge84 : n0 ≤ b84 := Nat.le_trans Z0 sz84
  have K84 := K83.ext E84
  have O84 := O83.ext E84
  show own_Go p e below _ T84 (mkF m 55 #[.val (.int pk), .val (.int pa), .val (.int pb), .val (.int pc), .val (.int pd), .val (.int pm), .val (.int ni), .val (.ref b62), .val (.ref b64), .val (.ref b68), .val (.ref b75), .unset, .unset, .unset] [(.ref b84)])
  refine own_go (g' := (mkF m 56 #[.val (.int pk), .val (.int pa), .val (.int pb), .val (.int pc), .val (.int pd), .val (.int pm), .val (.int ni), .val (.ref b62), .val (.ref b64), .val (.ref b68), .val (.ref b75), .unset, .unset, .unset] [(.ref b84), (.ref b84)])) (fun _ k => XS.dup X84.here hx rfl (hb hby at_55) rfl rfl k) ?_
  refine own_go (g' := (mkF m 59 #[.val (.int pk), .val (.int pa), .val (.int pb), .val (.int pc), .val (.int pd), .val (.int pm), .val (.int ni), .val (.ref b62), .val (.ref b64), .val (.ref b68), .val (.ref b75), .unset, .unset, .unset] [(.long (3 : Int64)), (.ref b84), (.ref b84)])) (fun _ k => X84.ldc2Long hx hown (mvT hZ (hw _ (List.mem_of_getElem? (i := 83) rfl))) (g := (mkF m 56 #[.val (.int pk), .val (.int pa), .val (.int pb), .val (.int pc), .val (.int pd), .val (.int pm), .val (.int ni), .val (.ref b62), .val (.ref b64), .val (.ref b68), .val (.ref b75), .unset, .unset, .unset] [(.ref b84), (.ref b84)])) rfl (hb hby at_56) _ k) ?_
  refine own_go (g' := (mkF m 60 #[.val (.int pk), .val (.int pa), .val (.int pb), .val (.int pc), .val (.int pd), .val (.int pm), .val (.int ni), .val (.ref b62), .val (.ref b64), .val (.ref b68), .val (.ref b75), .unset, .unset, .unset] [(.long (0 : Int64)), (.long (3 : Int64)), (.ref b84), (.ref b84)])) (fun _ k => XT.lconst X84.here hx rfl (hb hby at_59) k) ?_
  refine own_callC X84 hx hZ hown e84 (y := (⟨"com/example/gangplank/gangplank/gang/Row", "<init>", "(JJ)V"⟩ : MethodName)) (rm := ({ frames := 5, cells := 3, slots := 18, locals := 3075 } : Room)) rfl (hw _ (List.mem_of_getElem? (i := 17) rfl)) (hw _ (List.mem_of_getElem? (i := 18) rfl)) (hw _ (List.mem_of_getElem? (i := 16) rfl)) (hw _ (List.mem_of_getElem? (i := 19) rfl)) (by decide) (a := b84) (argsL := [(.long (3 : Int64)), (.long (0 : Int64))]) (rest := [(.ref b84)]) (own_rmRw l Z a0 hw [] b84 sv (3 : Int64) (0 : Int64) _ h84 n0 (Nat.le_trans Z0 K84.1) ge84 O84 S0 B84) (by rw [hml]; rfl) pd_3 rfl rfl (hb hby at_60) (W := 1) (Nat.le_of_eq rfl) (by decide) (by decide) (by decide) (by decide) ?_
  intro v94 T94 L94 X94 hQ94
  obtain ⟨rfl, N94q, K94q, g94, B94⟩ := hQ94
  have K94 := K84.trans K94q (allS (Or.inr sz84) all0)
  have O94 := O84.keep K94q (allS ge84 all0)
  have N94 := Fr.app N83 N94q
  show own_Go p e below _ T94 (mkF m 63 #[.val (.int pk), .val (.int pa), .val (.int pb), .val (.int pc), .val (.int pd), .val (.int pm), .val (.int ni), .val (.ref b62), .val (.ref b64), .val (.ref b68), .val (.ref b75), .unset, .unset, .unset] [(.ref b84)])
  refine own_go (g' := (mkF m 65 #[.val (.int pk), .val (.int pa), .val (.int pb), .val (.int pc), .val (.int pd), .val (.int pm), .val (.int ni), .val (.ref b62), .val (.ref b64), .val (.ref b68), .val (.ref b75), .val (.ref b84), .unset, .unset] [])) (fun _ k => XS.astore X94.here hx rfl (hb hby at_63) rfl rfl (l' := #[.val (.int pk), .val (.int pa), .val (.int pb), .val (.int pc), .val (.int pd), .val (.int pm), .val (.int ni), .val (.ref b62), .val (.ref b64), .val (.ref b68), .val (.ref b75), .val (.ref b84), .unset, .unset]) rfl k) ?_
  refine own_go (g' := (mkF m 67 #[.val (.int pk), .val (.int pa), .val (.int pb), .val (.int pc), .val (.int pd), .val (.int pm), .val (.int ni), .val (.ref b62), .val (.ref b64), .val (.ref b68), .val (.ref b75), .val (.ref b84), .unset, .unset] [(.ref b64)])) (fun _ k => XS.aload X94.here hx rfl (hb hby at_65) rfl rfl k) ?_
  refine own_go (g' := (mkF m 68 #[.val (.int pk), .val (.int pa), .val (.int pb), .val (.int pc), .val (.int pd), .val (.int pm), .val (.int ni), .val (.ref b62), .val (.ref b64), .val (.ref b68), .val (.ref b75), .val (.ref b84), .unset, .unset] [(.int pa), (.ref b64)])) (fun _ k => XS.iloadN X94.here hx rfl (hb hby at_67) rfl k) ?_
  have f95 := (own_Ob_keep (own_Ob_ext f90 E84) K94q (ninS ne89 nin0))
  refine own_putF X94 hx hZ (host := "") (ty := .int) hown rfl (Or.inl (hw _ (List.mem_of_getElem? (i := 84) rfl))) Via.refl (own_Ob_fld f95 5 rfl) f95.1 (Or.inl (hw _ (List.mem_of_getElem? (i := 85) rfl))) (hw _ (List.mem_of_getElem? (i := 15) rfl)) (by decide) rfl rfl (hb hby at_68) ?_
  intro T96 h96 X96 e96 W96
  have B96 := own_Ob_put f95 own_ok2 (own_ld2 hw) 5 rfl W96
  have K96 := K94.wr W96 (Or.inr sz64)
  have O96 := O94.wr W96 ge64
  have N96 := Fr.snoc X96 N94 ge64
  show own_Go p e below _ T96 (mkF m 71 #[.val (.int pk), .val (.int pa), .val (.int pb), .val (.int pc), .val (.int pd), .val (.int pm), .val (.int ni), .val (.ref b62), .val (.ref b64), .val (.ref b68), .val (.ref b75), .val (.ref b84), .unset, .unset] [])
  refine own_go (g' := (mkF m 73 #[.val (.int pk), .val (.int pa), .val (.int pb), .val (.int pc), .val (.int pd), .val (.int pm), .val (.int ni), .val (.ref b62), .val (.ref b64), .val (.ref b68), .val (.ref b75), .val (.ref b84), .unset, .unset] [(.ref b68)])) (fun _ k => XS.aload X96.here hx rfl (hb hby at_71) rfl rfl k) ?_
  refine own_go (g' := (mkF m 74 #[.val (.int pk), .val (.int pa), .val (.int pb), .val (.int pc), .val (.int pd), .val (.int pm), .val (.int ni), .val (.ref b62), .val (.ref b64), .val (.ref b68), .val (.ref b75), .val (.ref b84), .unset, .unset] [(.int pb), (.ref b68)])) (fun _ k => XS.iloadN X96.here hx rfl (hb hby at_73) rfl k) ?_
  have f97 := (own_Ob_other (own_Ob_keep (own_Ob_ext f92 E84) K94q (ninS ne91 nin0)) W96 (Ne.symm ne73))
  refine own_putF X96 hx hZ (host := "") (ty := .int) hown e96 (Or.inl (hw _ (List.mem_of_getElem? (i := 84) rfl))) Via.refl (own_Ob_fld f97 5 rfl) f97.1 (Or.inl (hw _ (List.mem_of_getElem? (i := 85) rfl))) (hw _ (List.mem_of_getElem? (i := 15) rfl)) (by decide) rfl rfl (hb hby at_74) ?_
  intro T98 h98 X98 e98 W98
  have B98 := own_Ob_put f97 own_ok2 (own_ld2 hw) 5 rfl W98
  have K98 := K96.wr W98 (Or.inr sz68)
  have O98 := O96.wr W98 ge68
  have N98 := Fr.snoc X98 N96 ge68
  show own_Go p e below _ T98 (mkF m 77 #[.val (.int pk), .val (.int pa), .val (.int pb), .val (.int pc), .val (.int pd), .val (.int pm), .val (.int ni), .val (.ref b62), .val (.ref b64), .val (.ref b68), .val (.ref b75), .val (.ref b84), .unset, .unset] [])
  refine own_go (g' := (mkF m 79 #[.val (.int pk), .val (.int pa), .val (.int pb), .val (.int pc), .val (.int pd), .val (.int pm), .val (.int ni), .val (.ref b62), .val (.ref b64), .val (.ref b68), .val (.ref b75), .val (.ref b84), .unset, .unset] [(.ref b75)])) (fun _ k => XS.aload X98.here hx rfl (hb hby at_77) rfl rfl k) ?_
  refine own_go (g' := (mkF m 80 #[.val (.int pk), .val (.int pa), .val (.int pb), .val (.int pc), .val (.int pd), .val (.int pm), .val (.int ni), .val (.ref b62), .val (.ref b64), .val (.ref b68), .val (.ref b75), .val (.ref b84), .unset, .unset] [(.int pc), (.ref b75)])) (fun _ k => XS.iloadN X98.here hx rfl (hb hby at_79) rfl k) ?_
  have f99 := (own_Ob_other (own_Ob_other (own_Ob_keep (own_Ob_ext B83 E84) K94q (ninS ne93 nin0)) W96 (Ne.symm ne80)) W98 (Ne.symm ne82))
  refine own_putF X98 hx hZ (host := "") (ty := .int) hown e98 (Or.inl (hw _ (List.mem_of_getElem? (i := 84) rfl))) Via.refl (own_Ob_fld f99 5 rfl) f99.1 (Or.inl (hw _ (List.mem_of_getElem? (i := 85) rfl))) (hw _ (List.mem_of_getElem? (i := 15) rfl)) (by decide) rfl rfl (hb hby at_80) ?_
  intro T100 h100 X100 e100 W100
  have B100 := own_Ob_put f99 own_ok2 (own_ld2 hw) 5 rfl W100
  have K100 := K98.wr W100 (Or.inr sz75)
  have O100 := O98.wr W100 ge75
  have N100 := Fr.snoc X100 N98 ge75
  show own_Go p e below _ T100 (mkF m 83 #[.val (.int pk), .val (.int pa), .val (.int pb), .val (.int pc), .val (.int pd), .val (.int pm), .val (.int ni), .val (.ref b62), .val (.ref b64), .val (.ref b68), .val (.ref b75), .val (.ref b84), .unset, .unset] [])
  refine own_go (g' := (mkF m 85 #[.val (.int pk), .val (.int pa), .val (.int pb), .val (.int pc), .val (.int pd), .val (.int pm), .val (.int ni), .val (.ref b62), .val (.ref b64), .val (.ref b68), .val (.ref b75), .val (.ref b84), .unset, .unset] [(.ref b84)])) (fun _ k => XS.aload X100.here hx rfl (hb hby at_83) rfl rfl k) ?_
  refine own_go (g' := (mkF m 87 #[.val (.int pk), .val (.int pa), .val (.int pb), .val (.int pc), .val (.int pd), .val (.int pm), .val (.int ni), .val (.ref b62), .val (.ref b64), .val (.ref b68), .val (.ref b75), .val (.ref b84), .unset, .unset] [(.int pd), (.ref b84)])) (fun _ k => XS.iload X100.here hx rfl (hb hby at_85) rfl k) ?_
  have f101 := (own_Ob_other (own_Ob_other (own_Ob_other B94 W96 (Ne.symm ne89)) W98 (Ne.symm ne91)) W100 (Ne.symm ne93))
  refine own_putF X100 hx hZ (host := "") (ty := .int) hown e100 (Or.inl (hw _ (List.mem_of_getElem? (i := 84) rfl))) Via.refl (own_Ob_fld f101 5 rfl) f101.1 (Or.inl (hw _ (List.mem_of_getElem? (i := 85) rfl))) (hw _ (List.mem_of_getElem? (i := 15) rfl)) (by decide) rfl rfl (hb hby at_87) ?_
  intro T102 h102 X102 e102 W102
  have B102 := own_Ob_put f101 own_ok2 (own_ld2 hw) 5 rfl W102
  have K102 := K100.wr W102 (Or.inr sz84)
  have O102 := O100.wr W102 ge84
  have N102 := Fr.snoc X102 N100 ge84
  show own_Go p e below _ T102 (mkF m 90 #[.val (.int pk), .val (.int pa), .val (.int pb), .val (.int pc), .val (.int pd), .val (.int pm), .val (.int ni), .val (.ref b62), .val (.ref b64), .val (.ref b68), .val (.ref b75), .val (.ref b84), .unset, .unset] [])
  rcases (hni ▸ own_n5 pk : ni = 0 ∨ ni = 1 ∨ ni = 2 ∨ ni = 3 ∨ ni = 4) with hk | hk | hk | hk | hk
  · subst hk
    show own_Go p e below _ T102 (mkF m 90 #[.val (.int pk), .val (.int pa), .val (.int pb), .val (.int pc), .val (.int pd), .val (.int pm), .val (.int (0 : Int32)), .val (.ref b62), .val (.ref b64), .val (.ref b68), .val (.ref b75), .val (.ref b84), .unset, .unset] [])
    refine own_go (g' := (mkF m 92 #[.val (.int pk), .val (.int pa), .val (.int pb), .val (.int pc), .val (.int pd), .val (.int pm), .val (.int (0 : Int32)), .val (.ref b62), .val (.ref b64), .val (.ref b68), .val (.ref b75), .val (.ref b84), .unset, .unset] [(.int (0 : Int32))])) (fun _ k => XS.iload X102.here hx rfl (hb hby at_90) rfl k) ?_
    refine own_go (g' := (mkF m 93 #[.val (.int pk), .val (.int pa), .val (.int pb), .val (.int pc), .val (.int pd), .val (.int pm), .val (.int (0 : Int32)), .val (.ref b62), .val (.ref b64), .val (.ref b68), .val (.ref b75), .val (.ref b84), .unset, .unset] [(.int (1 : Int32)), (.int (0 : Int32))])) (fun _ k => XS.iconst X102.here hx rfl (hb hby at_92) k) ?_
    refine own_go (g' := (mkF m 103 #[.val (.int pk), .val (.int pa), .val (.int pb), .val (.int pc), .val (.int pd), .val (.int pm), .val (.int (0 : Int32)), .val (.ref b62), .val (.ref b64), .val (.ref b68), .val (.ref b75), .val (.ref b84), .unset, .unset] [])) (fun _ k => XS.icmpYes X102.here hx rfl (pc0 := 93) (pc' := 103) rfl (hb hby at_93) rfl (XT.ii_lt_t (by decide)) (by decide) (by decide) k) ?_
    refine own_go (g' := (mkF m 105 #[.val (.int pk), .val (.int pa), .val (.int pb), .val (.int pc), .val (.int pd), .val (.int pm), .val (.int (0 : Int32)), .val (.ref b62), .val (.ref b64), .val (.ref b68), .val (.ref b75), .val (.ref b84), .unset, .unset] [(.int (0 : Int32))])) (fun _ k => XS.iload X102.here hx rfl (hb hby at_103) rfl k) ?_
    refine own_go (g' := (mkF m 106 #[.val (.int pk), .val (.int pa), .val (.int pb), .val (.int pc), .val (.int pd), .val (.int pm), .val (.int (0 : Int32)), .val (.ref b62), .val (.ref b64), .val (.ref b68), .val (.ref b75), .val (.ref b84), .unset, .unset] [(.int (2 : Int32)), (.int (0 : Int32))])) (fun _ k => XS.iconst X102.here hx rfl (hb hby at_105) k) ?_
    refine own_go (g' := (mkF m 116 #[.val (.int pk), .val (.int pa), .val (.int pb), .val (.int pc), .val (.int pd), .val (.int pm), .val (.int (0 : Int32)), .val (.ref b62), .val (.ref b64), .val (.ref b68), .val (.ref b75), .val (.ref b84), .unset, .unset] [])) (fun _ k => XS.icmpYes X102.here hx rfl (pc0 := 106) (pc' := 116) rfl (hb hby at_106) rfl (XT.ii_lt_t (by decide)) (by decide) (by decide) k) ?_
    refine own_go (g' := (mkF m 118 #[.val (.int pk), .val (.int pa), .val (.int pb), .val (.int pc), .val (.int pd), .val (.int pm), .val (.int (0 : Int32)), .val (.ref b62), .val (.ref b64), .val (.ref b68), .val (.ref b75), .val (.ref b84), .unset, .unset] [(.int (0 : Int32))])) (fun _ k => XS.iload X102.here hx rfl (hb hby at_116) rfl k) ?_
    refine own_go (g' := (mkF m 119 #[.val (.int pk), .val (.int pa), .val (.int pb), .val (.int pc), .val (.int pd), .val (.int pm), .val (.int (0 : Int32)), .val (.ref b62), .val (.ref b64), .val (.ref b68), .val (.ref b75), .val (.ref b84), .unset, .unset] [(.int (3 : Int32)), (.int (0 : Int32))])) (fun _ k => XS.iconst X102.here hx rfl (hb hby at_118) k) ?_
    refine own_go (g' := (mkF m 129 #[.val (.int pk), .val (.int pa), .val (.int pb), .val (.int pc), .val (.int pd), .val (.int pm), .val (.int (0 : Int32)), .val (.ref b62), .val (.ref b64), .val (.ref b68), .val (.ref b75), .val (.ref b84), .unset, .unset] [])) (fun _ k => XS.icmpYes X102.here hx rfl (pc0 := 119) (pc' := 129) rfl (hb hby at_119) rfl (XT.ii_lt_t (by decide)) (by decide) (by decide) k) ?_
    refine own_go (g' := (mkF m 131 #[.val (.int pk), .val (.int pa), .val (.int pb), .val (.int pc), .val (.int pd), .val (.int pm), .val (.int (0 : Int32)), .val (.ref b62), .val (.ref b64), .val (.ref b68), .val (.ref b75), .val (.ref b84), .unset, .unset] [(.int (0 : Int32))])) (fun _ k => XS.iload X102.here hx rfl (hb hby at_129) rfl k) ?_
    refine own_go (g' := (mkF m 132 #[.val (.int pk), .val (.int pa), .val (.int pb), .val (.int pc), .val (.int pd), .val (.int pm), .val (.int (0 : Int32)), .val (.ref b62), .val (.ref b64), .val (.ref b68), .val (.ref b75), .val (.ref b84), .unset, .unset] [(.int (4 : Int32)), (.int (0 : Int32))])) (fun _ k => XS.iconst X102.here hx rfl (hb hby at_131) k) ?_
    refine own_go (g' := (mkF m 142 #[.val (.int pk), .val (.int pa), .val (.int pb), .val (.int pc), .val (.int pd), .val (.int pm), .val (.int (0 : Int32)), .val (.ref b62), .val (.ref b64), .val (.ref b68), .val (.ref b75), .val (.ref b84), .unset, .unset] [])) (fun _ k => XS.icmpYes X102.here hx rfl (pc0 := 132) (pc' := 142) rfl (hb hby at_132) rfl (XT.ii_lt_t (by decide)) (by decide) (by decide) k) ?_
    refine own_go (g' := (mkF m 143 #[.val (.int pk), .val (.int pa), .val (.int pb), .val (.int pc), .val (.int pd), .val (.int pm), .val (.int (0 : Int32)), .val (.ref b62), .val (.ref b64), .val (.ref b68), .val (.ref b75), .val (.ref b84), .unset, .unset] [.null])) (fun _ k => XS.aconstNull X102.here hx rfl (hb hby at_142) k) ?_
    refine own_go (g' := (mkF m 145 #[.val (.int pk), .val (.int pa), .val (.int pb), .val (.int pc), .val (.int pd), .val (.int pm), .val (.int (0 : Int32)), .val (.ref b62), .val (.ref b64), .val (.ref b68), .val (.ref b75), .val (.ref b84), .val .null, .unset] [])) (fun _ k => XS.astore X102.here hx rfl (hb hby at_143) rfl rfl (l' := #[.val (.int pk), .val (.int pa), .val (.int pb), .val (.int pc), .val (.int pd), .val (.int pm), .val (.int (0 : Int32)), .val (.ref b62), .val (.ref b64), .val (.ref b68), .val (.ref b75), .val (.ref b84), .val .null, .unset]) rfl k) ?_
    refine own_go (g' := (mkF m 147 #[.val (.int pk), .val (.int pa), .val (.int pb), .val (.int pc), .val (.int pd), .val (.int pm), .val (.int (0 : Int32)), .val (.ref b62), .val (.ref b64), .val (.ref b68), .val (.ref b75), .val (.ref b84), .val .null, .unset] [(.int (0 : Int32))])) (fun _ k => XS.iload X102.here hx rfl (hb hby at_145) rfl k) ?_
    refine own_go (g' := (mkF m 148 #[.val (.int pk), .val (.int pa), .val (.int pb), .val (.int pc), .val (.int pd), .val (.int pm), .val (.int (0 : Int32)), .val (.ref b62), .val (.ref b64), .val (.ref b68), .val (.ref b75), .val (.ref b84), .val .null, .unset] [(.int (1 : Int32)), (.int (0 : Int32))])) (fun _ k => XS.iconst X102.here hx rfl (hb hby at_147) k) ?_
    suffices J : ∀ ev : Value, ev.isRef = true → ev = own_fst (own_us pa pb pc pd) (own_rs b64 b68 b75 b84) pm 0 0 → own_Go p e below (own_Po s (own_Q0 n0) 48 320) T102 (mkF m 219 #[.val (.int pk), .val (.int pa), .val (.int pb), .val (.int pc), .val (.int pd), .val (.int pm), .val (.int (0 : Int32)), .val (.ref b62), .val (.ref b64), .val (.ref b68), .val (.ref b75), .val (.ref b84), .val ev, .unset] []) by
      refine own_go (g' := (mkF m 164 #[.val (.int pk), .val (.int pa), .val (.int pb), .val (.int pc), .val (.int pd), .val (.int pm), .val (.int (0 : Int32)), .val (.ref b62), .val (.ref b64), .val (.ref b68), .val (.ref b75), .val (.ref b84), .val .null, .unset] [])) (fun _ k => XS.icmpYes X102.here hx rfl (pc0 := 148) (pc' := 164) rfl (hb hby at_148) rfl (XT.ii_lt_t (by decide)) (by decide) (by decide) k) ?_
      refine own_go (g' := (mkF m 166 #[.val (.int pk), .val (.int pa), .val (.int pb), .val (.int pc), .val (.int pd), .val (.int pm), .val (.int (0 : Int32)), .val (.ref b62), .val (.ref b64), .val (.ref b68), .val (.ref b75), .val (.ref b84), .val .null, .unset] [(.int (0 : Int32))])) (fun _ k => XS.iload X102.here hx rfl (hb hby at_164) rfl k) ?_
      refine own_go (g' := (mkF m 167 #[.val (.int pk), .val (.int pa), .val (.int pb), .val (.int pc), .val (.int pd), .val (.int pm), .val (.int (0 : Int32)), .val (.ref b62), .val (.ref b64), .val (.ref b68), .val (.ref b75), .val (.ref b84), .val .null, .unset] [(.int (2 : Int32)), (.int (0 : Int32))])) (fun _ k => XS.iconst X102.here hx rfl (hb hby at_166) k) ?_
      refine own_go (g' := (mkF m 183 #[.val (.int pk), .val (.int pa), .val (.int pb), .val (.int pc), .val (.int pd), .val (.int pm), .val (.int (0 : Int32)), .val (.ref b62), .val (.ref b64), .val (.ref b68), .val (.ref b75), .val (.ref b84), .val .null, .unset] [])) (fun _ k => XS.icmpYes X102.here hx rfl (pc0 := 167) (pc' := 183) rfl (hb hby at_167) rfl (XT.ii_lt_t (by decide)) (by decide) (by decide) k) ?_
      refine own_go (g' := (mkF m 185 #[.val (.int pk), .val (.int pa), .val (.int pb), .val (.int pc), .val (.int pd), .val (.int pm), .val (.int (0 : Int32)), .val (.ref b62), .val (.ref b64), .val (.ref b68), .val (.ref b75), .val (.ref b84), .val .null, .unset] [(.int (0 : Int32))])) (fun _ k => XS.iload X102.here hx rfl (hb hby at_183) rfl k) ?_
      refine own_go (g' := (mkF m 186 #[.val (.int pk), .val (.int pa), .val (.int pb), .val (.int pc), .val (.int pd), .val (.int pm), .val (.int (0 : Int32)), .val (.ref b62), .val (.ref b64), .val (.ref b68), .val (.ref b75), .val (.ref b84), .val .null, .unset] [(.int (3 : Int32)), (.int (0 : Int32))])) (fun _ k => XS.iconst X102.here hx rfl (hb hby at_185) k) ?_
      refine own_go (g' := (mkF m 202 #[.val (.int pk), .val (.int pa), .val (.int pb), .val (.int pc), .val (.int pd), .val (.int pm), .val (.int (0 : Int32)), .val (.ref b62), .val (.ref b64), .val (.ref b68), .val (.ref b75), .val (.ref b84), .val .null, .unset] [])) (fun _ k => XS.icmpYes X102.here hx rfl (pc0 := 186) (pc' := 202) rfl (hb hby at_186) rfl (XT.ii_lt_t (by decide)) (by decide) (by decide) k) ?_
      refine own_go (g' := (mkF m 204 #[.val (.int pk), .val (.int pa), .val (.int pb), .val (.int pc), .val (.int pd), .val (.int pm), .val (.int (0 : Int32)), .val (.ref b62), .val (.ref b64), .val (.ref b68), .val (.ref b75), .val (.ref b84), .val .null, .unset] [(.int (0 : Int32))])) (fun _ k => XS.iload X102.here hx rfl (hb hby at_202) rfl k) ?_
      refine own_go (g' := (mkF m 205 #[.val (.int pk), .val (.int pa), .val (.int pb), .val (.int pc), .val (.int pd), .val (.int pm), .val (.int (0 : Int32)), .val (.ref b62), .val (.ref b64), .val (.ref b68), .val (.ref b75), .val (.ref b84), .val .null, .unset] [(.int (4 : Int32)), (.int (0 : Int32))])) (fun _ k => XS.iconst X102.here hx rfl (hb hby at_204) k) ?_
      refine own_go (g' := (mkF m 219 #[.val (.int pk), .val (.int pa), .val (.int pb), .val (.int pc), .val (.int pd), .val (.int pm), .val (.int (0 : Int32)), .val (.ref b62), .val (.ref b64), .val (.ref b68), .val (.ref b75), .val (.ref b84), .val .null, .unset] [])) (fun _ k => XS.icmpYes X102.here hx rfl (pc0 := 205) (pc' := 219) rfl (hb hby at_205) rfl (XT.ii_lt_t (by decide)) (by decide) (by decide) k) ?_
      exact J _ rfl (by simp [own_fst, own_us, own_rs])
    intro ev ev_ref hev
    refine own_go (g' := (mkF m 221 #[.val (.int pk), .val (.int pa), .val (.int pb), .val (.int pc), .val (.int pd), .val (.int pm), .val (.int (0 : Int32)), .val (.ref b62), .val (.ref b64), .val (.ref b68), .val (.ref b75), .val (.ref b84), .val ev, .unset] [(.ref b62)])) (fun _ k => XS.aload X102.here hx rfl (hb hby at_219) rfl rfl k) ?_
    refine own_go (g' := (mkF m 223 #[.val (.int pk), .val (.int pa), .val (.int pb), .val (.int pc), .val (.int pd), .val (.int pm), .val (.int (0 : Int32)), .val (.ref b62), .val (.ref b64), .val (.ref b68), .val (.ref b75), .val (.ref b84), .val ev, .unset] [(.int pm), (.ref b62)])) (fun _ k => XS.iload X102.here hx rfl (hb hby at_221) rfl k) ?_
    have f103 := (own_Ob_other (own_Ob_other (own_Ob_other (own_Ob_other (own_Ob_keep (own_Ob_ext f86 E84) K94q (ninS ne85 nin0)) W96 ne65) W98 ne69) W100 ne76) W102 ne85)
    have f104 := (own_Rr_other (own_Rr_other (own_Rr_other (own_Rr_other (own_Rr_keep (own_Rr_ext f88 E84) K94q (ninS ne87 nin0)) W96 ne66) W98 ne71) W100 ne78) W102 ne87)
    refine own_callV X102 hx hZ hown e102 (C := "com/example/gangplank/gangplank/gang/Rows") (y := (⟨"com/example/gangplank/gangplank/gang/Rows", "firstHoldingAtMost", "(I)Lcom/example/gangplank/gangplank/gang/Row;"⟩ : MethodName)) (rm := ({ frames := 0, cells := 0, slots := 0, locals := 0 } : Room)) (hw _ (List.mem_of_getElem? (i := 86) rfl)) (hw _ (List.mem_of_getElem? (i := 87) rfl)) (hw _ (List.mem_of_getElem? (i := 89) rfl)) (hw _ (List.mem_of_getElem? (i := 88) rfl)) (hw _ (List.mem_of_getElem? (i := 3) rfl)) (hw _ (List.mem_of_getElem? (i := 90) rfl)) (by decide) (a := b62) f103.1 (argsL := [(.int pm)]) (rest := []) (own_rmF l Z a0 hw [] b62 sb (0 : Int32) pm _ (own_rs b64 b68 b75 b84) (own_us pa pb pc pd) 0 h102 n0 f103 f104 rfl (by decide) (fun i hi => absurd hi (Nat.not_lt_zero i)) (fun i hi => absurd hi (Nat.not_lt_zero i))) (by rw [hml]; rfl) pd_10 rfl rfl (hb hby at_223) (W := 0) (Nat.le_of_eq rfl) (by decide) (by decide) (by decide) (by decide) ?_
    intro v105 T105 L105 X105 hQ105
    obtain ⟨rfl, e105, rfl⟩ := hQ105
    rw [List.append_nil] at X105
    show own_Go p e below _ T105 (mkF m 226 #[.val (.int pk), .val (.int pa), .val (.int pb), .val (.int pc), .val (.int pd), .val (.int pm), .val (.int (0 : Int32)), .val (.ref b62), .val (.ref b64), .val (.ref b68), .val (.ref b75), .val (.ref b84), .val ev, .unset] [(own_fst (own_us pa pb pc pd) (own_rs b64 b68 b75 b84) pm 0 0)])
    rw [← hev]
    show own_Go p e below _ T105 (mkF m 226 #[.val (.int pk), .val (.int pa), .val (.int pb), .val (.int pc), .val (.int pd), .val (.int pm), .val (.int (0 : Int32)), .val (.ref b62), .val (.ref b64), .val (.ref b68), .val (.ref b75), .val (.ref b84), .val ev, .unset] [ev])
    refine own_go (g' := (mkF m 228 #[.val (.int pk), .val (.int pa), .val (.int pb), .val (.int pc), .val (.int pd), .val (.int pm), .val (.int (0 : Int32)), .val (.ref b62), .val (.ref b64), .val (.ref b68), .val (.ref b75), .val (.ref b84), .val ev, .val ev] [])) (fun _ k => XS.astoreS X105.here hx rfl (hb hby at_226) rfl ev_ref (XT.cat1 ev_ref) rfl (Or.inl rfl) k) ?_
    refine own_go (g' := (mkF m 230 #[.val (.int pk), .val (.int pa), .val (.int pb), .val (.int pc), .val (.int pd), .val (.int pm), .val (.int (0 : Int32)), .val (.ref b62), .val (.ref b64), .val (.ref b68), .val (.ref b75), .val (.ref b84), .val ev, .val ev] [ev])) (fun _ k => XS.aload X105.here hx rfl (hb hby at_228) rfl (ev_ref) k) ?_
    refine own_go (g' := (mkF m 232 #[.val (.int pk), .val (.int pa), .val (.int pb), .val (.int pc), .val (.int pd), .val (.int pm), .val (.int (0 : Int32)), .val (.ref b62), .val (.ref b64), .val (.ref b68), .val (.ref b75), .val (.ref b84), .val ev, .val ev] [ev, ev])) (fun _ k => XS.aload X105.here hx rfl (hb hby at_230) rfl (ev_ref) k) ?_
    refine own_go (g' := (mkF m 235 #[.val (.int pk), .val (.int pa), .val (.int pb), .val (.int pc), .val (.int pd), .val (.int pm), .val (.int (0 : Int32)), .val (.ref b62), .val (.ref b64), .val (.ref b68), .val (.ref b75), .val (.ref b84), .val ev, .val ev] [])) (fun _ k => XT.acmpNo X105.here hx rfl (hb hby at_232) rfl ev_ref ev_ref (XT.aa_ne_f rfl) k) ?_
    refine own_go (g' := (mkF m 236 #[.val (.int pk), .val (.int pa), .val (.int pb), .val (.int pc), .val (.int pd), .val (.int pm), .val (.int (0 : Int32)), .val (.ref b62), .val (.ref b64), .val (.ref b68), .val (.ref b75), .val (.ref b84), .val ev, .val ev] [(.int (1 : Int32))])) (fun _ k => XS.iconst X105.here hx rfl (hb hby at_235) k) ?_
    refine own_go (g' := (mkF m 240 #[.val (.int pk), .val (.int pa), .val (.int pb), .val (.int pc), .val (.int pd), .val (.int pm), .val (.int (0 : Int32)), .val (.ref b62), .val (.ref b64), .val (.ref b68), .val (.ref b75), .val (.ref b84), .val ev, .val ev] [(.int (1 : Int32))])) (fun _ k => XS.goto X105.here hx rfl (pc0 := 236) (pc' := 240) rfl (hb hby at_236) (by decide) (by decide) k) ?_
    exact own_retZ X105 hx hlk hret e105 (hb hby at_240) ⟨rfl, N102⟩ (by decide) (by decide)
  · subst hk
    show own_Go p e below _ T102 (mkF m 90 #[.val (.int pk), .val (.int pa), .val (.int pb), .val (.int pc), .val (.int pd), .val (.int pm), .val (.int (1 : Int32)), .val (.ref b62), .val (.ref b64), .val (.ref b68), .val (.ref b75), .val (.ref b84), .unset, .unset] [])
    refine own_go (g' := (mkF m 92 #[.val (.int pk), .val (.int pa), .val (.int pb), .val (.int pc), .val (.int pd), .val (.int pm), .val (.int (1 : Int32)), .val (.ref b62), .val (.ref b64), .val (.ref b68), .val (.ref b75), .val (.ref b84), .unset, .unset] [(.int (1 : Int32))])) (fun _ k => XS.iload X102.here hx rfl (hb hby at_90) rfl k) ?_
    refine own_go (g' := (mkF m 93 #[.val (.int pk), .val (.int pa), .val (.int pb), .val (.int pc), .val (.int pd), .val (.int pm), .val (.int (1 : Int32)), .val (.ref b62), .val (.ref b64), .val (.ref b68), .val (.ref b75), .val (.ref b84), .unset, .unset] [(.int (1 : Int32)), (.int (1 : Int32))])) (fun _ k => XS.iconst X102.here hx rfl (hb hby at_92) k) ?_
    refine own_go (g' := (mkF m 96 #[.val (.int pk), .val (.int pa), .val (.int pb), .val (.int pc), .val (.int pd), .val (.int pm), .val (.int (1 : Int32)), .val (.ref b62), .val (.ref b64), .val (.ref b68), .val (.ref b75), .val (.ref b84), .unset, .unset] [])) (fun _ k => XS.icmpNo X102.here hx rfl (hb hby at_93) rfl (XT.ii_lt_f (by decide)) k) ?_
    refine own_go (g' := (mkF m 98 #[.val (.int pk), .val (.int pa), .val (.int pb), .val (.int pc), .val (.int pd), .val (.int pm), .val (.int (1 : Int32)), .val (.ref b62), .val (.ref b64), .val (.ref b68), .val (.ref b75), .val (.ref b84), .unset, .unset] [(.ref b62)])) (fun _ k => XS.aload X102.here hx rfl (hb hby at_96) rfl rfl k) ?_
    refine own_go (g' := (mkF m 100 #[.val (.int pk), .val (.int pa), .val (.int pb), .val (.int pc), .val (.int pd), .val (.int pm), .val (.int (1 : Int32)), .val (.ref b62), .val (.ref b64), .val (.ref b68), .val (.ref b75), .val (.ref b84), .unset, .unset] [(.ref b64), (.ref b62)])) (fun _ k => XS.aload X102.here hx rfl (hb hby at_98) rfl rfl k) ?_
    have f106 := (own_Ob_other (own_Ob_other (own_Ob_other (own_Ob_other (own_Ob_keep (own_Ob_ext f86 E84) K94q (ninS ne85 nin0)) W96 ne65) W98 ne69) W100 ne76) W102 ne85)
    have f107 := (own_Rr_other (own_Rr_other (own_Rr_other (own_Rr_other (own_Rr_keep (own_Rr_ext f88 E84) K94q (ninS ne87 nin0)) W96 ne66) W98 ne71) W100 ne78) W102 ne87)
    have f108 := (own_Ob_other (own_Ob_other (own_Ob_other B96 W98 ne73) W100 ne80) W102 ne89)
    refine own_callV X102 hx hZ hown e102 (C := "com/example/gangplank/gangplank/gang/Rows") (y := (⟨"com/example/gangplank/gangplank/gang/Rows", "add", "(Lcom/example/gangplank/gangplank/gang/Row;)V"⟩ : MethodName)) (rm := ({ frames := 1, cells := 0, slots := 0, locals := 13 } : Room)) (hw _ (List.mem_of_getElem? (i := 95) rfl)) (hw _ (List.mem_of_getElem? (i := 96) rfl)) (hw _ (List.mem_of_getElem? (i := 98) rfl)) (hw _ (List.mem_of_getElem? (i := 97) rfl)) (hw _ (List.mem_of_getElem? (i := 3) rfl)) (hw _ (List.mem_of_getElem? (i := 99) rfl)) (by decide) (a := b62) f106.1 (argsL := [(.ref b64)]) (rest := []) (own_rmAdd l Z a0 hw [] b62 sb b64 (0 : Int32) 0 _ _ h102 n0 ge62 gsb ge64 f106 f107 f108 hsb (Ne.symm ne65) (Ne.symm ne66) rfl (by decide)) (by rw [hml]; rfl) pd_11 rfl rfl (hb hby at_100) (W := 0) (Nat.le_of_eq rfl) (by decide) (by decide) (by decide) (by decide) ?_
    intro v109 T109 L109 X109 hQ109
    obtain ⟨rfl, N109q, K109q, B109, F109, R109⟩ := hQ109
    have K109 := K102.trans K109q (allS (Or.inr sz62) (allS (Or.inr szb) (allS (Or.inr sz64) all0)))
    have O109 := O102.keep K109q (allS ge62 (allS gsb (allS ge64 all0)))
    have N109 := Fr.app N102 N109q
    show own_Go p e below _ T109 (mkF m 103 #[.val (.int pk), .val (.int pa), .val (.int pb), .val (.int pc), .val (.int pd), .val (.int pm), .val (.int (1 : Int32)), .val (.ref b62), .val (.ref b64), .val (.ref b68), .val (.ref b75), .val (.ref b84), .unset, .unset] [])
    refine own_go (g' := (mkF m 105 #[.val (.int pk), .val (.int pa), .val (.int pb), .val (.int pc), .val (.int pd), .val (.int pm), .val (.int (1 : Int32)), .val (.ref b62), .val (.ref b64), .val (.ref b68), .val (.ref b75), .val (.ref b84), .unset, .unset] [(.int (1 : Int32))])) (fun _ k => XS.iload X109.here hx rfl (hb hby at_103) rfl k) ?_
    refine own_go (g' := (mkF m 106 #[.val (.int pk), .val (.int pa), .val (.int pb), .val (.int pc), .val (.int pd), .val (.int pm), .val (.int (1 : Int32)), .val (.ref b62), .val (.ref b64), .val (.ref b68), .val (.ref b75), .val (.ref b84), .unset, .unset] [(.int (2 : Int32)), (.int (1 : Int32))])) (fun _ k => XS.iconst X109.here hx rfl (hb hby at_105) k) ?_
    refine own_go (g' := (mkF m 116 #[.val (.int pk), .val (.int pa), .val (.int pb), .val (.int pc), .val (.int pd), .val (.int pm), .val (.int (1 : Int32)), .val (.ref b62), .val (.ref b64), .val (.ref b68), .val (.ref b75), .val (.ref b84), .unset, .unset] [])) (fun _ k => XS.icmpYes X109.here hx rfl (pc0 := 106) (pc' := 116) rfl (hb hby at_106) rfl (XT.ii_lt_t (by decide)) (by decide) (by decide) k) ?_
    refine own_go (g' := (mkF m 118 #[.val (.int pk), .val (.int pa), .val (.int pb), .val (.int pc), .val (.int pd), .val (.int pm), .val (.int (1 : Int32)), .val (.ref b62), .val (.ref b64), .val (.ref b68), .val (.ref b75), .val (.ref b84), .unset, .unset] [(.int (1 : Int32))])) (fun _ k => XS.iload X109.here hx rfl (hb hby at_116) rfl k) ?_
    refine own_go (g' := (mkF m 119 #[.val (.int pk), .val (.int pa), .val (.int pb), .val (.int pc), .val (.int pd), .val (.int pm), .val (.int (1 : Int32)), .val (.ref b62), .val (.ref b64), .val (.ref b68), .val (.ref b75), .val (.ref b84), .unset, .unset] [(.int (3 : Int32)), (.int (1 : Int32))])) (fun _ k => XS.iconst X109.here hx rfl (hb hby at_118) k) ?_
    refine own_go (g' := (mkF m 129 #[.val (.int pk), .val (.int pa), .val (.int pb), .val (.int pc), .val (.int pd), .val (.int pm), .val (.int (1 : Int32)), .val (.ref b62), .val (.ref b64), .val (.ref b68), .val (.ref b75), .val (.ref b84), .unset, .unset] [])) (fun _ k => XS.icmpYes X109.here hx rfl (pc0 := 119) (pc' := 129) rfl (hb hby at_119) rfl (XT.ii_lt_t (by decide)) (by decide) (by decide) k) ?_
    refine own_go (g' := (mkF m 131 #[.val (.int pk), .val (.int pa), .val (.int pb), .val (.int pc), .val (.int pd), .val (.int pm), .val (.int (1 : Int32)), .val (.ref b62), .val (.ref b64), .val (.ref b68), .val (.ref b75), .val (.ref b84), .unset, .unset] [(.int (1 : Int32))])) (fun _ k => XS.iload X109.here hx rfl (hb hby at_129) rfl k) ?_
    refine own_go (g' := (mkF m 132 #[.val (.int pk), .val (.int pa), .val (.int pb), .val (.int pc), .val (.int pd), .val (.int pm), .val (.int (1 : Int32)), .val (.ref b62), .val (.ref b64), .val (.ref b68), .val (.ref b75), .val (.ref b84), .unset, .unset] [(.int (4 : Int32)), (.int (1 : Int32))])) (fun _ k => XS.iconst X109.here hx rfl (hb hby at_131) k) ?_
    refine own_go (g' := (mkF m 142 #[.val (.int pk), .val (.int pa), .val (.int pb), .val (.int pc), .val (.int pd), .val (.int pm), .val (.int (1 : Int32)), .val (.ref b62), .val (.ref b64), .val (.ref b68), .val (.ref b75), .val (.ref b84), .unset, .unset] [])) (fun _ k => XS.icmpYes X109.here hx rfl (pc0 := 132) (pc' := 142) rfl (hb hby at_132) rfl (XT.ii_lt_t (by decide)) (by decide) (by decide) k) ?_
    refine own_go (g' := (mkF m 143 #[.val (.int pk), .val (.int pa), .val (.int pb), .val (.int pc), .val (.int pd), .val (.int pm), .val (.int (1 : Int32)), .val (.ref b62), .val (.ref b64), .val (.ref b68), .val (.ref b75), .val (.ref b84), .unset, .unset] [.null])) (fun _ k => XS.aconstNull X109.here hx rfl (hb hby at_142) k) ?_
    refine own_go (g' := (mkF m 145 #[.val (.int pk), .val (.int pa), .val (.int pb), .val (.int pc), .val (.int pd), .val (.int pm), .val (.int (1 : Int32)), .val (.ref b62), .val (.ref b64), .val (.ref b68), .val (.ref b75), .val (.ref b84), .val .null, .unset] [])) (fun _ k => XS.astore X109.here hx rfl (hb hby at_143) rfl rfl (l' := #[.val (.int pk), .val (.int pa), .val (.int pb), .val (.int pc), .val (.int pd), .val (.int pm), .val (.int (1 : Int32)), .val (.ref b62), .val (.ref b64), .val (.ref b68), .val (.ref b75), .val (.ref b84), .val .null, .unset]) rfl k) ?_
    refine own_go (g' := (mkF m 147 #[.val (.int pk), .val (.int pa), .val (.int pb), .val (.int pc), .val (.int pd), .val (.int pm), .val (.int (1 : Int32)), .val (.ref b62), .val (.ref b64), .val (.ref b68), .val (.ref b75), .val (.ref b84), .val .null, .unset] [(.int (1 : Int32))])) (fun _ k => XS.iload X109.here hx rfl (hb hby at_145) rfl k) ?_
    refine own_go (g' := (mkF m 148 #[.val (.int pk), .val (.int pa), .val (.int pb), .val (.int pc), .val (.int pd), .val (.int pm), .val (.int (1 : Int32)), .val (.ref b62), .val (.ref b64), .val (.ref b68), .val (.ref b75), .val (.ref b84), .val .null, .unset] [(.int (1 : Int32)), (.int (1 : Int32))])) (fun _ k => XS.iconst X109.here hx rfl (hb hby at_147) k) ?_
    suffices J : ∀ ev : Value, ev.isRef = true → ev = own_fst (own_us pa pb pc pd) (own_rs b64 b68 b75 b84) pm 1 0 → own_Go p e below (own_Po s (own_Q0 n0) 48 320) T109 (mkF m 219 #[.val (.int pk), .val (.int pa), .val (.int pb), .val (.int pc), .val (.int pd), .val (.int pm), .val (.int (1 : Int32)), .val (.ref b62), .val (.ref b64), .val (.ref b68), .val (.ref b75), .val (.ref b84), .val ev, .unset] []) by
      refine own_go (g' := (mkF m 151 #[.val (.int pk), .val (.int pa), .val (.int pb), .val (.int pc), .val (.int pd), .val (.int pm), .val (.int (1 : Int32)), .val (.ref b62), .val (.ref b64), .val (.ref b68), .val (.ref b75), .val (.ref b84), .val .null, .unset] [])) (fun _ k => XS.icmpNo X109.here hx rfl (hb hby at_148) rfl (XT.ii_lt_f (by decide)) k) ?_
      refine own_go (g' := (mkF m 152 #[.val (.int pk), .val (.int pa), .val (.int pb), .val (.int pc), .val (.int pd), .val (.int pm), .val (.int (1 : Int32)), .val (.ref b62), .val (.ref b64), .val (.ref b68), .val (.ref b75), .val (.ref b84), .val .null, .unset] [(.int pa)])) (fun _ k => XS.iloadN X109.here hx rfl (hb hby at_151) rfl k) ?_
      refine own_go (g' := (mkF m 154 #[.val (.int pk), .val (.int pa), .val (.int pb), .val (.int pc), .val (.int pd), .val (.int pm), .val (.int (1 : Int32)), .val (.ref b62), .val (.ref b64), .val (.ref b68), .val (.ref b75), .val (.ref b84), .val .null, .unset] [(.int pm), (.int pa)])) (fun _ k => XS.iload X109.here hx rfl (hb hby at_152) rfl k) ?_
      by_cases cu0 : pm < pa
      · refine own_go (g' := (mkF m 164 #[.val (.int pk), .val (.int pa), .val (.int pb), .val (.int pc), .val (.int pd), .val (.int pm), .val (.int (1 : Int32)), .val (.ref b62), .val (.ref b64), .val (.ref b68), .val (.ref b75), .val (.ref b84), .val .null, .unset] [])) (fun _ k => XS.icmpYes X109.here hx rfl (pc0 := 154) (pc' := 164) rfl (hb hby at_154) rfl (XT.ii_gt_t cu0) (by decide) (by decide) k) ?_
        refine own_go (g' := (mkF m 166 #[.val (.int pk), .val (.int pa), .val (.int pb), .val (.int pc), .val (.int pd), .val (.int pm), .val (.int (1 : Int32)), .val (.ref b62), .val (.ref b64), .val (.ref b68), .val (.ref b75), .val (.ref b84), .val .null, .unset] [(.int (1 : Int32))])) (fun _ k => XS.iload X109.here hx rfl (hb hby at_164) rfl k) ?_
        refine own_go (g' := (mkF m 167 #[.val (.int pk), .val (.int pa), .val (.int pb), .val (.int pc), .val (.int pd), .val (.int pm), .val (.int (1 : Int32)), .val (.ref b62), .val (.ref b64), .val (.ref b68), .val (.ref b75), .val (.ref b84), .val .null, .unset] [(.int (2 : Int32)), (.int (1 : Int32))])) (fun _ k => XS.iconst X109.here hx rfl (hb hby at_166) k) ?_
        refine own_go (g' := (mkF m 183 #[.val (.int pk), .val (.int pa), .val (.int pb), .val (.int pc), .val (.int pd), .val (.int pm), .val (.int (1 : Int32)), .val (.ref b62), .val (.ref b64), .val (.ref b68), .val (.ref b75), .val (.ref b84), .val .null, .unset] [])) (fun _ k => XS.icmpYes X109.here hx rfl (pc0 := 167) (pc' := 183) rfl (hb hby at_167) rfl (XT.ii_lt_t (by decide)) (by decide) (by decide) k) ?_
        refine own_go (g' := (mkF m 185 #[.val (.int pk), .val (.int pa), .val (.int pb), .val (.int pc), .val (.int pd), .val (.int pm), .val (.int (1 : Int32)), .val (.ref b62), .val (.ref b64), .val (.ref b68), .val (.ref b75), .val (.ref b84), .val .null, .unset] [(.int (1 : Int32))])) (fun _ k => XS.iload X109.here hx rfl (hb hby at_183) rfl k) ?_
        refine own_go (g' := (mkF m 186 #[.val (.int pk), .val (.int pa), .val (.int pb), .val (.int pc), .val (.int pd), .val (.int pm), .val (.int (1 : Int32)), .val (.ref b62), .val (.ref b64), .val (.ref b68), .val (.ref b75), .val (.ref b84), .val .null, .unset] [(.int (3 : Int32)), (.int (1 : Int32))])) (fun _ k => XS.iconst X109.here hx rfl (hb hby at_185) k) ?_
        refine own_go (g' := (mkF m 202 #[.val (.int pk), .val (.int pa), .val (.int pb), .val (.int pc), .val (.int pd), .val (.int pm), .val (.int (1 : Int32)), .val (.ref b62), .val (.ref b64), .val (.ref b68), .val (.ref b75), .val (.ref b84), .val .null, .unset] [])) (fun _ k => XS.icmpYes X109.here hx rfl (pc0 := 186) (pc' := 202) rfl (hb hby at_186) rfl (XT.ii_lt_t (by decide)) (by decide) (by decide) k) ?_
        refine own_go (g' := (mkF m 204 #[.val (.int pk), .val (.int pa), .val (.int pb), .val (.int pc), .val (.int pd), .val (.int pm), .val (.int (1 : Int32)), .val (.ref b62), .val (.ref b64), .val (.ref b68), .val (.ref b75), .val (.ref b84), .val .null, .unset] [(.int (1 : Int32))])) (fun _ k => XS.iload X109.here hx rfl (hb hby at_202) rfl k) ?_
        refine own_go (g' := (mkF m 205 #[.val (.int pk), .val (.int pa), .val (.int pb), .val (.int pc), .val (.int pd), .val (.int pm), .val (.int (1 : Int32)), .val (.ref b62), .val (.ref b64), .val (.ref b68), .val (.ref b75), .val (.ref b84), .val .null, .unset] [(.int (4 : Int32)), (.int (1 : Int32))])) (fun _ k => XS.iconst X109.here hx rfl (hb hby at_204) k) ?_
        refine own_go (g' := (mkF m 219 #[.val (.int pk), .val (.int pa), .val (.int pb), .val (.int pc), .val (.int pd), .val (.int pm), .val (.int (1 : Int32)), .val (.ref b62), .val (.ref b64), .val (.ref b68), .val (.ref b75), .val (.ref b84), .val .null, .unset] [])) (fun _ k => XS.icmpYes X109.here hx rfl (pc0 := 205) (pc' := 219) rfl (hb hby at_205) rfl (XT.ii_lt_t (by decide)) (by decide) (by decide) k) ?_
        exact J _ rfl (by simp [own_fst, own_us, own_rs, cu0])
      · refine own_go (g' := (mkF m 157 #[.val (.int pk), .val (.int pa), .val (.int pb), .val (.int pc), .val (.int pd), .val (.int pm), .val (.int (1 : Int32)), .val (.ref b62), .val (.ref b64), .val (.ref b68), .val (.ref b75), .val (.ref b84), .val .null, .unset] [])) (fun _ k => XS.icmpNo X109.here hx rfl (hb hby at_154) rfl (XT.ii_gt_f cu0) k) ?_
        refine own_go (g' := (mkF m 159 #[.val (.int pk), .val (.int pa), .val (.int pb), .val (.int pc), .val (.int pd), .val (.int pm), .val (.int (1 : Int32)), .val (.ref b62), .val (.ref b64), .val (.ref b68), .val (.ref b75), .val (.ref b84), .val .null, .unset] [(.ref b64)])) (fun _ k => XS.aload X109.here hx rfl (hb hby at_157) rfl rfl k) ?_
        refine own_go (g' := (mkF m 161 #[.val (.int pk), .val (.int pa), .val (.int pb), .val (.int pc), .val (.int pd), .val (.int pm), .val (.int (1 : Int32)), .val (.ref b62), .val (.ref b64), .val (.ref b68), .val (.ref b75), .val (.ref b84), .val (.ref b64), .unset] [])) (fun _ k => XS.astore X109.here hx rfl (hb hby at_159) rfl rfl (l' := #[.val (.int pk), .val (.int pa), .val (.int pb), .val (.int pc), .val (.int pd), .val (.int pm), .val (.int (1 : Int32)), .val (.ref b62), .val (.ref b64), .val (.ref b68), .val (.ref b75), .val (.ref b84), .val (.ref b64), .unset]) rfl k) ?_
        refine own_go (g' := (mkF m 219 #[.val (.int pk), .val (.int pa), .val (.int pb), .val (.int pc), .val (.int pd), .val (.int pm), .val (.int (1 : Int32)), .val (.ref b62), .val (.ref b64), .val (.ref b68), .val (.ref b75), .val (.ref b84), .val (.ref b64), .unset] [])) (fun _ k => XS.goto X109.here hx rfl (pc0 := 161) (pc' := 219) rfl (hb hby at_161) (by decide) (by decide) k) ?_
        exact J _ rfl (by simp [own_fst, own_us, own_rs, cu0])
    intro ev ev_ref hev
    refine own_go (g' := (mkF m 221 #[.val (.int pk), .val (.int pa), .val (.int pb), .val (.int pc), .val (.int pd), .val (.int pm), .val (.int (1 : Int32)), .val (.ref b62), .val (.ref b64), .val (.ref b68), .val (.ref b75), .val (.ref b84), .val ev, .unset] [(.ref b62)])) (fun _ k => XS.aload X109.here hx rfl (hb hby at_219) rfl rfl k) ?_
    refine own_go (g' := (mkF m 223 #[.val (.int pk), .val (.int pa), .val (.int pb), .val (.int pc), .val (.int pd), .val (.int pm), .val (.int (1 : Int32)), .val (.ref b62), .val (.ref b64), .val (.ref b68), .val (.ref b75), .val (.ref b84), .val ev, .unset] [(.int pm), (.ref b62)])) (fun _ k => XS.iload X109.here hx rfl (hb hby at_221) rfl k) ?_
    refine own_callV X109 hx hZ hown rfl (C := "com/example/gangplank/gangplank/gang/Rows") (y := (⟨"com/example/gangplank/gangplank/gang/Rows", "firstHoldingAtMost", "(I)Lcom/example/gangplank/gangplank/gang/Row;"⟩ : MethodName)) (rm := ({ frames := 0, cells := 0, slots := 0, locals := 0 } : Room)) (hw _ (List.mem_of_getElem? (i := 86) rfl)) (hw _ (List.mem_of_getElem? (i := 87) rfl)) (hw _ (List.mem_of_getElem? (i := 89) rfl)) (hw _ (List.mem_of_getElem? (i := 88) rfl)) (hw _ (List.mem_of_getElem? (i := 3) rfl)) (hw _ (List.mem_of_getElem? (i := 90) rfl)) (by decide) (a := b62) B109.1 (argsL := [(.int pm)]) (rest := []) (own_rmF l Z a0 hw [] b62 sb (1 : Int32) pm _ (own_rs b64 b68 b75 b84) (own_us pa pb pc pd) 1 T109.heap n0 B109 F109 rfl (by decide) (fun i hi => by match i, hi with | 0, _ => rfl) (fun i hi => by match i, hi with | 0, _ => exact own_Ob_fld R109 5 rfl)) (by rw [hml]; rfl) pd_10 rfl rfl (hb hby at_223) (W := 0) (Nat.le_of_eq rfl) (by decide) (by decide) (by decide) (by decide) ?_
    intro v110 T110 L110 X110 hQ110
    obtain ⟨rfl, e110, rfl⟩ := hQ110
    rw [List.append_nil] at X110
    show own_Go p e below _ T110 (mkF m 226 #[.val (.int pk), .val (.int pa), .val (.int pb), .val (.int pc), .val (.int pd), .val (.int pm), .val (.int (1 : Int32)), .val (.ref b62), .val (.ref b64), .val (.ref b68), .val (.ref b75), .val (.ref b84), .val ev, .unset] [(own_fst (own_us pa pb pc pd) (own_rs b64 b68 b75 b84) pm 1 0)])
    rw [← hev]
    show own_Go p e below _ T110 (mkF m 226 #[.val (.int pk), .val (.int pa), .val (.int pb), .val (.int pc), .val (.int pd), .val (.int pm), .val (.int (1 : Int32)), .val (.ref b62), .val (.ref b64), .val (.ref b68), .val (.ref b75), .val (.ref b84), .val ev, .unset] [ev])
    refine own_go (g' := (mkF m 228 #[.val (.int pk), .val (.int pa), .val (.int pb), .val (.int pc), .val (.int pd), .val (.int pm), .val (.int (1 : Int32)), .val (.ref b62), .val (.ref b64), .val (.ref b68), .val (.ref b75), .val (.ref b84), .val ev, .val ev] [])) (fun _ k => XS.astoreS X110.here hx rfl (hb hby at_226) rfl ev_ref (XT.cat1 ev_ref) rfl (Or.inl rfl) k) ?_
    refine own_go (g' := (mkF m 230 #[.val (.int pk), .val (.int pa), .val (.int pb), .val (.int pc), .val (.int pd), .val (.int pm), .val (.int (1 : Int32)), .val (.ref b62), .val (.ref b64), .val (.ref b68), .val (.ref b75), .val (.ref b84), .val ev, .val ev] [ev])) (fun _ k => XS.aload X110.here hx rfl (hb hby at_228) rfl (ev_ref) k) ?_
    refine own_go (g' := (mkF m 232 #[.val (.int pk), .val (.int pa), .val (.int pb), .val (.int pc), .val (.int pd), .val (.int pm), .val (.int (1 : Int32)), .val (.ref b62), .val (.ref b64), .val (.ref b68), .val (.ref b75), .val (.ref b84), .val ev, .val ev] [ev, ev])) (fun _ k => XS.aload X110.here hx rfl (hb hby at_230) rfl (ev_ref) k) ?_
    refine own_go (g' := (mkF m 235 #[.val (.int pk), .val (.int pa), .val (.int pb), .val (.int pc), .val (.int pd), .val (.int pm), .val (.int (1 : Int32)), .val (.ref b62), .val (.ref b64), .val (.ref b68), .val (.ref b75), .val (.ref b84), .val ev, .val ev] [])) (fun _ k => XT.acmpNo X110.here hx rfl (hb hby at_232) rfl ev_ref ev_ref (XT.aa_ne_f rfl) k) ?_
    refine own_go (g' := (mkF m 236 #[.val (.int pk), .val (.int pa), .val (.int pb), .val (.int pc), .val (.int pd), .val (.int pm), .val (.int (1 : Int32)), .val (.ref b62), .val (.ref b64), .val (.ref b68), .val (.ref b75), .val (.ref b84), .val ev, .val ev] [(.int (1 : Int32))])) (fun _ k => XS.iconst X110.here hx rfl (hb hby at_235) k) ?_
    refine own_go (g' := (mkF m 240 #[.val (.int pk), .val (.int pa), .val (.int pb), .val (.int pc), .val (.int pd), .val (.int pm), .val (.int (1 : Int32)), .val (.ref b62), .val (.ref b64), .val (.ref b68), .val (.ref b75), .val (.ref b84), .val ev, .val ev] [(.int (1 : Int32))])) (fun _ k => XS.goto X110.here hx rfl (pc0 := 236) (pc' := 240) rfl (hb hby at_236) (by decide) (by decide) k) ?_
    exact own_retZ X110 hx hlk hret e110 (hb hby at_240) ⟨rfl, N109⟩ (by decide) (by decide)
  · subst hk
    show own_Go p e below _ T102 (mkF m 90 #[.val (.int pk), .val (.int pa), .val (.int pb), .val (.int pc), .val (.int pd), .val (.int pm), .val (.int (2 : Int32)), .val (.ref b62), .val (.ref b64), .val (.ref b68), .val (.ref b75), .val (.ref b84), .unset, .unset] [])
    refine own_go (g' := (mkF m 92 #[.val (.int pk), .val (.int pa), .val (.int pb), .val (.int pc), .val (.int pd), .val (.int pm), .val (.int (2 : Int32)), .val (.ref b62), .val (.ref b64), .val (.ref b68), .val (.ref b75), .val (.ref b84), .unset, .unset] [(.int (2 : Int32))])) (fun _ k => XS.iload X102.here hx rfl (hb hby at_90) rfl k) ?_
    refine own_go (g' := (mkF m 93 #[.val (.int pk), .val (.int pa), .val (.int pb), .val (.int pc), .val (.int pd), .val (.int pm), .val (.int (2 : Int32)), .val (.ref b62), .val (.ref b64), .val (.ref b68), .val (.ref b75), .val (.ref b84), .unset, .unset] [(.int (1 : Int32)), (.int (2 : Int32))])) (fun _ k => XS.iconst X102.here hx rfl (hb hby at_92) k) ?_
    refine own_go (g' := (mkF m 96 #[.val (.int pk), .val (.int pa), .val (.int pb), .val (.int pc), .val (.int pd), .val (.int pm), .val (.int (2 : Int32)), .val (.ref b62), .val (.ref b64), .val (.ref b68), .val (.ref b75), .val (.ref b84), .unset, .unset] [])) (fun _ k => XS.icmpNo X102.here hx rfl (hb hby at_93) rfl (XT.ii_lt_f (by decide)) k) ?_
    refine own_go (g' := (mkF m 98 #[.val (.int pk), .val (.int pa), .val (.int pb), .val (.int pc), .val (.int pd), .val (.int pm), .val (.int (2 : Int32)), .val (.ref b62), .val (.ref b64), .val (.ref b68), .val (.ref b75), .val (.ref b84), .unset, .unset] [(.ref b62)])) (fun _ k => XS.aload X102.here hx rfl (hb hby at_96) rfl rfl k) ?_
    refine own_go (g' := (mkF m 100 #[.val (.int pk), .val (.int pa), .val (.int pb), .val (.int pc), .val (.int pd), .val (.int pm), .val (.int (2 : Int32)), .val (.ref b62), .val (.ref b64), .val (.ref b68), .val (.ref b75), .val (.ref b84), .unset, .unset] [(.ref b64), (.ref b62)])) (fun _ k => XS.aload X102.here hx rfl (hb hby at_98) rfl rfl k) ?_
    have f111 := (own_Ob_other (own_Ob_other (own_Ob_other (own_Ob_other (own_Ob_keep (own_Ob_ext f86 E84) K94q (ninS ne85 nin0)) W96 ne65) W98 ne69) W100 ne76) W102 ne85)
    have f112 := (own_Rr_other (own_Rr_other (own_Rr_other (own_Rr_other (own_Rr_keep (own_Rr_ext f88 E84) K94q (ninS ne87 nin0)) W96 ne66) W98 ne71) W100 ne78) W102 ne87)
    have f113 := (own_Ob_other (own_Ob_other (own_Ob_other B96 W98 ne73) W100 ne80) W102 ne89)
    refine own_callV X102 hx hZ hown e102 (C := "com/example/gangplank/gangplank/gang/Rows") (y := (⟨"com/example/gangplank/gangplank/gang/Rows", "add", "(Lcom/example/gangplank/gangplank/gang/Row;)V"⟩ : MethodName)) (rm := ({ frames := 1, cells := 0, slots := 0, locals := 13 } : Room)) (hw _ (List.mem_of_getElem? (i := 95) rfl)) (hw _ (List.mem_of_getElem? (i := 96) rfl)) (hw _ (List.mem_of_getElem? (i := 98) rfl)) (hw _ (List.mem_of_getElem? (i := 97) rfl)) (hw _ (List.mem_of_getElem? (i := 3) rfl)) (hw _ (List.mem_of_getElem? (i := 99) rfl)) (by decide) (a := b62) f111.1 (argsL := [(.ref b64)]) (rest := []) (own_rmAdd l Z a0 hw [] b62 sb b64 (0 : Int32) 0 _ _ h102 n0 ge62 gsb ge64 f111 f112 f113 hsb (Ne.symm ne65) (Ne.symm ne66) rfl (by decide)) (by rw [hml]; rfl) pd_11 rfl rfl (hb hby at_100) (W := 0) (Nat.le_of_eq rfl) (by decide) (by decide) (by decide) (by decide) ?_
    intro v114 T114 L114 X114 hQ114
    obtain ⟨rfl, N114q, K114q, B114, F114, R114⟩ := hQ114
    have K114 := K102.trans K114q (allS (Or.inr sz62) (allS (Or.inr szb) (allS (Or.inr sz64) all0)))
    have O114 := O102.keep K114q (allS ge62 (allS gsb (allS ge64 all0)))
    have N114 := Fr.app N102 N114q
    show own_Go p e below _ T114 (mkF m 103 #[.val (.int pk), .val (.int pa), .val (.int pb), .val (.int pc), .val (.int pd), .val (.int pm), .val (.int (2 : Int32)), .val (.ref b62), .val (.ref b64), .val (.ref b68), .val (.ref b75), .val (.ref b84), .unset, .unset] [])
    refine own_go (g' := (mkF m 105 #[.val (.int pk), .val (.int pa), .val (.int pb), .val (.int pc), .val (.int pd), .val (.int pm), .val (.int (2 : Int32)), .val (.ref b62), .val (.ref b64), .val (.ref b68), .val (.ref b75), .val (.ref b84), .unset, .unset] [(.int (2 : Int32))])) (fun _ k => XS.iload X114.here hx rfl (hb hby at_103) rfl k) ?_
    refine own_go (g' := (mkF m 106 #[.val (.int pk), .val (.int pa), .val (.int pb), .val (.int pc), .val (.int pd), .val (.int pm), .val (.int (2 : Int32)), .val (.ref b62), .val (.ref b64), .val (.ref b68), .val (.ref b75), .val (.ref b84), .unset, .unset] [(.int (2 : Int32)), (.int (2 : Int32))])) (fun _ k => XS.iconst X114.here hx rfl (hb hby at_105) k) ?_
    refine own_go (g' := (mkF m 109 #[.val (.int pk), .val (.int pa), .val (.int pb), .val (.int pc), .val (.int pd), .val (.int pm), .val (.int (2 : Int32)), .val (.ref b62), .val (.ref b64), .val (.ref b68), .val (.ref b75), .val (.ref b84), .unset, .unset] [])) (fun _ k => XS.icmpNo X114.here hx rfl (hb hby at_106) rfl (XT.ii_lt_f (by decide)) k) ?_
    refine own_go (g' := (mkF m 111 #[.val (.int pk), .val (.int pa), .val (.int pb), .val (.int pc), .val (.int pd), .val (.int pm), .val (.int (2 : Int32)), .val (.ref b62), .val (.ref b64), .val (.ref b68), .val (.ref b75), .val (.ref b84), .unset, .unset] [(.ref b62)])) (fun _ k => XS.aload X114.here hx rfl (hb hby at_109) rfl rfl k) ?_
    refine own_go (g' := (mkF m 113 #[.val (.int pk), .val (.int pa), .val (.int pb), .val (.int pc), .val (.int pd), .val (.int pm), .val (.int (2 : Int32)), .val (.ref b62), .val (.ref b64), .val (.ref b68), .val (.ref b75), .val (.ref b84), .unset, .unset] [(.ref b68), (.ref b62)])) (fun _ k => XS.aload X114.here hx rfl (hb hby at_111) rfl rfl k) ?_
    have f115 := (own_Ob_keep (own_Ob_other (own_Ob_other B98 W100 ne82) W102 ne91) K114q (ninS (Ne.symm ne69) (ninS (Ne.symm ne71) (ninS (Ne.symm ne73) nin0))))
    refine own_callV X114 hx hZ hown rfl (C := "com/example/gangplank/gangplank/gang/Rows") (y := (⟨"com/example/gangplank/gangplank/gang/Rows", "add", "(Lcom/example/gangplank/gangplank/gang/Row;)V"⟩ : MethodName)) (rm := ({ frames := 1, cells := 0, slots := 0, locals := 13 } : Room)) (hw _ (List.mem_of_getElem? (i := 95) rfl)) (hw _ (List.mem_of_getElem? (i := 96) rfl)) (hw _ (List.mem_of_getElem? (i := 98) rfl)) (hw _ (List.mem_of_getElem? (i := 97) rfl)) (hw _ (List.mem_of_getElem? (i := 3) rfl)) (hw _ (List.mem_of_getElem? (i := 99) rfl)) (by decide) (a := b62) B114.1 (argsL := [(.ref b68)]) (rest := []) (own_rmAdd l Z a0 hw [] b62 sb b68 (1 : Int32) 1 _ _ T114.heap n0 ge62 gsb ge68 B114 F114 f115 hsb (Ne.symm ne69) (Ne.symm ne71) rfl (by decide)) (by rw [hml]; rfl) pd_11 rfl rfl (hb hby at_113) (W := 0) (Nat.le_of_eq rfl) (by decide) (by decide) (by decide) (by decide) ?_
    intro v116 T116 L116 X116 hQ116
    obtain ⟨rfl, N116q, K116q, B116, F116, R116⟩ := hQ116
    have K116 := K114.trans K116q (allS (Or.inr sz62) (allS (Or.inr szb) (allS (Or.inr sz68) all0)))
    have O116 := O114.keep K116q (allS ge62 (allS gsb (allS ge68 all0)))
    have N116 := Fr.app N114 N116q
    show own_Go p e below _ T116 (mkF m 116 #[.val (.int pk), .val (.int pa), .val (.int pb), .val (.int pc), .val (.int pd), .val (.int pm), .val (.int (2 : Int32)), .val (.ref b62), .val (.ref b64), .val (.ref b68), .val (.ref b75), .val (.ref b84), .unset, .unset] [])
    refine own_go (g' := (mkF m 118 #[.val (.int pk), .val (.int pa), .val (.int pb), .val (.int pc), .val (.int pd), .val (.int pm), .val (.int (2 : Int32)), .val (.ref b62), .val (.ref b64), .val (.ref b68), .val (.ref b75), .val (.ref b84), .unset, .unset] [(.int (2 : Int32))])) (fun _ k => XS.iload X116.here hx rfl (hb hby at_116) rfl k) ?_
    refine own_go (g' := (mkF m 119 #[.val (.int pk), .val (.int pa), .val (.int pb), .val (.int pc), .val (.int pd), .val (.int pm), .val (.int (2 : Int32)), .val (.ref b62), .val (.ref b64), .val (.ref b68), .val (.ref b75), .val (.ref b84), .unset, .unset] [(.int (3 : Int32)), (.int (2 : Int32))])) (fun _ k => XS.iconst X116.here hx rfl (hb hby at_118) k) ?_
    refine own_go (g' := (mkF m 129 #[.val (.int pk), .val (.int pa), .val (.int pb), .val (.int pc), .val (.int pd), .val (.int pm), .val (.int (2 : Int32)), .val (.ref b62), .val (.ref b64), .val (.ref b68), .val (.ref b75), .val (.ref b84), .unset, .unset] [])) (fun _ k => XS.icmpYes X116.here hx rfl (pc0 := 119) (pc' := 129) rfl (hb hby at_119) rfl (XT.ii_lt_t (by decide)) (by decide) (by decide) k) ?_
    refine own_go (g' := (mkF m 131 #[.val (.int pk), .val (.int pa), .val (.int pb), .val (.int pc), .val (.int pd), .val (.int pm), .val (.int (2 : Int32)), .val (.ref b62), .val (.ref b64), .val (.ref b68), .val (.ref b75), .val (.ref b84), .unset, .unset] [(.int (2 : Int32))])) (fun _ k => XS.iload X116.here hx rfl (hb hby at_129) rfl k) ?_
    refine own_go (g' := (mkF m 132 #[.val (.int pk), .val (.int pa), .val (.int pb), .val (.int pc), .val (.int pd), .val (.int pm), .val (.int (2 : Int32)), .val (.ref b62), .val (.ref b64), .val (.ref b68), .val (.ref b75), .val (.ref b84), .unset, .unset] [(.int (4 : Int32)), (.int (2 : Int32))])) (fun _ k => XS.iconst X116.here hx rfl (hb hby at_131) k) ?_
    refine own_go (g' := (mkF m 142 #[.val (.int pk), .val (.int pa), .val (.int pb), .val (.int pc), .val (.int pd), .val (.int pm), .val (.int (2 : Int32)), .val (.ref b62), .val (.ref b64), .val (.ref b68), .val (.ref b75), .val (.ref b84), .unset, .unset] [])) (fun _ k => XS.icmpYes X116.here hx rfl (pc0 := 132) (pc' := 142) rfl (hb hby at_132) rfl (XT.ii_lt_t (by decide)) (by decide) (by decide) k) ?_
    refine own_go (g' := (mkF m 143 #[.val (.int pk), .val (.int pa), .val (.int pb), .val (.int pc), .val (.int pd), .val (.int pm), .val (.int (2 : Int32)), .val (.ref b62), .val (.ref b64), .val (.ref b68), .val (.ref b75), .val (.ref b84), .unset, .unset] [.null])) (fun _ k => XS.aconstNull X116.here hx rfl (hb hby at_142) k) ?_
    refine own_go (g' := (mkF m 145 #[.val (.int pk), .val (.int pa), .val (.int pb), .val (.int pc), .val (.int pd), .val (.int pm), .val (.int (2 : Int32)), .val (.ref b62), .val (.ref b64), .val (.ref b68), .val (.ref b75), .val (.ref b84), .val .null, .unset] [])) (fun _ k => XS.astore X116.here hx rfl (hb hby at_143) rfl rfl (l' := #[.val (.int pk), .val (.int pa), .val (.int pb), .val (.int pc), .val (.int pd), .val (.int pm), .val (.int (2 : Int32)), .val (.ref b62), .val (.ref b64), .val (.ref b68), .val (.ref b75), .val (.ref b84), .val .null, .unset]) rfl k) ?_
    refine own_go (g' := (mkF m 147 #[.val (.int pk), .val (.int pa), .val (.int pb), .val (.int pc), .val (.int pd), .val (.int pm), .val (.int (2 : Int32)), .val (.ref b62), .val (.ref b64), .val (.ref b68), .val (.ref b75), .val (.ref b84), .val .null, .unset] [(.int (2 : Int32))])) (fun _ k => XS.iload X116.here hx rfl (hb hby at_145) rfl k) ?_
    refine own_go (g' := (mkF m 148 #[.val (.int pk), .val (.int pa), .val (.int pb), .val (.int pc), .val (.int pd), .val (.int pm), .val (.int (2 : Int32)), .val (.ref b62), .val (.ref b64), .val (.ref b68), .val (.ref b75), .val (.ref b84), .val .null, .unset] [(.int (1 : Int32)), (.int (2 : Int32))])) (fun _ k => XS.iconst X116.here hx rfl (hb hby at_147) k) ?_
    suffices J : ∀ ev : Value, ev.isRef = true → ev = own_fst (own_us pa pb pc pd) (own_rs b64 b68 b75 b84) pm 2 0 → own_Go p e below (own_Po s (own_Q0 n0) 48 320) T116 (mkF m 219 #[.val (.int pk), .val (.int pa), .val (.int pb), .val (.int pc), .val (.int pd), .val (.int pm), .val (.int (2 : Int32)), .val (.ref b62), .val (.ref b64), .val (.ref b68), .val (.ref b75), .val (.ref b84), .val ev, .unset] []) by
      refine own_go (g' := (mkF m 151 #[.val (.int pk), .val (.int pa), .val (.int pb), .val (.int pc), .val (.int pd), .val (.int pm), .val (.int (2 : Int32)), .val (.ref b62), .val (.ref b64), .val (.ref b68), .val (.ref b75), .val (.ref b84), .val .null, .unset] [])) (fun _ k => XS.icmpNo X116.here hx rfl (hb hby at_148) rfl (XT.ii_lt_f (by decide)) k) ?_
      refine own_go (g' := (mkF m 152 #[.val (.int pk), .val (.int pa), .val (.int pb), .val (.int pc), .val (.int pd), .val (.int pm), .val (.int (2 : Int32)), .val (.ref b62), .val (.ref b64), .val (.ref b68), .val (.ref b75), .val (.ref b84), .val .null, .unset] [(.int pa)])) (fun _ k => XS.iloadN X116.here hx rfl (hb hby at_151) rfl k) ?_
      refine own_go (g' := (mkF m 154 #[.val (.int pk), .val (.int pa), .val (.int pb), .val (.int pc), .val (.int pd), .val (.int pm), .val (.int (2 : Int32)), .val (.ref b62), .val (.ref b64), .val (.ref b68), .val (.ref b75), .val (.ref b84), .val .null, .unset] [(.int pm), (.int pa)])) (fun _ k => XS.iload X116.here hx rfl (hb hby at_152) rfl k) ?_
      by_cases cu0 : pm < pa
      · refine own_go (g' := (mkF m 164 #[.val (.int pk), .val (.int pa), .val (.int pb), .val (.int pc), .val (.int pd), .val (.int pm), .val (.int (2 : Int32)), .val (.ref b62), .val (.ref b64), .val (.ref b68), .val (.ref b75), .val (.ref b84), .val .null, .unset] [])) (fun _ k => XS.icmpYes X116.here hx rfl (pc0 := 154) (pc' := 164) rfl (hb hby at_154) rfl (XT.ii_gt_t cu0) (by decide) (by decide) k) ?_
        refine own_go (g' := (mkF m 166 #[.val (.int pk), .val (.int pa), .val (.int pb), .val (.int pc), .val (.int pd), .val (.int pm), .val (.int (2 : Int32)), .val (.ref b62), .val (.ref b64), .val (.ref b68), .val (.ref b75), .val (.ref b84), .val .null, .unset] [(.int (2 : Int32))])) (fun _ k => XS.iload X116.here hx rfl (hb hby at_164) rfl k) ?_
        refine own_go (g' := (mkF m 167 #[.val (.int pk), .val (.int pa), .val (.int pb), .val (.int pc), .val (.int pd), .val (.int pm), .val (.int (2 : Int32)), .val (.ref b62), .val (.ref b64), .val (.ref b68), .val (.ref b75), .val (.ref b84), .val .null, .unset] [(.int (2 : Int32)), (.int (2 : Int32))])) (fun _ k => XS.iconst X116.here hx rfl (hb hby at_166) k) ?_
        refine own_go (g' := (mkF m 170 #[.val (.int pk), .val (.int pa), .val (.int pb), .val (.int pc), .val (.int pd), .val (.int pm), .val (.int (2 : Int32)), .val (.ref b62), .val (.ref b64), .val (.ref b68), .val (.ref b75), .val (.ref b84), .val .null, .unset] [])) (fun _ k => XS.icmpNo X116.here hx rfl (hb hby at_167) rfl (XT.ii_lt_f (by decide)) k) ?_
        refine own_go (g' := (mkF m 171 #[.val (.int pk), .val (.int pa), .val (.int pb), .val (.int pc), .val (.int pd), .val (.int pm), .val (.int (2 : Int32)), .val (.ref b62), .val (.ref b64), .val (.ref b68), .val (.ref b75), .val (.ref b84), .val .null, .unset] [(.int pb)])) (fun _ k => XS.iloadN X116.here hx rfl (hb hby at_170) rfl k) ?_
        refine own_go (g' := (mkF m 173 #[.val (.int pk), .val (.int pa), .val (.int pb), .val (.int pc), .val (.int pd), .val (.int pm), .val (.int (2 : Int32)), .val (.ref b62), .val (.ref b64), .val (.ref b68), .val (.ref b75), .val (.ref b84), .val .null, .unset] [(.int pm), (.int pb)])) (fun _ k => XS.iload X116.here hx rfl (hb hby at_171) rfl k) ?_
        by_cases cu1 : pm < pb
        · refine own_go (g' := (mkF m 183 #[.val (.int pk), .val (.int pa), .val (.int pb), .val (.int pc), .val (.int pd), .val (.int pm), .val (.int (2 : Int32)), .val (.ref b62), .val (.ref b64), .val (.ref b68), .val (.ref b75), .val (.ref b84), .val .null, .unset] [])) (fun _ k => XS.icmpYes X116.here hx rfl (pc0 := 173) (pc' := 183) rfl (hb hby at_173) rfl (XT.ii_gt_t cu1) (by decide) (by decide) k) ?_
          refine own_go (g' := (mkF m 185 #[.val (.int pk), .val (.int pa), .val (.int pb), .val (.int pc), .val (.int pd), .val (.int pm), .val (.int (2 : Int32)), .val (.ref b62), .val (.ref b64), .val (.ref b68), .val (.ref b75), .val (.ref b84), .val .null, .unset] [(.int (2 : Int32))])) (fun _ k => XS.iload X116.here hx rfl (hb hby at_183) rfl k) ?_
          refine own_go (g' := (mkF m 186 #[.val (.int pk), .val (.int pa), .val (.int pb), .val (.int pc), .val (.int pd), .val (.int pm), .val (.int (2 : Int32)), .val (.ref b62), .val (.ref b64), .val (.ref b68), .val (.ref b75), .val (.ref b84), .val .null, .unset] [(.int (3 : Int32)), (.int (2 : Int32))])) (fun _ k => XS.iconst X116.here hx rfl (hb hby at_185) k) ?_
          refine own_go (g' := (mkF m 202 #[.val (.int pk), .val (.int pa), .val (.int pb), .val (.int pc), .val (.int pd), .val (.int pm), .val (.int (2 : Int32)), .val (.ref b62), .val (.ref b64), .val (.ref b68), .val (.ref b75), .val (.ref b84), .val .null, .unset] [])) (fun _ k => XS.icmpYes X116.here hx rfl (pc0 := 186) (pc' := 202) rfl (hb hby at_186) rfl (XT.ii_lt_t (by decide)) (by decide) (by decide) k) ?_
          refine own_go (g' := (mkF m 204 #[.val (.int pk), .val (.int pa), .val (.int pb), .val (.int pc), .val (.int pd), .val (.int pm), .val (.int (2 : Int32)), .val (.ref b62), .val (.ref b64), .val (.ref b68), .val (.ref b75), .val (.ref b84), .val .null, .unset] [(.int (2 : Int32))])) (fun _ k => XS.iload X116.here hx rfl (hb hby at_202) rfl k) ?_
          refine own_go (g' := (mkF m 205 #[.val (.int pk), .val (.int pa), .val (.int pb), .val (.int pc), .val (.int pd), .val (.int pm), .val (.int (2 : Int32)), .val (.ref b62), .val (.ref b64), .val (.ref b68), .val (.ref b75), .val (.ref b84), .val .null, .unset] [(.int (4 : Int32)), (.int (2 : Int32))])) (fun _ k => XS.iconst X116.here hx rfl (hb hby at_204) k) ?_
          refine own_go (g' := (mkF m 219 #[.val (.int pk), .val (.int pa), .val (.int pb), .val (.int pc), .val (.int pd), .val (.int pm), .val (.int (2 : Int32)), .val (.ref b62), .val (.ref b64), .val (.ref b68), .val (.ref b75), .val (.ref b84), .val .null, .unset] [])) (fun _ k => XS.icmpYes X116.here hx rfl (pc0 := 205) (pc' := 219) rfl (hb hby at_205) rfl (XT.ii_lt_t (by decide)) (by decide) (by decide) k) ?_
          exact J _ rfl (by simp [own_fst, own_us, own_rs, cu0, cu1])
        · refine own_go (g' := (mkF m 176 #[.val (.int pk), .val (.int pa), .val (.int pb), .val (.int pc), .val (.int pd), .val (.int pm), .val (.int (2 : Int32)), .val (.ref b62), .val (.ref b64), .val (.ref b68), .val (.ref b75), .val (.ref b84), .val .null, .unset] [])) (fun _ k => XS.icmpNo X116.here hx rfl (hb hby at_173) rfl (XT.ii_gt_f cu1) k) ?_
          refine own_go (g' := (mkF m 178 #[.val (.int pk), .val (.int pa), .val (.int pb), .val (.int pc), .val (.int pd), .val (.int pm), .val (.int (2 : Int32)), .val (.ref b62), .val (.ref b64), .val (.ref b68), .val (.ref b75), .val (.ref b84), .val .null, .unset] [(.ref b68)])) (fun _ k => XS.aload X116.here hx rfl (hb hby at_176) rfl rfl k) ?_
          refine own_go (g' := (mkF m 180 #[.val (.int pk), .val (.int pa), .val (.int pb), .val (.int pc), .val (.int pd), .val (.int pm), .val (.int (2 : Int32)), .val (.ref b62), .val (.ref b64), .val (.ref b68), .val (.ref b75), .val (.ref b84), .val (.ref b68), .unset] [])) (fun _ k => XS.astore X116.here hx rfl (hb hby at_178) rfl rfl (l' := #[.val (.int pk), .val (.int pa), .val (.int pb), .val (.int pc), .val (.int pd), .val (.int pm), .val (.int (2 : Int32)), .val (.ref b62), .val (.ref b64), .val (.ref b68), .val (.ref b75), .val (.ref b84), .val (.ref b68), .unset]) rfl k) ?_
          refine own_go (g' := (mkF m 219 #[.val (.int pk), .val (.int pa), .val (.int pb), .val (.int pc), .val (.int pd), .val (.int pm), .val (.int (2 : Int32)), .val (.ref b62), .val (.ref b64), .val (.ref b68), .val (.ref b75), .val (.ref b84), .val (.ref b68), .unset] [])) (fun _ k => XS.goto X116.here hx rfl (pc0 := 180) (pc' := 219) rfl (hb hby at_180) (by decide) (by decide) k) ?_
          exact J _ rfl (by simp [own_fst, own_us, own_rs, cu0, cu1])
      · refine own_go (g' := (mkF m 157 #[.val (.int pk), .val (.int pa), .val (.int pb), .val (.int pc), .val (.int pd), .val (.int pm), .val (.int (2 : Int32)), .val (.ref b62), .val (.ref b64), .val (.ref b68), .val (.ref b75), .val (.ref b84), .val .null, .unset] [])) (fun _ k => XS.icmpNo X116.here hx rfl (hb hby at_154) rfl (XT.ii_gt_f cu0) k) ?_
        refine own_go (g' := (mkF m 159 #[.val (.int pk), .val (.int pa), .val (.int pb), .val (.int pc), .val (.int pd), .val (.int pm), .val (.int (2 : Int32)), .val (.ref b62), .val (.ref b64), .val (.ref b68), .val (.ref b75), .val (.ref b84), .val .null, .unset] [(.ref b64)])) (fun _ k => XS.aload X116.here hx rfl (hb hby at_157) rfl rfl k) ?_
        refine own_go (g' := (mkF m 161 #[.val (.int pk), .val (.int pa), .val (.int pb), .val (.int pc), .val (.int pd), .val (.int pm), .val (.int (2 : Int32)), .val (.ref b62), .val (.ref b64), .val (.ref b68), .val (.ref b75), .val (.ref b84), .val (.ref b64), .unset] [])) (fun _ k => XS.astore X116.here hx rfl (hb hby at_159) rfl rfl (l' := #[.val (.int pk), .val (.int pa), .val (.int pb), .val (.int pc), .val (.int pd), .val (.int pm), .val (.int (2 : Int32)), .val (.ref b62), .val (.ref b64), .val (.ref b68), .val (.ref b75), .val (.ref b84), .val (.ref b64), .unset]) rfl k) ?_
        refine own_go (g' := (mkF m 219 #[.val (.int pk), .val (.int pa), .val (.int pb), .val (.int pc), .val (.int pd), .val (.int pm), .val (.int (2 : Int32)), .val (.ref b62), .val (.ref b64), .val (.ref b68), .val (.ref b75), .val (.ref b84), .val (.ref b64), .unset] [])) (fun _ k => XS.goto X116.here hx rfl (pc0 := 161) (pc' := 219) rfl (hb hby at_161) (by decide) (by decide) k) ?_
        exact J _ rfl (by simp [own_fst, own_us, own_rs, cu0])
    intro ev ev_ref hev
    refine own_go (g' := (mkF m 221 #[.val (.int pk), .val (.int pa), .val (.int pb), .val (.int pc), .val (.int pd), .val (.int pm), .val (.int (2 : Int32)), .val (.ref b62), .val (.ref b64), .val (.ref b68), .val (.ref b75), .val (.ref b84), .val ev, .unset] [(.ref b62)])) (fun _ k => XS.aload X116.here hx rfl (hb hby at_219) rfl rfl k) ?_
    refine own_go (g' := (mkF m 223 #[.val (.int pk), .val (.int pa), .val (.int pb), .val (.int pc), .val (.int pd), .val (.int pm), .val (.int (2 : Int32)), .val (.ref b62), .val (.ref b64), .val (.ref b68), .val (.ref b75), .val (.ref b84), .val ev, .unset] [(.int pm), (.ref b62)])) (fun _ k => XS.iload X116.here hx rfl (hb hby at_221) rfl k) ?_
    have f117 := (own_Ob_keep R114 K116q (ninS (Ne.symm ne65) (ninS (Ne.symm ne66) (ninS ne73 nin0))))
    refine own_callV X116 hx hZ hown rfl (C := "com/example/gangplank/gangplank/gang/Rows") (y := (⟨"com/example/gangplank/gangplank/gang/Rows", "firstHoldingAtMost", "(I)Lcom/example/gangplank/gangplank/gang/Row;"⟩ : MethodName)) (rm := ({ frames := 0, cells := 0, slots := 0, locals := 0 } : Room)) (hw _ (List.mem_of_getElem? (i := 86) rfl)) (hw _ (List.mem_of_getElem? (i := 87) rfl)) (hw _ (List.mem_of_getElem? (i := 89) rfl)) (hw _ (List.mem_of_getElem? (i := 88) rfl)) (hw _ (List.mem_of_getElem? (i := 3) rfl)) (hw _ (List.mem_of_getElem? (i := 90) rfl)) (by decide) (a := b62) B116.1 (argsL := [(.int pm)]) (rest := []) (own_rmF l Z a0 hw [] b62 sb (2 : Int32) pm _ (own_rs b64 b68 b75 b84) (own_us pa pb pc pd) 2 T116.heap n0 B116 F116 rfl (by decide) (fun i hi => by match i, hi with | 0, _ => rfl | 1, _ => rfl) (fun i hi => by match i, hi with | 0, _ => exact own_Ob_fld f117 5 rfl | 1, _ => exact own_Ob_fld R116 5 rfl)) (by rw [hml]; rfl) pd_10 rfl rfl (hb hby at_223) (W := 0) (Nat.le_of_eq rfl) (by decide) (by decide) (by decide) (by decide) ?_
    intro v118 T118 L118 X118 hQ118
    obtain ⟨rfl, e118, rfl⟩ := hQ118
    rw [List.append_nil] at X118
    show own_Go p e below _ T118 (mkF m 226 #[.val (.int pk), .val (.int pa), .val (.int pb), .val (.int pc), .val (.int pd), .val (.int pm), .val (.int (2 : Int32)), .val (.ref b62), .val (.ref b64), .val (.ref b68), .val (.ref b75), .val (.ref b84), .val ev, .unset] [(own_fst (own_us pa pb pc pd) (own_rs b64 b68 b75 b84) pm 2 0)])
    rw [← hev]
    show own_Go p e below _ T118 (mkF m 226 #[.val (.int pk), .val (.int pa), .val (.int pb), .val (.int pc), .val (.int pd), .val (.int pm), .val (.int (2 : Int32)), .val (.ref b62), .val (.ref b64), .val (.ref b68), .val (.ref b75), .val (.ref b84), .val ev, .unset] [ev])
    refine own_go (g' := (mkF m 228 #[.val (.int pk), .val (.int pa), .val (.int pb), .val (.int pc), .val (.int pd), .val (.int pm), .val (.int (2 : Int32)), .val (.ref b62), .val (.ref b64), .val (.ref b68), .val (.ref b75), .val (.ref b84), .val ev, .val ev] [])) (fun _ k => XS.astoreS X118.here hx rfl (hb hby at_226) rfl ev_ref (XT.cat1 ev_ref) rfl (Or.inl rfl) k) ?_
    refine own_go (g' := (mkF m 230 #[.val (.int pk), .val (.int pa), .val (.int pb), .val (.int pc), .val (.int pd), .val (.int pm), .val (.int (2 : Int32)), .val (.ref b62), .val (.ref b64), .val (.ref b68), .val (.ref b75), .val (.ref b84), .val ev, .val ev] [ev])) (fun _ k => XS.aload X118.here hx rfl (hb hby at_228) rfl (ev_ref) k) ?_
    refine own_go (g' := (mkF m 232 #[.val (.int pk), .val (.int pa), .val (.int pb), .val (.int pc), .val (.int pd), .val (.int pm), .val (.int (2 : Int32)), .val (.ref b62), .val (.ref b64), .val (.ref b68), .val (.ref b75), .val (.ref b84), .val ev, .val ev] [ev, ev])) (fun _ k => XS.aload X118.here hx rfl (hb hby at_230) rfl (ev_ref) k) ?_
    refine own_go (g' := (mkF m 235 #[.val (.int pk), .val (.int pa), .val (.int pb), .val (.int pc), .val (.int pd), .val (.int pm), .val (.int (2 : Int32)), .val (.ref b62), .val (.ref b64), .val (.ref b68), .val (.ref b75), .val (.ref b84), .val ev, .val ev] [])) (fun _ k => XT.acmpNo X118.here hx rfl (hb hby at_232) rfl ev_ref ev_ref (XT.aa_ne_f rfl) k) ?_
    refine own_go (g' := (mkF m 236 #[.val (.int pk), .val (.int pa), .val (.int pb), .val (.int pc), .val (.int pd), .val (.int pm), .val (.int (2 : Int32)), .val (.ref b62), .val (.ref b64), .val (.ref b68), .val (.ref b75), .val (.ref b84), .val ev, .val ev] [(.int (1 : Int32))])) (fun _ k => XS.iconst X118.here hx rfl (hb hby at_235) k) ?_
    refine own_go (g' := (mkF m 240 #[.val (.int pk), .val (.int pa), .val (.int pb), .val (.int pc), .val (.int pd), .val (.int pm), .val (.int (2 : Int32)), .val (.ref b62), .val (.ref b64), .val (.ref b68), .val (.ref b75), .val (.ref b84), .val ev, .val ev] [(.int (1 : Int32))])) (fun _ k => XS.goto X118.here hx rfl (pc0 := 236) (pc' := 240) rfl (hb hby at_236) (by decide) (by decide) k) ?_
    exact own_retZ X118 hx hlk hret e118 (hb hby at_240) ⟨rfl, N116⟩ (by decide) (by decide)
  · subst hk
    show own_Go p e below _ T102 (mkF m 90 #[.val (.int pk), .val (.int pa), .val (.int pb), .val (.int pc), .val (.int pd), .val (.int pm), .val (.int (3 : Int32)), .val (.ref b62), .val (.ref b64), .val (.ref b68), .val (.ref b75), .val (.ref b84), .unset, .unset] [])
    refine own_go (g' := (mkF m 92 #[.val (.int pk), .val (.int pa), .val (.int pb), .val (.int pc), .val (.int pd), .val (.int pm), .val (.int (3 : Int32)), .val (.ref b62), .val (.ref b64), .val (.ref b68), .val (.ref b75), .val (.ref b84), .unset, .unset] [(.int (3 : Int32))])) (fun _ k => XS.iload X102.here hx rfl (hb hby at_90) rfl k) ?_
    refine own_go (g' := (mkF m 93 #[.val (.int pk), .val (.int pa), .val (.int pb), .val (.int pc), .val (.int pd), .val (.int pm), .val (.int (3 : Int32)), .val (.ref b62), .val (.ref b64), .val (.ref b68), .val (.ref b75), .val (.ref b84), .unset, .unset] [(.int (1 : Int32)), (.int (3 : Int32))])) (fun _ k => XS.iconst X102.here hx rfl (hb hby at_92) k) ?_
    refine own_go (g' := (mkF m 96 #[.val (.int pk), .val (.int pa), .val (.int pb), .val (.int pc), .val (.int pd), .val (.int pm), .val (.int (3 : Int32)), .val (.ref b62), .val (.ref b64), .val (.ref b68), .val (.ref b75), .val (.ref b84), .unset, .unset] [])) (fun _ k => XS.icmpNo X102.here hx rfl (hb hby at_93) rfl (XT.ii_lt_f (by decide)) k) ?_
    refine own_go (g' := (mkF m 98 #[.val (.int pk), .val (.int pa), .val (.int pb), .val (.int pc), .val (.int pd), .val (.int pm), .val (.int (3 : Int32)), .val (.ref b62), .val (.ref b64), .val (.ref b68), .val (.ref b75), .val (.ref b84), .unset, .unset] [(.ref b62)])) (fun _ k => XS.aload X102.here hx rfl (hb hby at_96) rfl rfl k) ?_
    refine own_go (g' := (mkF m 100 #[.val (.int pk), .val (.int pa), .val (.int pb), .val (.int pc), .val (.int pd), .val (.int pm), .val (.int (3 : Int32)), .val (.ref b62), .val (.ref b64), .val (.ref b68), .val (.ref b75), .val (.ref b84), .unset, .unset] [(.ref b64), (.ref b62)])) (fun _ k => XS.aload X102.here hx rfl (hb hby at_98) rfl rfl k) ?_
    have f119 := (own_Ob_other (own_Ob_other (own_Ob_other (own_Ob_other (own_Ob_keep (own_Ob_ext f86 E84) K94q (ninS ne85 nin0)) W96 ne65) W98 ne69) W100 ne76) W102 ne85)
    have f120 := (own_Rr_other (own_Rr_other (own_Rr_other (own_Rr_other (own_Rr_keep (own_Rr_ext f88 E84) K94q (ninS ne87 nin0)) W96 ne66) W98 ne71) W100 ne78) W102 ne87)
    have f121 := (own_Ob_other (own_Ob_other (own_Ob_other B96 W98 ne73) W100 ne80) W102 ne89)
    refine own_callV X102 hx hZ hown e102 (C := "com/example/gangplank/gangplank/gang/Rows") (y := (⟨"com/example/gangplank/gangplank/gang/Rows", "add", "(Lcom/example/gangplank/gangplank/gang/Row;)V"⟩ : MethodName)) (rm := ({ frames := 1, cells := 0, slots := 0, locals := 13 } : Room)) (hw _ (List.mem_of_getElem? (i := 95) rfl)) (hw _ (List.mem_of_getElem? (i := 96) rfl)) (hw _ (List.mem_of_getElem? (i := 98) rfl)) (hw _ (List.mem_of_getElem? (i := 97) rfl)) (hw _ (List.mem_of_getElem? (i := 3) rfl)) (hw _ (List.mem_of_getElem? (i := 99) rfl)) (by decide) (a := b62) f119.1 (argsL := [(.ref b64)]) (rest := []) (own_rmAdd l Z a0 hw [] b62 sb b64 (0 : Int32) 0 _ _ h102 n0 ge62 gsb ge64 f119 f120 f121 hsb (Ne.symm ne65) (Ne.symm ne66) rfl (by decide)) (by rw [hml]; rfl) pd_11 rfl rfl (hb hby at_100) (W := 0) (Nat.le_of_eq rfl) (by decide) (by decide) (by decide) (by decide) ?_
    intro v122 T122 L122 X122 hQ122
    obtain ⟨rfl, N122q, K122q, B122, F122, R122⟩ := hQ122
    have K122 := K102.trans K122q (allS (Or.inr sz62) (allS (Or.inr szb) (allS (Or.inr sz64) all0)))
    have O122 := O102.keep K122q (allS ge62 (allS gsb (allS ge64 all0)))
    have N122 := Fr.app N102 N122q
    show own_Go p e below _ T122 (mkF m 103 #[.val (.int pk), .val (.int pa), .val (.int pb), .val (.int pc), .val (.int pd), .val (.int pm), .val (.int (3 : Int32)), .val (.ref b62), .val (.ref b64), .val (.ref b68), .val (.ref b75), .val (.ref b84), .unset, .unset] [])
    refine own_go (g' := (mkF m 105 #[.val (.int pk), .val (.int pa), .val (.int pb), .val (.int pc), .val (.int pd), .val (.int pm), .val (.int (3 : Int32)), .val (.ref b62), .val (.ref b64), .val (.ref b68), .val (.ref b75), .val (.ref b84), .unset, .unset] [(.int (3 : Int32))])) (fun _ k => XS.iload X122.here hx rfl (hb hby at_103) rfl k) ?_
    refine own_go (g' := (mkF m 106 #[.val (.int pk), .val (.int pa), .val (.int pb), .val (.int pc), .val (.int pd), .val (.int pm), .val (.int (3 : Int32)), .val (.ref b62), .val (.ref b64), .val (.ref b68), .val (.ref b75), .val (.ref b84), .unset, .unset] [(.int (2 : Int32)), (.int (3 : Int32))])) (fun _ k => XS.iconst X122.here hx rfl (hb hby at_105) k) ?_
    refine own_go (g' := (mkF m 109 #[.val (.int pk), .val (.int pa), .val (.int pb), .val (.int pc), .val (.int pd), .val (.int pm), .val (.int (3 : Int32)), .val (.ref b62), .val (.ref b64), .val (.ref b68), .val (.ref b75), .val (.ref b84), .unset, .unset] [])) (fun _ k => XS.icmpNo X122.here hx rfl (hb hby at_106) rfl (XT.ii_lt_f (by decide)) k) ?_
    refine own_go (g' := (mkF m 111 #[.val (.int pk), .val (.int pa), .val (.int pb), .val (.int pc), .val (.int pd), .val (.int pm), .val (.int (3 : Int32)), .val (.ref b62), .val (.ref b64), .val (.ref b68), .val (.ref b75), .val (.ref b84), .unset, .unset] [(.ref b62)])) (fun _ k => XS.aload X122.here hx rfl (hb hby at_109) rfl rfl k) ?_
    refine own_go (g' := (mkF m 113 #[.val (.int pk), .val (.int pa), .val (.int pb), .val (.int pc), .val (.int pd), .val (.int pm), .val (.int (3 : Int32)), .val (.ref b62), .val (.ref b64), .val (.ref b68), .val (.ref b75), .val (.ref b84), .unset, .unset] [(.ref b68), (.ref b62)])) (fun _ k => XS.aload X122.here hx rfl (hb hby at_111) rfl rfl k) ?_
    have f123 := (own_Ob_keep (own_Ob_other (own_Ob_other B98 W100 ne82) W102 ne91) K122q (ninS (Ne.symm ne69) (ninS (Ne.symm ne71) (ninS (Ne.symm ne73) nin0))))
    refine own_callV X122 hx hZ hown rfl (C := "com/example/gangplank/gangplank/gang/Rows") (y := (⟨"com/example/gangplank/gangplank/gang/Rows", "add", "(Lcom/example/gangplank/gangplank/gang/Row;)V"⟩ : MethodName)) (rm := ({ frames := 1, cells := 0, slots := 0, locals := 13 } : Room)) (hw _ (List.mem_of_getElem? (i := 95) rfl)) (hw _ (List.mem_of_getElem? (i := 96) rfl)) (hw _ (List.mem_of_getElem? (i := 98) rfl)) (hw _ (List.mem_of_getElem? (i := 97) rfl)) (hw _ (List.mem_of_getElem? (i := 3) rfl)) (hw _ (List.mem_of_getElem? (i := 99) rfl)) (by decide) (a := b62) B122.1 (argsL := [(.ref b68)]) (rest := []) (own_rmAdd l Z a0 hw [] b62 sb b68 (1 : Int32) 1 _ _ T122.heap n0 ge62 gsb ge68 B122 F122 f123 hsb (Ne.symm ne69) (Ne.symm ne71) rfl (by decide)) (by rw [hml]; rfl) pd_11 rfl rfl (hb hby at_113) (W := 0) (Nat.le_of_eq rfl) (by decide) (by decide) (by decide) (by decide) ?_
    intro v124 T124 L124 X124 hQ124
    obtain ⟨rfl, N124q, K124q, B124, F124, R124⟩ := hQ124
    have K124 := K122.trans K124q (allS (Or.inr sz62) (allS (Or.inr szb) (allS (Or.inr sz68) all0)))
    have O124 := O122.keep K124q (allS ge62 (allS gsb (allS ge68 all0)))
    have N124 := Fr.app N122 N124q
    show own_Go p e below _ T124 (mkF m 116 #[.val (.int pk), .val (.int pa), .val (.int pb), .val (.int pc), .val (.int pd), .val (.int pm), .val (.int (3 : Int32)), .val (.ref b62), .val (.ref b64), .val (.ref b68), .val (.ref b75), .val (.ref b84), .unset, .unset] [])
    refine own_go (g' := (mkF m 118 #[.val (.int pk), .val (.int pa), .val (.int pb), .val (.int pc), .val (.int pd), .val (.int pm), .val (.int (3 : Int32)), .val (.ref b62), .val (.ref b64), .val (.ref b68), .val (.ref b75), .val (.ref b84), .unset, .unset] [(.int (3 : Int32))])) (fun _ k => XS.iload X124.here hx rfl (hb hby at_116) rfl k) ?_
    refine own_go (g' := (mkF m 119 #[.val (.int pk), .val (.int pa), .val (.int pb), .val (.int pc), .val (.int pd), .val (.int pm), .val (.int (3 : Int32)), .val (.ref b62), .val (.ref b64), .val (.ref b68), .val (.ref b75), .val (.ref b84), .unset, .unset] [(.int (3 : Int32)), (.int (3 : Int32))])) (fun _ k => XS.iconst X124.here hx rfl (hb hby at_118) k) ?_
    refine own_go (g' := (mkF m 122 #[.val (.int pk), .val (.int pa), .val (.int pb), .val (.int pc), .val (.int pd), .val (.int pm), .val (.int (3 : Int32)), .val (.ref b62), .val (.ref b64), .val (.ref b68), .val (.ref b75), .val (.ref b84), .unset, .unset] [])) (fun _ k => XS.icmpNo X124.here hx rfl (hb hby at_119) rfl (XT.ii_lt_f (by decide)) k) ?_
    refine own_go (g' := (mkF m 124 #[.val (.int pk), .val (.int pa), .val (.int pb), .val (.int pc), .val (.int pd), .val (.int pm), .val (.int (3 : Int32)), .val (.ref b62), .val (.ref b64), .val (.ref b68), .val (.ref b75), .val (.ref b84), .unset, .unset] [(.ref b62)])) (fun _ k => XS.aload X124.here hx rfl (hb hby at_122) rfl rfl k) ?_
    refine own_go (g' := (mkF m 126 #[.val (.int pk), .val (.int pa), .val (.int pb), .val (.int pc), .val (.int pd), .val (.int pm), .val (.int (3 : Int32)), .val (.ref b62), .val (.ref b64), .val (.ref b68), .val (.ref b75), .val (.ref b84), .unset, .unset] [(.ref b75), (.ref b62)])) (fun _ k => XS.aload X124.here hx rfl (hb hby at_124) rfl rfl k) ?_
    have f125 := (own_Ob_keep (own_Ob_keep (own_Ob_other B100 W102 ne93) K122q (ninS (Ne.symm ne76) (ninS (Ne.symm ne78) (ninS (Ne.symm ne80) nin0)))) K124q (ninS (Ne.symm ne76) (ninS (Ne.symm ne78) (ninS (Ne.symm ne82) nin0))))
    refine own_callV X124 hx hZ hown rfl (C := "com/example/gangplank/gangplank/gang/Rows") (y := (⟨"com/example/gangplank/gangplank/gang/Rows", "add", "(Lcom/example/gangplank/gangplank/gang/Row;)V"⟩ : MethodName)) (rm := ({ frames := 1, cells := 0, slots := 0, locals := 13 } : Room)) (hw _ (List.mem_of_getElem? (i := 95) rfl)) (hw _ (List.mem_of_getElem? (i := 96) rfl)) (hw _ (List.mem_of_getElem? (i := 98) rfl)) (hw _ (List.mem_of_getElem? (i := 97) rfl)) (hw _ (List.mem_of_getElem? (i := 3) rfl)) (hw _ (List.mem_of_getElem? (i := 99) rfl)) (by decide) (a := b62) B124.1 (argsL := [(.ref b75)]) (rest := []) (own_rmAdd l Z a0 hw [] b62 sb b75 (2 : Int32) 2 _ _ T124.heap n0 ge62 gsb ge75 B124 F124 f125 hsb (Ne.symm ne76) (Ne.symm ne78) rfl (by decide)) (by rw [hml]; rfl) pd_11 rfl rfl (hb hby at_126) (W := 0) (Nat.le_of_eq rfl) (by decide) (by decide) (by decide) (by decide) ?_
    intro v126 T126 L126 X126 hQ126
    obtain ⟨rfl, N126q, K126q, B126, F126, R126⟩ := hQ126
    have K126 := K124.trans K126q (allS (Or.inr sz62) (allS (Or.inr szb) (allS (Or.inr sz75) all0)))
    have O126 := O124.keep K126q (allS ge62 (allS gsb (allS ge75 all0)))
    have N126 := Fr.app N124 N126q
    show own_Go p e below _ T126 (mkF m 129 #[.val (.int pk), .val (.int pa), .val (.int pb), .val (.int pc), .val (.int pd), .val (.int pm), .val (.int (3 : Int32)), .val (.ref b62), .val (.ref b64), .val (.ref b68), .val (.ref b75), .val (.ref b84), .unset, .unset] [])
    refine own_go (g' := (mkF m 131 #[.val (.int pk), .val (.int pa), .val (.int pb), .val (.int pc), .val (.int pd), .val (.int pm), .val (.int (3 : Int32)), .val (.ref b62), .val (.ref b64), .val (.ref b68), .val (.ref b75), .val (.ref b84), .unset, .unset] [(.int (3 : Int32))])) (fun _ k => XS.iload X126.here hx rfl (hb hby at_129) rfl k) ?_
    refine own_go (g' := (mkF m 132 #[.val (.int pk), .val (.int pa), .val (.int pb), .val (.int pc), .val (.int pd), .val (.int pm), .val (.int (3 : Int32)), .val (.ref b62), .val (.ref b64), .val (.ref b68), .val (.ref b75), .val (.ref b84), .unset, .unset] [(.int (4 : Int32)), (.int (3 : Int32))])) (fun _ k => XS.iconst X126.here hx rfl (hb hby at_131) k) ?_
    refine own_go (g' := (mkF m 142 #[.val (.int pk), .val (.int pa), .val (.int pb), .val (.int pc), .val (.int pd), .val (.int pm), .val (.int (3 : Int32)), .val (.ref b62), .val (.ref b64), .val (.ref b68), .val (.ref b75), .val (.ref b84), .unset, .unset] [])) (fun _ k => XS.icmpYes X126.here hx rfl (pc0 := 132) (pc' := 142) rfl (hb hby at_132) rfl (XT.ii_lt_t (by decide)) (by decide) (by decide) k) ?_
    refine own_go (g' := (mkF m 143 #[.val (.int pk), .val (.int pa), .val (.int pb), .val (.int pc), .val (.int pd), .val (.int pm), .val (.int (3 : Int32)), .val (.ref b62), .val (.ref b64), .val (.ref b68), .val (.ref b75), .val (.ref b84), .unset, .unset] [.null])) (fun _ k => XS.aconstNull X126.here hx rfl (hb hby at_142) k) ?_
    refine own_go (g' := (mkF m 145 #[.val (.int pk), .val (.int pa), .val (.int pb), .val (.int pc), .val (.int pd), .val (.int pm), .val (.int (3 : Int32)), .val (.ref b62), .val (.ref b64), .val (.ref b68), .val (.ref b75), .val (.ref b84), .val .null, .unset] [])) (fun _ k => XS.astore X126.here hx rfl (hb hby at_143) rfl rfl (l' := #[.val (.int pk), .val (.int pa), .val (.int pb), .val (.int pc), .val (.int pd), .val (.int pm), .val (.int (3 : Int32)), .val (.ref b62), .val (.ref b64), .val (.ref b68), .val (.ref b75), .val (.ref b84), .val .null, .unset]) rfl k) ?_
    refine own_go (g' := (mkF m 147 #[.val (.int pk), .val (.int pa), .val (.int pb), .val (.int pc), .val (.int pd), .val (.int pm), .val (.int (3 : Int32)), .val (.ref b62), .val (.ref b64), .val (.ref b68), .val (.ref b75), .val (.ref b84), .val .null, .unset] [(.int (3 : Int32))])) (fun _ k => XS.iload X126.here hx rfl (hb hby at_145) rfl k) ?_
    refine own_go (g' := (mkF m 148 #[.val (.int pk), .val (.int pa), .val (.int pb), .val (.int pc), .val (.int pd), .val (.int pm), .val (.int (3 : Int32)), .val (.ref b62), .val (.ref b64), .val (.ref b68), .val (.ref b75), .val (.ref b84), .val .null, .unset] [(.int (1 : Int32)), (.int (3 : Int32))])) (fun _ k => XS.iconst X126.here hx rfl (hb hby at_147) k) ?_
    suffices J : ∀ ev : Value, ev.isRef = true → ev = own_fst (own_us pa pb pc pd) (own_rs b64 b68 b75 b84) pm 3 0 → own_Go p e below (own_Po s (own_Q0 n0) 48 320) T126 (mkF m 219 #[.val (.int pk), .val (.int pa), .val (.int pb), .val (.int pc), .val (.int pd), .val (.int pm), .val (.int (3 : Int32)), .val (.ref b62), .val (.ref b64), .val (.ref b68), .val (.ref b75), .val (.ref b84), .val ev, .unset] []) by
      refine own_go (g' := (mkF m 151 #[.val (.int pk), .val (.int pa), .val (.int pb), .val (.int pc), .val (.int pd), .val (.int pm), .val (.int (3 : Int32)), .val (.ref b62), .val (.ref b64), .val (.ref b68), .val (.ref b75), .val (.ref b84), .val .null, .unset] [])) (fun _ k => XS.icmpNo X126.here hx rfl (hb hby at_148) rfl (XT.ii_lt_f (by decide)) k) ?_
      refine own_go (g' := (mkF m 152 #[.val (.int pk), .val (.int pa), .val (.int pb), .val (.int pc), .val (.int pd), .val (.int pm), .val (.int (3 : Int32)), .val (.ref b62), .val (.ref b64), .val (.ref b68), .val (.ref b75), .val (.ref b84), .val .null, .unset] [(.int pa)])) (fun _ k => XS.iloadN X126.here hx rfl (hb hby at_151) rfl k) ?_
      refine own_go (g' := (mkF m 154 #[.val (.int pk), .val (.int pa), .val (.int pb), .val (.int pc), .val (.int pd), .val (.int pm), .val (.int (3 : Int32)), .val (.ref b62), .val (.ref b64), .val (.ref b68), .val (.ref b75), .val (.ref b84), .val .null, .unset] [(.int pm), (.int pa)])) (fun _ k => XS.iload X126.here hx rfl (hb hby at_152) rfl k) ?_
      by_cases cu0 : pm < pa
      · refine own_go (g' := (mkF m 164 #[.val (.int pk), .val (.int pa), .val (.int pb), .val (.int pc), .val (.int pd), .val (.int pm), .val (.int (3 : Int32)), .val (.ref b62), .val (.ref b64), .val (.ref b68), .val (.ref b75), .val (.ref b84), .val .null, .unset] [])) (fun _ k => XS.icmpYes X126.here hx rfl (pc0 := 154) (pc' := 164) rfl (hb hby at_154) rfl (XT.ii_gt_t cu0) (by decide) (by decide) k) ?_
        refine own_go (g' := (mkF m 166 #[.val (.int pk), .val (.int pa), .val (.int pb), .val (.int pc), .val (.int pd), .val (.int pm), .val (.int (3 : Int32)), .val (.ref b62), .val (.ref b64), .val (.ref b68), .val (.ref b75), .val (.ref b84), .val .null, .unset] [(.int (3 : Int32))])) (fun _ k => XS.iload X126.here hx rfl (hb hby at_164) rfl k) ?_
        refine own_go (g' := (mkF m 167 #[.val (.int pk), .val (.int pa), .val (.int pb), .val (.int pc), .val (.int pd), .val (.int pm), .val (.int (3 : Int32)), .val (.ref b62), .val (.ref b64), .val (.ref b68), .val (.ref b75), .val (.ref b84), .val .null, .unset] [(.int (2 : Int32)), (.int (3 : Int32))])) (fun _ k => XS.iconst X126.here hx rfl (hb hby at_166) k) ?_
        refine own_go (g' := (mkF m 170 #[.val (.int pk), .val (.int pa), .val (.int pb), .val (.int pc), .val (.int pd), .val (.int pm), .val (.int (3 : Int32)), .val (.ref b62), .val (.ref b64), .val (.ref b68), .val (.ref b75), .val (.ref b84), .val .null, .unset] [])) (fun _ k => XS.icmpNo X126.here hx rfl (hb hby at_167) rfl (XT.ii_lt_f (by decide)) k) ?_
        refine own_go (g' := (mkF m 171 #[.val (.int pk), .val (.int pa), .val (.int pb), .val (.int pc), .val (.int pd), .val (.int pm), .val (.int (3 : Int32)), .val (.ref b62), .val (.ref b64), .val (.ref b68), .val (.ref b75), .val (.ref b84), .val .null, .unset] [(.int pb)])) (fun _ k => XS.iloadN X126.here hx rfl (hb hby at_170) rfl k) ?_
        refine own_go (g' := (mkF m 173 #[.val (.int pk), .val (.int pa), .val (.int pb), .val (.int pc), .val (.int pd), .val (.int pm), .val (.int (3 : Int32)), .val (.ref b62), .val (.ref b64), .val (.ref b68), .val (.ref b75), .val (.ref b84), .val .null, .unset] [(.int pm), (.int pb)])) (fun _ k => XS.iload X126.here hx rfl (hb hby at_171) rfl k) ?_
        by_cases cu1 : pm < pb
        · refine own_go (g' := (mkF m 183 #[.val (.int pk), .val (.int pa), .val (.int pb), .val (.int pc), .val (.int pd), .val (.int pm), .val (.int (3 : Int32)), .val (.ref b62), .val (.ref b64), .val (.ref b68), .val (.ref b75), .val (.ref b84), .val .null, .unset] [])) (fun _ k => XS.icmpYes X126.here hx rfl (pc0 := 173) (pc' := 183) rfl (hb hby at_173) rfl (XT.ii_gt_t cu1) (by decide) (by decide) k) ?_
          refine own_go (g' := (mkF m 185 #[.val (.int pk), .val (.int pa), .val (.int pb), .val (.int pc), .val (.int pd), .val (.int pm), .val (.int (3 : Int32)), .val (.ref b62), .val (.ref b64), .val (.ref b68), .val (.ref b75), .val (.ref b84), .val .null, .unset] [(.int (3 : Int32))])) (fun _ k => XS.iload X126.here hx rfl (hb hby at_183) rfl k) ?_
          refine own_go (g' := (mkF m 186 #[.val (.int pk), .val (.int pa), .val (.int pb), .val (.int pc), .val (.int pd), .val (.int pm), .val (.int (3 : Int32)), .val (.ref b62), .val (.ref b64), .val (.ref b68), .val (.ref b75), .val (.ref b84), .val .null, .unset] [(.int (3 : Int32)), (.int (3 : Int32))])) (fun _ k => XS.iconst X126.here hx rfl (hb hby at_185) k) ?_
          refine own_go (g' := (mkF m 189 #[.val (.int pk), .val (.int pa), .val (.int pb), .val (.int pc), .val (.int pd), .val (.int pm), .val (.int (3 : Int32)), .val (.ref b62), .val (.ref b64), .val (.ref b68), .val (.ref b75), .val (.ref b84), .val .null, .unset] [])) (fun _ k => XS.icmpNo X126.here hx rfl (hb hby at_186) rfl (XT.ii_lt_f (by decide)) k) ?_
          refine own_go (g' := (mkF m 190 #[.val (.int pk), .val (.int pa), .val (.int pb), .val (.int pc), .val (.int pd), .val (.int pm), .val (.int (3 : Int32)), .val (.ref b62), .val (.ref b64), .val (.ref b68), .val (.ref b75), .val (.ref b84), .val .null, .unset] [(.int pc)])) (fun _ k => XS.iloadN X126.here hx rfl (hb hby at_189) rfl k) ?_
          refine own_go (g' := (mkF m 192 #[.val (.int pk), .val (.int pa), .val (.int pb), .val (.int pc), .val (.int pd), .val (.int pm), .val (.int (3 : Int32)), .val (.ref b62), .val (.ref b64), .val (.ref b68), .val (.ref b75), .val (.ref b84), .val .null, .unset] [(.int pm), (.int pc)])) (fun _ k => XS.iload X126.here hx rfl (hb hby at_190) rfl k) ?_
          by_cases cu2 : pm < pc
          · refine own_go (g' := (mkF m 202 #[.val (.int pk), .val (.int pa), .val (.int pb), .val (.int pc), .val (.int pd), .val (.int pm), .val (.int (3 : Int32)), .val (.ref b62), .val (.ref b64), .val (.ref b68), .val (.ref b75), .val (.ref b84), .val .null, .unset] [])) (fun _ k => XS.icmpYes X126.here hx rfl (pc0 := 192) (pc' := 202) rfl (hb hby at_192) rfl (XT.ii_gt_t cu2) (by decide) (by decide) k) ?_
            refine own_go (g' := (mkF m 204 #[.val (.int pk), .val (.int pa), .val (.int pb), .val (.int pc), .val (.int pd), .val (.int pm), .val (.int (3 : Int32)), .val (.ref b62), .val (.ref b64), .val (.ref b68), .val (.ref b75), .val (.ref b84), .val .null, .unset] [(.int (3 : Int32))])) (fun _ k => XS.iload X126.here hx rfl (hb hby at_202) rfl k) ?_
            refine own_go (g' := (mkF m 205 #[.val (.int pk), .val (.int pa), .val (.int pb), .val (.int pc), .val (.int pd), .val (.int pm), .val (.int (3 : Int32)), .val (.ref b62), .val (.ref b64), .val (.ref b68), .val (.ref b75), .val (.ref b84), .val .null, .unset] [(.int (4 : Int32)), (.int (3 : Int32))])) (fun _ k => XS.iconst X126.here hx rfl (hb hby at_204) k) ?_
            refine own_go (g' := (mkF m 219 #[.val (.int pk), .val (.int pa), .val (.int pb), .val (.int pc), .val (.int pd), .val (.int pm), .val (.int (3 : Int32)), .val (.ref b62), .val (.ref b64), .val (.ref b68), .val (.ref b75), .val (.ref b84), .val .null, .unset] [])) (fun _ k => XS.icmpYes X126.here hx rfl (pc0 := 205) (pc' := 219) rfl (hb hby at_205) rfl (XT.ii_lt_t (by decide)) (by decide) (by decide) k) ?_
            exact J _ rfl (by simp [own_fst, own_us, own_rs, cu0, cu1, cu2])
          · refine own_go (g' := (mkF m 195 #[.val (.int pk), .val (.int pa), .val (.int pb), .val (.int pc), .val (.int pd), .val (.int pm), .val (.int (3 : Int32)), .val (.ref b62), .val (.ref b64), .val (.ref b68), .val (.ref b75), .val (.ref b84), .val .null, .unset] [])) (fun _ k => XS.icmpNo X126.here hx rfl (hb hby at_192) rfl (XT.ii_gt_f cu2) k) ?_
            refine own_go (g' := (mkF m 197 #[.val (.int pk), .val (.int pa), .val (.int pb), .val (.int pc), .val (.int pd), .val (.int pm), .val (.int (3 : Int32)), .val (.ref b62), .val (.ref b64), .val (.ref b68), .val (.ref b75), .val (.ref b84), .val .null, .unset] [(.ref b75)])) (fun _ k => XS.aload X126.here hx rfl (hb hby at_195) rfl rfl k) ?_
            refine own_go (g' := (mkF m 199 #[.val (.int pk), .val (.int pa), .val (.int pb), .val (.int pc), .val (.int pd), .val (.int pm), .val (.int (3 : Int32)), .val (.ref b62), .val (.ref b64), .val (.ref b68), .val (.ref b75), .val (.ref b84), .val (.ref b75), .unset] [])) (fun _ k => XS.astore X126.here hx rfl (hb hby at_197) rfl rfl (l' := #[.val (.int pk), .val (.int pa), .val (.int pb), .val (.int pc), .val (.int pd), .val (.int pm), .val (.int (3 : Int32)), .val (.ref b62), .val (.ref b64), .val (.ref b68), .val (.ref b75), .val (.ref b84), .val (.ref b75), .unset]) rfl k) ?_
            refine own_go (g' := (mkF m 219 #[.val (.int pk), .val (.int pa), .val (.int pb), .val (.int pc), .val (.int pd), .val (.int pm), .val (.int (3 : Int32)), .val (.ref b62), .val (.ref b64), .val (.ref b68), .val (.ref b75), .val (.ref b84), .val (.ref b75), .unset] [])) (fun _ k => XS.goto X126.here hx rfl (pc0 := 199) (pc' := 219) rfl (hb hby at_199) (by decide) (by decide) k) ?_
            exact J _ rfl (by simp [own_fst, own_us, own_rs, cu0, cu1, cu2])
        · refine own_go (g' := (mkF m 176 #[.val (.int pk), .val (.int pa), .val (.int pb), .val (.int pc), .val (.int pd), .val (.int pm), .val (.int (3 : Int32)), .val (.ref b62), .val (.ref b64), .val (.ref b68), .val (.ref b75), .val (.ref b84), .val .null, .unset] [])) (fun _ k => XS.icmpNo X126.here hx rfl (hb hby at_173) rfl (XT.ii_gt_f cu1) k) ?_
          refine own_go (g' := (mkF m 178 #[.val (.int pk), .val (.int pa), .val (.int pb), .val (.int pc), .val (.int pd), .val (.int pm), .val (.int (3 : Int32)), .val (.ref b62), .val (.ref b64), .val (.ref b68), .val (.ref b75), .val (.ref b84), .val .null, .unset] [(.ref b68)])) (fun _ k => XS.aload X126.here hx rfl (hb hby at_176) rfl rfl k) ?_
          refine own_go (g' := (mkF m 180 #[.val (.int pk), .val (.int pa), .val (.int pb), .val (.int pc), .val (.int pd), .val (.int pm), .val (.int (3 : Int32)), .val (.ref b62), .val (.ref b64), .val (.ref b68), .val (.ref b75), .val (.ref b84), .val (.ref b68), .unset] [])) (fun _ k => XS.astore X126.here hx rfl (hb hby at_178) rfl rfl (l' := #[.val (.int pk), .val (.int pa), .val (.int pb), .val (.int pc), .val (.int pd), .val (.int pm), .val (.int (3 : Int32)), .val (.ref b62), .val (.ref b64), .val (.ref b68), .val (.ref b75), .val (.ref b84), .val (.ref b68), .unset]) rfl k) ?_
          refine own_go (g' := (mkF m 219 #[.val (.int pk), .val (.int pa), .val (.int pb), .val (.int pc), .val (.int pd), .val (.int pm), .val (.int (3 : Int32)), .val (.ref b62), .val (.ref b64), .val (.ref b68), .val (.ref b75), .val (.ref b84), .val (.ref b68), .unset] [])) (fun _ k => XS.goto X126.here hx rfl (pc0 := 180) (pc' := 219) rfl (hb hby at_180) (by decide) (by decide) k) ?_
          exact J _ rfl (by simp [own_fst, own_us, own_rs, cu0, cu1])
      · refine own_go (g' := (mkF m 157 #[.val (.int pk), .val (.int pa), .val (.int pb), .val (.int pc), .val (.int pd), .val (.int pm), .val (.int (3 : Int32)), .val (.ref b62), .val (.ref b64), .val (.ref b68), .val (.ref b75), .val (.ref b84), .val .null, .unset] [])) (fun _ k => XS.icmpNo X126.here hx rfl (hb hby at_154) rfl (XT.ii_gt_f cu0) k) ?_
        refine own_go (g' := (mkF m 159 #[.val (.int pk), .val (.int pa), .val (.int pb), .val (.int pc), .val (.int pd), .val (.int pm), .val (.int (3 : Int32)), .val (.ref b62), .val (.ref b64), .val (.ref b68), .val (.ref b75), .val (.ref b84), .val .null, .unset] [(.ref b64)])) (fun _ k => XS.aload X126.here hx rfl (hb hby at_157) rfl rfl k) ?_
        refine own_go (g' := (mkF m 161 #[.val (.int pk), .val (.int pa), .val (.int pb), .val (.int pc), .val (.int pd), .val (.int pm), .val (.int (3 : Int32)), .val (.ref b62), .val (.ref b64), .val (.ref b68), .val (.ref b75), .val (.ref b84), .val (.ref b64), .unset] [])) (fun _ k => XS.astore X126.here hx rfl (hb hby at_159) rfl rfl (l' := #[.val (.int pk), .val (.int pa), .val (.int pb), .val (.int pc), .val (.int pd), .val (.int pm), .val (.int (3 : Int32)), .val (.ref b62), .val (.ref b64), .val (.ref b68), .val (.ref b75), .val (.ref b84), .val (.ref b64), .unset]) rfl k) ?_
        refine own_go (g' := (mkF m 219 #[.val (.int pk), .val (.int pa), .val (.int pb), .val (.int pc), .val (.int pd), .val (.int pm), .val (.int (3 : Int32)), .val (.ref b62), .val (.ref b64), .val (.ref b68), .val (.ref b75), .val (.ref b84), .val (.ref b64), .unset] [])) (fun _ k => XS.goto X126.here hx rfl (pc0 := 161) (pc' := 219) rfl (hb hby at_161) (by decide) (by decide) k) ?_
        exact J _ rfl (by simp [own_fst, own_us, own_rs, cu0])
    intro ev ev_ref hev
    refine own_go (g' := (mkF m 221 #[.val (.int pk), .val (.int pa), .val (.int pb), .val (.int pc), .val (.int pd), .val (.int pm), .val (.int (3 : Int32)), .val (.ref b62), .val (.ref b64), .val (.ref b68), .val (.ref b75), .val (.ref b84), .val ev, .unset] [(.ref b62)])) (fun _ k => XS.aload X126.here hx rfl (hb hby at_219) rfl rfl k) ?_
    refine own_go (g' := (mkF m 223 #[.val (.int pk), .val (.int pa), .val (.int pb), .val (.int pc), .val (.int pd), .val (.int pm), .val (.int (3 : Int32)), .val (.ref b62), .val (.ref b64), .val (.ref b68), .val (.ref b75), .val (.ref b84), .val ev, .unset] [(.int pm), (.ref b62)])) (fun _ k => XS.iload X126.here hx rfl (hb hby at_221) rfl k) ?_
    have f127 := (own_Ob_keep (own_Ob_keep R122 K124q (ninS (Ne.symm ne65) (ninS (Ne.symm ne66) (ninS ne73 nin0)))) K126q (ninS (Ne.symm ne65) (ninS (Ne.symm ne66) (ninS ne80 nin0))))
    have f128 := (own_Ob_keep R124 K126q (ninS (Ne.symm ne69) (ninS (Ne.symm ne71) (ninS ne82 nin0))))
    refine own_callV X126 hx hZ hown rfl (C := "com/example/gangplank/gangplank/gang/Rows") (y := (⟨"com/example/gangplank/gangplank/gang/Rows", "firstHoldingAtMost", "(I)Lcom/example/gangplank/gangplank/gang/Row;"⟩ : MethodName)) (rm := ({ frames := 0, cells := 0, slots := 0, locals := 0 } : Room)) (hw _ (List.mem_of_getElem? (i := 86) rfl)) (hw _ (List.mem_of_getElem? (i := 87) rfl)) (hw _ (List.mem_of_getElem? (i := 89) rfl)) (hw _ (List.mem_of_getElem? (i := 88) rfl)) (hw _ (List.mem_of_getElem? (i := 3) rfl)) (hw _ (List.mem_of_getElem? (i := 90) rfl)) (by decide) (a := b62) B126.1 (argsL := [(.int pm)]) (rest := []) (own_rmF l Z a0 hw [] b62 sb (3 : Int32) pm _ (own_rs b64 b68 b75 b84) (own_us pa pb pc pd) 3 T126.heap n0 B126 F126 rfl (by decide) (fun i hi => by match i, hi with | 0, _ => rfl | 1, _ => rfl | 2, _ => rfl) (fun i hi => by match i, hi with | 0, _ => exact own_Ob_fld f127 5 rfl | 1, _ => exact own_Ob_fld f128 5 rfl | 2, _ => exact own_Ob_fld R126 5 rfl)) (by rw [hml]; rfl) pd_10 rfl rfl (hb hby at_223) (W := 0) (Nat.le_of_eq rfl) (by decide) (by decide) (by decide) (by decide) ?_
    intro v129 T129 L129 X129 hQ129
    obtain ⟨rfl, e129, rfl⟩ := hQ129
    rw [List.append_nil] at X129
    show own_Go p e below _ T129 (mkF m 226 #[.val (.int pk), .val (.int pa), .val (.int pb), .val (.int pc), .val (.int pd), .val (.int pm), .val (.int (3 : Int32)), .val (.ref b62), .val (.ref b64), .val (.ref b68), .val (.ref b75), .val (.ref b84), .val ev, .unset] [(own_fst (own_us pa pb pc pd) (own_rs b64 b68 b75 b84) pm 3 0)])
    rw [← hev]
    show own_Go p e below _ T129 (mkF m 226 #[.val (.int pk), .val (.int pa), .val (.int pb), .val (.int pc), .val (.int pd), .val (.int pm), .val (.int (3 : Int32)), .val (.ref b62), .val (.ref b64), .val (.ref b68), .val (.ref b75), .val (.ref b84), .val ev, .unset] [ev])
    refine own_go (g' := (mkF m 228 #[.val (.int pk), .val (.int pa), .val (.int pb), .val (.int pc), .val (.int pd), .val (.int pm), .val (.int (3 : Int32)), .val (.ref b62), .val (.ref b64), .val (.ref b68), .val (.ref b75), .val (.ref b84), .val ev, .val ev] [])) (fun _ k => XS.astoreS X129.here hx rfl (hb hby at_226) rfl ev_ref (XT.cat1 ev_ref) rfl (Or.inl rfl) k) ?_
    refine own_go (g' := (mkF m 230 #[.val (.int pk), .val (.int pa), .val (.int pb), .val (.int pc), .val (.int pd), .val (.int pm), .val (.int (3 : Int32)), .val (.ref b62), .val (.ref b64), .val (.ref b68), .val (.ref b75), .val (.ref b84), .val ev, .val ev] [ev])) (fun _ k => XS.aload X129.here hx rfl (hb hby at_228) rfl (ev_ref) k) ?_
    refine own_go (g' := (mkF m 232 #[.val (.int pk), .val (.int pa), .val (.int pb), .val (.int pc), .val (.int pd), .val (.int pm), .val (.int (3 : Int32)), .val (.ref b62), .val (.ref b64), .val (.ref b68), .val (.ref b75), .val (.ref b84), .val ev, .val ev] [ev, ev])) (fun _ k => XS.aload X129.here hx rfl (hb hby at_230) rfl (ev_ref) k) ?_
    refine own_go (g' := (mkF m 235 #[.val (.int pk), .val (.int pa), .val (.int pb), .val (.int pc), .val (.int pd), .val (.int pm), .val (.int (3 : Int32)), .val (.ref b62), .val (.ref b64), .val (.ref b68), .val (.ref b75), .val (.ref b84), .val ev, .val ev] [])) (fun _ k => XT.acmpNo X129.here hx rfl (hb hby at_232) rfl ev_ref ev_ref (XT.aa_ne_f rfl) k) ?_
    refine own_go (g' := (mkF m 236 #[.val (.int pk), .val (.int pa), .val (.int pb), .val (.int pc), .val (.int pd), .val (.int pm), .val (.int (3 : Int32)), .val (.ref b62), .val (.ref b64), .val (.ref b68), .val (.ref b75), .val (.ref b84), .val ev, .val ev] [(.int (1 : Int32))])) (fun _ k => XS.iconst X129.here hx rfl (hb hby at_235) k) ?_
    refine own_go (g' := (mkF m 240 #[.val (.int pk), .val (.int pa), .val (.int pb), .val (.int pc), .val (.int pd), .val (.int pm), .val (.int (3 : Int32)), .val (.ref b62), .val (.ref b64), .val (.ref b68), .val (.ref b75), .val (.ref b84), .val ev, .val ev] [(.int (1 : Int32))])) (fun _ k => XS.goto X129.here hx rfl (pc0 := 236) (pc' := 240) rfl (hb hby at_236) (by decide) (by decide) k) ?_
    exact own_retZ X129 hx hlk hret e129 (hb hby at_240) ⟨rfl, N126⟩ (by decide) (by decide)
  · subst hk
    show own_Go p e below _ T102 (mkF m 90 #[.val (.int pk), .val (.int pa), .val (.int pb), .val (.int pc), .val (.int pd), .val (.int pm), .val (.int (4 : Int32)), .val (.ref b62), .val (.ref b64), .val (.ref b68), .val (.ref b75), .val (.ref b84), .unset, .unset] [])
    refine own_go (g' := (mkF m 92 #[.val (.int pk), .val (.int pa), .val (.int pb), .val (.int pc), .val (.int pd), .val (.int pm), .val (.int (4 : Int32)), .val (.ref b62), .val (.ref b64), .val (.ref b68), .val (.ref b75), .val (.ref b84), .unset, .unset] [(.int (4 : Int32))])) (fun _ k => XS.iload X102.here hx rfl (hb hby at_90) rfl k) ?_
    refine own_go (g' := (mkF m 93 #[.val (.int pk), .val (.int pa), .val (.int pb), .val (.int pc), .val (.int pd), .val (.int pm), .val (.int (4 : Int32)), .val (.ref b62), .val (.ref b64), .val (.ref b68), .val (.ref b75), .val (.ref b84), .unset, .unset] [(.int (1 : Int32)), (.int (4 : Int32))])) (fun _ k => XS.iconst X102.here hx rfl (hb hby at_92) k) ?_
    refine own_go (g' := (mkF m 96 #[.val (.int pk), .val (.int pa), .val (.int pb), .val (.int pc), .val (.int pd), .val (.int pm), .val (.int (4 : Int32)), .val (.ref b62), .val (.ref b64), .val (.ref b68), .val (.ref b75), .val (.ref b84), .unset, .unset] [])) (fun _ k => XS.icmpNo X102.here hx rfl (hb hby at_93) rfl (XT.ii_lt_f (by decide)) k) ?_
    refine own_go (g' := (mkF m 98 #[.val (.int pk), .val (.int pa), .val (.int pb), .val (.int pc), .val (.int pd), .val (.int pm), .val (.int (4 : Int32)), .val (.ref b62), .val (.ref b64), .val (.ref b68), .val (.ref b75), .val (.ref b84), .unset, .unset] [(.ref b62)])) (fun _ k => XS.aload X102.here hx rfl (hb hby at_96) rfl rfl k) ?_
    refine own_go (g' := (mkF m 100 #[.val (.int pk), .val (.int pa), .val (.int pb), .val (.int pc), .val (.int pd), .val (.int pm), .val (.int (4 : Int32)), .val (.ref b62), .val (.ref b64), .val (.ref b68), .val (.ref b75), .val (.ref b84), .unset, .unset] [(.ref b64), (.ref b62)])) (fun _ k => XS.aload X102.here hx rfl (hb hby at_98) rfl rfl k) ?_
    have f130 := (own_Ob_other (own_Ob_other (own_Ob_other (own_Ob_other (own_Ob_keep (own_Ob_ext f86 E84) K94q (ninS ne85 nin0)) W96 ne65) W98 ne69) W100 ne76) W102 ne85)
    have f131 := (own_Rr_other (own_Rr_other (own_Rr_other (own_Rr_other (own_Rr_keep (own_Rr_ext f88 E84) K94q (ninS ne87 nin0)) W96 ne66) W98 ne71) W100 ne78) W102 ne87)
    have f132 := (own_Ob_other (own_Ob_other (own_Ob_other B96 W98 ne73) W100 ne80) W102 ne89)
    refine own_callV X102 hx hZ hown e102 (C := "com/example/gangplank/gangplank/gang/Rows") (y := (⟨"com/example/gangplank/gangplank/gang/Rows", "add", "(Lcom/example/gangplank/gangplank/gang/Row;)V"⟩ : MethodName)) (rm := ({ frames := 1, cells := 0, slots := 0, locals := 13 } : Room)) (hw _ (List.mem_of_getElem? (i := 95) rfl)) (hw _ (List.mem_of_getElem? (i := 96) rfl)) (hw _ (List.mem_of_getElem? (i := 98) rfl)) (hw _ (List.mem_of_getElem? (i := 97) rfl)) (hw _ (List.mem_of_getElem? (i := 3) rfl)) (hw _ (List.mem_of_getElem? (i := 99) rfl)) (by decide) (a := b62) f130.1 (argsL := [(.ref b64)]) (rest := []) (own_rmAdd l Z a0 hw [] b62 sb b64 (0 : Int32) 0 _ _ h102 n0 ge62 gsb ge64 f130 f131 f132 hsb (Ne.symm ne65) (Ne.symm ne66) rfl (by decide)) (by rw [hml]; rfl) pd_11 rfl rfl (hb hby at_100) (W := 0) (Nat.le_of_eq rfl) (by decide) (by decide) (by decide) (by decide) ?_
    intro v133 T133 L133 X133 hQ133
    obtain ⟨rfl, N133q, K133q, B133, F133, R133⟩ := hQ133
    have K133 := K102.trans K133q (allS (Or.inr sz62) (allS (Or.inr szb) (allS (Or.inr sz64) all0)))
    have O133 := O102.keep K133q (allS ge62 (allS gsb (allS ge64 all0)))
    have N133 := Fr.app N102 N133q
    show own_Go p e below _ T133 (mkF m 103 #[.val (.int pk), .val (.int pa), .val (.int pb), .val (.int pc), .val (.int pd), .val (.int pm), .val (.int (4 : Int32)), .val (.ref b62), .val (.ref b64), .val (.ref b68), .val (.ref b75), .val (.ref b84), .unset, .unset] [])
    refine own_go (g' := (mkF m 105 #[.val (.int pk), .val (.int pa), .val (.int pb), .val (.int pc), .val (.int pd), .val (.int pm), .val (.int (4 : Int32)), .val (.ref b62), .val (.ref b64), .val (.ref b68), .val (.ref b75), .val (.ref b84), .unset, .unset] [(.int (4 : Int32))])) (fun _ k => XS.iload X133.here hx rfl (hb hby at_103) rfl k) ?_
    refine own_go (g' := (mkF m 106 #[.val (.int pk), .val (.int pa), .val (.int pb), .val (.int pc), .val (.int pd), .val (.int pm), .val (.int (4 : Int32)), .val (.ref b62), .val (.ref b64), .val (.ref b68), .val (.ref b75), .val (.ref b84), .unset, .unset] [(.int (2 : Int32)), (.int (4 : Int32))])) (fun _ k => XS.iconst X133.here hx rfl (hb hby at_105) k) ?_
    refine own_go (g' := (mkF m 109 #[.val (.int pk), .val (.int pa), .val (.int pb), .val (.int pc), .val (.int pd), .val (.int pm), .val (.int (4 : Int32)), .val (.ref b62), .val (.ref b64), .val (.ref b68), .val (.ref b75), .val (.ref b84), .unset, .unset] [])) (fun _ k => XS.icmpNo X133.here hx rfl (hb hby at_106) rfl (XT.ii_lt_f (by decide)) k) ?_
    refine own_go (g' := (mkF m 111 #[.val (.int pk), .val (.int pa), .val (.int pb), .val (.int pc), .val (.int pd), .val (.int pm), .val (.int (4 : Int32)), .val (.ref b62), .val (.ref b64), .val (.ref b68), .val (.ref b75), .val (.ref b84), .unset, .unset] [(.ref b62)])) (fun _ k => XS.aload X133.here hx rfl (hb hby at_109) rfl rfl k) ?_
    refine own_go (g' := (mkF m 113 #[.val (.int pk), .val (.int pa), .val (.int pb), .val (.int pc), .val (.int pd), .val (.int pm), .val (.int (4 : Int32)), .val (.ref b62), .val (.ref b64), .val (.ref b68), .val (.ref b75), .val (.ref b84), .unset, .unset] [(.ref b68), (.ref b62)])) (fun _ k => XS.aload X133.here hx rfl (hb hby at_111) rfl rfl k) ?_
    have f134 := (own_Ob_keep (own_Ob_other (own_Ob_other B98 W100 ne82) W102 ne91) K133q (ninS (Ne.symm ne69) (ninS (Ne.symm ne71) (ninS (Ne.symm ne73) nin0))))
    refine own_callV X133 hx hZ hown rfl (C := "com/example/gangplank/gangplank/gang/Rows") (y := (⟨"com/example/gangplank/gangplank/gang/Rows", "add", "(Lcom/example/gangplank/gangplank/gang/Row;)V"⟩ : MethodName)) (rm := ({ frames := 1, cells := 0, slots := 0, locals := 13 } : Room)) (hw _ (List.mem_of_getElem? (i := 95) rfl)) (hw _ (List.mem_of_getElem? (i := 96) rfl)) (hw _ (List.mem_of_getElem? (i := 98) rfl)) (hw _ (List.mem_of_getElem? (i := 97) rfl)) (hw _ (List.mem_of_getElem? (i := 3) rfl)) (hw _ (List.mem_of_getElem? (i := 99) rfl)) (by decide) (a := b62) B133.1 (argsL := [(.ref b68)]) (rest := []) (own_rmAdd l Z a0 hw [] b62 sb b68 (1 : Int32) 1 _ _ T133.heap n0 ge62 gsb ge68 B133 F133 f134 hsb (Ne.symm ne69) (Ne.symm ne71) rfl (by decide)) (by rw [hml]; rfl) pd_11 rfl rfl (hb hby at_113) (W := 0) (Nat.le_of_eq rfl) (by decide) (by decide) (by decide) (by decide) ?_
    intro v135 T135 L135 X135 hQ135
    obtain ⟨rfl, N135q, K135q, B135, F135, R135⟩ := hQ135
    have K135 := K133.trans K135q (allS (Or.inr sz62) (allS (Or.inr szb) (allS (Or.inr sz68) all0)))
    have O135 := O133.keep K135q (allS ge62 (allS gsb (allS ge68 all0)))
    have N135 := Fr.app N133 N135q
    show own_Go p e below _ T135 (mkF m 116 #[.val (.int pk), .val (.int pa), .val (.int pb), .val (.int pc), .val (.int pd), .val (.int pm), .val (.int (4 : Int32)), .val (.ref b62), .val (.ref b64), .val (.ref b68), .val (.ref b75), .val (.ref b84), .unset, .unset] [])
    refine own_go (g' := (mkF m 118 #[.val (.int pk), .val (.int pa), .val (.int pb), .val (.int pc), .val (.int pd), .val (.int pm), .val (.int (4 : Int32)), .val (.ref b62), .val (.ref b64), .val (.ref b68), .val (.ref b75), .val (.ref b84), .unset, .unset] [(.int (4 : Int32))])) (fun _ k => XS.iload X135.here hx rfl (hb hby at_116) rfl k) ?_
    refine own_go (g' := (mkF m 119 #[.val (.int pk), .val (.int pa), .val (.int pb), .val (.int pc), .val (.int pd), .val (.int pm), .val (.int (4 : Int32)), .val (.ref b62), .val (.ref b64), .val (.ref b68), .val (.ref b75), .val (.ref b84), .unset, .unset] [(.int (3 : Int32)), (.int (4 : Int32))])) (fun _ k => XS.iconst X135.here hx rfl (hb hby at_118) k) ?_
    refine own_go (g' := (mkF m 122 #[.val (.int pk), .val (.int pa), .val (.int pb), .val (.int pc), .val (.int pd), .val (.int pm), .val (.int (4 : Int32)), .val (.ref b62), .val (.ref b64), .val (.ref b68), .val (.ref b75), .val (.ref b84), .unset, .unset] [])) (fun _ k => XS.icmpNo X135.here hx rfl (hb hby at_119) rfl (XT.ii_lt_f (by decide)) k) ?_
    refine own_go (g' := (mkF m 124 #[.val (.int pk), .val (.int pa), .val (.int pb), .val (.int pc), .val (.int pd), .val (.int pm), .val (.int (4 : Int32)), .val (.ref b62), .val (.ref b64), .val (.ref b68), .val (.ref b75), .val (.ref b84), .unset, .unset] [(.ref b62)])) (fun _ k => XS.aload X135.here hx rfl (hb hby at_122) rfl rfl k) ?_
    refine own_go (g' := (mkF m 126 #[.val (.int pk), .val (.int pa), .val (.int pb), .val (.int pc), .val (.int pd), .val (.int pm), .val (.int (4 : Int32)), .val (.ref b62), .val (.ref b64), .val (.ref b68), .val (.ref b75), .val (.ref b84), .unset, .unset] [(.ref b75), (.ref b62)])) (fun _ k => XS.aload X135.here hx rfl (hb hby at_124) rfl rfl k) ?_
    have f136 := (own_Ob_keep (own_Ob_keep (own_Ob_other B100 W102 ne93) K133q (ninS (Ne.symm ne76) (ninS (Ne.symm ne78) (ninS (Ne.symm ne80) nin0)))) K135q (ninS (Ne.symm ne76) (ninS (Ne.symm ne78) (ninS (Ne.symm ne82) nin0))))
    refine own_callV X135 hx hZ hown rfl (C := "com/example/gangplank/gangplank/gang/Rows") (y := (⟨"com/example/gangplank/gangplank/gang/Rows", "add", "(Lcom/example/gangplank/gangplank/gang/Row;)V"⟩ : MethodName)) (rm := ({ frames := 1, cells := 0, slots := 0, locals := 13 } : Room)) (hw _ (List.mem_of_getElem? (i := 95) rfl)) (hw _ (List.mem_of_getElem? (i := 96) rfl)) (hw _ (List.mem_of_getElem? (i := 98) rfl)) (hw _ (List.mem_of_getElem? (i := 97) rfl)) (hw _ (List.mem_of_getElem? (i := 3) rfl)) (hw _ (List.mem_of_getElem? (i := 99) rfl)) (by decide) (a := b62) B135.1 (argsL := [(.ref b75)]) (rest := []) (own_rmAdd l Z a0 hw [] b62 sb b75 (2 : Int32) 2 _ _ T135.heap n0 ge62 gsb ge75 B135 F135 f136 hsb (Ne.symm ne76) (Ne.symm ne78) rfl (by decide)) (by rw [hml]; rfl) pd_11 rfl rfl (hb hby at_126) (W := 0) (Nat.le_of_eq rfl) (by decide) (by decide) (by decide) (by decide) ?_
    intro v137 T137 L137 X137 hQ137
    obtain ⟨rfl, N137q, K137q, B137, F137, R137⟩ := hQ137
    have K137 := K135.trans K137q (allS (Or.inr sz62) (allS (Or.inr szb) (allS (Or.inr sz75) all0)))
    have O137 := O135.keep K137q (allS ge62 (allS gsb (allS ge75 all0)))
    have N137 := Fr.app N135 N137q
    show own_Go p e below _ T137 (mkF m 129 #[.val (.int pk), .val (.int pa), .val (.int pb), .val (.int pc), .val (.int pd), .val (.int pm), .val (.int (4 : Int32)), .val (.ref b62), .val (.ref b64), .val (.ref b68), .val (.ref b75), .val (.ref b84), .unset, .unset] [])
    refine own_go (g' := (mkF m 131 #[.val (.int pk), .val (.int pa), .val (.int pb), .val (.int pc), .val (.int pd), .val (.int pm), .val (.int (4 : Int32)), .val (.ref b62), .val (.ref b64), .val (.ref b68), .val (.ref b75), .val (.ref b84), .unset, .unset] [(.int (4 : Int32))])) (fun _ k => XS.iload X137.here hx rfl (hb hby at_129) rfl k) ?_
    refine own_go (g' := (mkF m 132 #[.val (.int pk), .val (.int pa), .val (.int pb), .val (.int pc), .val (.int pd), .val (.int pm), .val (.int (4 : Int32)), .val (.ref b62), .val (.ref b64), .val (.ref b68), .val (.ref b75), .val (.ref b84), .unset, .unset] [(.int (4 : Int32)), (.int (4 : Int32))])) (fun _ k => XS.iconst X137.here hx rfl (hb hby at_131) k) ?_
    refine own_go (g' := (mkF m 135 #[.val (.int pk), .val (.int pa), .val (.int pb), .val (.int pc), .val (.int pd), .val (.int pm), .val (.int (4 : Int32)), .val (.ref b62), .val (.ref b64), .val (.ref b68), .val (.ref b75), .val (.ref b84), .unset, .unset] [])) (fun _ k => XS.icmpNo X137.here hx rfl (hb hby at_132) rfl (XT.ii_lt_f (by decide)) k) ?_
    refine own_go (g' := (mkF m 137 #[.val (.int pk), .val (.int pa), .val (.int pb), .val (.int pc), .val (.int pd), .val (.int pm), .val (.int (4 : Int32)), .val (.ref b62), .val (.ref b64), .val (.ref b68), .val (.ref b75), .val (.ref b84), .unset, .unset] [(.ref b62)])) (fun _ k => XS.aload X137.here hx rfl (hb hby at_135) rfl rfl k) ?_
    refine own_go (g' := (mkF m 139 #[.val (.int pk), .val (.int pa), .val (.int pb), .val (.int pc), .val (.int pd), .val (.int pm), .val (.int (4 : Int32)), .val (.ref b62), .val (.ref b64), .val (.ref b68), .val (.ref b75), .val (.ref b84), .unset, .unset] [(.ref b84), (.ref b62)])) (fun _ k => XS.aload X137.here hx rfl (hb hby at_137) rfl rfl k) ?_
    have f138 := (own_Ob_keep (own_Ob_keep (own_Ob_keep B102 K133q (ninS (Ne.symm ne85) (ninS (Ne.symm ne87) (ninS (Ne.symm ne89) nin0)))) K135q (ninS (Ne.symm ne85) (ninS (Ne.symm ne87) (ninS (Ne.symm ne91) nin0)))) K137q (ninS (Ne.symm ne85) (ninS (Ne.symm ne87) (ninS (Ne.symm ne93) nin0))))
    refine own_callV X137 hx hZ hown rfl (C := "com/example/gangplank/gangplank/gang/Rows") (y := (⟨"com/example/gangplank/gangplank/gang/Rows", "add", "(Lcom/example/gangplank/gangplank/gang/Row;)V"⟩ : MethodName)) (rm := ({ frames := 1, cells := 0, slots := 0, locals := 13 } : Room)) (hw _ (List.mem_of_getElem? (i := 95) rfl)) (hw _ (List.mem_of_getElem? (i := 96) rfl)) (hw _ (List.mem_of_getElem? (i := 98) rfl)) (hw _ (List.mem_of_getElem? (i := 97) rfl)) (hw _ (List.mem_of_getElem? (i := 3) rfl)) (hw _ (List.mem_of_getElem? (i := 99) rfl)) (by decide) (a := b62) B137.1 (argsL := [(.ref b84)]) (rest := []) (own_rmAdd l Z a0 hw [] b62 sb b84 (3 : Int32) 3 _ _ T137.heap n0 ge62 gsb ge84 B137 F137 f138 hsb (Ne.symm ne85) (Ne.symm ne87) rfl (by decide)) (by rw [hml]; rfl) pd_11 rfl rfl (hb hby at_139) (W := 0) (Nat.le_of_eq rfl) (by decide) (by decide) (by decide) (by decide) ?_
    intro v139 T139 L139 X139 hQ139
    obtain ⟨rfl, N139q, K139q, B139, F139, R139⟩ := hQ139
    have K139 := K137.trans K139q (allS (Or.inr sz62) (allS (Or.inr szb) (allS (Or.inr sz84) all0)))
    have O139 := O137.keep K139q (allS ge62 (allS gsb (allS ge84 all0)))
    have N139 := Fr.app N137 N139q
    show own_Go p e below _ T139 (mkF m 142 #[.val (.int pk), .val (.int pa), .val (.int pb), .val (.int pc), .val (.int pd), .val (.int pm), .val (.int (4 : Int32)), .val (.ref b62), .val (.ref b64), .val (.ref b68), .val (.ref b75), .val (.ref b84), .unset, .unset] [])
    refine own_go (g' := (mkF m 143 #[.val (.int pk), .val (.int pa), .val (.int pb), .val (.int pc), .val (.int pd), .val (.int pm), .val (.int (4 : Int32)), .val (.ref b62), .val (.ref b64), .val (.ref b68), .val (.ref b75), .val (.ref b84), .unset, .unset] [.null])) (fun _ k => XS.aconstNull X139.here hx rfl (hb hby at_142) k) ?_
    refine own_go (g' := (mkF m 145 #[.val (.int pk), .val (.int pa), .val (.int pb), .val (.int pc), .val (.int pd), .val (.int pm), .val (.int (4 : Int32)), .val (.ref b62), .val (.ref b64), .val (.ref b68), .val (.ref b75), .val (.ref b84), .val .null, .unset] [])) (fun _ k => XS.astore X139.here hx rfl (hb hby at_143) rfl rfl (l' := #[.val (.int pk), .val (.int pa), .val (.int pb), .val (.int pc), .val (.int pd), .val (.int pm), .val (.int (4 : Int32)), .val (.ref b62), .val (.ref b64), .val (.ref b68), .val (.ref b75), .val (.ref b84), .val .null, .unset]) rfl k) ?_
    refine own_go (g' := (mkF m 147 #[.val (.int pk), .val (.int pa), .val (.int pb), .val (.int pc), .val (.int pd), .val (.int pm), .val (.int (4 : Int32)), .val (.ref b62), .val (.ref b64), .val (.ref b68), .val (.ref b75), .val (.ref b84), .val .null, .unset] [(.int (4 : Int32))])) (fun _ k => XS.iload X139.here hx rfl (hb hby at_145) rfl k) ?_
    refine own_go (g' := (mkF m 148 #[.val (.int pk), .val (.int pa), .val (.int pb), .val (.int pc), .val (.int pd), .val (.int pm), .val (.int (4 : Int32)), .val (.ref b62), .val (.ref b64), .val (.ref b68), .val (.ref b75), .val (.ref b84), .val .null, .unset] [(.int (1 : Int32)), (.int (4 : Int32))])) (fun _ k => XS.iconst X139.here hx rfl (hb hby at_147) k) ?_
    suffices J : ∀ ev : Value, ev.isRef = true → ev = own_fst (own_us pa pb pc pd) (own_rs b64 b68 b75 b84) pm 4 0 → own_Go p e below (own_Po s (own_Q0 n0) 48 320) T139 (mkF m 219 #[.val (.int pk), .val (.int pa), .val (.int pb), .val (.int pc), .val (.int pd), .val (.int pm), .val (.int (4 : Int32)), .val (.ref b62), .val (.ref b64), .val (.ref b68), .val (.ref b75), .val (.ref b84), .val ev, .unset] []) by
      refine own_go (g' := (mkF m 151 #[.val (.int pk), .val (.int pa), .val (.int pb), .val (.int pc), .val (.int pd), .val (.int pm), .val (.int (4 : Int32)), .val (.ref b62), .val (.ref b64), .val (.ref b68), .val (.ref b75), .val (.ref b84), .val .null, .unset] [])) (fun _ k => XS.icmpNo X139.here hx rfl (hb hby at_148) rfl (XT.ii_lt_f (by decide)) k) ?_
      refine own_go (g' := (mkF m 152 #[.val (.int pk), .val (.int pa), .val (.int pb), .val (.int pc), .val (.int pd), .val (.int pm), .val (.int (4 : Int32)), .val (.ref b62), .val (.ref b64), .val (.ref b68), .val (.ref b75), .val (.ref b84), .val .null, .unset] [(.int pa)])) (fun _ k => XS.iloadN X139.here hx rfl (hb hby at_151) rfl k) ?_
      refine own_go (g' := (mkF m 154 #[.val (.int pk), .val (.int pa), .val (.int pb), .val (.int pc), .val (.int pd), .val (.int pm), .val (.int (4 : Int32)), .val (.ref b62), .val (.ref b64), .val (.ref b68), .val (.ref b75), .val (.ref b84), .val .null, .unset] [(.int pm), (.int pa)])) (fun _ k => XS.iload X139.here hx rfl (hb hby at_152) rfl k) ?_
      by_cases cu0 : pm < pa
      · refine own_go (g' := (mkF m 164 #[.val (.int pk), .val (.int pa), .val (.int pb), .val (.int pc), .val (.int pd), .val (.int pm), .val (.int (4 : Int32)), .val (.ref b62), .val (.ref b64), .val (.ref b68), .val (.ref b75), .val (.ref b84), .val .null, .unset] [])) (fun _ k => XS.icmpYes X139.here hx rfl (pc0 := 154) (pc' := 164) rfl (hb hby at_154) rfl (XT.ii_gt_t cu0) (by decide) (by decide) k) ?_
        refine own_go (g' := (mkF m 166 #[.val (.int pk), .val (.int pa), .val (.int pb), .val (.int pc), .val (.int pd), .val (.int pm), .val (.int (4 : Int32)), .val (.ref b62), .val (.ref b64), .val (.ref b68), .val (.ref b75), .val (.ref b84), .val .null, .unset] [(.int (4 : Int32))])) (fun _ k => XS.iload X139.here hx rfl (hb hby at_164) rfl k) ?_
        refine own_go (g' := (mkF m 167 #[.val (.int pk), .val (.int pa), .val (.int pb), .val (.int pc), .val (.int pd), .val (.int pm), .val (.int (4 : Int32)), .val (.ref b62), .val (.ref b64), .val (.ref b68), .val (.ref b75), .val (.ref b84), .val .null, .unset] [(.int (2 : Int32)), (.int (4 : Int32))])) (fun _ k => XS.iconst X139.here hx rfl (hb hby at_166) k) ?_
        refine own_go (g' := (mkF m 170 #[.val (.int pk), .val (.int pa), .val (.int pb), .val (.int pc), .val (.int pd), .val (.int pm), .val (.int (4 : Int32)), .val (.ref b62), .val (.ref b64), .val (.ref b68), .val (.ref b75), .val (.ref b84), .val .null, .unset] [])) (fun _ k => XS.icmpNo X139.here hx rfl (hb hby at_167) rfl (XT.ii_lt_f (by decide)) k) ?_
        refine own_go (g' := (mkF m 171 #[.val (.int pk), .val (.int pa), .val (.int pb), .val (.int pc), .val (.int pd), .val (.int pm), .val (.int (4 : Int32)), .val (.ref b62), .val (.ref b64), .val (.ref b68), .val (.ref b75), .val (.ref b84), .val .null, .unset] [(.int pb)])) (fun _ k => XS.iloadN X139.here hx rfl (hb hby at_170) rfl k) ?_
        refine own_go (g' := (mkF m 173 #[.val (.int pk), .val (.int pa), .val (.int pb), .val (.int pc), .val (.int pd), .val (.int pm), .val (.int (4 : Int32)), .val (.ref b62), .val (.ref b64), .val (.ref b68), .val (.ref b75), .val (.ref b84), .val .null, .unset] [(.int pm), (.int pb)])) (fun _ k => XS.iload X139.here hx rfl (hb hby at_171) rfl k) ?_
        by_cases cu1 : pm < pb
        · refine own_go (g' := (mkF m 183 #[.val (.int pk), .val (.int pa), .val (.int pb), .val (.int pc), .val (.int pd), .val (.int pm), .val (.int (4 : Int32)), .val (.ref b62), .val (.ref b64), .val (.ref b68), .val (.ref b75), .val (.ref b84), .val .null, .unset] [])) (fun _ k => XS.icmpYes X139.here hx rfl (pc0 := 173) (pc' := 183) rfl (hb hby at_173) rfl (XT.ii_gt_t cu1) (by decide) (by decide) k) ?_
          refine own_go (g' := (mkF m 185 #[.val (.int pk), .val (.int pa), .val (.int pb), .val (.int pc), .val (.int pd), .val (.int pm), .val (.int (4 : Int32)), .val (.ref b62), .val (.ref b64), .val (.ref b68), .val (.ref b75), .val (.ref b84), .val .null, .unset] [(.int (4 : Int32))])) (fun _ k => XS.iload X139.here hx rfl (hb hby at_183) rfl k) ?_
          refine own_go (g' := (mkF m 186 #[.val (.int pk), .val (.int pa), .val (.int pb), .val (.int pc), .val (.int pd), .val (.int pm), .val (.int (4 : Int32)), .val (.ref b62), .val (.ref b64), .val (.ref b68), .val (.ref b75), .val (.ref b84), .val .null, .unset] [(.int (3 : Int32)), (.int (4 : Int32))])) (fun _ k => XS.iconst X139.here hx rfl (hb hby at_185) k) ?_
          refine own_go (g' := (mkF m 189 #[.val (.int pk), .val (.int pa), .val (.int pb), .val (.int pc), .val (.int pd), .val (.int pm), .val (.int (4 : Int32)), .val (.ref b62), .val (.ref b64), .val (.ref b68), .val (.ref b75), .val (.ref b84), .val .null, .unset] [])) (fun _ k => XS.icmpNo X139.here hx rfl (hb hby at_186) rfl (XT.ii_lt_f (by decide)) k) ?_
          refine own_go (g' := (mkF m 190 #[.val (.int pk), .val (.int pa), .val (.int pb), .val (.int pc), .val (.int pd), .val (.int pm), .val (.int (4 : Int32)), .val (.ref b62), .val (.ref b64), .val (.ref b68), .val (.ref b75), .val (.ref b84), .val .null, .unset] [(.int pc)])) (fun _ k => XS.iloadN X139.here hx rfl (hb hby at_189) rfl k) ?_
          refine own_go (g' := (mkF m 192 #[.val (.int pk), .val (.int pa), .val (.int pb), .val (.int pc), .val (.int pd), .val (.int pm), .val (.int (4 : Int32)), .val (.ref b62), .val (.ref b64), .val (.ref b68), .val (.ref b75), .val (.ref b84), .val .null, .unset] [(.int pm), (.int pc)])) (fun _ k => XS.iload X139.here hx rfl (hb hby at_190) rfl k) ?_
          by_cases cu2 : pm < pc
          · refine own_go (g' := (mkF m 202 #[.val (.int pk), .val (.int pa), .val (.int pb), .val (.int pc), .val (.int pd), .val (.int pm), .val (.int (4 : Int32)), .val (.ref b62), .val (.ref b64), .val (.ref b68), .val (.ref b75), .val (.ref b84), .val .null, .unset] [])) (fun _ k => XS.icmpYes X139.here hx rfl (pc0 := 192) (pc' := 202) rfl (hb hby at_192) rfl (XT.ii_gt_t cu2) (by decide) (by decide) k) ?_
            refine own_go (g' := (mkF m 204 #[.val (.int pk), .val (.int pa), .val (.int pb), .val (.int pc), .val (.int pd), .val (.int pm), .val (.int (4 : Int32)), .val (.ref b62), .val (.ref b64), .val (.ref b68), .val (.ref b75), .val (.ref b84), .val .null, .unset] [(.int (4 : Int32))])) (fun _ k => XS.iload X139.here hx rfl (hb hby at_202) rfl k) ?_
            refine own_go (g' := (mkF m 205 #[.val (.int pk), .val (.int pa), .val (.int pb), .val (.int pc), .val (.int pd), .val (.int pm), .val (.int (4 : Int32)), .val (.ref b62), .val (.ref b64), .val (.ref b68), .val (.ref b75), .val (.ref b84), .val .null, .unset] [(.int (4 : Int32)), (.int (4 : Int32))])) (fun _ k => XS.iconst X139.here hx rfl (hb hby at_204) k) ?_
            refine own_go (g' := (mkF m 208 #[.val (.int pk), .val (.int pa), .val (.int pb), .val (.int pc), .val (.int pd), .val (.int pm), .val (.int (4 : Int32)), .val (.ref b62), .val (.ref b64), .val (.ref b68), .val (.ref b75), .val (.ref b84), .val .null, .unset] [])) (fun _ k => XS.icmpNo X139.here hx rfl (hb hby at_205) rfl (XT.ii_lt_f (by decide)) k) ?_
            refine own_go (g' := (mkF m 210 #[.val (.int pk), .val (.int pa), .val (.int pb), .val (.int pc), .val (.int pd), .val (.int pm), .val (.int (4 : Int32)), .val (.ref b62), .val (.ref b64), .val (.ref b68), .val (.ref b75), .val (.ref b84), .val .null, .unset] [(.int pd)])) (fun _ k => XS.iload X139.here hx rfl (hb hby at_208) rfl k) ?_
            refine own_go (g' := (mkF m 212 #[.val (.int pk), .val (.int pa), .val (.int pb), .val (.int pc), .val (.int pd), .val (.int pm), .val (.int (4 : Int32)), .val (.ref b62), .val (.ref b64), .val (.ref b68), .val (.ref b75), .val (.ref b84), .val .null, .unset] [(.int pm), (.int pd)])) (fun _ k => XS.iload X139.here hx rfl (hb hby at_210) rfl k) ?_
            by_cases cu3 : pm < pd
            · refine own_go (g' := (mkF m 219 #[.val (.int pk), .val (.int pa), .val (.int pb), .val (.int pc), .val (.int pd), .val (.int pm), .val (.int (4 : Int32)), .val (.ref b62), .val (.ref b64), .val (.ref b68), .val (.ref b75), .val (.ref b84), .val .null, .unset] [])) (fun _ k => XS.icmpYes X139.here hx rfl (pc0 := 212) (pc' := 219) rfl (hb hby at_212) rfl (XT.ii_gt_t cu3) (by decide) (by decide) k) ?_
              exact J _ rfl (by simp [own_fst, own_us, own_rs, cu0, cu1, cu2, cu3])
            · refine own_go (g' := (mkF m 215 #[.val (.int pk), .val (.int pa), .val (.int pb), .val (.int pc), .val (.int pd), .val (.int pm), .val (.int (4 : Int32)), .val (.ref b62), .val (.ref b64), .val (.ref b68), .val (.ref b75), .val (.ref b84), .val .null, .unset] [])) (fun _ k => XS.icmpNo X139.here hx rfl (hb hby at_212) rfl (XT.ii_gt_f cu3) k) ?_
              refine own_go (g' := (mkF m 217 #[.val (.int pk), .val (.int pa), .val (.int pb), .val (.int pc), .val (.int pd), .val (.int pm), .val (.int (4 : Int32)), .val (.ref b62), .val (.ref b64), .val (.ref b68), .val (.ref b75), .val (.ref b84), .val .null, .unset] [(.ref b84)])) (fun _ k => XS.aload X139.here hx rfl (hb hby at_215) rfl rfl k) ?_
              refine own_go (g' := (mkF m 219 #[.val (.int pk), .val (.int pa), .val (.int pb), .val (.int pc), .val (.int pd), .val (.int pm), .val (.int (4 : Int32)), .val (.ref b62), .val (.ref b64), .val (.ref b68), .val (.ref b75), .val (.ref b84), .val (.ref b84), .unset] [])) (fun _ k => XS.astore X139.here hx rfl (hb hby at_217) rfl rfl (l' := #[.val (.int pk), .val (.int pa), .val (.int pb), .val (.int pc), .val (.int pd), .val (.int pm), .val (.int (4 : Int32)), .val (.ref b62), .val (.ref b64), .val (.ref b68), .val (.ref b75), .val (.ref b84), .val (.ref b84), .unset]) rfl k) ?_
              exact J _ rfl (by simp [own_fst, own_us, own_rs, cu0, cu1, cu2, cu3])
          · refine own_go (g' := (mkF m 195 #[.val (.int pk), .val (.int pa), .val (.int pb), .val (.int pc), .val (.int pd), .val (.int pm), .val (.int (4 : Int32)), .val (.ref b62), .val (.ref b64), .val (.ref b68), .val (.ref b75), .val (.ref b84), .val .null, .unset] [])) (fun _ k => XS.icmpNo X139.here hx rfl (hb hby at_192) rfl (XT.ii_gt_f cu2) k) ?_
            refine own_go (g' := (mkF m 197 #[.val (.int pk), .val (.int pa), .val (.int pb), .val (.int pc), .val (.int pd), .val (.int pm), .val (.int (4 : Int32)), .val (.ref b62), .val (.ref b64), .val (.ref b68), .val (.ref b75), .val (.ref b84), .val .null, .unset] [(.ref b75)])) (fun _ k => XS.aload X139.here hx rfl (hb hby at_195) rfl rfl k) ?_
            refine own_go (g' := (mkF m 199 #[.val (.int pk), .val (.int pa), .val (.int pb), .val (.int pc), .val (.int pd), .val (.int pm), .val (.int (4 : Int32)), .val (.ref b62), .val (.ref b64), .val (.ref b68), .val (.ref b75), .val (.ref b84), .val (.ref b75), .unset] [])) (fun _ k => XS.astore X139.here hx rfl (hb hby at_197) rfl rfl (l' := #[.val (.int pk), .val (.int pa), .val (.int pb), .val (.int pc), .val (.int pd), .val (.int pm), .val (.int (4 : Int32)), .val (.ref b62), .val (.ref b64), .val (.ref b68), .val (.ref b75), .val (.ref b84), .val (.ref b75), .unset]) rfl k) ?_
            refine own_go (g' := (mkF m 219 #[.val (.int pk), .val (.int pa), .val (.int pb), .val (.int pc), .val (.int pd), .val (.int pm), .val (.int (4 : Int32)), .val (.ref b62), .val (.ref b64), .val (.ref b68), .val (.ref b75), .val (.ref b84), .val (.ref b75), .unset] [])) (fun _ k => XS.goto X139.here hx rfl (pc0 := 199) (pc' := 219) rfl (hb hby at_199) (by decide) (by decide) k) ?_
            exact J _ rfl (by simp [own_fst, own_us, own_rs, cu0, cu1, cu2])
        · refine own_go (g' := (mkF m 176 #[.val (.int pk), .val (.int pa), .val (.int pb), .val (.int pc), .val (.int pd), .val (.int pm), .val (.int (4 : Int32)), .val (.ref b62), .val (.ref b64), .val (.ref b68), .val (.ref b75), .val (.ref b84), .val .null, .unset] [])) (fun _ k => XS.icmpNo X139.here hx rfl (hb hby at_173) rfl (XT.ii_gt_f cu1) k) ?_
          refine own_go (g' := (mkF m 178 #[.val (.int pk), .val (.int pa), .val (.int pb), .val (.int pc), .val (.int pd), .val (.int pm), .val (.int (4 : Int32)), .val (.ref b62), .val (.ref b64), .val (.ref b68), .val (.ref b75), .val (.ref b84), .val .null, .unset] [(.ref b68)])) (fun _ k => XS.aload X139.here hx rfl (hb hby at_176) rfl rfl k) ?_
          refine own_go (g' := (mkF m 180 #[.val (.int pk), .val (.int pa), .val (.int pb), .val (.int pc), .val (.int pd), .val (.int pm), .val (.int (4 : Int32)), .val (.ref b62), .val (.ref b64), .val (.ref b68), .val (.ref b75), .val (.ref b84), .val (.ref b68), .unset] [])) (fun _ k => XS.astore X139.here hx rfl (hb hby at_178) rfl rfl (l' := #[.val (.int pk), .val (.int pa), .val (.int pb), .val (.int pc), .val (.int pd), .val (.int pm), .val (.int (4 : Int32)), .val (.ref b62), .val (.ref b64), .val (.ref b68), .val (.ref b75), .val (.ref b84), .val (.ref b68), .unset]) rfl k) ?_
          refine own_go (g' := (mkF m 219 #[.val (.int pk), .val (.int pa), .val (.int pb), .val (.int pc), .val (.int pd), .val (.int pm), .val (.int (4 : Int32)), .val (.ref b62), .val (.ref b64), .val (.ref b68), .val (.ref b75), .val (.ref b84), .val (.ref b68), .unset] [])) (fun _ k => XS.goto X139.here hx rfl (pc0 := 180) (pc' := 219) rfl (hb hby at_180) (by decide) (by decide) k) ?_
          exact J _ rfl (by simp [own_fst, own_us, own_rs, cu0, cu1])
      · refine own_go (g' := (mkF m 157 #[.val (.int pk), .val (.int pa), .val (.int pb), .val (.int pc), .val (.int pd), .val (.int pm), .val (.int (4 : Int32)), .val (.ref b62), .val (.ref b64), .val (.ref b68), .val (.ref b75), .val (.ref b84), .val .null, .unset] [])) (fun _ k => XS.icmpNo X139.here hx rfl (hb hby at_154) rfl (XT.ii_gt_f cu0) k) ?_
        refine own_go (g' := (mkF m 159 #[.val (.int pk), .val (.int pa), .val (.int pb), .val (.int pc), .val (.int pd), .val (.int pm), .val (.int (4 : Int32)), .val (.ref b62), .val (.ref b64), .val (.ref b68), .val (.ref b75), .val (.ref b84), .val .null, .unset] [(.ref b64)])) (fun _ k => XS.aload X139.here hx rfl (hb hby at_157) rfl rfl k) ?_
        refine own_go (g' := (mkF m 161 #[.val (.int pk), .val (.int pa), .val (.int pb), .val (.int pc), .val (.int pd), .val (.int pm), .val (.int (4 : Int32)), .val (.ref b62), .val (.ref b64), .val (.ref b68), .val (.ref b75), .val (.ref b84), .val (.ref b64), .unset] [])) (fun _ k => XS.astore X139.here hx rfl (hb hby at_159) rfl rfl (l' := #[.val (.int pk), .val (.int pa), .val (.int pb), .val (.int pc), .val (.int pd), .val (.int pm), .val (.int (4 : Int32)), .val (.ref b62), .val (.ref b64), .val (.ref b68), .val (.ref b75), .val (.ref b84), .val (.ref b64), .unset]) rfl k) ?_
        refine own_go (g' := (mkF m 219 #[.val (.int pk), .val (.int pa), .val (.int pb), .val (.int pc), .val (.int pd), .val (.int pm), .val (.int (4 : Int32)), .val (.ref b62), .val (.ref b64), .val (.ref b68), .val (.ref b75), .val (.ref b84), .val (.ref b64), .unset] [])) (fun _ k => XS.goto X139.here hx rfl (pc0 := 161) (pc' := 219) rfl (hb hby at_161) (by decide) (by decide) k) ?_
        exact J _ rfl (by simp [own_fst, own_us, own_rs, cu0])
    intro ev ev_ref hev
    refine own_go (g' := (mkF m 221 #[.val (.int pk), .val (.int pa), .val (.int pb), .val (.int pc), .val (.int pd), .val (.int pm), .val (.int (4 : Int32)), .val (.ref b62), .val (.ref b64), .val (.ref b68), .val (.ref b75), .val (.ref b84), .val ev, .unset] [(.ref b62)])) (fun _ k => XS.aload X139.here hx rfl (hb hby at_219) rfl rfl k) ?_
    refine own_go (g' := (mkF m 223 #[.val (.int pk), .val (.int pa), .val (.int pb), .val (.int pc), .val (.int pd), .val (.int pm), .val (.int (4 : Int32)), .val (.ref b62), .val (.ref b64), .val (.ref b68), .val (.ref b75), .val (.ref b84), .val ev, .unset] [(.int pm), (.ref b62)])) (fun _ k => XS.iload X139.here hx rfl (hb hby at_221) rfl k) ?_
    have f140 := (own_Ob_keep (own_Ob_keep (own_Ob_keep R133 K135q (ninS (Ne.symm ne65) (ninS (Ne.symm ne66) (ninS ne73 nin0)))) K137q (ninS (Ne.symm ne65) (ninS (Ne.symm ne66) (ninS ne80 nin0)))) K139q (ninS (Ne.symm ne65) (ninS (Ne.symm ne66) (ninS ne89 nin0))))
    have f141 := (own_Ob_keep (own_Ob_keep R135 K137q (ninS (Ne.symm ne69) (ninS (Ne.symm ne71) (ninS ne82 nin0)))) K139q (ninS (Ne.symm ne69) (ninS (Ne.symm ne71) (ninS ne91 nin0))))
    have f142 := (own_Ob_keep R137 K139q (ninS (Ne.symm ne76) (ninS (Ne.symm ne78) (ninS ne93 nin0))))
    refine own_callV X139 hx hZ hown rfl (C := "com/example/gangplank/gangplank/gang/Rows") (y := (⟨"com/example/gangplank/gangplank/gang/Rows", "firstHoldingAtMost", "(I)Lcom/example/gangplank/gangplank/gang/Row;"⟩ : MethodName)) (rm := ({ frames := 0, cells := 0, slots := 0, locals := 0 } : Room)) (hw _ (List.mem_of_getElem? (i := 86) rfl)) (hw _ (List.mem_of_getElem? (i := 87) rfl)) (hw _ (List.mem_of_getElem? (i := 89) rfl)) (hw _ (List.mem_of_getElem? (i := 88) rfl)) (hw _ (List.mem_of_getElem? (i := 3) rfl)) (hw _ (List.mem_of_getElem? (i := 90) rfl)) (by decide) (a := b62) B139.1 (argsL := [(.int pm)]) (rest := []) (own_rmF l Z a0 hw [] b62 sb (4 : Int32) pm _ (own_rs b64 b68 b75 b84) (own_us pa pb pc pd) 4 T139.heap n0 B139 F139 rfl (by decide) (fun i hi => by match i, hi with | 0, _ => rfl | 1, _ => rfl | 2, _ => rfl | 3, _ => rfl) (fun i hi => by match i, hi with | 0, _ => exact own_Ob_fld f140 5 rfl | 1, _ => exact own_Ob_fld f141 5 rfl | 2, _ => exact own_Ob_fld f142 5 rfl | 3, _ => exact own_Ob_fld R139 5 rfl)) (by rw [hml]; rfl) pd_10 rfl rfl (hb hby at_223) (W := 0) (Nat.le_of_eq rfl) (by decide) (by decide) (by decide) (by decide) ?_
    intro v143 T143 L143 X143 hQ143
    obtain ⟨rfl, e143, rfl⟩ := hQ143
    rw [List.append_nil] at X143
    show own_Go p e below _ T143 (mkF m 226 #[.val (.int pk), .val (.int pa), .val (.int pb), .val (.int pc), .val (.int pd), .val (.int pm), .val (.int (4 : Int32)), .val (.ref b62), .val (.ref b64), .val (.ref b68), .val (.ref b75), .val (.ref b84), .val ev, .unset] [(own_fst (own_us pa pb pc pd) (own_rs b64 b68 b75 b84) pm 4 0)])
    rw [← hev]
    show own_Go p e below _ T143 (mkF m 226 #[.val (.int pk), .val (.int pa), .val (.int pb), .val (.int pc), .val (.int pd), .val (.int pm), .val (.int (4 : Int32)), .val (.ref b62), .val (.ref b64), .val (.ref b68), .val (.ref b75), .val (.ref b84), .val ev, .unset] [ev])
    refine own_go (g' := (mkF m 228 #[.val (.int pk), .val (.int pa), .val (.int pb), .val (.int pc), .val (.int pd), .val (.int pm), .val (.int (4 : Int32)), .val (.ref b62), .val (.ref b64), .val (.ref b68), .val (.ref b75), .val (.ref b84), .val ev, .val ev] [])) (fun _ k => XS.astoreS X143.here hx rfl (hb hby at_226) rfl ev_ref (XT.cat1 ev_ref) rfl (Or.inl rfl) k) ?_
    refine own_go (g' := (mkF m 230 #[.val (.int pk), .val (.int pa), .val (.int pb), .val (.int pc), .val (.int pd), .val (.int pm), .val (.int (4 : Int32)), .val (.ref b62), .val (.ref b64), .val (.ref b68), .val (.ref b75), .val (.ref b84), .val ev, .val ev] [ev])) (fun _ k => XS.aload X143.here hx rfl (hb hby at_228) rfl (ev_ref) k) ?_
    refine own_go (g' := (mkF m 232 #[.val (.int pk), .val (.int pa), .val (.int pb), .val (.int pc), .val (.int pd), .val (.int pm), .val (.int (4 : Int32)), .val (.ref b62), .val (.ref b64), .val (.ref b68), .val (.ref b75), .val (.ref b84), .val ev, .val ev] [ev, ev])) (fun _ k => XS.aload X143.here hx rfl (hb hby at_230) rfl (ev_ref) k) ?_
    refine own_go (g' := (mkF m 235 #[.val (.int pk), .val (.int pa), .val (.int pb), .val (.int pc), .val (.int pd), .val (.int pm), .val (.int (4 : Int32)), .val (.ref b62), .val (.ref b64), .val (.ref b68), .val (.ref b75), .val (.ref b84), .val ev, .val ev] [])) (fun _ k => XT.acmpNo X143.here hx rfl (hb hby at_232) rfl ev_ref ev_ref (XT.aa_ne_f rfl) k) ?_
    refine own_go (g' := (mkF m 236 #[.val (.int pk), .val (.int pa), .val (.int pb), .val (.int pc), .val (.int pd), .val (.int pm), .val (.int (4 : Int32)), .val (.ref b62), .val (.ref b64), .val (.ref b68), .val (.ref b75), .val (.ref b84), .val ev, .val ev] [(.int (1 : Int32))])) (fun _ k => XS.iconst X143.here hx rfl (hb hby at_235) k) ?_
    refine own_go (g' := (mkF m 240 #[.val (.int pk), .val (.int pa), .val (.int pb), .val (.int pc), .val (.int pd), .val (.int pm), .val (.int (4 : Int32)), .val (.ref b62), .val (.ref b64), .val (.ref b68), .val (.ref b75), .val (.ref b84), .val ev, .val ev] [(.int (1 : Int32))])) (fun _ k => XS.goto X143.here hx rfl (pc0 := 236) (pc' := 240) rfl (hb hby at_236) (by decide) (by decide) k) ?_
    exact own_retZ X143 hx hlk hret e143 (hb hby at_240) ⟨rfl, N139⟩ (by decide) (by decide)
set_option maxRecDepth 65536 in
set_option maxHeartbeats 40000000 in
theorem comes_1 {Post : Tables → Env → Array Value → State → Outcome → State → Prop} (hpost : ∀ tb e args s v u, (limb_1_1.after args s (.returned v) u = true ∧ limb_1_2.after args s (.returned v) u = true ∧ True) → FrameEnd s (.returned v) u (Jvm.fieldLocs frame_1_writes args s ++ Jvm.arrayLocs frame_1_arrays args s ++ Jvm.staticLocs frame_1_statics s) 48 320 → Post tb e args s (.returned v) u) :
    ArmFor flags0 classFile x code maxLocals ret World_1 tables_1 room_1 Calls_1 rest_1 Pre_1 Post := by
  intro l hfl _ _ p e ha hc hk s m args below hf hA hF happ hP
  obtain ⟨hcalls, hrest, hpre⟩ := hP
  obtain ⟨-, -, -, hnamed, -, -, -, hat⟩ := (Spec.applies_iff hf).mp happ
  obtain ⟨hg, hn⟩ := and_e (Cond.before_iff.mp (show (Jvm.Cond.and given_1 narrow_1).before args s = true from hpre))
  obtain ⟨h1, g0⟩ := and_e hg
  obtain ⟨k0, g1⟩ := and_e g0
  obtain ⟨k1, g2⟩ := and_e g1
  obtain ⟨k2, g3⟩ := and_e g2
  obtain ⟨k3, g4⟩ := and_e g3
  obtain ⟨k4, g5⟩ := and_e g4
  have k5 := g5
  obtain ⟨w0, w1, w2, w3, w4, w5, rfl⟩ : ∃ w0 w1 w2 w3 w4 w5 : Value, args = #[w0, w1, w2, w3, w4, w5] := by
    have hs : args.size = 6 := by simpa [Cond.value, given_1] using h1
    obtain ⟨L⟩ := args
    match L, hs with
    | [w0, w1, w2, w3, w4, w5], _ => exact ⟨w0, w1, w2, w3, w4, w5, rfl⟩
  have hw := fun d (hd : d ∈ tables_1) => atoms_spec (ws := Jvm.Cond.code x code maxLocals ret :: tables_1) hat d (List.mem_cons_of_mem _ hd)
  obtain ⟨i0, e0⟩ := is_v k0
  obtain rfl : w0 = (.int i0) := Option.some.inj e0
  obtain ⟨i1, e1⟩ := is_v k1
  obtain rfl : w1 = (.int i1) := Option.some.inj e1
  obtain ⟨i2, e2⟩ := is_v k2
  obtain rfl : w2 = (.int i2) := Option.some.inj e2
  obtain ⟨i3, e3⟩ := is_v k3
  obtain rfl : w3 = (.int i3) := Option.some.inj e3
  obtain ⟨i4, e4⟩ := is_v k4
  obtain rfl : w4 = (.int i4) := Option.some.inj e4
  obtain ⟨i5, e5⟩ := is_v k5
  obtain rfl : w5 = (.int i5) := Option.some.inj e5
  obtain ⟨hsets, hown0⟩ := atoms_of _ (rest_1_c_eq ▸ (show rest_1_c.before _ s = true from hrest))
  obtain ⟨sv, esv⟩ := arr_v (Cond.before_iff.mp (hsets _ (List.mem_of_getElem? (i := 6) rfl)))
  have S0 : Sta s s.heap "java/util/ArrayList" "DEFAULTCAPACITY_EMPTY_ELEMENTDATA" "[Ljava/lang/Object;" (.ref sv) := Sta.start esv (Or.inr ⟨(hw _ (List.mem_of_getElem? (i := 59) rfl)), hsets _ (List.mem_of_getElem? (i := 2) rfl)⟩)
  obtain ⟨n, o, h1, h2, h3, _, L, rfl, ⟨rfl, N⟩, hq⟩ := own_rm0 l s _ hw tables_1 i0 i1 i2 i3 i4 i5 sv s.heap s.heap.size (Nat.le_refl _) (Old.start s) S0 p e ha hc hk s m _ below hf ((Spec.applies_iff_loose hf).mp happ).1 ⟨rfl, State.Warmed39.refl s, rfl⟩ trivial
  refine ⟨n, _, h1, h2, h3, hpost _ _ _ _ _ _ ⟨Cond.after_iff.mpr rfl, Cond.after_iff.mpr (eq_i res_at (Term.int_eval (1)) rfl), trivial⟩ ⟨hq.1, hq.2.1, (hq.2.2.sift fun y hy => Or.inr (N y hy)).mono (by decide) (by decide)⟩⟩
theorem main_1_1 : Claimed_1_1 := comes_1 fun _ _ _ _ _ _ h hF => ⟨h.1, wide hF⟩
theorem main_1_2 : Claimed_1_2 := comes_1 fun _ _ _ _ _ _ h hF => ⟨h.2.1, wide hF⟩
end Jvm.Pilot.@@N@@
namespace Jvm.Pilot.@@N@@
open Jvm Jvm.ClassFile Sem Op Lib Jvm.Free Jvm.Stand Jvm.Pilot.@@N@@.Jvm.D
/-! MADE BY PROGRAM (witnessworld.py) out of the Statement's table words and the real class files: 25 classes; the members and pool entries that the words name. The judged class is class 1, her method 1. -/
namespace start1
open Jvm.ClassFile
def u (s : String) : CpInfo := .utf8 (stringToUtf16 s)
/-- a pool by its gaps: so many unusable entries, then the entry; so many at the end -/
def gap : Nat → List CpInfo → List CpInfo
  | 0, r => r
  | n + 1, r => .unusable :: gap n r
def poolList (es : List (Nat × CpInfo)) (last : Nat) : List CpInfo := es.foldr (fun e r => gap e.1 (e.2 :: r)) (gap last [])
def pool (es : List (Nat × CpInfo)) (last : Nat) : Array CpInfo := ⟨poolList es last⟩
def fileOf (pool : Array CpInfo) (this : Nat) (attrs : Array Attribute := #[]) (ms : Array MethodInfo := #[]) (fl : Nat := 33) (sup : Nat := 0) (ifs : Array Nat := #[]) (fds : Array FieldInfo := #[]) : ClassFile where
  minorVersion := 0
  majorVersion := 65
  constantPool := pool
  accessFlags := fl
  thisClass := this
  superClass := sup
  interfaces := ifs
  fields := fds
  methods := ms
  attributes := attrs
def plain (name : String) (sup : Option ClassId) : Class where
  name := name
  kind := .ordinary
  loader := none
  accessFlags := 33
  super := sup
  interfaces := #[]
  cf := none
  fields := #[]
  methods := #[]
  instanceTypes := #[]
  staticTypes := #[]
  resolved := #[]
  callSites := []
  init := .initialized
  statics := none
  mirror := none

def pool0 : Array CpInfo := pool [(5, u "<init>"), (0, u "()V"), (1, .class_ 10), (1, u "java/lang/Object")] 113

def k0c0 : Code := { maxStack := 0, maxLocals := 1, code := object_method_1_code, exceptionTable := #[], attributes := #[] }
def k0m0 : Method := { name := "<init>", desc := "()V", sig := { parameters := [], returnType := none }, accessFlags := 1, code := some k0c0 }
/-- java/lang/Object -/
def k0 : Class := { plain "java/lang/Object" none with
  accessFlags := 33
  interfaces := #[]
  cf := some (fileOf pool0 8 #[] #[{ accessFlags := 1, nameIndex := 5, descriptorIndex := 6, attributes := #[] }] 33 0 #[] #[])
  fields := #[]
  methods := #[k0m0]
  instanceTypes := #[]
  staticTypes := #[]
  resolved := Array.replicate 124 none
  statics := none }

def pool1 : Array CpInfo := pool [(2, .class_ 4), (0, .nameAndType 5 6), (0, u "java/lang/Object"), (0, u "<init>"), (0, u "()V"), (0, .integer 2147483647), (0, .class_ 9), (0, u "com/example/gangplank/gangplank/gang/Rows"), (0, .methodref 8 3), (0, .class_ 12), (0, u "com/example/gangplank/gangplank/gang/Row"), (0, .methodref 11 14), (0, .nameAndType 5 15), (0, u "(JJ)V"), (0, .long 2), (1, .long 3), (1, .fieldref 11 21), (0, .nameAndType 22 23), (0, u "used"), (0, u "I"), (0, .methodref 8 25), (0, .nameAndType 26 27), (0, u "add"), (0, u "(Lcom/example/gangplank/gangplank/gang/Row;)V"), (0, .methodref 8 29), (0, .nameAndType 30 31), (0, u "firstHoldingAtMost"), (0, u "(I)Lcom/example/gangplank/gangplank/gang/Row;"), (0, .class_ 33), (0, u "com/example/gangplank/gangplank/gang/RowsFirstHoldingAtMostPinLaw"), (2, u "law"), (0, u "(IIIIII)Z")] 3

def k1m0 : Method := { name := "<init>", desc := "()V", sig := { parameters := [], returnType := none }, accessFlags := 1, code := none }
def k1c1 : Code := { maxStack := 6, maxLocals := 14, code := code, exceptionTable := #[], attributes := #[] }
def k1m1 : Method := { name := "law", desc := "(IIIIII)Z", sig := { parameters := [.int, .int, .int, .int, .int, .int], returnType := some .boolean }, accessFlags := 9, code := some k1c1 }
/-- com/example/gangplank/gangplank/gang/RowsFirstHoldingAtMostPinLaw -/
def k1 : Class := { plain "com/example/gangplank/gangplank/gang/RowsFirstHoldingAtMostPinLaw" (some 0) with
  accessFlags := 49
  interfaces := #[]
  cf := some (fileOf pool1 32 #[] #[{ accessFlags := 1, nameIndex := 5, descriptorIndex := 6, attributes := #[] }, { accessFlags := 9, nameIndex := 36, descriptorIndex := 37, attributes := #[] }] 49 2 #[] #[])
  fields := #[]
  methods := #[k1m0, k1m1]
  instanceTypes := #[]
  staticTypes := #[]
  resolved := Array.replicate 41 none
  statics := none }

def pool2 : Array CpInfo := pool [(1, .methodref 2 3), (0, .class_ 4), (0, .nameAndType 5 6), (0, u "java/lang/Object"), (0, u "<init>"), (0, u "()V"), (0, .class_ 8), (0, u "com/example/gangplank/gangplank/gang/Rows"), (0, .class_ 10), (0, u "com/example/gangplank/gangplank/gang/Row"), (0, .fieldref 7 12), (0, .nameAndType 13 14), (0, u "slots"), (0, u "[Lcom/example/gangplank/gangplank/gang/Row;"), (0, .fieldref 7 16), (0, .nameAndType 17 18), (0, u "size"), (0, u "I"), (0, .fieldref 7 20), (0, .nameAndType 21 22), (0, u "count"), (0, u "[I"), (4, .fieldref 7 28), (0, .nameAndType 29 18), (0, u "tail"), (0, .fieldref 9 31), (0, .nameAndType 32 18), (0, u "slot"), (0, .methodref 7 34), (0, .nameAndType 35 36), (0, u "update"), (0, u "(Lcom/example/gangplank/gangplank/gang/Row;)V"), (17, .fieldref 9 55), (0, .nameAndType 56 18), (0, u "used"), (0, .fieldref 7 58), (0, .nameAndType 59 22), (0, u "fewestUsed"), (13, u "unstarted"), (11, u "processes"), (3, u "[J"), (33, u "MIN_SLOTS"), (2, u "MOST_PACKED"), (1, u "PACKED_AGAIN"), (4, u "add"), (5, u "(I)Lcom/example/gangplank/gangplank/gang/Row;"), (0, u "firstHoldingAtMost")] 23

def k2c0 : Code := { maxStack := 2, maxLocals := 1, code := prog_126_method_1_code, exceptionTable := #[], attributes := #[] }
def k2m0 : Method := { name := "<init>", desc := "()V", sig := { parameters := [], returnType := none }, accessFlags := 0, code := some k2c0 }
def k2c1 : Code := { maxStack := 3, maxLocals := 2, code := prog_126_method_3_code, exceptionTable := #[], attributes := #[] }
def k2m1 : Method := { name := "add", desc := "(Lcom/example/gangplank/gangplank/gang/Row;)V", sig := { parameters := [(.object "com/example/gangplank/gangplank/gang/Row")], returnType := none }, accessFlags := 0, code := some k2c1 }
def k2c2 : Code := { maxStack := 2, maxLocals := 2, code := prog_126_method_5_code, exceptionTable := #[], attributes := #[] }
def k2m2 : Method := { name := "update", desc := "(Lcom/example/gangplank/gangplank/gang/Row;)V", sig := { parameters := [(.object "com/example/gangplank/gangplank/gang/Row")], returnType := none }, accessFlags := 0, code := some k2c2 }
def k2c3 : Code := { maxStack := 3, maxLocals := 3, code := prog_126_method_8_code, exceptionTable := #[], attributes := #[] }
def k2m3 : Method := { name := "firstHoldingAtMost", desc := "(I)Lcom/example/gangplank/gangplank/gang/Row;", sig := { parameters := [.int], returnType := some (.object "com/example/gangplank/gangplank/gang/Row") }, accessFlags := 0, code := some k2c3 }
/-- com/example/gangplank/gangplank/gang/Rows -/
def k2 : Class := { plain "com/example/gangplank/gangplank/gang/Rows" (some 0) with
  accessFlags := 48
  interfaces := #[]
  cf := some (fileOf pool2 7 #[] #[{ accessFlags := 0, nameIndex := 5, descriptorIndex := 6, attributes := #[] }, { accessFlags := 0, nameIndex := 133, descriptorIndex := 36, attributes := #[] }, { accessFlags := 0, nameIndex := 35, descriptorIndex := 36, attributes := #[] }, { accessFlags := 0, nameIndex := 140, descriptorIndex := 139, attributes := #[] }] 48 2 #[] #[{ accessFlags := 26, nameIndex := 123, descriptorIndex := 18, attributes := #[] }, { accessFlags := 26, nameIndex := 126, descriptorIndex := 18, attributes := #[] }, { accessFlags := 26, nameIndex := 128, descriptorIndex := 18, attributes := #[] }, { accessFlags := 2, nameIndex := 13, descriptorIndex := 14, attributes := #[] }, { accessFlags := 2, nameIndex := 17, descriptorIndex := 18, attributes := #[] }, { accessFlags := 2, nameIndex := 21, descriptorIndex := 22, attributes := #[] }, { accessFlags := 2, nameIndex := 59, descriptorIndex := 22, attributes := #[] }, { accessFlags := 2, nameIndex := 56, descriptorIndex := 89, attributes := #[] }, { accessFlags := 2, nameIndex := 85, descriptorIndex := 89, attributes := #[] }, { accessFlags := 2, nameIndex := 73, descriptorIndex := 22, attributes := #[] }, { accessFlags := 2, nameIndex := 29, descriptorIndex := 18, attributes := #[] }])
  fields := #[{ name := "MIN_SLOTS", type := .int, accessFlags := 26, slot := 0, constantValue := 0 }, { name := "MOST_PACKED", type := .int, accessFlags := 26, slot := 1, constantValue := 0 }, { name := "PACKED_AGAIN", type := .int, accessFlags := 26, slot := 2, constantValue := 0 }, { name := "slots", type := (.array (.object "com/example/gangplank/gangplank/gang/Row")), accessFlags := 2, slot := 0, constantValue := 0 }, { name := "size", type := .int, accessFlags := 2, slot := 1, constantValue := 0 }, { name := "count", type := (.array .int), accessFlags := 2, slot := 2, constantValue := 0 }, { name := "fewestUsed", type := (.array .int), accessFlags := 2, slot := 3, constantValue := 0 }, { name := "used", type := (.array .long), accessFlags := 2, slot := 4, constantValue := 0 }, { name := "processes", type := (.array .long), accessFlags := 2, slot := 5, constantValue := 0 }, { name := "unstarted", type := (.array .int), accessFlags := 2, slot := 6, constantValue := 0 }, { name := "tail", type := .int, accessFlags := 2, slot := 7, constantValue := 0 }]
  methods := #[k2m0, k2m1, k2m2, k2m3]
  instanceTypes := #[(.array (.object "com/example/gangplank/gangplank/gang/Row")), .int, (.array .int), (.array .int), (.array .long), (.array .long), (.array .int), .int]
  staticTypes := #[.int, .int, .int]
  resolved := Array.replicate 164 none
  statics := none }

def pool3 : Array CpInfo := pool [(1, .methodref 2 3), (0, .class_ 4), (0, .nameAndType 5 6), (0, u "java/lang/Object"), (0, u "<init>"), (0, u "()V"), (0, .fieldref 8 9), (0, .class_ 10), (0, .nameAndType 11 12), (0, u "com/example/gangplank/gangplank/gang/Row"), (0, u "heapPlace"), (0, u "I"), (0, .class_ 14), (0, u "java/util/PriorityQueue"), (0, .invokeDynamic 0 16), (0, .nameAndType 17 18), (0, u "compare"), (0, u "()Ljava/util/Comparator;"), (0, .methodref 13 20), (0, .nameAndType 5 21), (0, u "(Ljava/util/Comparator;)V"), (0, .fieldref 8 23), (0, .nameAndType 24 25), (0, u "members"), (0, u "Ljava/util/PriorityQueue;"), (0, .class_ 27), (0, u "java/util/ArrayList"), (0, .methodref 26 3), (0, .fieldref 8 30), (0, .nameAndType 31 32), (0, u "unstarted"), (0, u "Ljava/util/List;"), (0, .fieldref 8 34), (0, .nameAndType 35 36), (0, u "order"), (0, u "J"), (0, .fieldref 8 38), (0, .nameAndType 39 36), (0, u "nextRound"), (2, u "used"), (8, u "processes"), (3, .class_ 56), (0, u "com/example/gangplank/gangplank/gang/Row$Member"), (43, u "slot"), (0, u "work"), (0, u "finishRound"), (3, u "(JJ)V"), (4, u "compareFinishes"), (0, u "(Lcom/example/gangplank/gangplank/gang/Row$Member;Lcom/example/gangplank/gangplank/gang/Row$Member;)I"), (5, .methodType 119), (0, u "(Ljava/lang/Object;Ljava/lang/Object;)I"), (0, .methodHandle 6 121), (0, .methodref 8 122), (0, .nameAndType 111 112), (0, .methodType 112), (0, .methodHandle 6 125), (0, .methodref 126 127), (0, .class_ 128), (0, .nameAndType 129 130), (0, u "java/lang/invoke/LambdaMetafactory"), (0, u "metafactory"), (0, u "(Ljava/lang/invoke/MethodHandles$Lookup;Ljava/lang/String;Ljava/lang/invoke/MethodType;Ljava/lang/invoke/MethodType;Ljava/lang/invoke/MethodHandle;Ljava/lang/invoke/MethodType;)Ljava/lang/invoke/CallSite;")] 7

def k3c0 : Code := { maxStack := 4, maxLocals := 5, code := prog_123_method_1_code, exceptionTable := #[], attributes := #[] }
def k3m0 : Method := { name := "<init>", desc := "(JJ)V", sig := { parameters := [.long, .long], returnType := none }, accessFlags := 0, code := some k3c0 }
def k3c1 : Code := { maxStack := 4, maxLocals := 3, code := ⟨#[0x2a, 0xb6, 0x00, 0x50, 0x2b, 0xb6, 0x00, 0x50, 0xb8, 0x00, 0x53, 0x3d, 0x1c, 0x99, 0x00, 0x05, 0x1c, 0xac, 0x2a, 0xb6, 0x00, 0x58, 0xb6, 0x00, 0x5c, 0x2b, 0xb6, 0x00, 0x58, 0xb6, 0x00, 0x5c, 0xb8, 0x00, 0x5f, 0xac]⟩, exceptionTable := #[], attributes := #[] }
def k3m1 : Method := { name := "compareFinishes", desc := "(Lcom/example/gangplank/gangplank/gang/Row$Member;Lcom/example/gangplank/gangplank/gang/Row$Member;)I", sig := { parameters := [(.object "com/example/gangplank/gangplank/gang/Row$Member"), (.object "com/example/gangplank/gangplank/gang/Row$Member")], returnType := some .int }, accessFlags := 10, code := some k3c1 }
/-- com/example/gangplank/gangplank/gang/Row -/
def k3 : Class := { plain "com/example/gangplank/gangplank/gang/Row" (some 0) with
  accessFlags := 48
  interfaces := #[]
  cf := some (fileOf pool3 8 #[.nestMembers #[55], .bootstrapMethods #[⟨124, #[118, 120, 123]⟩]] #[{ accessFlags := 0, nameIndex := 5, descriptorIndex := 106, attributes := #[] }, { accessFlags := 10, nameIndex := 111, descriptorIndex := 112, attributes := #[] }] 48 2 #[] #[{ accessFlags := 16, nameIndex := 35, descriptorIndex := 36, attributes := #[] }, { accessFlags := 0, nameIndex := 100, descriptorIndex := 12, attributes := #[] }, { accessFlags := 0, nameIndex := 11, descriptorIndex := 12, attributes := #[] }, { accessFlags := 0, nameIndex := 42, descriptorIndex := 12, attributes := #[] }, { accessFlags := 0, nameIndex := 51, descriptorIndex := 36, attributes := #[] }, { accessFlags := 0, nameIndex := 101, descriptorIndex := 36, attributes := #[] }, { accessFlags := 0, nameIndex := 39, descriptorIndex := 36, attributes := #[] }, { accessFlags := 0, nameIndex := 102, descriptorIndex := 36, attributes := #[] }, { accessFlags := 16, nameIndex := 24, descriptorIndex := 25, attributes := #[] }, { accessFlags := 16, nameIndex := 31, descriptorIndex := 32, attributes := #[] }])
  fields := #[{ name := "order", type := .long, accessFlags := 16, slot := 0, constantValue := 0 }, { name := "slot", type := .int, accessFlags := 0, slot := 1, constantValue := 0 }, { name := "heapPlace", type := .int, accessFlags := 0, slot := 2, constantValue := 0 }, { name := "used", type := .int, accessFlags := 0, slot := 3, constantValue := 0 }, { name := "processes", type := .long, accessFlags := 0, slot := 4, constantValue := 0 }, { name := "work", type := .long, accessFlags := 0, slot := 5, constantValue := 0 }, { name := "nextRound", type := .long, accessFlags := 0, slot := 6, constantValue := 0 }, { name := "finishRound", type := .long, accessFlags := 0, slot := 7, constantValue := 0 }, { name := "members", type := (.object "java/util/PriorityQueue"), accessFlags := 16, slot := 8, constantValue := 0 }, { name := "unstarted", type := (.object "java/util/List"), accessFlags := 16, slot := 9, constantValue := 0 }]
  methods := #[k3m0, k3m1]
  instanceTypes := #[.long, .int, .int, .int, .long, .long, .long, .long, (.object "java/util/PriorityQueue"), (.object "java/util/List")]
  staticTypes := #[]
  resolved := Array.replicate 138 none
  callSites := [(0, 14, .constant 1)]
  statics := none }

def pool4 : Array CpInfo := pool [(8, .class_ 10), (1, u "java/lang/Iterable"), (24, .class_ 36), (0, u "java/lang/Object")] 25

/-- java/lang/Iterable -/
def k4 : Class := { plain "java/lang/Iterable" (some 0) with
  accessFlags := 1537
  interfaces := #[]
  cf := some (fileOf pool4 8 #[] #[] 1537 35 #[] #[])
  fields := #[]
  methods := #[]
  instanceTypes := #[]
  staticTypes := #[]
  resolved := Array.replicate 62 none
  statics := none }

def pool5 : Array CpInfo := pool [(10, .class_ 12), (1, u "java/util/Collection"), (47, .class_ 61), (0, u "java/lang/Object"), (0, .class_ 63), (0, u "java/lang/Iterable")] 51

/-- java/util/Collection -/
def k5 : Class := { plain "java/util/Collection" (some 0) with
  accessFlags := 1537
  interfaces := #[4]
  cf := some (fileOf pool5 10 #[] #[] 1537 60 #[62] #[])
  fields := #[]
  methods := #[]
  instanceTypes := #[]
  staticTypes := #[]
  resolved := Array.replicate 115 none
  statics := none }

def pool6 : Array CpInfo := pool [(1, .methodref 2 3), (0, .class_ 4), (0, .nameAndType 5 6), (0, u "java/lang/Object"), (0, u "<init>"), (0, u "()V"), (1, .class_ 10), (1, u "java/util/AbstractCollection"), (66, .class_ 78), (0, u "java/util/Collection")] 81

def k6c0 : Code := { maxStack := 1, maxLocals := 1, code := jdk_22_method_1_code, exceptionTable := #[], attributes := #[] }
def k6m0 : Method := { name := "<init>", desc := "()V", sig := { parameters := [], returnType := none }, accessFlags := 4, code := some k6c0 }
/-- java/util/AbstractCollection -/
def k6 : Class := { plain "java/util/AbstractCollection" (some 0) with
  accessFlags := 1057
  interfaces := #[5]
  cf := some (fileOf pool6 8 #[] #[{ accessFlags := 4, nameIndex := 5, descriptorIndex := 6, attributes := #[] }] 1057 2 #[77] #[])
  fields := #[]
  methods := #[k6m0]
  instanceTypes := #[]
  staticTypes := #[]
  resolved := Array.replicate 160 none
  statics := none }

def pool7 : Array CpInfo := pool [(1, .class_ 2), (0, u "java/util/Queue"), (0, .class_ 4), (0, u "java/lang/Object"), (0, .class_ 6), (0, u "java/util/Collection")] 14

/-- java/util/Queue -/
def k7 : Class := { plain "java/util/Queue" (some 0) with
  accessFlags := 1537
  interfaces := #[5]
  cf := some (fileOf pool7 1 #[] #[] 1537 3 #[5] #[])
  fields := #[]
  methods := #[]
  instanceTypes := #[]
  staticTypes := #[]
  resolved := Array.replicate 21 none
  statics := none }

def pool8 : Array CpInfo := pool [(1, .methodref 2 3), (0, .class_ 4), (0, .nameAndType 5 6), (0, u "java/util/AbstractCollection"), (0, u "<init>"), (0, u "()V"), (1, .class_ 10), (1, u "java/util/AbstractQueue"), (43, .class_ 55), (0, u "java/util/Queue")] 31

def k8c0 : Code := { maxStack := 1, maxLocals := 1, code := jdk_2435_method_1_code, exceptionTable := #[], attributes := #[] }
def k8m0 : Method := { name := "<init>", desc := "()V", sig := { parameters := [], returnType := none }, accessFlags := 4, code := some k8c0 }
/-- java/util/AbstractQueue -/
def k8 : Class := { plain "java/util/AbstractQueue" (some 6) with
  accessFlags := 1057
  interfaces := #[7]
  cf := some (fileOf pool8 8 #[] #[{ accessFlags := 4, nameIndex := 5, descriptorIndex := 6, attributes := #[] }] 1057 2 #[54] #[])
  fields := #[]
  methods := #[k8m0]
  instanceTypes := #[]
  staticTypes := #[]
  resolved := Array.replicate 87 none
  statics := none }

def pool9 : Array CpInfo := pool [(1, .class_ 2), (0, u "java/io/Serializable"), (0, .class_ 4), (0, u "java/lang/Object")] 2

/-- java/io/Serializable -/
def k9 : Class := { plain "java/io/Serializable" (some 0) with
  accessFlags := 1537
  interfaces := #[]
  cf := some (fileOf pool9 1 #[] #[] 1537 3 #[] #[])
  fields := #[]
  methods := #[]
  instanceTypes := #[]
  staticTypes := #[]
  resolved := Array.replicate 7 none
  statics := none }

def pool10 : Array CpInfo := pool [(1, .class_ 2), (0, u "java/util/PriorityQueue"), (0, .methodref 1 4), (0, .nameAndType 5 6), (0, u "<init>"), (0, u "(ILjava/util/Comparator;)V"), (0, .methodref 8 9), (0, .class_ 10), (0, .nameAndType 5 11), (0, u "java/util/AbstractQueue"), (0, u "()V"), (3, .class_ 16), (0, u "java/lang/Object"), (0, .fieldref 1 18), (0, .nameAndType 19 20), (0, u "queue"), (0, u "[Ljava/lang/Object;"), (0, .fieldref 1 22), (0, .nameAndType 23 24), (0, u "comparator"), (0, u "Ljava/util/Comparator;"), (31, u "size"), (3, u "I"), (34, u "modCount"), (25, .class_ 122), (0, u "java/util/PriorityQueue$Itr"), (74, .class_ 198), (0, u "java/util/PriorityQueue$PriorityQueueSpliterator"), (45, .class_ 245), (0, u "java/io/Serializable"), (0, u "serialVersionUID"), (0, u "J"), (3, u "DEFAULT_INITIAL_CAPACITY"), (11, u "(Ljava/util/Comparator;)V")] 128

def k10m0 : Method := { name := "<init>", desc := "()V", sig := { parameters := [], returnType := none }, accessFlags := 1, code := none }
def k10c1 : Code := { maxStack := 3, maxLocals := 2, code := jdk_2655_method_3_code, exceptionTable := #[], attributes := #[] }
def k10m1 : Method := { name := "<init>", desc := "(Ljava/util/Comparator;)V", sig := { parameters := [(.object "java/util/Comparator")], returnType := none }, accessFlags := 1, code := some k10c1 }
def k10c2 : Code := { maxStack := 2, maxLocals := 3, code := jdk_2655_method_4_code, exceptionTable := #[], attributes := #[] }
def k10m2 : Method := { name := "<init>", desc := "(ILjava/util/Comparator;)V", sig := { parameters := [.int, (.object "java/util/Comparator")], returnType := none }, accessFlags := 1, code := some k10c2 }
/-- java/util/PriorityQueue -/
def k10 : Class := { plain "java/util/PriorityQueue" (some 8) with
  accessFlags := 33
  interfaces := #[9]
  cf := some (fileOf pool10 1 #[.nestMembers #[197, 121]] #[{ accessFlags := 1, nameIndex := 5, descriptorIndex := 11, attributes := #[] }, { accessFlags := 1, nameIndex := 5, descriptorIndex := 263, attributes := #[] }, { accessFlags := 1, nameIndex := 5, descriptorIndex := 6, attributes := #[] }] 33 8 #[244] #[{ accessFlags := 26, nameIndex := 246, descriptorIndex := 247, attributes := #[] }, { accessFlags := 26, nameIndex := 251, descriptorIndex := 60, attributes := #[] }, { accessFlags := 128, nameIndex := 19, descriptorIndex := 20, attributes := #[] }, { accessFlags := 0, nameIndex := 56, descriptorIndex := 60, attributes := #[] }, { accessFlags := 18, nameIndex := 23, descriptorIndex := 24, attributes := #[] }, { accessFlags := 128, nameIndex := 95, descriptorIndex := 60, attributes := #[] }])
  fields := #[{ name := "serialVersionUID", type := .long, accessFlags := 26, slot := 0, constantValue := 0 }, { name := "DEFAULT_INITIAL_CAPACITY", type := .int, accessFlags := 26, slot := 1, constantValue := 0 }, { name := "queue", type := (.array (.object "java/lang/Object")), accessFlags := 128, slot := 0, constantValue := 0 }, { name := "size", type := .int, accessFlags := 0, slot := 1, constantValue := 0 }, { name := "comparator", type := (.object "java/util/Comparator"), accessFlags := 18, slot := 2, constantValue := 0 }, { name := "modCount", type := .int, accessFlags := 128, slot := 3, constantValue := 0 }]
  methods := #[k10m0, k10m1, k10m2]
  instanceTypes := #[(.array (.object "java/lang/Object")), .int, (.object "java/util/Comparator"), .int]
  staticTypes := #[.long, .int]
  resolved := Array.replicate 392 none
  statics := none }

def pool11 : Array CpInfo := pool [(15, u "compare"), (3, .class_ 20), (0, u "java/util/Comparator"), (84, .class_ 106), (0, u "java/lang/Object"), (8, u "(Ljava/lang/Object;Ljava/lang/Object;)I")] 172

def k11m0 : Method := { name := "compare", desc := "(Ljava/lang/Object;Ljava/lang/Object;)I", sig := { parameters := [(.object "java/lang/Object"), (.object "java/lang/Object")], returnType := some .int }, accessFlags := 1025, code := none }
/-- java/util/Comparator -/
def k11 : Class := { plain "java/util/Comparator" (some 0) with
  accessFlags := 1537
  interfaces := #[]
  cf := some (fileOf pool11 19 #[] #[{ accessFlags := 1025, nameIndex := 15, descriptorIndex := 115, attributes := #[] }] 1537 105 #[] #[])
  fields := #[]
  methods := #[k11m0]
  instanceTypes := #[]
  staticTypes := #[]
  resolved := Array.replicate 288 none
  statics := none }

def pool12 : Array CpInfo := pool [(8, .class_ 10), (1, u "java/util/SequencedCollection"), (15, .class_ 27), (0, u "java/lang/Object"), (0, .class_ 29), (0, u "java/util/Collection")] 27

/-- java/util/SequencedCollection -/
def k12 : Class := { plain "java/util/SequencedCollection" (some 0) with
  accessFlags := 1537
  interfaces := #[5]
  cf := some (fileOf pool12 8 #[] #[] 1537 26 #[28] #[])
  fields := #[]
  methods := #[]
  instanceTypes := #[]
  staticTypes := #[]
  resolved := Array.replicate 57 none
  statics := none }

def pool13 : Array CpInfo := pool [(8, .class_ 10), (1, u "java/util/List"), (92, .class_ 104), (0, u "java/lang/Object"), (15, .class_ 121), (0, u "java/util/SequencedCollection")] 129

/-- java/util/List -/
def k13 : Class := { plain "java/util/List" (some 0) with
  accessFlags := 1537
  interfaces := #[12]
  cf := some (fileOf pool13 8 #[] #[] 1537 103 #[120] #[])
  fields := #[]
  methods := #[]
  instanceTypes := #[]
  staticTypes := #[]
  resolved := Array.replicate 251 none
  statics := none }

def pool14 : Array CpInfo := pool [(1, .methodref 2 3), (0, .class_ 4), (0, .nameAndType 5 6), (0, u "java/util/AbstractCollection"), (0, u "<init>"), (0, u "()V"), (0, .fieldref 8 9), (0, .class_ 10), (0, .nameAndType 11 12), (0, u "java/util/AbstractList"), (0, u "modCount"), (0, u "I"), (64, .class_ 78), (0, u "java/util/AbstractList$Itr"), (3, .class_ 83), (0, u "java/util/AbstractList$ListItr"), (9, .class_ 94), (0, u "java/util/AbstractList$RandomAccessSubList"), (3, .class_ 99), (0, u "java/util/AbstractList$SubList"), (33, .class_ 134), (0, u "java/util/List"), (73, .class_ 209), (0, u "java/util/AbstractList$SubList$1"), (0, .class_ 211), (0, u "java/util/AbstractList$RandomAccessSpliterator")] 6

def k14c0 : Code := { maxStack := 2, maxLocals := 1, code := jdk_39_method_1_code, exceptionTable := #[], attributes := #[] }
def k14m0 : Method := { name := "<init>", desc := "()V", sig := { parameters := [], returnType := none }, accessFlags := 4, code := some k14c0 }
/-- java/util/AbstractList -/
def k14 : Class := { plain "java/util/AbstractList" (some 6) with
  accessFlags := 1057
  interfaces := #[13]
  cf := some (fileOf pool14 8 #[.nestMembers #[93, 98, 208, 210, 82, 77]] #[{ accessFlags := 4, nameIndex := 5, descriptorIndex := 6, attributes := #[] }] 1057 2 #[133] #[{ accessFlags := 132, nameIndex := 11, descriptorIndex := 12, attributes := #[] }])
  fields := #[{ name := "modCount", type := .int, accessFlags := 132, slot := 0, constantValue := 0 }]
  methods := #[k14m0]
  instanceTypes := #[.int]
  staticTypes := #[]
  resolved := Array.replicate 218 none
  statics := none }

def pool15 : Array CpInfo := pool [(1, .class_ 2), (0, u "java/util/RandomAccess"), (0, .class_ 4), (0, u "java/lang/Object")] 2

/-- java/util/RandomAccess -/
def k15 : Class := { plain "java/util/RandomAccess" (some 0) with
  accessFlags := 1537
  interfaces := #[]
  cf := some (fileOf pool15 1 #[] #[] 1537 3 #[] #[])
  fields := #[]
  methods := #[]
  instanceTypes := #[]
  staticTypes := #[]
  resolved := Array.replicate 7 none
  statics := none }

def pool16 : Array CpInfo := pool [(1, .class_ 2), (0, u "java/lang/Cloneable"), (0, .class_ 4), (0, u "java/lang/Object")] 2

/-- java/lang/Cloneable -/
def k16 : Class := { plain "java/lang/Cloneable" (some 0) with
  accessFlags := 1537
  interfaces := #[]
  cf := some (fileOf pool16 1 #[] #[] 1537 3 #[] #[])
  fields := #[]
  methods := #[]
  instanceTypes := #[]
  staticTypes := #[]
  resolved := Array.replicate 7 none
  statics := none }

def pool17 : Array CpInfo := pool [(1, .methodref 2 3), (0, .class_ 4), (0, .nameAndType 5 6), (0, u "java/util/AbstractList"), (0, u "<init>"), (0, u "()V"), (2, .fieldref 10 11), (0, .class_ 12), (0, .nameAndType 13 14), (0, u "java/util/ArrayList"), (0, u "elementData"), (0, u "[Ljava/lang/Object;"), (2, u "EMPTY_ELEMENTDATA"), (21, .fieldref 10 40), (0, .nameAndType 41 14), (0, u "DEFAULTCAPACITY_EMPTY_ELEMENTDATA"), (8, u "size"), (0, u "I"), (96, .class_ 149), (0, u "java/util/List"), (112, .class_ 263), (0, u "java/util/ArrayList$ListItr"), (3, .class_ 268), (0, u "java/util/ArrayList$Itr"), (7, .class_ 277), (0, u "java/util/ArrayList$SubList"), (12, .class_ 291), (0, u "java/util/ArrayList$ArrayListSpliterator"), (37, .class_ 330), (0, u "java/util/RandomAccess"), (0, .class_ 332), (0, u "java/lang/Cloneable"), (0, .class_ 334), (0, u "java/io/Serializable"), (0, u "serialVersionUID"), (0, u "J"), (3, u "DEFAULT_CAPACITY"), (159, .class_ 501), (0, u "java/util/ArrayList$SubList$2"), (0, .class_ 503), (0, u "java/util/ArrayList$SubList$1")] 5

def k17c0 : Code := { maxStack := 2, maxLocals := 1, code := jdk_38_method_2_code, exceptionTable := #[], attributes := #[] }
def k17m0 : Method := { name := "<init>", desc := "()V", sig := { parameters := [], returnType := none }, accessFlags := 1, code := some k17c0 }
/-- java/util/ArrayList -/
def k17 : Class := { plain "java/util/ArrayList" (some 14) with
  accessFlags := 33
  interfaces := #[13, 15, 16, 9]
  cf := some (fileOf pool17 10 #[.nestMembers #[290, 276, 500, 502, 262, 267]] #[{ accessFlags := 1, nameIndex := 5, descriptorIndex := 6, attributes := #[] }] 33 2 #[148, 329, 331, 333] #[{ accessFlags := 26, nameIndex := 335, descriptorIndex := 336, attributes := #[] }, { accessFlags := 26, nameIndex := 340, descriptorIndex := 51, attributes := #[] }, { accessFlags := 26, nameIndex := 17, descriptorIndex := 14, attributes := #[] }, { accessFlags := 26, nameIndex := 41, descriptorIndex := 14, attributes := #[] }, { accessFlags := 128, nameIndex := 13, descriptorIndex := 14, attributes := #[] }, { accessFlags := 2, nameIndex := 50, descriptorIndex := 51, attributes := #[] }])
  fields := #[{ name := "serialVersionUID", type := .long, accessFlags := 26, slot := 0, constantValue := 0 }, { name := "DEFAULT_CAPACITY", type := .int, accessFlags := 26, slot := 1, constantValue := 0 }, { name := "EMPTY_ELEMENTDATA", type := (.array (.object "java/lang/Object")), accessFlags := 26, slot := 2, constantValue := 0 }, { name := "DEFAULTCAPACITY_EMPTY_ELEMENTDATA", type := (.array (.object "java/lang/Object")), accessFlags := 26, slot := 3, constantValue := 0 }, { name := "elementData", type := (.array (.object "java/lang/Object")), accessFlags := 128, slot := 1, constantValue := 0 }, { name := "size", type := .int, accessFlags := 2, slot := 2, constantValue := 0 }]
  methods := #[k17m0]
  instanceTypes := #[.int, (.array (.object "java/lang/Object")), .int]
  staticTypes := #[.long, .int, (.array (.object "java/lang/Object")), (.array (.object "java/lang/Object"))]
  resolved := Array.replicate 509 none
  statics := some 0 }

/-- the primitive byte -/
def k18 : Class := { plain "byte" none with kind := .primitive 'B', accessFlags := 0x411 }
/-- [B -/
def k19 : Class := { plain "[B" (some 0) with kind := .array 18 .byte, interfaces := #[16, 9], accessFlags := 1041 }

/-- the primitive int -/
def k20 : Class := { plain "int" none with kind := .primitive 'I', accessFlags := 0x411 }
/-- [I -/
def k21 : Class := { plain "[I" (some 0) with kind := .array 20 .int, interfaces := #[16, 9], accessFlags := 1041 }

/-- [Lcom/example/gangplank/gangplank/gang/Row; -/
def k22 : Class := { plain "[Lcom/example/gangplank/gangplank/gang/Row;" (some 0) with kind := .array 3 (.object "com/example/gangplank/gangplank/gang/Row"), interfaces := #[16, 9], accessFlags := 1041 }

/-- [Ljava/lang/Object; -/
def k23 : Class := { plain "[Ljava/lang/Object;" (some 0) with kind := .array 0 (.object "java/lang/Object"), interfaces := #[16, 9], accessFlags := 1041 }

def classes0 : Array Class := #[k0, k1, k2, k3, k4, k5, k6, k7, k8, k9, k10, k11, k12, k13, k14, k15, k16, k17, k18, k19, k20, k21, k22, k23]
/-- the class that the rule has made for the site at 14 of com/example/gangplank/gangplank/gang/Row.<init> -/
def k24 : Class := Jvm.LamKit.madeRec { classes := classes0 } "com/example/gangplank/gangplank/gang/Row" (Jvm.Lambda.Shape.mk "java/util/Comparator" "compare" (Jvm.ClassFile.MethodDescriptor.mk ([(Jvm.ClassFile.FieldType.object "java/lang/Object"), (Jvm.ClassFile.FieldType.object "java/lang/Object")] : List Jvm.ClassFile.FieldType) (Option.some Jvm.ClassFile.FieldType.int)) ([] : List Jvm.ClassFile.FieldType) (6 : Nat) "com/example/gangplank/gangplank/gang/Row" "compareFinishes" (Jvm.ClassFile.MethodDescriptor.mk ([(Jvm.ClassFile.FieldType.object "com/example/gangplank/gangplank/gang/Row$Member"), (Jvm.ClassFile.FieldType.object "com/example/gangplank/gangplank/gang/Row$Member")] : List Jvm.ClassFile.FieldType) (Option.some Jvm.ClassFile.FieldType.int)) false (Jvm.ClassFile.MethodDescriptor.mk ([(Jvm.ClassFile.FieldType.object "com/example/gangplank/gangplank/gang/Row$Member"), (Jvm.ClassFile.FieldType.object "com/example/gangplank/gangplank/gang/Row$Member")] : List Jvm.ClassFile.FieldType) (Option.some Jvm.ClassFile.FieldType.int))) 24

def heap : Heap := #[{ cls := 17, slots := #[.long 0, .int 0, .ref 2, .ref 3], vm := .statics 17 },
  { cls := 24, slots := #[], vm := .none },
  { cls := 23, slots := #[], vm := .none },
  { cls := 23, slots := #[], vm := .none }]
def classes : Array Class := #[k0, k1, k2, k3, k4, k5, k6, k7, k8, k9, k10, k11, k12, k13, k14, k15, k16, k17, k18, k19, k20, k21, k22, k23, k24]
def interned : List (Array UInt16 × Addr) := []
def slotsUsed : Nat := 4
def theMethod : MethodId := ⟨1, 1⟩
def args0 : Array Value := #[.int 3, .int 5, .int 7, .int 2, .int 9, .int 6]
def aboutOver (below : List Frame) : State where
  vm := { classes := classes, interned := interned.toArray }
  heap := heap
  slotsUsed := slotsUsed
  threads := #[{ frames := .invoking theMethod args0 :: below }]
def below0 : List Frame := [.native { method := ⟨0, 0⟩, args := #[] }]
def about1 : State := aboutOver below0
def p0 : Program := .bare "" "" ""
def e0 : Env := launch0.env 0 0 0
theorem w_frames : about1.frames = Frame.invoking theMethod args0 :: below0 := rfl
set_option maxRecDepth 65536 in
theorem w_args : argsFit about1.vm theMethod args0 = true := by decide +kernel
set_option maxRecDepth 65536 in
theorem w_heap : heapFits about1 = true := by decide +kernel
set_option maxRecDepth 65536 in
theorem w_runnable : about1.curStatus? = some .runnable := by decide +kernel
set_option maxRecDepth 65536 in
theorem w_alone : about1.alone = true := by decide +kernel
set_option maxRecDepth 65536 in
theorem w_named : about1.methodNamed? x = some theMethod := by decide +kernel
set_option maxRecDepth 65536 in
theorem w_hears : about1.hears theMethod below0 = true := by decide +kernel
set_option maxRecDepth 65536 in
theorem w_ripe : about1.ripe theMethod args0 below0 = true := by decide +kernel
theorem w_running : about1.status = .running := rfl
set_option maxRecDepth 65536 in
theorem w_room : about1.hasRoom e0.platform room_1 = true :=
  launch0.hasRoom_least _ room_1 (by decide +kernel) (by decide +kernel) (by decide +kernel) (by decide +kernel) (by decide +kernel) (by decide +kernel)
theorem allAtoms_all (ts : List Jvm.Cond) (a : Array Jvm.Value) (st : Jvm.State) : (allAtoms ts).before a st = ts.all (fun c => c.before a st) := by
  induction ts with
  | nil => rfl
  | cons c t ih =>
    show (Jvm.Cond.and c (allAtoms t)).before a st = _
    rw [Jvm.Cond.before_and, ih, List.all_cons]
def words1 : List Jvm.Cond := Jvm.Cond.code x code maxLocals ret :: tables_1
/-- a 'code' word, met by the world's own term for the bytes: nothing is compared byte by byte -/
theorem code_word {y : MethodName} {bytes : ByteArray} {mx : Nat} {rt : Option FieldType} {a : Array Value} {s : State} {m : MethodId} {meth : Method} {c : Code} (h1 : s.methodNamed? y = some m) (h2 : s.vm.method? m = some meth) (h3 : meth.code = some c) (h4 : c.code = bytes)
    (h5 : (c.maxLocals == mx && c.exceptionTable.isEmpty && decide (c.maxStack ≤ mostOperands) && decide (meth.sig.returnType = rt) && !meth.locks && decide (parseMethodDescriptor y.desc = some meth.sig)) = true) : (Jvm.Cond.code y bytes mx rt).before a s = true := by
  simp only [Bool.and_eq_true, beq_iff_eq, Bool.not_eq_true', decide_eq_true_eq] at h5
  obtain ⟨⟨⟨⟨⟨g1, g2⟩, g3⟩, g4⟩, g5⟩, g6⟩ := h5
  simp [Cond.before, Cond.holds, Cond.value, h1, h2, h3, h4, g1, g2, g3, g4, g5, g6]
def isCode : Jvm.Cond → Bool
  | .code _ _ _ _ => true
  | _ => false
theorem all_split {L : List Jvm.Cond} {P : Jvm.Cond → Bool} (h1 : L.all (fun c => isCode c || P c) = true) (h2 : ∀ c ∈ L.filter isCode, P c = true) : L.all P = true := by
  refine List.all_eq_true.mpr fun c hc => ?_
  have h := List.all_eq_true.mp h1 c hc
  rcases Bool.eq_false_or_eq_true (isCode c) with hi | hi
  · exact h2 c (List.mem_filter.mpr ⟨hc, hi⟩)
  · simpa [hi] using h
set_option maxRecDepth 65536 in
theorem w_c0 : (Jvm.Cond.code x code maxLocals ret).before args0 about1 = true := code_word (m := ⟨1, 1⟩) (meth := k1m1) (c := k1c1) (by decide +kernel) rfl rfl rfl (by decide +kernel)
set_option maxRecDepth 65536 in
theorem w_c1 : (Jvm.Cond.code ({ cls := "com/example/gangplank/gangplank/gang/Rows", name := "<init>", desc := "()V" } : Jvm.MethodName) prog_126_method_1_code (1 : Nat) (Option.none : Option Jvm.ClassFile.FieldType)).before args0 about1 = true := code_word (m := ⟨2, 0⟩) (meth := k2m0) (c := k2c0) (by decide +kernel) rfl rfl rfl (by decide +kernel)
set_option maxRecDepth 65536 in
theorem w_c2 : (Jvm.Cond.code ({ cls := "java/lang/Object", name := "<init>", desc := "()V" } : Jvm.MethodName) object_method_1_code (1 : Nat) (Option.none : Option Jvm.ClassFile.FieldType)).before args0 about1 = true := code_word (m := ⟨0, 0⟩) (meth := k0m0) (c := k0c0) (by decide +kernel) rfl rfl rfl (by decide +kernel)
set_option maxRecDepth 65536 in
theorem w_c3 : (Jvm.Cond.code ({ cls := "com/example/gangplank/gangplank/gang/Row", name := "<init>", desc := "(JJ)V" } : Jvm.MethodName) prog_123_method_1_code (5 : Nat) (Option.none : Option Jvm.ClassFile.FieldType)).before args0 about1 = true := code_word (m := ⟨3, 0⟩) (meth := k3m0) (c := k3c0) (by decide +kernel) rfl rfl rfl (by decide +kernel)
set_option maxRecDepth 65536 in
theorem w_c4 : (Jvm.Cond.code ({ cls := "java/util/PriorityQueue", name := "<init>", desc := "(Ljava/util/Comparator;)V" } : Jvm.MethodName) jdk_2655_method_3_code (2 : Nat) (Option.none : Option Jvm.ClassFile.FieldType)).before args0 about1 = true := code_word (m := ⟨10, 1⟩) (meth := k10m1) (c := k10c1) (by decide +kernel) rfl rfl rfl (by decide +kernel)
set_option maxRecDepth 65536 in
theorem w_c5 : (Jvm.Cond.code ({ cls := "java/util/PriorityQueue", name := "<init>", desc := "(ILjava/util/Comparator;)V" } : Jvm.MethodName) jdk_2655_method_4_code (3 : Nat) (Option.none : Option Jvm.ClassFile.FieldType)).before args0 about1 = true := code_word (m := ⟨10, 2⟩) (meth := k10m2) (c := k10c2) (by decide +kernel) rfl rfl rfl (by decide +kernel)
set_option maxRecDepth 65536 in
theorem w_c6 : (Jvm.Cond.code ({ cls := "java/util/AbstractQueue", name := "<init>", desc := "()V" } : Jvm.MethodName) jdk_2435_method_1_code (1 : Nat) (Option.none : Option Jvm.ClassFile.FieldType)).before args0 about1 = true := code_word (m := ⟨8, 0⟩) (meth := k8m0) (c := k8c0) (by decide +kernel) rfl rfl rfl (by decide +kernel)
set_option maxRecDepth 65536 in
theorem w_c7 : (Jvm.Cond.code ({ cls := "java/util/AbstractCollection", name := "<init>", desc := "()V" } : Jvm.MethodName) jdk_22_method_1_code (1 : Nat) (Option.none : Option Jvm.ClassFile.FieldType)).before args0 about1 = true := code_word (m := ⟨6, 0⟩) (meth := k6m0) (c := k6c0) (by decide +kernel) rfl rfl rfl (by decide +kernel)
set_option maxRecDepth 65536 in
theorem w_c8 : (Jvm.Cond.code ({ cls := "java/util/ArrayList", name := "<init>", desc := "()V" } : Jvm.MethodName) jdk_38_method_2_code (1 : Nat) (Option.none : Option Jvm.ClassFile.FieldType)).before args0 about1 = true := code_word (m := ⟨17, 0⟩) (meth := k17m0) (c := k17c0) (by decide +kernel) rfl rfl rfl (by decide +kernel)
set_option maxRecDepth 65536 in
theorem w_c9 : (Jvm.Cond.code ({ cls := "java/util/AbstractList", name := "<init>", desc := "()V" } : Jvm.MethodName) jdk_39_method_1_code (1 : Nat) (Option.none : Option Jvm.ClassFile.FieldType)).before args0 about1 = true := code_word (m := ⟨14, 0⟩) (meth := k14m0) (c := k14c0) (by decide +kernel) rfl rfl rfl (by decide +kernel)
set_option maxRecDepth 65536 in
theorem w_c10 : (Jvm.Cond.code ({ cls := "com/example/gangplank/gangplank/gang/Rows", name := "firstHoldingAtMost", desc := "(I)Lcom/example/gangplank/gangplank/gang/Row;" } : Jvm.MethodName) prog_126_method_8_code (3 : Nat) (Option.some (Jvm.ClassFile.FieldType.object "com/example/gangplank/gangplank/gang/Row"))).before args0 about1 = true := code_word (m := ⟨2, 3⟩) (meth := k2m3) (c := k2c3) (by decide +kernel) rfl rfl rfl (by decide +kernel)
set_option maxRecDepth 65536 in
theorem w_c11 : (Jvm.Cond.code ({ cls := "com/example/gangplank/gangplank/gang/Rows", name := "add", desc := "(Lcom/example/gangplank/gangplank/gang/Row;)V" } : Jvm.MethodName) prog_126_method_3_code (2 : Nat) (Option.none : Option Jvm.ClassFile.FieldType)).before args0 about1 = true := code_word (m := ⟨2, 1⟩) (meth := k2m1) (c := k2c1) (by decide +kernel) rfl rfl rfl (by decide +kernel)
set_option maxRecDepth 65536 in
theorem w_c12 : (Jvm.Cond.code ({ cls := "com/example/gangplank/gangplank/gang/Rows", name := "update", desc := "(Lcom/example/gangplank/gangplank/gang/Row;)V" } : Jvm.MethodName) prog_126_method_5_code (2 : Nat) (Option.none : Option Jvm.ClassFile.FieldType)).before args0 about1 = true := code_word (m := ⟨2, 2⟩) (meth := k2m2) (c := k2c2) (by decide +kernel) rfl rfl rfl (by decide +kernel)
def codes1 : List Jvm.Cond := [Jvm.Cond.code x code maxLocals ret, Jvm.Cond.code ({ cls := "com/example/gangplank/gangplank/gang/Rows", name := "<init>", desc := "()V" } : Jvm.MethodName) prog_126_method_1_code (1 : Nat) (Option.none : Option Jvm.ClassFile.FieldType), Jvm.Cond.code ({ cls := "java/lang/Object", name := "<init>", desc := "()V" } : Jvm.MethodName) object_method_1_code (1 : Nat) (Option.none : Option Jvm.ClassFile.FieldType), Jvm.Cond.code ({ cls := "com/example/gangplank/gangplank/gang/Row", name := "<init>", desc := "(JJ)V" } : Jvm.MethodName) prog_123_method_1_code (5 : Nat) (Option.none : Option Jvm.ClassFile.FieldType), Jvm.Cond.code ({ cls := "java/util/PriorityQueue", name := "<init>", desc := "(Ljava/util/Comparator;)V" } : Jvm.MethodName) jdk_2655_method_3_code (2 : Nat) (Option.none : Option Jvm.ClassFile.FieldType), Jvm.Cond.code ({ cls := "java/util/PriorityQueue", name := "<init>", desc := "(ILjava/util/Comparator;)V" } : Jvm.MethodName) jdk_2655_method_4_code (3 : Nat) (Option.none : Option Jvm.ClassFile.FieldType), Jvm.Cond.code ({ cls := "java/util/AbstractQueue", name := "<init>", desc := "()V" } : Jvm.MethodName) jdk_2435_method_1_code (1 : Nat) (Option.none : Option Jvm.ClassFile.FieldType), Jvm.Cond.code ({ cls := "java/util/AbstractCollection", name := "<init>", desc := "()V" } : Jvm.MethodName) jdk_22_method_1_code (1 : Nat) (Option.none : Option Jvm.ClassFile.FieldType), Jvm.Cond.code ({ cls := "java/util/ArrayList", name := "<init>", desc := "()V" } : Jvm.MethodName) jdk_38_method_2_code (1 : Nat) (Option.none : Option Jvm.ClassFile.FieldType), Jvm.Cond.code ({ cls := "java/util/AbstractList", name := "<init>", desc := "()V" } : Jvm.MethodName) jdk_39_method_1_code (1 : Nat) (Option.none : Option Jvm.ClassFile.FieldType), Jvm.Cond.code ({ cls := "com/example/gangplank/gangplank/gang/Rows", name := "firstHoldingAtMost", desc := "(I)Lcom/example/gangplank/gangplank/gang/Row;" } : Jvm.MethodName) prog_126_method_8_code (3 : Nat) (Option.some (Jvm.ClassFile.FieldType.object "com/example/gangplank/gangplank/gang/Row")), Jvm.Cond.code ({ cls := "com/example/gangplank/gangplank/gang/Rows", name := "add", desc := "(Lcom/example/gangplank/gangplank/gang/Row;)V" } : Jvm.MethodName) prog_126_method_3_code (2 : Nat) (Option.none : Option Jvm.ClassFile.FieldType), Jvm.Cond.code ({ cls := "com/example/gangplank/gangplank/gang/Rows", name := "update", desc := "(Lcom/example/gangplank/gangplank/gang/Row;)V" } : Jvm.MethodName) prog_126_method_5_code (2 : Nat) (Option.none : Option Jvm.ClassFile.FieldType)]
set_option maxRecDepth 65536 in
theorem codes_eq : words1.filter isCode = codes1 := rfl
theorem w_codes : ∀ c ∈ words1.filter isCode, c.before args0 about1 = true := by
  rw [codes_eq]
  intro c hc
  simp only [codes1, List.mem_cons, List.not_mem_nil, or_false] at hc
  rcases hc with rfl | rfl | rfl | rfl | rfl | rfl | rfl | rfl | rfl | rfl | rfl | rfl | rfl
  · exact w_c0
  · exact w_c1
  · exact w_c2
  · exact w_c3
  · exact w_c4
  · exact w_c5
  · exact w_c6
  · exact w_c7
  · exact w_c8
  · exact w_c9
  · exact w_c10
  · exact w_c11
  · exact w_c12
set_option maxRecDepth 65536 in
theorem w_t1 : (words1.take 24).all (fun c => isCode c || c.before args0 about1) = true := by decide +kernel
set_option maxRecDepth 65536 in
theorem w_t2 : ((words1.drop 24).take 24).all (fun c => isCode c || c.before args0 about1) = true := by decide +kernel
set_option maxRecDepth 65536 in
theorem w_t3 : (((words1.drop 24).drop 24).take 24).all (fun c => isCode c || c.before args0 about1) = true := by decide +kernel
set_option maxRecDepth 65536 in
theorem w_t4 : ((((words1.drop 24).drop 24).drop 24).take 24).all (fun c => isCode c || c.before args0 about1) = true := by decide +kernel
set_option maxRecDepth 65536 in
theorem w_t5 : ((((words1.drop 24).drop 24).drop 24).drop 24).all (fun c => isCode c || c.before args0 about1) = true := by decide +kernel
theorem w_tables : (allAtoms (Jvm.Cond.code x code maxLocals ret :: tables_1)).before args0 about1 = true := by
  rw [allAtoms_all]
  show words1.all (fun c => c.before args0 about1) = true
  refine all_split ?_ w_codes
  rw [← List.take_append_drop 24 words1, List.all_append, w_t1, ← List.take_append_drop 24 (words1.drop 24), List.all_append, w_t2, ← List.take_append_drop 24 ((words1.drop 24).drop 24), List.all_append, w_t3, ← List.take_append_drop 24 (((words1.drop 24).drop 24).drop 24), List.all_append, w_t4, w_t5]
  rfl
set_option maxRecDepth 65536 in
theorem w_rest : rest_1_c.before args0 about1 = true := by decide +kernel
set_option maxRecDepth 65536 in
theorem w_case : (Jvm.Cond.and given_1 narrow_1).before args0 about1 = true := by decide +kernel
theorem w_applies : (headSpec (Jvm.Cond.code x code maxLocals ret :: tables_1) room_1).applies x e0.platform about1 = true :=
  (Spec.applies_iff w_frames).mpr ⟨w_running, w_runnable, w_alone, w_named, w_hears, w_ripe, w_room, w_tables⟩
theorem atStart : AtStart classFile x code maxLocals ret World_1 tables_1 room_1 Calls_1 rest_1 Pre_1 launch0 p0 e0 about1 theMethod args0 below0 :=
  ⟨lists_1, trivial, launch0.admits_env _ _ _, launch0.least_env, fairChoices_fair.cas, fairChoices_fair.clock, w_frames, w_args, w_heap, w_applies, trivial, w_rest, w_case⟩
end start1
theorem witness_1 : WitnessClaimed_1 := ⟨start1.p0, start1.e0, start1.about1, start1.theMethod, start1.args0, start1.below0, start1.atStart⟩
end Jvm.Pilot.@@N@@
