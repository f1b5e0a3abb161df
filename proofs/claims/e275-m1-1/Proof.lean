import JvmDerived
import JvmDerived.Pilot.@@N@@Statement
import JvmDerived.Pilot.@@N@@Code
set_option linter.unusedVariables false
set_option linter.unusedSimpArgs false
@@BLOCK:NumsL.lean.txt@@
namespace Jvm.Pilot.@@N@@
open Jvm Jvm.ClassFile Sem Op Lib Jvm.Free Jvm.Stand Jvm.LawKit Jvm.RoadKit Bundle Jvm.Pilot.@@N@@.Jvm.D
section Own
variable {p : Program} {l : Launch} {e : Env} {R : Room} {s : State} {m : MethodId} {args : Array Value} {below : List Frame} {meth : Method} {c : Code} {T : State} {locs : List Loc} {cells slots : Nat} {Z : State} {a0 : Array Value} {h h' : Heap} {Po : Outcome → State → Prop}
/-- from the frame g on top of T the run comes to an end of which Po holds -/
def own_Go (p : Program) (e : Env) (below : List Frame) (Po : Outcome → State → Prop) (T : State) (g : JFrame) : Prop :=
  ∃ U o, Steps p.tables e below (T.setTop g) U ∧ U.status = .running ∧ Ended U below o ∧ Po o U
theorem own_go {T T' : State} {g g' : JFrame} (st : ∀ t, Steps p.tables e below (T'.setTop g') t → Steps p.tables e below (T.setTop g) t) (k : own_Go p e below Po T' g') : own_Go p e below Po T g := by
  obtain ⟨U, o, h1, h2⟩ := k
  exact ⟨U, o, st U h1, h2⟩
/-- what a body leaves: it returned v, Q holds of v, of the heap at its end and of the places written -/
def own_Po (s : State) (Q : Option Value → Heap → List Loc → Prop) (C S : Nat) (o : Outcome) (U : State) : Prop :=
  ∃ v L, o = .returned v ∧ Q v U.heap L ∧ FrameEnd s o U L C S
theorem own_end (X : Stand p l e R s m args below meth c T locs cells slots) (hlk : meth.locks = false) {g : JFrame} {v : Option Value} (hv : meth.sig.returnType = none → v = none) {Q : Option Value → Heap → List Loc → Prop} {C S : Nat}
    (st : ∀ fs, (∀ (f : JFrame) (acts : List Action), f.method = m → f.locked = none → f.entered = [] → (doReturn e (T.setTop f) acts v).1 = T.setFrames fs) → Steps p.tables e below (T.setTop g) (T.setFrames fs))
    (hq : Q v T.heap locs) (hc : cells ≤ C) (hs : slots ≤ S) : own_Go p e below (own_Po s Q C S) T g := by
  obtain ⟨fs, hr, hrun, hended, hW, hsame⟩ := X.leave (v := v) hv hlk
  exact ⟨_, _, st fs hr, hrun, hended, _, _, rfl, hq, ⟨_, rfl⟩, hW, hsame.mono hc hs⟩
theorem own_retI (X : Stand p l e R s m args below meth c T locs cells slots) (hx : p.tables.exec = Jvm.exec) (hlk : meth.locks = false) (hret : meth.sig.returnType = some .int) (eT : T.heap = h) {pc : Nat} {Ls : Array Slot} {z : Int32} {rest : List Value} (hd : decode c.code pc = .ok (.ireturn, 1)) {Q : Option Value → Heap → List Loc → Prop} {C S : Nat}
    (hq : Q (some (.int z)) h locs) (hc : cells ≤ C) (hs : slots ≤ S) : own_Go p e below (own_Po s Q C S) T (mkF m pc Ls (.int z :: rest)) :=
  own_end X hlk (v := some (.int z)) (fun q => by rw [hret] at q; cases q) (fun _ hr => retOut X hx hret rfl (Or.inl ⟨rfl, Or.inl rfl, _, rfl⟩) hd hr) (by rw [eT]; exact hq) hc hs
theorem own_retZ (X : Stand p l e R s m args below meth c T locs cells slots) (hx : p.tables.exec = Jvm.exec) (hlk : meth.locks = false) (hret : meth.sig.returnType = some .boolean) (eT : T.heap = h) {pc : Nat} {Ls : Array Slot} {z : Int32} {rest : List Value} (hd : decode c.code pc = .ok (.ireturn, 1)) {Q : Option Value → Heap → List Loc → Prop} {C S : Nat}
    (hq : Q (some (.int (z &&& 1))) h locs) (hc : cells ≤ C) (hs : slots ≤ S) : own_Go p e below (own_Po s Q C S) T (mkF m pc Ls (.int z :: rest)) :=
  own_end X hlk (v := some (.int (nar .boolean z))) (fun q => by rw [hret] at q; cases q) (fun _ hr => retN X hx (t := .boolean) hret (Or.inl rfl) hd hr) (by rw [eT]; exact hq) hc hs
theorem own_retJ (X : Stand p l e R s m args below meth c T locs cells slots) (hx : p.tables.exec = Jvm.exec) (hlk : meth.locks = false) (hret : meth.sig.returnType = some .long) (eT : T.heap = h) {pc : Nat} {Ls : Array Slot} {z : Int64} {rest : List Value} (hd : decode c.code pc = .ok (.lreturn, 1)) {Q : Option Value → Heap → List Loc → Prop} {C S : Nat}
    (hq : Q (some (.long z)) h locs) (hc : cells ≤ C) (hs : slots ≤ S) : own_Go p e below (own_Po s Q C S) T (mkF m pc Ls (.long z :: rest)) :=
  own_end X hlk (v := some (.long z)) (fun q => by rw [hret] at q; cases q) (fun _ hr => retOut X hx hret rfl (Or.inr (Or.inl ⟨rfl, rfl, _, rfl⟩)) hd hr) (by rw [eT]; exact hq) hc hs
theorem own_retA (X : Stand p l e R s m args below meth c T locs cells slots) (hx : p.tables.exec = Jvm.exec) (hlk : meth.locks = false) {t : FieldType} (ht : t.isReference = true) (hret : meth.sig.returnType = some t) (eT : T.heap = h) {pc : Nat} {Ls : Array Slot} {z : Value} (hz : z.isRef = true) (hn : narrow t z = z) {rest : List Value} (hd : decode c.code pc = .ok (.areturn, 1)) {Q : Option Value → Heap → List Loc → Prop} {C S : Nat}
    (hq : Q (some z) h locs) (hc : cells ≤ C) (hs : slots ≤ S) : own_Go p e below (own_Po s Q C S) T (mkF m pc Ls (z :: rest)) :=
  own_end X hlk (v := some z) (fun q => by rw [hret] at q; cases q) (fun _ hr => retOut X hx hret hn (Or.inr (Or.inr (Or.inr (Or.inr ⟨rfl, ht, hz⟩)))) hd hr) (by rw [eT]; exact hq) hc hs
theorem own_ret0 (X : Stand p l e R s m args below meth c T locs cells slots) (hx : p.tables.exec = Jvm.exec) (hlk : meth.locks = false) (hret : meth.sig.returnType = none) (eT : T.heap = h) {pc : Nat} {Ls : Array Slot} (hd : decode c.code pc = .ok (.return_, 1)) {Q : Option Value → Heap → List Loc → Prop} {C S : Nat}
    (hq : Q none h locs) (hc : cells ≤ C) (hs : slots ≤ S) : own_Go p e below (own_Po s Q C S) T (mkF m pc Ls []) :=
  own_end X hlk (v := none) (fun _ => rfl) (fun _ hr => X.returnOut hx hret hd hr) (by rw [eT]; exact hq) hc hs
/-- a body's contract -/
def own_Met (l : Launch) (y : MethodName) (bytes : ByteArray) (maxL : Nat) (ret : Option FieldType) (ws : List Jvm.Cond) (rm : Room) (Z : State) (as' : Array Value) (h0 : Heap) (Q : Option Value → Heap → List Loc → Prop) : Prop :=
  MetFree l y (head1 (Jvm.Cond.code y bytes maxL ret :: ws) rm) (fun a U => a = as' ∧ Z.Warmed39 U.vm ∧ U.heap = h0) (fun _ _ _ _ _ => True) (fun _ U o U' => ∃ v L, o = .returned v ∧ Q v U'.heap L ∧ FrameEnd U o U' L rm.cells rm.slots)
theorem own_enter {y : MethodName} {bytes : ByteArray} {maxL : Nat} {ret : Option FieldType} {ws : List Jvm.Cond} {rm : Room} {as' : Array Value} {h0 : Heap} {Q : Option Value → Heap → List Loc → Prop} (hp : plainFor y = true)
    (body : ∀ (p : Program) (e : Env) (s : State) (m : MethodId) (below : List Frame) (meth : Method) (c : Code) (T : State), Stand p l e rm s m as' below meth c T [] 0 0 → p.tables.exec = Jvm.exec → c.code = bytes → c.maxLocals = maxL → Z.Warmed39 s.vm → s.vm.findClass y.cls = some m.cls → T.heap = h0 → meth.sig.returnType = ret → meth.locks = false → meth.name = y.name →
      own_Go p e below (own_Po s Q rm.cells rm.slots) T (entryFrame m as' maxL)) : own_Met l y bytes maxL ret ws rm Z as' h0 Q := by
  refine MetFree.of_bodySF hp hisR ?_
  intro p e s m args below meth c s₁ Bd hml0 hP hK
  obtain ⟨rfl, hZ, hh⟩ := hP
  exact body p e s m below meth c s₁ (Stand.of_body Bd) Bd.exec Bd.bytes hml0 hZ (findClass_of_methodNamed Bd.named) (by rw [← hh, Bd.state]; rfl) Bd.returns Bd.notSynchronized (name_of_methodNamed Bd.named Bd.method).1
theorem own_start {g g' : JFrame} (q : g = g') (k : own_Go p e below Po T g') : own_Go p e below Po T g := q ▸ k
theorem own_callS (X : Stand p l e R s m args below meth c T locs cells slots) (hx : p.tables.exec = Jvm.exec) (hZ : Z.Warmed39 s.vm) {own : String} (hown : s.vm.findClass own = some m.cls) (eT : T.heap = h) {index : Nat} {y : MethodName} {bytes : ByteArray} {maxL : Nat} {ret : Option FieldType} {rm : Room} {Q : Option Value → Heap → List Loc → Prop}
    (w1 : (Jvm.Cond.methodLink own index y).before a0 Z = true) (w2 : (Jvm.Cond.static y).before a0 Z = true) (w3 : (Jvm.Cond.initialized y.cls).before a0 Z = true) (w4 : (Jvm.Cond.code y bytes maxL ret).before a0 Z = true) (hy : y.cls ≠ "java/lang/invoke/MethodHandle" ∧ y.cls ≠ "java/lang/invoke/VarHandle")
    {pc : Nat} {Ls : Array Slot} {argsL rest st : List Value} (M : own_Met l y bytes maxL ret [] rm Z argsL.toArray h Q) (hml : Ls.size = c.maxLocals) {ps : List FieldType} {r : Option FieldType} (hps : parseMethodDescriptor y.desc = some ⟨ps, r⟩) (hl : argsL.length = ps.length) (hst : st = argsL.reverse ++ rest)
    (hd : decode c.code pc = .ok (.invokestatic index, 3)) {W : Nat} (hW : (rest.map fun v => v.category).sum ≤ W) (hf : rm.frames + 1 ≤ R.frames) (hlo : W + (maxL + 11) + rm.locals ≤ R.locals) (hc : cells + rm.cells ≤ R.cells) (hs : slots + rm.slots ≤ R.slots)
    (k : ∀ v T' L, Stand p l e R s m args below meth c T' (locs ++ L) (cells + rm.cells) (slots + rm.slots) → Q v T'.heap L → own_Go p e below Po T' (mkF m (pc + 3) Ls (v.toList ++ rest))) : own_Go p e below Po T (mkF m pc Ls st) := by
  subst hst
  obtain ⟨v, vm₁, ⟨T', L', k', n'⟩, -, X', ⟨L, hQ, l1, y1, z1⟩, st⟩ := Jvm.LawKit.callS X hx hown (mvT hZ w1) (mvT hZ w2) (mvT hZ w3) (mvT hZ w4) hy (backOf (W := W) M hZ w4 w3 hf hlo) (g := mkF m pc Ls (argsL.reverse ++ rest)) rfl hml (argsL := argsL) (rest := rest) (lenOf hps hl) rfl (by show 2 * 0 + _ ≤ _; simpa using hW) hd (fun _ _ => ⟨rfl, eT, hc, hs⟩)
  dsimp only [Pt.U, Pt.locs, Pt.cells, Pt.slots] at X' l1 y1 z1 st hQ
  subst l1 y1 z1
  exact own_go st (k v T' L X' hQ)
theorem own_callC (X : Stand p l e R s m args below meth c T locs cells slots) (hx : p.tables.exec = Jvm.exec) (hZ : Z.Warmed39 s.vm) {own : String} (hown : s.vm.findClass own = some m.cls) (eT : T.heap = h) {index : Nat} {y : MethodName} {bytes : ByteArray} {maxL : Nat} {rm : Room} {Q : Option Value → Heap → List Loc → Prop} (hy1 : y.name = "<init>")
    (w1 : (Jvm.Cond.methodLink own index y).before a0 Z = true) (w2 : (Jvm.Cond.instanceMethod y).before a0 Z = true) (w3 : (Jvm.Cond.initialized y.cls).before a0 Z = true) (w4 : (Jvm.Cond.code y bytes maxL none).before a0 Z = true) (hy : y.cls ≠ "java/lang/invoke/MethodHandle" ∧ y.cls ≠ "java/lang/invoke/VarHandle")
    {pc : Nat} {Ls : Array Slot} {a : Addr} {argsL rest st : List Value} (M : own_Met l y bytes maxL none [] rm Z (.ref a :: argsL).toArray h Q) (hml : Ls.size = c.maxLocals) {ps : List FieldType} {r : Option FieldType} (hps : parseMethodDescriptor y.desc = some ⟨ps, r⟩) (hl : argsL.length = ps.length) (hst : st = argsL.reverse ++ .ref a :: rest)
    (hd : decode c.code pc = .ok (.invokespecial index, 3)) {W : Nat} (hW : (rest.map fun v => v.category).sum ≤ W) (hf : rm.frames + 1 ≤ R.frames) (hlo : W + (maxL + 11) + rm.locals ≤ R.locals) (hc : cells + rm.cells ≤ R.cells) (hs : slots + rm.slots ≤ R.slots)
    (k : ∀ v T' L, Stand p l e R s m args below meth c T' (locs ++ L) (cells + rm.cells) (slots + rm.slots) → Q v T'.heap L → own_Go p e below Po T' (mkF m (pc + 3) Ls (v.toList ++ rest))) : own_Go p e below Po T (mkF m pc Ls st) := by
  subst hst
  obtain ⟨v, vm₁, ⟨T', L', k', n'⟩, -, X', ⟨L, hQ, l1, y1, z1⟩, st⟩ := X.specialBack hx (y := y) hy1 hown (mvT hZ w1) (mvT hZ w2) (mvT hZ w4) hy (backOf (W := W) M hZ w4 w3 hf hlo) (g := mkF m pc Ls (argsL.reverse ++ .ref a :: rest)) rfl hml (Steps.refl _) (a := a) (argsL := argsL) (rest := rest) (lenOf hps hl) rfl (by show 2 * 0 + _ ≤ _; simpa using hW) hd (fun _ _ => ⟨rfl, eT, hc, hs⟩)
  dsimp only [Pt.U, Pt.locs, Pt.cells, Pt.slots] at X' l1 y1 z1 st hQ
  subst l1 y1 z1
  exact own_go (fun _ kk => st.trans kk) (k v T' L X' hQ)
theorem own_callV (X : Stand p l e R s m args below meth c T locs cells slots) (hx : p.tables.exec = Jvm.exec) (hZ : Z.Warmed39 s.vm) {own C : String} (hown : s.vm.findClass own = some m.cls) (eT : T.heap = h) {index : Nat} {y : MethodName} {bytes : ByteArray} {maxL : Nat} {ret : Option FieldType} {rm : Room} {Q : Option Value → Heap → List Loc → Prop}
    (w1 : (Jvm.Cond.methodLink own index y).before a0 Z = true) (w2 : (Jvm.Cond.declares y).before a0 Z = true) (w5 : (Jvm.Cond.selects C y y).before a0 Z = true) (w6 : (Jvm.Cond.instanceMethod y).before a0 Z = true) (w3 : (Jvm.Cond.initialized y.cls).before a0 Z = true) (w4 : (Jvm.Cond.code y bytes maxL ret).before a0 Z = true) (hy : y.cls ≠ "java/lang/invoke/MethodHandle" ∧ y.cls ≠ "java/lang/invoke/VarHandle")
    {pc : Nat} {Ls : Array Slot} {a : Addr} (E : Exa Z h a C) {argsL rest st : List Value} (M : own_Met l y bytes maxL ret [] rm Z (.ref a :: argsL).toArray h Q) (hml : Ls.size = c.maxLocals) {ps : List FieldType} {r : Option FieldType} (hps : parseMethodDescriptor y.desc = some ⟨ps, r⟩) (hl : argsL.length = ps.length) (hst : st = argsL.reverse ++ .ref a :: rest)
    (hd : decode c.code pc = .ok (.invokevirtual index, 3)) {W : Nat} (hW : (rest.map fun v => v.category).sum ≤ W) (hf : rm.frames + 1 ≤ R.frames) (hlo : W + (maxL + 11) + rm.locals ≤ R.locals) (hc : cells + rm.cells ≤ R.cells) (hs : slots + rm.slots ≤ R.slots)
    (k : ∀ v T' L, Stand p l e R s m args below meth c T' (locs ++ L) (cells + rm.cells) (slots + rm.slots) → Q v T'.heap L → own_Go p e below Po T' (mkF m (pc + 3) Ls (v.toList ++ rest))) : own_Go p e below Po T (mkF m pc Ls st) := by
  subst hst
  obtain ⟨cq, kq, qa, qb, qc⟩ := isOf hZ eT E
  obtain ⟨v, vm₁, ⟨T', L', k', n'⟩, -, X', ⟨L, hQ, l1, y1, z1⟩, st⟩ := X.virtualBack hx (y := y) (z := y) hown (mvT hZ w1) (mvT hZ w2) (notFace_of_selects (args := #[]) (mvT hZ w5)) (mvT hZ w5) (mvT hZ w6) hy (backOf (W := W) M hZ w4 w3 hf hlo) qa qc (g := mkF m pc Ls (argsL.reverse ++ .ref a :: rest)) rfl hml (Steps.refl _) (argsL := argsL) (rest := rest) (lenOf hps hl) rfl (by show 2 * 0 + _ ≤ _; simpa using hW) hd (fun _ _ => ⟨rfl, eT, hc, hs⟩)
  dsimp only [Pt.U, Pt.locs, Pt.cells, Pt.slots] at X' l1 y1 z1 st hQ
  subst l1 y1 z1
  exact own_go (fun _ kk => st.trans kk) (k v T' L X' hQ)
/-- an array of n places, place j holds f j -/
def own_Ar (Z : State) (h : Heap) (a : Addr) (ty : FieldType) (n : Nat) (f : Nat → Value) : Prop := ∃ cl : Cell, Arr Z h a cl ty ∧ cl.slots.size = n ∧ ∀ j, j < n → cl.slots[j]? = some (f j)
def own_up (f : Nat → Value) (k : Nat) (v : Value) : Nat → Value := fun i => if i = k then v else f i
theorem own_up_eq (f : Nat → Value) (k : Nat) (v : Value) : own_up f k v k = v := if_pos rfl
theorem own_up_ne (f : Nat → Value) {k j : Nat} (v : Value) (q : j ≠ k) : own_up f k v j = f j := if_neg q
variable {a b : Addr} {ty : FieldType} {n sl : Nat} {f : Nat → Value} {v : Value} {wl : List Addr}
theorem own_Ar_lt (F : own_Ar Z h a ty n f) : a < h.size := by
  obtain ⟨_, A, _⟩ := F
  exact A.lt
theorem own_Ar_ext (F : own_Ar Z h a ty n f) (E : Ext h h') : own_Ar Z h' a ty n f := by
  obtain ⟨cl, A, r⟩ := F
  exact ⟨cl, A.ext E, r⟩
theorem own_Ar_other (F : own_Ar Z h b ty n f) (W : Wr h h' a sl v) (q : b ≠ a) : own_Ar Z h' b ty n f := by
  obtain ⟨cl, A, r⟩ := F
  exact ⟨cl, A.other W q, r⟩
theorem own_Ar_keep (F : own_Ar Z h a ty n f) (K : Keep h h' wl) (q : a ∉ wl) : own_Ar Z h' a ty n f := by
  obtain ⟨cl, A, r⟩ := F
  exact ⟨cl, ⟨K.2.1 _ _ A.1 q, A.2⟩, r⟩
theorem own_Ar_new {cA : ClassId} {z : Int32} (A : Arr Z h a (newA cA ty z) ty) (q : z.toNatClampNeg = n) : own_Ar Z h a ty n (fun _ => defaultValue ty) := by
  refine ⟨_, A, (sz_new cA ty z).trans q, fun j hj => ?_⟩
  simp [newA, q, hj]
theorem own_Ar_set (F : own_Ar Z h a ty n f) (W : Wr h h' a sl v) : own_Ar Z h' a ty n (own_up f sl v) := by
  obtain ⟨cl, A, r, g⟩ := F
  refine ⟨_, A.same W, (sz_set cl sl v).trans r, fun j hj => ?_⟩
  show (cl.slots.setIfInBounds sl v)[j]? = some (if j = sl then v else f j)
  rw [Array.getElem?_setIfInBounds]
  by_cases q : sl = j
  · subst q
    simp [r, hj]
  · rw [if_neg q, if_neg (Ne.symm q)]
    exact g j hj
theorem own_Ar_eq {g : Nat → Value} (F : own_Ar Z h a ty n f) (q : ∀ i, i < n → f i = g i) : own_Ar Z h a ty n g := by
  obtain ⟨cl, A, r, w⟩ := F
  exact ⟨cl, A, r, fun j hj => (w j hj).trans (congrArg some (q j hj))⟩
theorem own_idx {j : Int32} {k n : Nat} (hj : j.toInt = (k : Int)) (hk : k < n) : j.toNatClampNeg = k ∧ ¬ (j < 0 ∨ n ≤ j.toNatClampNeg) := by
  have h1 : j.toNatClampNeg = k := by
    show j.toInt.toNat = k
    rw [hj]; rfl
  refine ⟨h1, ?_⟩
  have h0 : (0 : Int32).toInt = 0 := rfl
  rw [h1, Int32.lt_iff_toInt_lt, hj, h0]
  omega
theorem own_iaload (X : Stand p l e R s m args below meth c T locs cells slots) (hx : p.tables.exec = Jvm.exec) (hZ : Z.Warmed39 s.vm) (eT : T.heap = h) (A : own_Ar Z h a .int n f) {j : Int32} (k : Nat) (hj : j.toInt = (k : Int)) (hk : k < n) {pc : Nat} {Ls : Array Slot} {st : List Value} (hd : decode c.code pc = .ok (.iaload, 1))
    (go : own_Go p e below Po T (mkF m (pc + 1) Ls (f k :: st))) : own_Go p e below Po T (mkF m pc Ls (.int j :: .ref a :: st)) := by
  obtain ⟨cl, A, r, w⟩ := A
  obtain ⟨q1, q2⟩ := own_idx hj hk
  exact own_go (fun _ kk => X.iaload hx (j := j) (v := f k) (by rw [eT]; exact A.1) (State.isArrayOf_alike hZ.alike A.2.1) A.2.2 (by rw [r]; exact q2) (by rw [q1]; exact w k hk) (g := mkF m pc Ls (.int j :: .ref a :: st)) rfl rfl hd _ kk) go
theorem own_laload (X : Stand p l e R s m args below meth c T locs cells slots) (hx : p.tables.exec = Jvm.exec) (hZ : Z.Warmed39 s.vm) (eT : T.heap = h) (A : own_Ar Z h a .long n f) {j : Int32} (k : Nat) (hj : j.toInt = (k : Int)) (hk : k < n) {pc : Nat} {Ls : Array Slot} {st : List Value} (hd : decode c.code pc = .ok (.laload, 1))
    (go : own_Go p e below Po T (mkF m (pc + 1) Ls (f k :: st))) : own_Go p e below Po T (mkF m pc Ls (.int j :: .ref a :: st)) := by
  obtain ⟨cl, A, r, w⟩ := A
  obtain ⟨q1, q2⟩ := own_idx hj hk
  exact own_go (fun _ kk => X.laload hx (j := j) (v := f k) (by rw [eT]; exact A.1) (State.isArrayOf_alike hZ.alike A.2.1) A.2.2 (by rw [r]; exact q2) (by rw [q1]; exact w k hk) (g := mkF m pc Ls (.int j :: .ref a :: st)) rfl rfl hd _ kk) go
theorem own_baload (X : Stand p l e R s m args below meth c T locs cells slots) (hx : p.tables.exec = Jvm.exec) (hZ : Z.Warmed39 s.vm) (eT : T.heap = h) (A : own_Ar Z h a .byte n f) {j : Int32} (k : Nat) (hj : j.toInt = (k : Int)) (hk : k < n) {pc : Nat} {Ls : Array Slot} {st : List Value} (hd : decode c.code pc = .ok (.baload, 1))
    (go : own_Go p e below Po T (mkF m (pc + 1) Ls (f k :: st))) : own_Go p e below Po T (mkF m pc Ls (.int j :: .ref a :: st)) := by
  obtain ⟨cl, A, r, w⟩ := A
  obtain ⟨q1, q2⟩ := own_idx hj hk
  exact own_go (fun _ kk => X.baloadBytes hx (j := j) (v := f k) (by rw [eT]; exact A.1) (State.isArrayOf_alike hZ.alike A.2.1) A.2.2 (by rw [r]; exact q2) (by rw [q1]; exact w k hk) (g := mkF m pc Ls (.int j :: .ref a :: st)) rfl rfl hd _ kk) go
theorem own_aaload (X : Stand p l e R s m args below meth c T locs cells slots) (hx : p.tables.exec = Jvm.exec) (hZ : Z.Warmed39 s.vm) (eT : T.heap = h) (A : own_Ar Z h a ty n f) (hty : ty.isReference = true) {j : Int32} (k : Nat) (hj : j.toInt = (k : Int)) (hk : k < n) {pc : Nat} {Ls : Array Slot} {st : List Value} (hd : decode c.code pc = .ok (.aaload, 1))
    (go : own_Go p e below Po T (mkF m (pc + 1) Ls (f k :: st))) : own_Go p e below Po T (mkF m pc Ls (.int j :: .ref a :: st)) := by
  obtain ⟨cl, A, r, w⟩ := A
  obtain ⟨q1, q2⟩ := own_idx hj hk
  exact own_go (fun _ kk => X.aaload hx (j := j) (v := f k) (by rw [eT]; exact A.1) (State.isArrayOf_alike hZ.alike A.2.1) hty A.2.2 (by rw [r]; exact q2) (by rw [q1]; exact w k hk) (g := mkF m pc Ls (.int j :: .ref a :: st)) rfl rfl hd _ kk) go
theorem own_len (X : Stand p l e R s m args below meth c T locs cells slots) (hx : p.tables.exec = Jvm.exec) (hZ : Z.Warmed39 s.vm) (eT : T.heap = h) (A : own_Ar Z h a ty n f) {pc : Nat} {Ls : Array Slot} {st : List Value} (hd : decode c.code pc = .ok (.arraylength, 1)) (z : Int32) (hz : n.toInt32 = z)
    (go : own_Go p e below Po T (mkF m (pc + 1) Ls (.int z :: st))) : own_Go p e below Po T (mkF m pc Ls (.ref a :: st)) := by
  obtain ⟨cl, A, r, w⟩ := A
  refine own_go (fun _ kk => X.arraylength hx (by rw [eT]; exact A.1) (State.isArrayOf_alike hZ.alike A.2.1) (g := mkF m pc Ls (.ref a :: st)) rfl rfl hd _ kk) ?_
  rw [r, hz]
  exact go
theorem own_iastore (X : Stand p l e R s m args below meth c T locs cells slots) (hx : p.tables.exec = Jvm.exec) (hZ : Z.Warmed39 s.vm) (eT : T.heap = h) (A : own_Ar Z h a .int n f) {j x : Int32} (k : Nat) (hj : j.toInt = (k : Int)) (hk : k < n) {pc : Nat} {Ls : Array Slot} {st : List Value} (hd : decode c.code pc = .ok (.iastore, 1))
    (go : ∀ T' h', Stand p l e R s m args below meth c T' (locs ++ [⟨a, k⟩]) cells slots → T'.heap = h' → Wr h h' a k (.int x) → own_Go p e below Po T' (mkF m (pc + 1) Ls st)) : own_Go p e below Po T (mkF m pc Ls (.int x :: .int j :: .ref a :: st)) := by
  obtain ⟨cl, A, r, w⟩ := A
  obtain ⟨q1, q2⟩ := own_idx hj hk
  obtain ⟨T', h', X', e', W, st'⟩ := stI X hx hZ eT A (j := j) (x := x) (by rw [r]; exact q2) (g := mkF m pc Ls (.int x :: .int j :: .ref a :: st)) rfl rfl hd
  rw [q1] at X' W
  exact own_go st' (go T' h' X' e' W)
theorem own_lastore (X : Stand p l e R s m args below meth c T locs cells slots) (hx : p.tables.exec = Jvm.exec) (hZ : Z.Warmed39 s.vm) (eT : T.heap = h) (A : own_Ar Z h a .long n f) {j : Int32} {x : Int64} (k : Nat) (hj : j.toInt = (k : Int)) (hk : k < n) {pc : Nat} {Ls : Array Slot} {st : List Value} (hd : decode c.code pc = .ok (.lastore, 1))
    (go : ∀ T' h', Stand p l e R s m args below meth c T' (locs ++ [⟨a, k⟩]) cells slots → T'.heap = h' → Wr h h' a k (.long x) → own_Go p e below Po T' (mkF m (pc + 1) Ls st)) : own_Go p e below Po T (mkF m pc Ls (.long x :: .int j :: .ref a :: st)) := by
  obtain ⟨cl, A, r, w⟩ := A
  obtain ⟨q1, q2⟩ := own_idx hj hk
  obtain ⟨T', h', X', e', W, st'⟩ := stJ X hx hZ eT A (j := j) (x := x) (by rw [r]; exact q2) (g := mkF m pc Ls (.long x :: .int j :: .ref a :: st)) rfl rfl hd
  rw [q1] at X' W
  exact own_go st' (go T' h' X' e' W)
theorem own_bastore (X : Stand p l e R s m args below meth c T locs cells slots) (hx : p.tables.exec = Jvm.exec) (hZ : Z.Warmed39 s.vm) (eT : T.heap = h) (A : own_Ar Z h a .byte n f) {j x : Int32} (k : Nat) (hj : j.toInt = (k : Int)) (hk : k < n) {pc : Nat} {Ls : Array Slot} {st : List Value} (hd : decode c.code pc = .ok (.bastore, 1))
    (go : ∀ T' h', Stand p l e R s m args below meth c T' (locs ++ [⟨a, k⟩]) cells slots → T'.heap = h' → Wr h h' a k (.int x.toInt8.toInt32) → own_Go p e below Po T' (mkF m (pc + 1) Ls st)) : own_Go p e below Po T (mkF m pc Ls (.int x :: .int j :: .ref a :: st)) := by
  obtain ⟨cl, A, r, w⟩ := A
  obtain ⟨q1, q2⟩ := own_idx hj hk
  obtain ⟨T', h', X', e', W, st'⟩ := stB X hx hZ eT A (j := j) (x := x) (by rw [r]; exact q2) (g := mkF m pc Ls (.int x :: .int j :: .ref a :: st)) rfl rfl hd
  rw [q1] at X' W
  exact own_go st' (go T' h' X' e' W)
theorem own_newP (X : Stand p l e R s m args below meth c T locs cells slots) (hx : p.tables.exec = Jvm.exec) (hZ : Z.Warmed39 s.vm) (eT : T.heap = h) {aty : ArrayType} (w : (Jvm.Cond.arrayClass (newarray.typeOf aty)).before a0 Z = true) {z : Int32} (n : Nat) (hz : z.toNatClampNeg = n) (hz0 : ¬ z < 0) (hb8 : n * 8 ≤ 536870912) (hc : cells + 1 ≤ R.cells) (hs : slots + n ≤ R.slots) {pc : Nat} {Ls : Array Slot} {st : List Value} (hd : decode c.code pc = .ok (.newarray aty, 2))
    (go : ∀ T' h' b, b = h.size → Stand p l e R s m args below meth c T' locs (cells + 1) (slots + n) → T'.heap = h' → Ext h h' → own_Ar Z h' b (newarray.typeOf aty) n (fun _ => defaultValue (newarray.typeOf aty)) → own_Go p e below Po T' (mkF m (pc + 2) Ls (.ref b :: st))) : own_Go p e below Po T (mkF m pc Ls (.int z :: st)) := by
  obtain ⟨T', h', cA, X', e', E, A, st'⟩ := newP X hx hZ w eT (g := mkF m pc Ls (.int z :: st)) rfl hd rfl hz0 (cap := n) (Nat.le_of_eq hz) hb8 hc hs
  exact own_go st' (go T' h' _ rfl X' e' E (own_Ar_new A hz))
end Own
section OwnI
variable {Z : State} {h h' : Heap} {a b : Addr} {ty : FieldType} {n sl : Nat} {f : Nat → Int32} {v : Value} {wl : List Addr} {x : Int32}
/-- an array of ints (bytes): place j holds f j -/
def own_Ai (Z : State) (h : Heap) (a : Addr) (ty : FieldType) (n : Nat) (f : Nat → Int32) : Prop := own_Ar Z h a ty n (fun i => .int (f i))
def own_upi (f : Nat → Int32) (k : Nat) (x : Int32) : Nat → Int32 := fun i => if i = k then x else f i
theorem own_Ai_set (F : own_Ai Z h a ty n f) (W : Wr h h' a sl (.int x)) : own_Ai Z h' a ty n (own_upi f sl x) :=
  own_Ar_eq (own_Ar_set F W) (fun i _ => by unfold own_up own_upi; split <;> rfl)
theorem own_Ai_eq {g : Nat → Int32} (F : own_Ai Z h a ty n f) (q : ∀ i, i < n → f i = g i) : own_Ai Z h a ty n g := own_Ar_eq F fun i hi => by rw [q i hi]
end OwnI
theorem pn_0 : plainName "org/kusuridana/Utf8CodePointPinLaw" = true := by first | (simp [plainName, overriddenIn]; done) | decide +kernel
theorem pd_0 : parseMethodDescriptor "(IIJ)Z" = some ⟨[.int, .int, .long], some .boolean⟩ := by decide +kernel
theorem ef_0 (m : MethodId) (x0 : Int32) (x1 : Int32) (x2 : Int64) : entryFrame m #[(.int x0), (.int x1), (.long x2)] maxLocals = mkF m 0 #[.val (.int x0), .val (.int x1), .val (.long x2), .second, .unset, .unset, .unset, .unset, .unset, .unset, .unset, .unset] [] := by first | (simp [entryFrame, mkF, argsToLocals, Value.category, maxLocals]; done) | rfl
theorem d1_0 : decode method_2_code 0 = .ok (.iload_n 0, 1) := by decide +kernel
theorem d1_1 : decode method_2_code 1 = .ok (.sipush 128, 3) := by decide +kernel
theorem d1_4 : decode method_2_code 4 = .ok (.if_icmp .ge 5, 3) := by decide +kernel
theorem d1_7 : decode method_2_code 7 = .ok (.iconst 1, 1) := by decide +kernel
theorem d1_8 : decode method_2_code 8 = .ok (.ireturn, 1) := by decide +kernel
theorem d1_9 : decode method_2_code 9 = .ok (.iload_n 0, 1) := by decide +kernel
theorem d1_10 : decode method_2_code 10 = .ok (.sipush 2048, 3) := by decide +kernel
theorem d1_13 : decode method_2_code 13 = .ok (.if_icmp .ge 5, 3) := by decide +kernel
theorem d1_16 : decode method_2_code 16 = .ok (.iconst 2, 1) := by decide +kernel
theorem d1_17 : decode method_2_code 17 = .ok (.ireturn, 1) := by decide +kernel
theorem d1_18 : decode method_2_code 18 = .ok (.iload_n 0, 1) := by decide +kernel
theorem d1_19 : decode method_2_code 19 = .ok (.ldc 7, 2) := by decide +kernel
theorem d1_21 : decode method_2_code 21 = .ok (.if_icmp .ge 5, 3) := by decide +kernel
theorem d1_24 : decode method_2_code 24 = .ok (.iconst 3, 1) := by decide +kernel
theorem d1_25 : decode method_2_code 25 = .ok (.ireturn, 1) := by decide +kernel
theorem d1_26 : decode method_2_code 26 = .ok (.iconst 4, 1) := by decide +kernel
theorem d1_27 : decode method_2_code 27 = .ok (.ireturn, 1) := by decide +kernel
theorem pn_1 : plainName "org/kusuridana/Utf8CodePointPinLaw" = true := by first | (simp [plainName, overriddenIn]; done) | decide +kernel
theorem pd_1 : parseMethodDescriptor "(I)I" = some ⟨[.int], some .int⟩ := by decide +kernel
theorem ef_1 (m : MethodId) (x0 : Int32) : entryFrame m #[(.int x0)] 1 = mkF m 0 #[.val (.int x0)] [] := by first | (simp [entryFrame, mkF, argsToLocals, Value.category]; done) | rfl
theorem d2_0 : decode method_3_code 0 = .ok (.iload_n 2, 1) := by decide +kernel
theorem d2_1 : decode method_3_code 1 = .ok (.ifCond .ne 47, 3) := by decide +kernel
theorem d2_4 : decode method_3_code 4 = .ok (.iload_n 1, 1) := by decide +kernel
theorem d2_5 : decode method_3_code 5 = .ok (.iconst 1, 1) := by decide +kernel
theorem d2_6 : decode method_3_code 6 = .ok (.if_icmp .ne 5, 3) := by decide +kernel
theorem d2_9 : decode method_3_code 9 = .ok (.iload_n 0, 1) := by decide +kernel
theorem d2_10 : decode method_3_code 10 = .ok (.ireturn, 1) := by decide +kernel
theorem d2_11 : decode method_3_code 11 = .ok (.iload_n 1, 1) := by decide +kernel
theorem d2_12 : decode method_3_code 12 = .ok (.iconst 2, 1) := by decide +kernel
theorem d2_13 : decode method_3_code 13 = .ok (.if_icmp .ne 12, 3) := by decide +kernel
theorem d2_16 : decode method_3_code 16 = .ok (.sipush 192, 3) := by decide +kernel
theorem d2_19 : decode method_3_code 19 = .ok (.iload_n 0, 1) := by decide +kernel
theorem d2_20 : decode method_3_code 20 = .ok (.bipush 6, 2) := by decide +kernel
theorem d2_22 : decode method_3_code 22 = .ok (.ishr, 1) := by decide +kernel
theorem d2_23 : decode method_3_code 23 = .ok (.ior, 1) := by decide +kernel
theorem d2_24 : decode method_3_code 24 = .ok (.ireturn, 1) := by decide +kernel
theorem d2_25 : decode method_3_code 25 = .ok (.iload_n 1, 1) := by decide +kernel
theorem d2_26 : decode method_3_code 26 = .ok (.iconst 3, 1) := by decide +kernel
theorem d2_27 : decode method_3_code 27 = .ok (.if_icmp .ne 12, 3) := by decide +kernel
theorem d2_30 : decode method_3_code 30 = .ok (.sipush 224, 3) := by decide +kernel
theorem d2_33 : decode method_3_code 33 = .ok (.iload_n 0, 1) := by decide +kernel
theorem d2_34 : decode method_3_code 34 = .ok (.bipush 12, 2) := by decide +kernel
theorem d2_36 : decode method_3_code 36 = .ok (.ishr, 1) := by decide +kernel
theorem d2_37 : decode method_3_code 37 = .ok (.ior, 1) := by decide +kernel
theorem d2_38 : decode method_3_code 38 = .ok (.ireturn, 1) := by decide +kernel
theorem d2_39 : decode method_3_code 39 = .ok (.sipush 240, 3) := by decide +kernel
theorem d2_42 : decode method_3_code 42 = .ok (.iload_n 0, 1) := by decide +kernel
theorem d2_43 : decode method_3_code 43 = .ok (.bipush 18, 2) := by decide +kernel
theorem d2_45 : decode method_3_code 45 = .ok (.ishr, 1) := by decide +kernel
theorem d2_46 : decode method_3_code 46 = .ok (.ior, 1) := by decide +kernel
theorem d2_47 : decode method_3_code 47 = .ok (.ireturn, 1) := by decide +kernel
theorem d2_48 : decode method_3_code 48 = .ok (.sipush 128, 3) := by decide +kernel
theorem d2_51 : decode method_3_code 51 = .ok (.iload_n 0, 1) := by decide +kernel
theorem d2_52 : decode method_3_code 52 = .ok (.bipush 6, 2) := by decide +kernel
theorem d2_54 : decode method_3_code 54 = .ok (.iload_n 1, 1) := by decide +kernel
theorem d2_55 : decode method_3_code 55 = .ok (.iconst 1, 1) := by decide +kernel
theorem d2_56 : decode method_3_code 56 = .ok (.isub, 1) := by decide +kernel
theorem d2_57 : decode method_3_code 57 = .ok (.iload_n 2, 1) := by decide +kernel
theorem d2_58 : decode method_3_code 58 = .ok (.isub, 1) := by decide +kernel
theorem d2_59 : decode method_3_code 59 = .ok (.imul, 1) := by decide +kernel
theorem d2_60 : decode method_3_code 60 = .ok (.ishr, 1) := by decide +kernel
theorem d2_61 : decode method_3_code 61 = .ok (.bipush 63, 2) := by decide +kernel
theorem d2_63 : decode method_3_code 63 = .ok (.iand, 1) := by decide +kernel
theorem d2_64 : decode method_3_code 64 = .ok (.ior, 1) := by decide +kernel
theorem d2_65 : decode method_3_code 65 = .ok (.ireturn, 1) := by decide +kernel
theorem pn_2 : plainName "org/kusuridana/Utf8CodePointPinLaw" = true := by first | (simp [plainName, overriddenIn]; done) | decide +kernel
theorem pd_2 : parseMethodDescriptor "(III)I" = some ⟨[.int, .int, .int], some .int⟩ := by decide +kernel
theorem ef_2 (m : MethodId) (x0 : Int32) (x1 : Int32) (x2 : Int32) : entryFrame m #[(.int x0), (.int x1), (.int x2)] 3 = mkF m 0 #[.val (.int x0), .val (.int x1), .val (.int x2)] [] := by first | (simp [entryFrame, mkF, argsToLocals, Value.category]; done) | rfl
theorem d3_0 : decode prog_164_method_2_code 0 = .ok (.aload_n 0, 1) := by decide +kernel
theorem d3_1 : decode prog_164_method_2_code 1 = .ok (.iload_n 1, 1) := by decide +kernel
theorem d3_2 : decode prog_164_method_2_code 2 = .ok (.baload, 1) := by decide +kernel
theorem d3_3 : decode prog_164_method_2_code 3 = .ok (.sipush 255, 3) := by decide +kernel
theorem d3_6 : decode prog_164_method_2_code 6 = .ok (.iand, 1) := by decide +kernel
theorem d3_7 : decode prog_164_method_2_code 7 = .ok (.istore_n 3, 1) := by decide +kernel
theorem d3_8 : decode prog_164_method_2_code 8 = .ok (.iload_n 3, 1) := by decide +kernel
theorem d3_9 : decode prog_164_method_2_code 9 = .ok (.sipush 128, 3) := by decide +kernel
theorem d3_12 : decode prog_164_method_2_code 12 = .ok (.if_icmp .ge 5, 3) := by decide +kernel
theorem d3_15 : decode prog_164_method_2_code 15 = .ok (.iload_n 3, 1) := by decide +kernel
theorem d3_16 : decode prog_164_method_2_code 16 = .ok (.ireturn, 1) := by decide +kernel
theorem d3_17 : decode prog_164_method_2_code 17 = .ok (.iload_n 3, 1) := by decide +kernel
theorem d3_18 : decode prog_164_method_2_code 18 = .ok (.sipush 194, 3) := by decide +kernel
theorem d3_21 : decode prog_164_method_2_code 21 = .ok (.if_icmp .lt 27, 3) := by decide +kernel
theorem d3_24 : decode prog_164_method_2_code 24 = .ok (.iload_n 3, 1) := by decide +kernel
theorem d3_25 : decode prog_164_method_2_code 25 = .ok (.sipush 223, 3) := by decide +kernel
theorem d3_28 : decode prog_164_method_2_code 28 = .ok (.if_icmp .gt 20, 3) := by decide +kernel
theorem d3_31 : decode prog_164_method_2_code 31 = .ok (.iconst 2, 1) := by decide +kernel
theorem d3_32 : decode prog_164_method_2_code 32 = .ok (.istore 4, 2) := by decide +kernel
theorem d3_34 : decode prog_164_method_2_code 34 = .ok (.iload_n 3, 1) := by decide +kernel
theorem d3_35 : decode prog_164_method_2_code 35 = .ok (.bipush 31, 2) := by decide +kernel
theorem d3_37 : decode prog_164_method_2_code 37 = .ok (.iand, 1) := by decide +kernel
theorem d3_38 : decode prog_164_method_2_code 38 = .ok (.istore 5, 2) := by decide +kernel
theorem d3_40 : decode prog_164_method_2_code 40 = .ok (.sipush 128, 3) := by decide +kernel
theorem d3_43 : decode prog_164_method_2_code 43 = .ok (.istore 6, 2) := by decide +kernel
theorem d3_45 : decode prog_164_method_2_code 45 = .ok (.goto 66, 3) := by decide +kernel
theorem d3_48 : decode prog_164_method_2_code 48 = .ok (.iload_n 3, 1) := by decide +kernel
theorem d3_49 : decode prog_164_method_2_code 49 = .ok (.sipush 224, 3) := by decide +kernel
theorem d3_52 : decode prog_164_method_2_code 52 = .ok (.if_icmp .lt 27, 3) := by decide +kernel
theorem d3_55 : decode prog_164_method_2_code 55 = .ok (.iload_n 3, 1) := by decide +kernel
theorem d3_56 : decode prog_164_method_2_code 56 = .ok (.sipush 239, 3) := by decide +kernel
theorem d3_59 : decode prog_164_method_2_code 59 = .ok (.if_icmp .gt 20, 3) := by decide +kernel
theorem d3_62 : decode prog_164_method_2_code 62 = .ok (.iconst 3, 1) := by decide +kernel
theorem d3_63 : decode prog_164_method_2_code 63 = .ok (.istore 4, 2) := by decide +kernel
theorem d3_65 : decode prog_164_method_2_code 65 = .ok (.iload_n 3, 1) := by decide +kernel
theorem d3_66 : decode prog_164_method_2_code 66 = .ok (.bipush 15, 2) := by decide +kernel
theorem d3_68 : decode prog_164_method_2_code 68 = .ok (.iand, 1) := by decide +kernel
theorem d3_69 : decode prog_164_method_2_code 69 = .ok (.istore 5, 2) := by decide +kernel
theorem d3_71 : decode prog_164_method_2_code 71 = .ok (.sipush 2048, 3) := by decide +kernel
theorem d3_74 : decode prog_164_method_2_code 74 = .ok (.istore 6, 2) := by decide +kernel
theorem d3_76 : decode prog_164_method_2_code 76 = .ok (.goto 35, 3) := by decide +kernel
theorem d3_79 : decode prog_164_method_2_code 79 = .ok (.iload_n 3, 1) := by decide +kernel
theorem d3_80 : decode prog_164_method_2_code 80 = .ok (.sipush 240, 3) := by decide +kernel
theorem d3_83 : decode prog_164_method_2_code 83 = .ok (.if_icmp .lt 26, 3) := by decide +kernel
theorem d3_86 : decode prog_164_method_2_code 86 = .ok (.iload_n 3, 1) := by decide +kernel
theorem d3_87 : decode prog_164_method_2_code 87 = .ok (.sipush 244, 3) := by decide +kernel
theorem d3_90 : decode prog_164_method_2_code 90 = .ok (.if_icmp .gt 19, 3) := by decide +kernel
theorem d3_93 : decode prog_164_method_2_code 93 = .ok (.iconst 4, 1) := by decide +kernel
theorem d3_94 : decode prog_164_method_2_code 94 = .ok (.istore 4, 2) := by decide +kernel
theorem d3_96 : decode prog_164_method_2_code 96 = .ok (.iload_n 3, 1) := by decide +kernel
theorem d3_97 : decode prog_164_method_2_code 97 = .ok (.bipush 7, 2) := by decide +kernel
theorem d3_99 : decode prog_164_method_2_code 99 = .ok (.iand, 1) := by decide +kernel
theorem d3_100 : decode prog_164_method_2_code 100 = .ok (.istore 5, 2) := by decide +kernel
theorem d3_102 : decode prog_164_method_2_code 102 = .ok (.ldc 7, 2) := by decide +kernel
theorem d3_104 : decode prog_164_method_2_code 104 = .ok (.istore 6, 2) := by decide +kernel
theorem d3_106 : decode prog_164_method_2_code 106 = .ok (.goto 5, 3) := by decide +kernel
theorem d3_109 : decode prog_164_method_2_code 109 = .ok (.iconst (-1), 1) := by decide +kernel
theorem d3_110 : decode prog_164_method_2_code 110 = .ok (.ireturn, 1) := by decide +kernel
theorem d3_111 : decode prog_164_method_2_code 111 = .ok (.iload_n 1, 1) := by decide +kernel
theorem d3_112 : decode prog_164_method_2_code 112 = .ok (.iload 4, 2) := by decide +kernel
theorem d3_114 : decode prog_164_method_2_code 114 = .ok (.iadd, 1) := by decide +kernel
theorem d3_115 : decode prog_164_method_2_code 115 = .ok (.iload_n 2, 1) := by decide +kernel
theorem d3_116 : decode prog_164_method_2_code 116 = .ok (.if_icmp .le 5, 3) := by decide +kernel
theorem d3_119 : decode prog_164_method_2_code 119 = .ok (.iconst (-1), 1) := by decide +kernel
theorem d3_120 : decode prog_164_method_2_code 120 = .ok (.ireturn, 1) := by decide +kernel
theorem d3_121 : decode prog_164_method_2_code 121 = .ok (.iload 5, 2) := by decide +kernel
theorem d3_123 : decode prog_164_method_2_code 123 = .ok (.istore 7, 2) := by decide +kernel
theorem d3_125 : decode prog_164_method_2_code 125 = .ok (.iconst 1, 1) := by decide +kernel
theorem d3_126 : decode prog_164_method_2_code 126 = .ok (.istore 8, 2) := by decide +kernel
theorem d3_128 : decode prog_164_method_2_code 128 = .ok (.iload 8, 2) := by decide +kernel
theorem d3_130 : decode prog_164_method_2_code 130 = .ok (.iload 4, 2) := by decide +kernel
theorem d3_132 : decode prog_164_method_2_code 132 = .ok (.if_icmp .ge 48, 3) := by decide +kernel
theorem d3_135 : decode prog_164_method_2_code 135 = .ok (.aload_n 0, 1) := by decide +kernel
theorem d3_136 : decode prog_164_method_2_code 136 = .ok (.iload_n 1, 1) := by decide +kernel
theorem d3_137 : decode prog_164_method_2_code 137 = .ok (.iload 8, 2) := by decide +kernel
theorem d3_139 : decode prog_164_method_2_code 139 = .ok (.iadd, 1) := by decide +kernel
theorem d3_140 : decode prog_164_method_2_code 140 = .ok (.baload, 1) := by decide +kernel
theorem d3_141 : decode prog_164_method_2_code 141 = .ok (.sipush 255, 3) := by decide +kernel
theorem d3_144 : decode prog_164_method_2_code 144 = .ok (.iand, 1) := by decide +kernel
theorem d3_145 : decode prog_164_method_2_code 145 = .ok (.istore 9, 2) := by decide +kernel
theorem d3_147 : decode prog_164_method_2_code 147 = .ok (.iload 9, 2) := by decide +kernel
theorem d3_149 : decode prog_164_method_2_code 149 = .ok (.sipush 192, 3) := by decide +kernel
theorem d3_152 : decode prog_164_method_2_code 152 = .ok (.iand, 1) := by decide +kernel
theorem d3_153 : decode prog_164_method_2_code 153 = .ok (.sipush 128, 3) := by decide +kernel
theorem d3_156 : decode prog_164_method_2_code 156 = .ok (.if_icmp .eq 5, 3) := by decide +kernel
theorem d3_159 : decode prog_164_method_2_code 159 = .ok (.iconst (-1), 1) := by decide +kernel
theorem d3_160 : decode prog_164_method_2_code 160 = .ok (.ireturn, 1) := by decide +kernel
theorem d3_161 : decode prog_164_method_2_code 161 = .ok (.iload 7, 2) := by decide +kernel
theorem d3_163 : decode prog_164_method_2_code 163 = .ok (.bipush 6, 2) := by decide +kernel
theorem d3_165 : decode prog_164_method_2_code 165 = .ok (.ishl, 1) := by decide +kernel
theorem d3_166 : decode prog_164_method_2_code 166 = .ok (.iload 9, 2) := by decide +kernel
theorem d3_168 : decode prog_164_method_2_code 168 = .ok (.bipush 63, 2) := by decide +kernel
theorem d3_170 : decode prog_164_method_2_code 170 = .ok (.iand, 1) := by decide +kernel
theorem d3_171 : decode prog_164_method_2_code 171 = .ok (.ior, 1) := by decide +kernel
theorem d3_172 : decode prog_164_method_2_code 172 = .ok (.istore 7, 2) := by decide +kernel
theorem d3_174 : decode prog_164_method_2_code 174 = .ok (.iinc 8 1, 3) := by decide +kernel
theorem d3_177 : decode prog_164_method_2_code 177 = .ok (.goto (-49), 3) := by decide +kernel
theorem d3_180 : decode prog_164_method_2_code 180 = .ok (.iload 7, 2) := by decide +kernel
theorem d3_182 : decode prog_164_method_2_code 182 = .ok (.ldc 10, 2) := by decide +kernel
theorem d3_184 : decode prog_164_method_2_code 184 = .ok (.if_icmp .lt 14, 3) := by decide +kernel
theorem d3_187 : decode prog_164_method_2_code 187 = .ok (.iload 7, 2) := by decide +kernel
theorem d3_189 : decode prog_164_method_2_code 189 = .ok (.ldc 11, 2) := by decide +kernel
theorem d3_191 : decode prog_164_method_2_code 191 = .ok (.if_icmp .gt 7, 3) := by decide +kernel
theorem d3_194 : decode prog_164_method_2_code 194 = .ok (.iconst 1, 1) := by decide +kernel
theorem d3_195 : decode prog_164_method_2_code 195 = .ok (.goto 4, 3) := by decide +kernel
theorem d3_198 : decode prog_164_method_2_code 198 = .ok (.iconst 0, 1) := by decide +kernel
theorem d3_199 : decode prog_164_method_2_code 199 = .ok (.istore 8, 2) := by decide +kernel
theorem d3_201 : decode prog_164_method_2_code 201 = .ok (.iload 7, 2) := by decide +kernel
theorem d3_203 : decode prog_164_method_2_code 203 = .ok (.iload 6, 2) := by decide +kernel
theorem d3_205 : decode prog_164_method_2_code 205 = .ok (.if_icmp .lt 15, 3) := by decide +kernel
theorem d3_208 : decode prog_164_method_2_code 208 = .ok (.iload 8, 2) := by decide +kernel
theorem d3_210 : decode prog_164_method_2_code 210 = .ok (.ifCond .ne 10, 3) := by decide +kernel
theorem d3_213 : decode prog_164_method_2_code 213 = .ok (.iload 7, 2) := by decide +kernel
theorem d3_215 : decode prog_164_method_2_code 215 = .ok (.ldc 12, 2) := by decide +kernel
theorem d3_217 : decode prog_164_method_2_code 217 = .ok (.if_icmp .le 7, 3) := by decide +kernel
theorem d3_220 : decode prog_164_method_2_code 220 = .ok (.iconst (-1), 1) := by decide +kernel
theorem d3_221 : decode prog_164_method_2_code 221 = .ok (.goto 5, 3) := by decide +kernel
theorem d3_224 : decode prog_164_method_2_code 224 = .ok (.iload 7, 2) := by decide +kernel
theorem d3_226 : decode prog_164_method_2_code 226 = .ok (.ireturn, 1) := by decide +kernel
theorem pn_3 : plainName "org/kusuridana/Utf8" = true := by first | (simp [plainName, overriddenIn]; done) | decide +kernel
theorem pd_3 : parseMethodDescriptor "([BII)I" = some ⟨[(.array .byte), .int, .int], some .int⟩ := by decide +kernel
theorem ef_3 (m : MethodId) (x0 : Addr) (x1 : Int32) (x2 : Int32) : entryFrame m #[(.ref x0), (.int x1), (.int x2)] 10 = mkF m 0 #[.val (.ref x0), .val (.int x1), .val (.int x2), .unset, .unset, .unset, .unset, .unset, .unset, .unset] [] := by first | (simp [entryFrame, mkF, argsToLocals, Value.category]; done) | rfl
theorem d4_0 : decode method_4_code 0 = .ok (.iload_n 3, 1) := by decide +kernel
theorem d4_1 : decode method_4_code 1 = .ok (.ifCond .lt 9, 3) := by decide +kernel
theorem d4_4 : decode method_4_code 4 = .ok (.iload_n 3, 1) := by decide +kernel
theorem d4_5 : decode method_4_code 5 = .ok (.ldc 8, 2) := by decide +kernel
theorem d4_7 : decode method_4_code 7 = .ok (.if_icmp .le 5, 3) := by decide +kernel
theorem d4_10 : decode method_4_code 10 = .ok (.iconst 0, 1) := by decide +kernel
theorem d4_11 : decode method_4_code 11 = .ok (.ireturn, 1) := by decide +kernel
theorem d4_12 : decode method_4_code 12 = .ok (.iload_n 3, 1) := by decide +kernel
theorem d4_13 : decode method_4_code 13 = .ok (.ldc 9, 2) := by decide +kernel
theorem d4_15 : decode method_4_code 15 = .ok (.if_icmp .lt 11, 3) := by decide +kernel
theorem d4_18 : decode method_4_code 18 = .ok (.iload_n 3, 1) := by decide +kernel
theorem d4_19 : decode method_4_code 19 = .ok (.ldc 10, 2) := by decide +kernel
theorem d4_21 : decode method_4_code 21 = .ok (.if_icmp .gt 5, 3) := by decide +kernel
theorem d4_24 : decode method_4_code 24 = .ok (.iconst 0, 1) := by decide +kernel
theorem d4_25 : decode method_4_code 25 = .ok (.ireturn, 1) := by decide +kernel
theorem d4_26 : decode method_4_code 26 = .ok (.iload_n 3, 1) := by decide +kernel
theorem d4_27 : decode method_4_code 27 = .ok (.invokestatic 11, 3) := by decide +kernel
theorem d4_30 : decode method_4_code 30 = .ok (.istore 4, 2) := by decide +kernel
theorem d4_32 : decode method_4_code 32 = .ok (.iload_n 1, 1) := by decide +kernel
theorem d4_33 : decode method_4_code 33 = .ok (.iload 4, 2) := by decide +kernel
theorem d4_35 : decode method_4_code 35 = .ok (.iadd, 1) := by decide +kernel
theorem d4_36 : decode method_4_code 36 = .ok (.iload_n 2, 1) := by decide +kernel
theorem d4_37 : decode method_4_code 37 = .ok (.if_icmp .le 5, 3) := by decide +kernel
theorem d4_40 : decode method_4_code 40 = .ok (.iconst 0, 1) := by decide +kernel
theorem d4_41 : decode method_4_code 41 = .ok (.ireturn, 1) := by decide +kernel
theorem d4_42 : decode method_4_code 42 = .ok (.aload_n 0, 1) := by decide +kernel
theorem d4_43 : decode method_4_code 43 = .ok (.iload_n 1, 1) := by decide +kernel
theorem d4_44 : decode method_4_code 44 = .ok (.baload, 1) := by decide +kernel
theorem d4_45 : decode method_4_code 45 = .ok (.sipush 255, 3) := by decide +kernel
theorem d4_48 : decode method_4_code 48 = .ok (.iand, 1) := by decide +kernel
theorem d4_49 : decode method_4_code 49 = .ok (.iload_n 3, 1) := by decide +kernel
theorem d4_50 : decode method_4_code 50 = .ok (.iload 4, 2) := by decide +kernel
theorem d4_52 : decode method_4_code 52 = .ok (.iconst 0, 1) := by decide +kernel
theorem d4_53 : decode method_4_code 53 = .ok (.invokestatic 17, 3) := by decide +kernel
theorem d4_56 : decode method_4_code 56 = .ok (.if_icmp .eq 5, 3) := by decide +kernel
theorem d4_59 : decode method_4_code 59 = .ok (.iconst 0, 1) := by decide +kernel
theorem d4_60 : decode method_4_code 60 = .ok (.ireturn, 1) := by decide +kernel
theorem d4_61 : decode method_4_code 61 = .ok (.iload 4, 2) := by decide +kernel
theorem d4_63 : decode method_4_code 63 = .ok (.iconst 1, 1) := by decide +kernel
theorem d4_64 : decode method_4_code 64 = .ok (.if_icmp .le 24, 3) := by decide +kernel
theorem d4_67 : decode method_4_code 67 = .ok (.aload_n 0, 1) := by decide +kernel
theorem d4_68 : decode method_4_code 68 = .ok (.iload_n 1, 1) := by decide +kernel
theorem d4_69 : decode method_4_code 69 = .ok (.iconst 1, 1) := by decide +kernel
theorem d4_70 : decode method_4_code 70 = .ok (.iadd, 1) := by decide +kernel
theorem d4_71 : decode method_4_code 71 = .ok (.baload, 1) := by decide +kernel
theorem d4_72 : decode method_4_code 72 = .ok (.sipush 255, 3) := by decide +kernel
theorem d4_75 : decode method_4_code 75 = .ok (.iand, 1) := by decide +kernel
theorem d4_76 : decode method_4_code 76 = .ok (.iload_n 3, 1) := by decide +kernel
theorem d4_77 : decode method_4_code 77 = .ok (.iload 4, 2) := by decide +kernel
theorem d4_79 : decode method_4_code 79 = .ok (.iconst 1, 1) := by decide +kernel
theorem d4_80 : decode method_4_code 80 = .ok (.invokestatic 17, 3) := by decide +kernel
theorem d4_83 : decode method_4_code 83 = .ok (.if_icmp .eq 5, 3) := by decide +kernel
theorem d4_86 : decode method_4_code 86 = .ok (.iconst 0, 1) := by decide +kernel
theorem d4_87 : decode method_4_code 87 = .ok (.ireturn, 1) := by decide +kernel
theorem d4_88 : decode method_4_code 88 = .ok (.iload 4, 2) := by decide +kernel
theorem d4_90 : decode method_4_code 90 = .ok (.iconst 2, 1) := by decide +kernel
theorem d4_91 : decode method_4_code 91 = .ok (.if_icmp .le 24, 3) := by decide +kernel
theorem d4_94 : decode method_4_code 94 = .ok (.aload_n 0, 1) := by decide +kernel
theorem d4_95 : decode method_4_code 95 = .ok (.iload_n 1, 1) := by decide +kernel
theorem d4_96 : decode method_4_code 96 = .ok (.iconst 2, 1) := by decide +kernel
theorem d4_97 : decode method_4_code 97 = .ok (.iadd, 1) := by decide +kernel
theorem d4_98 : decode method_4_code 98 = .ok (.baload, 1) := by decide +kernel
theorem d4_99 : decode method_4_code 99 = .ok (.sipush 255, 3) := by decide +kernel
theorem d4_102 : decode method_4_code 102 = .ok (.iand, 1) := by decide +kernel
theorem d4_103 : decode method_4_code 103 = .ok (.iload_n 3, 1) := by decide +kernel
theorem d4_104 : decode method_4_code 104 = .ok (.iload 4, 2) := by decide +kernel
theorem d4_106 : decode method_4_code 106 = .ok (.iconst 2, 1) := by decide +kernel
theorem d4_107 : decode method_4_code 107 = .ok (.invokestatic 17, 3) := by decide +kernel
theorem d4_110 : decode method_4_code 110 = .ok (.if_icmp .eq 5, 3) := by decide +kernel
theorem d4_113 : decode method_4_code 113 = .ok (.iconst 0, 1) := by decide +kernel
theorem d4_114 : decode method_4_code 114 = .ok (.ireturn, 1) := by decide +kernel
theorem d4_115 : decode method_4_code 115 = .ok (.iload 4, 2) := by decide +kernel
theorem d4_117 : decode method_4_code 117 = .ok (.iconst 3, 1) := by decide +kernel
theorem d4_118 : decode method_4_code 118 = .ok (.if_icmp .le 24, 3) := by decide +kernel
theorem d4_121 : decode method_4_code 121 = .ok (.aload_n 0, 1) := by decide +kernel
theorem d4_122 : decode method_4_code 122 = .ok (.iload_n 1, 1) := by decide +kernel
theorem d4_123 : decode method_4_code 123 = .ok (.iconst 3, 1) := by decide +kernel
theorem d4_124 : decode method_4_code 124 = .ok (.iadd, 1) := by decide +kernel
theorem d4_125 : decode method_4_code 125 = .ok (.baload, 1) := by decide +kernel
theorem d4_126 : decode method_4_code 126 = .ok (.sipush 255, 3) := by decide +kernel
theorem d4_129 : decode method_4_code 129 = .ok (.iand, 1) := by decide +kernel
theorem d4_130 : decode method_4_code 130 = .ok (.iload_n 3, 1) := by decide +kernel
theorem d4_131 : decode method_4_code 131 = .ok (.iload 4, 2) := by decide +kernel
theorem d4_133 : decode method_4_code 133 = .ok (.iconst 3, 1) := by decide +kernel
theorem d4_134 : decode method_4_code 134 = .ok (.invokestatic 17, 3) := by decide +kernel
theorem d4_137 : decode method_4_code 137 = .ok (.if_icmp .eq 5, 3) := by decide +kernel
theorem d4_140 : decode method_4_code 140 = .ok (.iconst 0, 1) := by decide +kernel
theorem d4_141 : decode method_4_code 141 = .ok (.ireturn, 1) := by decide +kernel
theorem d4_142 : decode method_4_code 142 = .ok (.iconst 1, 1) := by decide +kernel
theorem d4_143 : decode method_4_code 143 = .ok (.ireturn, 1) := by decide +kernel
theorem pn_4 : plainName "org/kusuridana/Utf8CodePointPinLaw" = true := by first | (simp [plainName, overriddenIn]; done) | decide +kernel
theorem pd_4 : parseMethodDescriptor "([BIII)Z" = some ⟨[(.array .byte), .int, .int, .int], some .boolean⟩ := by decide +kernel
theorem ef_4 (m : MethodId) (x0 : Addr) (x1 : Int32) (x2 : Int32) (x3 : Int32) : entryFrame m #[(.ref x0), (.int x1), (.int x2), (.int x3)] 5 = mkF m 0 #[.val (.ref x0), .val (.int x1), .val (.int x2), .val (.int x3), .unset] [] := by first | (simp [entryFrame, mkF, argsToLocals, Value.category]; done) | rfl
def own_cpl (r : Int32) : Int32 := if r < 128 then 1 else if r < 2048 then 2 else if r < 65536 then 3 else 4
def own_unit (r len k : Int32) : Int32 := if k = 0 then (if len = 1 then r else if len = 2 then (192 : Int32) ||| (r >>> ((6 : Int32) &&& 31)) else if len = 3 then (224 : Int32) ||| (r >>> ((12 : Int32) &&& 31)) else (240 : Int32) ||| (r >>> ((18 : Int32) &&& 31))) else (128 : Int32) ||| ((r >>> (((6 : Int32) * ((len - (1 : Int32)) - k)) &&& 31)) &&& (63 : Int32))
def own_fold (f : Nat → Int32) (A : Nat) : Nat → Nat → Int32 → Option Int32
  | 0, _, pt => some pt
  | d + 1, i, pt => if (f (A + i) &&& (255 : Int32)) &&& (192 : Int32) = (128 : Int32) then own_fold f A d (i + 1) ((pt <<< ((6 : Int32) &&& 31)) ||| ((f (A + i) &&& (255 : Int32)) &&& (63 : Int32))) else none
def own_fin (pt least : Int32) : Int32 := if pt < least then -1 else if ¬ pt < 55296 ∧ ¬ 57343 < pt then -1 else if 1114111 < pt then -1 else pt
def own_tail (f : Nat → Int32) (A TO n : Nat) (bits least : Int32) : Int32 := if TO < A + n then -1 else (own_fold f A (n - 1) 1 bits).elim (-1) (fun q => own_fin q least)
def own_cp (f : Nat → Int32) (A TO : Nat) : Int32 :=
  if f A &&& (255 : Int32) < 128 then f A &&& (255 : Int32)
  else if ¬ f A &&& (255 : Int32) < 194 ∧ ¬ 223 < f A &&& (255 : Int32) then own_tail f A TO 2 ((f A &&& (255 : Int32)) &&& (31 : Int32)) 128
  else if ¬ f A &&& (255 : Int32) < 224 ∧ ¬ 239 < f A &&& (255 : Int32) then own_tail f A TO 3 ((f A &&& (255 : Int32)) &&& (15 : Int32)) 2048
  else if ¬ f A &&& (255 : Int32) < 240 ∧ ¬ 244 < f A &&& (255 : Int32) then own_tail f A TO 4 ((f A &&& (255 : Int32)) &&& (7 : Int32)) 65536
  else -1
def own_units (f : Nat → Int32) (A : Nat) (r len : Int32) : Prop := f A &&& (255 : Int32) = own_unit r len 0 ∧ (1 < len → f (A + 1) &&& (255 : Int32) = own_unit r len 1) ∧ (2 < len → f (A + 2) &&& (255 : Int32) = own_unit r len 2) ∧ (3 < len → f (A + 3) &&& (255 : Int32) = own_unit r len 3)
theorem own_cmp {ai len ti : Int32} {A n TO : Nat} (hA : ai.toInt = (A : Int)) (hn : len.toInt = (n : Int)) (hT : ti.toInt = (TO : Int)) (h1 : A ≤ 8) (h2 : n ≤ 8) : ti < ai + len ↔ TO < A + n := by
  rw [Int32.lt_iff_toInt_lt, Jvm.Kit.i32_add (by omega) (by omega), hA, hn, hT]
  omega
theorem own_addi {ai j : Int32} {A k : Nat} (hA : ai.toInt = (A : Int)) (hj : j.toInt = (k : Int)) (h : A + k < 1000) : (ai + j).toInt = ((A + k : Nat) : Int) := by
  rw [Jvm.Kit.i32_add (by omega) (by omega), hA, hj]
  omega
theorem own_inc {iv : Int32} {i : Nat} (h : iv.toInt = (i : Int)) (hi : i < 900) : (iv + 1).toInt = ((i + 1 : Nat) : Int) := own_addi h (k := 1) rfl (by omega)
theorem own_nat {k : Nat} (hk : k ≤ 1000) : (Int32.ofNat k).toInt = (k : Int) := Int32.toInt_ofNat_small (by omega)
theorem own_ltN {len : Int32} {N k : Nat} (hN : len.toInt = (N : Int)) (hk : k ≤ 1000) (h : Int32.ofNat k < len) : k < N := by
  rw [Int32.lt_iff_toInt_lt, own_nat hk, hN] at h
  omega
theorem own_no2 {len : Int32} {j k : Nat} (hjk : j ≤ k) (hk : k ≤ 1000) (h : ¬ Int32.ofNat j < len) : ¬ Int32.ofNat k < len := by
  rw [Int32.lt_iff_toInt_lt, own_nat (by omega)] at h ⊢
  omega
theorem own_mask255 (x : Int32) : (x &&& (255 : Int32)).toInt = x.toInt % 256 := Jvm.Kit.i32_mask x 255 (k := 8) (by decide) (by decide)
theorem own_at (p : Int32) : ∃ A : Nat, (XT.ushr p (1 : Int32) &&& (3 : Int32)).toInt = (A : Int) ∧ A ≤ 3 := by
  have h := Jvm.Kit.i32_mask (XT.ushr p (1 : Int32)) 3 (k := 2) (by decide) (by decide)
  refine ⟨(XT.ushr p (1 : Int32) &&& (3 : Int32)).toInt.toNat, ?_, ?_⟩ <;> omega
theorem own_8at {ai : Int32} {A : Nat} (hA : ai.toInt = (A : Int)) (hA3 : A ≤ 3) : (8 : Int32) - ai ≠ 0 := by
  intro h
  have h2 := congrArg Int32.toInt h
  rw [Jvm.Kit.i32_sub (by rw [hA]; show _ ≤ (8 : Int) - _; omega) (by rw [hA]; show (8 : Int) - _ < _; omega), hA] at h2
  have h3 : (8 : Int) - A = 0 := h2
  omega
theorem own_ushr_nn (p : Int32) : 0 ≤ (XT.ushr p (3 : Int32)).toInt := by
  have h : (XT.ushr p (3 : Int32)).toBitVec = p.toBitVec >>> 3 := rfl
  show 0 ≤ (XT.ushr p (3 : Int32)).toBitVec.toInt
  rw [h, BitVec.toInt_eq_toNat_of_lt]
  · omega
  · rw [BitVec.toNat_ushiftRight, Nat.shiftRight_eq_div_pow]
    have := p.toBitVec.isLt
    omega
theorem own_to (p : Int32) {ai : Int32} {A : Nat} (hA : ai.toInt = (A : Int)) (hA3 : A ≤ 3) : ∃ TO : Nat, ((ai + (1 : Int32)) + (XT.ushr p (3 : Int32) % ((8 : Int32) - ai))).toInt = (TO : Int) ∧ A < TO ∧ TO ≤ 8 := by
  have h8 : ((8 : Int32) - ai).toInt = 8 - (A : Int) := by
    rw [Jvm.Kit.i32_sub (by rw [hA]; show _ ≤ (8 : Int) - _; omega) (by rw [hA]; show (8 : Int) - _ < _; omega), hA]; rfl
  have hr : (XT.ushr p (3 : Int32) % ((8 : Int32) - ai)).toInt = (XT.ushr p (3 : Int32)).toInt % (8 - (A : Int)) := by
    rw [Jvm.Kit.i32_rem_nonneg (own_ushr_nn p), h8]
  have b1 := Int.emod_nonneg (XT.ushr p (3 : Int32)).toInt (b := 8 - (A : Int)) (by omega)
  have b2 := Int.emod_lt_of_pos (XT.ushr p (3 : Int32)).toInt (b := 8 - (A : Int)) (by omega)
  have h1 : (ai + (1 : Int32)).toInt = ((A + 1 : Nat) : Int) := own_addi hA (k := 1) rfl (by omega)
  refine ⟨((A : Int) + 1 + (XT.ushr p (3 : Int32)).toInt % (8 - (A : Int))).toNat, ?_, ?_, ?_⟩
  · rw [Jvm.Kit.i32_add (by omega) (by omega), h1, hr]
    omega
  · omega
  · omega
theorem own_cp0 (p : Int32) : ¬ ((p &&& (2147483647 : Int32)) % (1114112 : Int32)) < 0 ∧ ¬ 1114111 < ((p &&& (2147483647 : Int32)) % (1114112 : Int32)) := by
  have h := Jvm.Kit.i32_mask p 2147483647 (k := 31) (by decide) (by decide)
  have h2 := Jvm.Kit.i32_rem_nonneg (x := p &&& (2147483647 : Int32)) (y := (1114112 : Int32)) (by omega)
  have h3 : (1114112 : Int32).toInt = 1114112 := rfl
  have h4 : (1114111 : Int32).toInt = 1114111 := rfl
  have h5 : (0 : Int32).toInt = 0 := rfl
  rw [Int32.lt_iff_toInt_lt, Int32.lt_iff_toInt_lt, h2, h3, h4, h5]
  omega
theorem own_cplN (cp len : Int32) (h : len = own_cpl cp) : ∃ N : Nat, len.toInt = (N : Int) ∧ 1 ≤ N ∧ N ≤ 4 := by
  subst h
  unfold own_cpl
  split
  · exact ⟨1, rfl, by decide, by decide⟩
  · split
    · exact ⟨2, rfl, by decide, by decide⟩
    · split
      · exact ⟨3, rfl, by decide, by decide⟩
      · exact ⟨4, rfl, by decide, by decide⟩
/-- the or of two that share no bit -/
theorem own_or {x y : Int32} (k a b : Nat) (hx : x.toInt = ((2 ^ k * a : Nat) : Int)) (hy : y.toInt = (b : Int)) (hb : b < 2 ^ k) (hs : 2 ^ k * a + b < 2 ^ 31) : (x ||| y).toInt = ((2 ^ k * a + b : Nat) : Int) := by
  have nx : x.toBitVec.toNat = 2 ^ k * a := by
    have h1 := BitVec.toInt_eq_toNat_cond x.toBitVec
    have h2 : x.toBitVec.toInt = ((2 ^ k * a : Nat) : Int) := hx
    have h3 := x.toBitVec.isLt
    rw [h2] at h1
    split at h1 <;> omega
  have ny : y.toBitVec.toNat = b := by
    have h1 := BitVec.toInt_eq_toNat_cond y.toBitVec
    have h2 : y.toBitVec.toInt = (b : Int) := hy
    have h3 := y.toBitVec.isLt
    rw [h2] at h1
    split at h1 <;> omega
  have h : (x ||| y).toBitVec = x.toBitVec ||| y.toBitVec := rfl
  show (x ||| y).toBitVec.toInt = _
  have hn : (x ||| y).toBitVec.toNat = 2 ^ k * a + b := by
    rw [h, BitVec.toNat_or, nx, ny, Nat.two_pow_add_eq_or_of_lt hb]
  rw [BitVec.toInt_eq_toNat_of_lt (by omega), hn]
theorem own_shr {r : Int32} {n : Nat} (s : Int32) (k : Nat) (hs : (s.toBitVec.smod 32).toNat = k) (hr : r.toInt = (n : Int)) : (r >>> s).toInt = ((n / 2 ^ k : Nat) : Int) := by
  rw [Jvm.Kit.i32_shr r s hs, hr]
  exact_mod_cast rfl
theorem own_and63 {r : Int32} {n : Nat} (hr : r.toInt = (n : Int)) : (r &&& (63 : Int32)).toInt = ((n % 64 : Nat) : Int) := by
  rw [Jvm.Kit.i32_mask r 63 (k := 6) (by decide) (by decide), hr]
  omega
/-- a byte behind the first -/
theorem own_u128 {r : Int32} {n : Nat} (s : Int32) (k : Nat) (hs : (s.toBitVec.smod 32).toNat = k) (hr : r.toInt = (n : Int)) : ((128 : Int32) ||| ((r >>> s) &&& (63 : Int32))).toInt = ((128 + n / 2 ^ k % 64 : Nat) : Int) :=
  own_or 7 1 _ rfl (own_and63 (own_shr s k hs hr)) (by omega) (by omega)
theorem own_ofn {y : Int32} {n : Nat} (hy : y.toInt = (n : Int)) (hn : n < 2 ^ 31) : y = Int32.ofNat n := Int32.toInt_inj.mp (hy.trans (Int32.toInt_ofNat_small hn).symm)
theorem own_i0 : (0 : Int32).toInt = 0 := rfl
theorem own_lt {x : Int32} {n : Nat} (m : Nat) (hx : x.toInt = (n : Int)) (hm : m < 2 ^ 31) : (x < Int32.ofNat m ↔ n < m) ∧ (Int32.ofNat m < x ↔ m < n) := by
  rw [Int32.lt_iff_toInt_lt, Int32.lt_iff_toInt_lt, Int32.toInt_ofNat_small hm, hx]
  omega
theorem own_cont_dec : ∀ n : Fin 256, (Int32.ofNat n.val &&& (192 : Int32) = (128 : Int32)) ↔ (128 ≤ n.val ∧ n.val < 192) := by decide +kernel
theorem own_cont {y : Int32} {n : Nat} (hy : y.toInt = (n : Int)) (hn : n < 256) : (y &&& (192 : Int32) = (128 : Int32)) ↔ (128 ≤ n ∧ n < 192) := by
  rw [own_ofn hy (by omega)]
  exact own_cont_dec ⟨n, hn⟩
theorem own_b (x : Int32) : ∃ n : Nat, (x &&& (255 : Int32)).toInt = (n : Int) ∧ n < 256 := by
  have h := own_mask255 x
  refine ⟨(x &&& (255 : Int32)).toInt.toNat, ?_, ?_⟩ <;> omega
theorem own_step {pt y : Int32} {q n : Nat} (hpt : pt.toInt = (q : Int)) (hq : q < 2 ^ 20) (hy : y.toInt = (n : Int)) : ((pt <<< ((6 : Int32) &&& 31)) ||| (y &&& (63 : Int32))).toInt = ((64 * q + n % 64 : Nat) : Int) := by
  refine own_or 6 q _ ?_ (own_and63 hy) (by omega) (by omega)
  rw [Jvm.Kit.i32_shl pt ((6 : Int32) &&& 31) (k := 6) (by decide) (by omega) (by omega), hpt]
  omega
theorem own_cpl_1 {r : Int32} {n : Nat} (hr : r.toInt = (n : Int)) (h : n < 128) : own_cpl r = 1 := by
  have h1 := (own_lt 128 hr (by decide)).1
  exact if_pos (h1.mpr h)
theorem own_cpl_2 {r : Int32} {n : Nat} (hr : r.toInt = (n : Int)) (h : 128 ≤ n) (h' : n < 2048) : own_cpl r = 2 := by
  have h1 := (own_lt 128 hr (by decide)).1
  have h2 := (own_lt 2048 hr (by decide)).1
  exact (if_neg (fun q => absurd (h1.mp q) (by omega))).trans (if_pos (h2.mpr h'))
theorem own_cpl_3 {r : Int32} {n : Nat} (hr : r.toInt = (n : Int)) (h : 2048 ≤ n) (h' : n < 65536) : own_cpl r = 3 := by
  have h1 := (own_lt 128 hr (by decide)).1
  have h2 := (own_lt 2048 hr (by decide)).1
  have h3 := (own_lt 65536 hr (by decide)).1
  exact (if_neg (fun q => absurd (h1.mp q) (by omega))).trans ((if_neg (fun q => absurd (h2.mp q) (by omega))).trans (if_pos (h3.mpr h')))
theorem own_cpl_4 {r : Int32} {n : Nat} (hr : r.toInt = (n : Int)) (h : 65536 ≤ n) : own_cpl r = 4 := by
  have h1 := (own_lt 128 hr (by decide)).1
  have h2 := (own_lt 2048 hr (by decide)).1
  have h3 := (own_lt 65536 hr (by decide)).1
  exact (if_neg (fun q => absurd (h1.mp q) (by omega))).trans ((if_neg (fun q => absurd (h2.mp q) (by omega))).trans (if_neg (fun q => absurd (h3.mp q) (by omega))))
theorem own_u20 {r : Int32} {n : Nat} (hr : r.toInt = (n : Int)) (h : n < 2048) : (own_unit r 2 0).toInt = ((192 + n / 64 : Nat) : Int) :=
  own_or 6 3 (n / 64) rfl (own_shr ((6 : Int32) &&& 31) 6 (by decide) hr) (by omega) (by omega)
theorem own_u21 {r : Int32} {n : Nat} (hr : r.toInt = (n : Int)) : (own_unit r 2 1).toInt = ((128 + n % 64 : Nat) : Int) := by
  have := own_u128 (((6 : Int32) * (((2 : Int32) - (1 : Int32)) - (1 : Int32))) &&& 31) 0 (by decide) hr
  exact this.trans (by simp)
theorem own_u30 {r : Int32} {n : Nat} (hr : r.toInt = (n : Int)) (h : n < 65536) : (own_unit r 3 0).toInt = ((224 + n / 4096 : Nat) : Int) :=
  own_or 4 14 (n / 4096) rfl (own_shr ((12 : Int32) &&& 31) 12 (by decide) hr) (by omega) (by omega)
theorem own_u31 {r : Int32} {n : Nat} (hr : r.toInt = (n : Int)) : (own_unit r 3 1).toInt = ((128 + n / 64 % 64 : Nat) : Int) :=
  own_u128 (((6 : Int32) * (((3 : Int32) - (1 : Int32)) - (1 : Int32))) &&& 31) 6 (by decide) hr
theorem own_u32 {r : Int32} {n : Nat} (hr : r.toInt = (n : Int)) : (own_unit r 3 2).toInt = ((128 + n % 64 : Nat) : Int) := by
  have := own_u128 (((6 : Int32) * (((3 : Int32) - (1 : Int32)) - (2 : Int32))) &&& 31) 0 (by decide) hr
  exact this.trans (by simp)
theorem own_u40 {r : Int32} {n : Nat} (hr : r.toInt = (n : Int)) (h : n < 2097152) : (own_unit r 4 0).toInt = ((240 + n / 262144 : Nat) : Int) :=
  own_or 4 15 (n / 262144) rfl (own_shr ((18 : Int32) &&& 31) 18 (by decide) hr) (by omega) (by omega)
theorem own_u41 {r : Int32} {n : Nat} (hr : r.toInt = (n : Int)) : (own_unit r 4 1).toInt = ((128 + n / 4096 % 64 : Nat) : Int) :=
  own_u128 (((6 : Int32) * (((4 : Int32) - (1 : Int32)) - (1 : Int32))) &&& 31) 12 (by decide) hr
theorem own_u42 {r : Int32} {n : Nat} (hr : r.toInt = (n : Int)) : (own_unit r 4 2).toInt = ((128 + n / 64 % 64 : Nat) : Int) :=
  own_u128 (((6 : Int32) * (((4 : Int32) - (1 : Int32)) - (2 : Int32))) &&& 31) 6 (by decide) hr
theorem own_u43 {r : Int32} {n : Nat} (hr : r.toInt = (n : Int)) : (own_unit r 4 3).toInt = ((128 + n % 64 : Nat) : Int) := by
  have := own_u128 (((6 : Int32) * (((4 : Int32) - (1 : Int32)) - (3 : Int32))) &&& 31) 0 (by decide) hr
  exact this.trans (by simp)
theorem own_byte_dec : ∀ n : Fin 256, ((Int32.ofNat n.val).toInt8.toInt32).toInt8.toInt32 &&& (255 : Int32) = Int32.ofNat n.val := by decide +kernel
theorem own_byte_at {y u : Int32} (hy : y = (u.toInt8.toInt32).toInt8.toInt32) (hr : ∃ n : Nat, u.toInt = (n : Int) ∧ n < 256) : y &&& (255 : Int32) = u := by
  obtain ⟨n, h1, h2⟩ := hr
  rw [hy, own_ofn h1 (by omega)]
  exact own_byte_dec ⟨n, h2⟩
/-- what own_fin leaves, as numbers -/
theorem own_fin_ne {pt least r : Int32} (h : own_fin pt least = r) (hne : ¬ r = -1) : r = pt ∧ ¬ pt < least ∧ (pt < 55296 ∨ 57343 < pt) ∧ ¬ 1114111 < pt := by
  unfold own_fin at h
  split at h
  · exact absurd h.symm hne
  · split at h
    · exact absurd h.symm hne
    · split at h
      · exact absurd h.symm hne
      · refine ⟨h.symm, by assumption, ?_, by assumption⟩
        rename_i q _
        by_cases h1 : pt < 55296
        · exact Or.inl h1
        · exact Or.inr (Classical.not_not.mp fun h2 => q ⟨h1, h2⟩)
theorem own_elim_ne {o : Option Int32} {least r : Int32} (h : o.elim (-1) (fun q => own_fin q least) = r) (hne : ¬ r = -1) : ∃ pt, o = some pt ∧ own_fin pt least = r := by
  cases o with
  | none => exact absurd h.symm hne
  | some pt => exact ⟨pt, rfl, h⟩
theorem own_fold_ne {f : Nat → Int32} {A d i : Nat} {pt q : Int32} (h : own_fold f A (d + 1) i pt = some q) {k : Nat} (hpt : pt.toInt = (k : Int)) (hk : k < 2 ^ 20) :
    ∃ n : Nat, (f (A + i) &&& (255 : Int32)).toInt = (n : Int) ∧ 128 ≤ n ∧ n < 192 ∧ ∃ pt', own_fold f A d (i + 1) pt' = some q ∧ pt'.toInt = ((64 * k + n % 64 : Nat) : Int) := by
  obtain ⟨n, h1, h2⟩ := own_b (f (A + i))
  rw [own_fold] at h
  split at h
  · rename_i hc
    obtain ⟨h3, h4⟩ := (own_cont h1 h2).mp hc
    exact ⟨n, h1, h3, h4, _, h, own_step hpt hk h1⟩
  · cases h
theorem own_fold_yes {f : Nat → Int32} {A d i : Nat} {pt : Int32} {k n : Nat} (hpt : pt.toInt = (k : Int)) (hk : k < 2 ^ 20) (h1 : (f (A + i) &&& (255 : Int32)).toInt = (n : Int)) (h2 : 128 ≤ n) (h3 : n < 192) :
    ∃ pt', own_fold f A (d + 1) i pt = own_fold f A d (i + 1) pt' ∧ pt'.toInt = ((64 * k + n % 64 : Nat) : Int) :=
  ⟨_, by rw [own_fold, if_pos ((own_cont h1 (by omega)).mpr ⟨h2, h3⟩)], own_step hpt hk h1⟩
theorem own_mask {x : Int32} {n : Nat} (m : Int32) (k : Nat) (hx : x.toInt = (n : Int)) (hk : k < 32) (hm : m.toBitVec.toNat = 2 ^ k - 1) : (x &&& m).toInt = ((n % 2 ^ k : Nat) : Int) := by
  rw [Jvm.Kit.i32_mask x m hk hm, hx]
  exact_mod_cast rfl
theorem own_tail_ne {f : Nat → Int32} {A TO n : Nat} {bits least r : Int32} (h : own_tail f A TO n bits least = r) (hne : ¬ r = -1) : A + n ≤ TO ∧ ∃ pt, own_fold f A (n - 1) 1 bits = some pt ∧ r = pt ∧ ¬ pt < least ∧ (pt < 55296 ∨ 57343 < pt) ∧ ¬ 1114111 < pt := by
  unfold own_tail at h
  split at h
  · exact absurd h.symm hne
  · obtain ⟨pt, h1, h2⟩ := own_elim_ne h hne
    exact ⟨by omega, pt, h1, own_fin_ne h2 hne⟩
theorem own_eqI {x y : Int32} {n m : Nat} (hx : x.toInt = (n : Int)) (hy : y.toInt = (m : Int)) (h : n = m) : x = y := Int32.toInt_inj.mp (by rw [hx, hy, h])
theorem own_L2 (f : Nat → Int32) (A TO : Nat) (r : Int32) (hAT : A < TO) (hr : r = own_cp f A TO) (hne : ¬ r = -1) :
    ∃ N : Nat, ¬ r < 0 ∧ ¬ 1114111 < r ∧ (r < 55296 ∨ 57343 < r) ∧ (own_cpl r).toInt = (N : Int) ∧ N ≤ 4 ∧ A + N ≤ TO ∧ own_units f A r (own_cpl r) := by
  obtain ⟨n0, b0, l0⟩ := own_b (f A)
  have e128 := own_lt 128 b0 (by decide)
  have e194 := own_lt 194 b0 (by decide)
  have e223 := own_lt 223 b0 (by decide)
  have e224 := own_lt 224 b0 (by decide)
  have e239 := own_lt 239 b0 (by decide)
  have e240 := own_lt 240 b0 (by decide)
  have e244 := own_lt 244 b0 (by decide)
  have neg {x : Int32} {n : Nat} (hx : x.toInt = (n : Int)) : ¬ x < 0 := by rw [Int32.lt_iff_toInt_lt, hx, own_i0]; omega
  unfold own_cp at hr
  split at hr
  · rename_i c
    have c' := e128.1.mp c
    subst hr
    refine ⟨1, neg b0, ?_, ?_, by rw [own_cpl_1 b0 c']; rfl, by decide, by omega, ?_⟩
    · exact fun q => absurd ((own_lt 1114111 b0 (by decide)).2.mp q) (by omega)
    · exact Or.inl ((own_lt 55296 b0 (by decide)).1.mpr (by omega))
    · rw [own_cpl_1 b0 c']
      exact ⟨rfl, fun q => absurd q (by decide), fun q => absurd q (by decide), fun q => absurd q (by decide)⟩
  · split at hr
    · rename_i _ c
      have c1 : ¬ n0 < 194 := fun q => c.1 (e194.1.mpr q)
      have c2 : ¬ 223 < n0 := fun q => c.2 (e223.2.mpr q)
      obtain ⟨hT, pt, h1, rfl, h2, h3, h4⟩ := own_tail_ne hr.symm hne
      have hb := own_mask (31 : Int32) 5 b0 (by decide) (by decide)
      obtain ⟨n1, b1, l1, l1', p1, h5, v1⟩ := own_fold_ne h1 hb (by omega)
      obtain rfl : p1 = r := by simpa [own_fold] using h5
      have hv : p1.toInt = ((64 * (n0 - 192) + (n1 - 128) : Nat) : Int) := by rw [v1]; omega
      have g2 : own_cpl p1 = 2 := own_cpl_2 hv (by omega) (by omega)
      refine ⟨2, neg hv, h4, h3, by rw [g2]; rfl, by decide, hT, ?_⟩
      rw [g2]
      refine ⟨own_eqI b0 (own_u20 hv (by omega)) (by omega), fun _ => own_eqI b1 (own_u21 hv) (by omega), fun q => absurd q (by decide), fun q => absurd q (by decide)⟩
    · split at hr
      · rename_i _ _ c
        have c1 : ¬ n0 < 224 := fun q => c.1 (e224.1.mpr q)
        have c2 : ¬ 239 < n0 := fun q => c.2 (e239.2.mpr q)
        obtain ⟨hT, pt, h1, rfl, h2, h3, h4⟩ := own_tail_ne hr.symm hne
        have hb := own_mask (15 : Int32) 4 b0 (by decide) (by decide)
        obtain ⟨n1, b1, l1, l1', p1, h5, v1⟩ := own_fold_ne h1 hb (by omega)
        obtain ⟨n2, b2, l2, l2', p2, h6, v2⟩ := own_fold_ne h5 v1 (by omega)
        obtain rfl : p2 = r := by simpa [own_fold] using h6
        have hv : p2.toInt = ((4096 * (n0 - 224) + 64 * (n1 - 128) + (n2 - 128) : Nat) : Int) := by rw [v2]; omega
        have h2' : ¬ (4096 * (n0 - 224) + 64 * (n1 - 128) + (n2 - 128)) < 2048 := fun q => h2 ((own_lt 2048 hv (by decide)).1.mpr q)
        have g2 : own_cpl p2 = 3 := own_cpl_3 hv (by omega) (by omega)
        refine ⟨3, neg hv, h4, h3, by rw [g2]; rfl, by decide, hT, ?_⟩
        rw [g2]
        refine ⟨own_eqI b0 (own_u30 hv (by omega)) (by omega), fun _ => own_eqI b1 (own_u31 hv) (by omega), fun _ => own_eqI b2 (own_u32 hv) (by omega), fun q => absurd q (by decide)⟩
      · split at hr
        · rename_i _ _ _ c
          have c1 : ¬ n0 < 240 := fun q => c.1 (e240.1.mpr q)
          have c2 : ¬ 244 < n0 := fun q => c.2 (e244.2.mpr q)
          obtain ⟨hT, pt, h1, rfl, h2, h3, h4⟩ := own_tail_ne hr.symm hne
          have hb := own_mask (7 : Int32) 3 b0 (by decide) (by decide)
          obtain ⟨n1, b1, l1, l1', p1, h5, v1⟩ := own_fold_ne h1 hb (by omega)
          obtain ⟨n2, b2, l2, l2', p2, h6, v2⟩ := own_fold_ne h5 v1 (by omega)
          obtain ⟨n3, b3, l3, l3', p3, h7, v3⟩ := own_fold_ne h6 v2 (by omega)
          obtain rfl : p3 = r := by simpa [own_fold] using h7
          have hv : p3.toInt = ((262144 * (n0 - 240) + 4096 * (n1 - 128) + 64 * (n2 - 128) + (n3 - 128) : Nat) : Int) := by rw [v3]; omega
          have h2' : ¬ (262144 * (n0 - 240) + 4096 * (n1 - 128) + 64 * (n2 - 128) + (n3 - 128)) < 65536 := fun q => h2 ((own_lt 65536 hv (by decide)).1.mpr q)
          have g2 : own_cpl p3 = 4 := own_cpl_4 hv (by omega)
          refine ⟨4, neg hv, h4, h3, by rw [g2]; rfl, by decide, hT, ?_⟩
          rw [g2]
          refine ⟨own_eqI b0 (own_u40 hv (by omega)) (by omega), fun _ => own_eqI b1 (own_u41 hv) (by omega), fun _ => own_eqI b2 (own_u42 hv) (by omega), fun _ => own_eqI b3 (own_u43 hv) (by omega)⟩
        · exact absurd hr hne
theorem own_tail_val {f : Nat → Int32} {A TO n : Nat} {bits least cp : Int32} (h : own_fold f A (n - 1) 1 bits = some cp) (h1 : ¬ cp < least) (h2 : ¬ 1114111 < cp) : own_tail f A TO n bits least = if A + n ≤ TO ∧ (cp < 55296 ∨ 57343 < cp) then cp else -1 := by
  unfold own_tail
  rw [h]
  show (if TO < A + n then (-1 : Int32) else own_fin cp least) = _
  unfold own_fin
  rw [if_neg h1, if_neg h2]
  by_cases c : TO < A + n
  · rw [if_pos c, if_neg (fun q => absurd q.1 (by omega))]
  · rw [if_neg c]
    by_cases c2 : ¬ cp < 55296 ∧ ¬ 57343 < cp
    · rw [if_pos c2, if_neg (fun q => q.2.elim c2.1 c2.2)]
    · rw [if_neg c2, if_pos]
      refine ⟨by omega, ?_⟩
      by_cases h1 : cp < 55296
      · exact Or.inl h1
      · exact Or.inr (Classical.not_not.mp fun h2 => c2 ⟨h1, h2⟩)
theorem own_cpn {cp : Int32} (hc0 : ¬ cp < 0) (hc1 : ¬ 1114111 < cp) : ∃ n : Nat, cp.toInt = (n : Int) ∧ n ≤ 1114111 := by
  have h4 : (1114111 : Int32).toInt = 1114111 := rfl
  rw [Int32.lt_iff_toInt_lt, own_i0] at hc0
  rw [Int32.lt_iff_toInt_lt, h4] at hc1
  refine ⟨cp.toInt.toNat, ?_, ?_⟩ <;> omega
theorem own_unit_rng {cp len : Int32} (hc0 : ¬ cp < 0) (hc1 : ¬ 1114111 < cp) (hlen : len = own_cpl cp) (k : Int32) : ∃ n : Nat, (own_unit cp len k).toInt = (n : Int) ∧ n < 256 := by
  by_cases hk : k = 0
  · subst hk
    obtain ⟨n, hn, hn'⟩ := own_cpn hc0 hc1
    subst hlen
    by_cases r1 : n < 128
    · rw [own_cpl_1 hn r1]
      exact ⟨n, hn, by omega⟩
    · by_cases r2 : n < 2048
      · rw [own_cpl_2 hn (by omega) r2]
        exact ⟨_, own_u20 hn r2, by omega⟩
      · by_cases r3 : n < 65536
        · rw [own_cpl_3 hn (by omega) r3]
          exact ⟨_, own_u30 hn r3, by omega⟩
        · rw [own_cpl_4 hn (by omega)]
          exact ⟨_, own_u40 hn (by omega), by omega⟩
  · have hm := Jvm.Kit.i32_mask (cp >>> (((6 : Int32) * ((len - (1 : Int32)) - k)) &&& 31)) (63 : Int32) (k := 6) (by decide) (by decide)
    unfold own_unit
    rw [if_neg hk]
    refine ⟨2 ^ 7 * 1 + ((cp >>> (((6 : Int32) * ((len - (1 : Int32)) - k)) &&& 31)) &&& (63 : Int32)).toInt.toNat, own_or 7 1 _ rfl (by omega) (by omega) (by omega), by omega⟩
theorem own_L1 (f : Nat → Int32) (A TO : Nat) (cp len : Int32) (N : Nat) (hAT : A < TO) (hlen : len = own_cpl cp) (hN : len.toInt = (N : Int)) (hc0 : ¬ cp < 0) (hc1 : ¬ 1114111 < cp) (hu : own_units f A cp len) :
    own_cp f A TO = if A + N ≤ TO ∧ (cp < 55296 ∨ 57343 < cp) then cp else -1 := by
  obtain ⟨n, hn, hn'⟩ := own_cpn hc0 hc1
  have lit {x : Int32} {k m : Nat} (h : x = Int32.ofNat k) (hk : k ≤ 1000) (hx : x.toInt = (m : Int)) : m = k := by
    rw [h, own_nat hk] at hx
    omega
  subst hlen
  obtain ⟨u0, u1, u2, u3⟩ := hu
  by_cases r1 : n < 128
  · rw [own_cpl_1 hn r1] at u0 hN
    obtain rfl := lit (k := 1) rfl (by decide) hN
    have hF : f A &&& (255 : Int32) = cp := u0
    unfold own_cp
    rw [hF, if_pos (show cp < 128 from (own_lt 128 hn (by decide)).1.mpr r1), if_pos]
    exact ⟨by omega, Or.inl ((own_lt 55296 hn (by decide)).1.mpr (by omega))⟩
  · by_cases r2 : n < 2048
    · have g := own_cpl_2 hn (by omega) r2
      rw [g] at u0 u1 hN
      obtain rfl := lit (k := 2) rfl (by decide) hN
      have b0 := own_u20 hn r2
      have b1 := own_u21 hn
      rw [← u0] at b0
      rw [← u1 (by decide)] at b1
      have e128 := own_lt 128 b0 (by decide)
      have e194 := own_lt 194 b0 (by decide)
      have e223 := own_lt 223 b0 (by decide)
      unfold own_cp
      rw [if_neg (show ¬ f A &&& (255 : Int32) < 128 from fun q => absurd (e128.1.mp q) (by omega)), if_pos (show ¬ f A &&& (255 : Int32) < 194 ∧ ¬ 223 < f A &&& (255 : Int32) from ⟨fun q => absurd (e194.1.mp q) (by omega), fun q => absurd (e223.2.mp q) (by omega)⟩)]
      have hb := own_mask (31 : Int32) 5 b0 (by decide) (by decide)
      obtain ⟨p1, f1, v1⟩ := own_fold_yes (d := 0) (i := 1) hb (by omega) b1 (by omega) (by omega)
      obtain rfl : p1 = cp := own_eqI v1 hn (by omega)
      exact own_tail_val f1 (fun q => absurd ((own_lt 128 hn (by decide)).1.mp q) (by omega)) hc1
    · by_cases r3 : n < 65536
      · have g := own_cpl_3 hn (by omega) r3
        rw [g] at u0 u1 u2 hN
        obtain rfl := lit (k := 3) rfl (by decide) hN
        have b0 := own_u30 hn r3
        have b1 := own_u31 hn
        have b2 := own_u32 hn
        rw [← u0] at b0
        rw [← u1 (by decide)] at b1
        rw [← u2 (by decide)] at b2
        have e128 := own_lt 128 b0 (by decide)
        have e194 := own_lt 194 b0 (by decide)
        have e223 := own_lt 223 b0 (by decide)
        have e224 := own_lt 224 b0 (by decide)
        have e239 := own_lt 239 b0 (by decide)
        unfold own_cp
        rw [if_neg (show ¬ f A &&& (255 : Int32) < 128 from fun q => absurd (e128.1.mp q) (by omega)), if_neg (show ¬ (¬ f A &&& (255 : Int32) < 194 ∧ ¬ 223 < f A &&& (255 : Int32)) from fun q => q.2 (e223.2.mpr (by omega))), if_pos (show ¬ f A &&& (255 : Int32) < 224 ∧ ¬ 239 < f A &&& (255 : Int32) from ⟨fun q => absurd (e224.1.mp q) (by omega), fun q => absurd (e239.2.mp q) (by omega)⟩)]
        have hb := own_mask (15 : Int32) 4 b0 (by decide) (by decide)
        obtain ⟨p1, f1, v1⟩ := own_fold_yes (d := 1) (i := 1) hb (by omega) b1 (by omega) (by omega)
        obtain ⟨p2, f2, v2⟩ := own_fold_yes (d := 0) (i := 2) v1 (by omega) b2 (by omega) (by omega)
        obtain rfl : p2 = cp := own_eqI v2 hn (by omega)
        exact own_tail_val (f1.trans f2) (fun q => absurd ((own_lt 2048 hn (by decide)).1.mp q) (by omega)) hc1
      · have g := own_cpl_4 hn (by omega)
        rw [g] at u0 u1 u2 u3 hN
        obtain rfl := lit (k := 4) rfl (by decide) hN
        have b0 := own_u40 hn (by omega)
        have b1 := own_u41 hn
        have b2 := own_u42 hn
        have b3 := own_u43 hn
        rw [← u0] at b0
        rw [← u1 (by decide)] at b1
        rw [← u2 (by decide)] at b2
        rw [← u3 (by decide)] at b3
        have e128 := own_lt 128 b0 (by decide)
        have e223 := own_lt 223 b0 (by decide)
        have e239 := own_lt 239 b0 (by decide)
        have e240 := own_lt 240 b0 (by decide)
        have e244 := own_lt 244 b0 (by decide)
        unfold own_cp
        rw [if_neg (show ¬ f A &&& (255 : Int32) < 128 from fun q => absurd (e128.1.mp q) (by omega)), if_neg (show ¬ (¬ f A &&& (255 : Int32) < 194 ∧ ¬ 223 < f A &&& (255 : Int32)) from fun q => q.2 (e223.2.mpr (by omega))), if_neg (show ¬ (¬ f A &&& (255 : Int32) < 224 ∧ ¬ 239 < f A &&& (255 : Int32)) from fun q => q.2 (e239.2.mpr (by omega))), if_pos (show ¬ f A &&& (255 : Int32) < 240 ∧ ¬ 244 < f A &&& (255 : Int32) from ⟨fun q => absurd (e240.1.mp q) (by omega), fun q => absurd (e244.2.mp q) (by omega)⟩)]
        have hb := own_mask (7 : Int32) 3 b0 (by decide) (by decide)
        obtain ⟨p1, f1, v1⟩ := own_fold_yes (d := 2) (i := 1) hb (by omega) b1 (by omega) (by omega)
        obtain ⟨p2, f2, v2⟩ := own_fold_yes (d := 1) (i := 2) v1 (by omega) b2 (by omega) (by omega)
        obtain ⟨p3, f3, v3⟩ := own_fold_yes (d := 0) (i := 3) v2 (by omega) b3 (by omega) (by omega)
        obtain rfl : p3 = cp := own_eqI v3 hn (by omega)
        exact own_tail_val ((f1.trans f2).trans f3) (fun q => absurd ((own_lt 65536 hn (by decide)).1.mp q) (by omega)) hc1
def own_QI (z : Int32) (h0 : Heap) (v : Option Value) (h : Heap) (L : List Loc) : Prop := v = some (.int z) ∧ h = h0 ∧ L = []
set_option maxRecDepth 65536 in
set_option maxHeartbeats 40000000 in
theorem own_rmLen (l : Launch) (Z : State) (a0 : Array Value) (hw : ∀ d ∈ tables_1, d.before a0 Z = true) (ws : List Jvm.Cond) (r : Int32) (h0 : Heap) (n0 : Nat)  :
    own_Met l (⟨"org/kusuridana/Utf8CodePointPinLaw", "len", "(I)I"⟩ : MethodName) method_2_code 1 (some .int) ws ({ frames := 0, cells := 0, slots := 0, locals := 0 } : Room) Z #[(.int r)] h0 (own_QI (own_cpl r) h0) := by
  refine own_enter (plainFor_of_name pn_1) ?_
  intro p e s m below meth c T0 X0 hx hby hml hZ hown e0 hret hlk hnm
  have hown : s.vm.findClass "org/kusuridana/Utf8CodePointPinLaw" = some m.cls := hown
  have hml : c.maxLocals = 1 := hml
  have N0 := Fr.nil n0
  refine own_start (ef_1 m r) ?_
  show own_Go p e below _ T0 (mkF m 0 #[.val (.int r)] [])
  refine own_go (g' := (mkF m 1 #[.val (.int r)] [(.int r)])) (fun _ k => XS.iloadN X0.here hx rfl (hb hby d1_0) rfl k) ?_
  refine own_go (g' := (mkF m 4 #[.val (.int r)] [(.int (128 : Int32)), (.int r)])) (fun _ k => XS.sipush X0.here hx rfl (hb hby d1_1) k) ?_
  by_cases c0 : r < (128 : Int32)
  · refine own_go (g' := (mkF m 7 #[.val (.int r)] [])) (fun _ k => XS.icmpNo X0.here hx rfl (hb hby d1_4) rfl (XT.ii_ge_f c0) k) ?_
    refine own_go (g' := (mkF m 8 #[.val (.int r)] [(.int (1 : Int32))])) (fun _ k => XS.iconst X0.here hx rfl (hb hby d1_7) k) ?_
    exact own_retI X0 hx hlk hret e0 (hb hby d1_8) ⟨by simp [own_cpl, c0], rfl, rfl⟩ (by decide) (by decide)
  · refine own_go (g' := (mkF m 9 #[.val (.int r)] [])) (fun _ k => XS.icmpYes X0.here hx rfl (pc0 := 4) (pc' := 9) rfl (hb hby d1_4) rfl (XT.ii_ge_t c0) (by decide) (by decide) k) ?_
    refine own_go (g' := (mkF m 10 #[.val (.int r)] [(.int r)])) (fun _ k => XS.iloadN X0.here hx rfl (hb hby d1_9) rfl k) ?_
    refine own_go (g' := (mkF m 13 #[.val (.int r)] [(.int (2048 : Int32)), (.int r)])) (fun _ k => XS.sipush X0.here hx rfl (hb hby d1_10) k) ?_
    by_cases c1 : r < (2048 : Int32)
    · refine own_go (g' := (mkF m 16 #[.val (.int r)] [])) (fun _ k => XS.icmpNo X0.here hx rfl (hb hby d1_13) rfl (XT.ii_ge_f c1) k) ?_
      refine own_go (g' := (mkF m 17 #[.val (.int r)] [(.int (2 : Int32))])) (fun _ k => XS.iconst X0.here hx rfl (hb hby d1_16) k) ?_
      exact own_retI X0 hx hlk hret e0 (hb hby d1_17) ⟨by simp [own_cpl, c0, c1], rfl, rfl⟩ (by decide) (by decide)
    · refine own_go (g' := (mkF m 18 #[.val (.int r)] [])) (fun _ k => XS.icmpYes X0.here hx rfl (pc0 := 13) (pc' := 18) rfl (hb hby d1_13) rfl (XT.ii_ge_t c1) (by decide) (by decide) k) ?_
      refine own_go (g' := (mkF m 19 #[.val (.int r)] [(.int r)])) (fun _ k => XS.iloadN X0.here hx rfl (hb hby d1_18) rfl k) ?_
      refine own_go (g' := (mkF m 21 #[.val (.int r)] [(.int (65536 : Int32)), (.int r)])) (fun _ k => X0.ldcInt hx hown (mvT hZ (hw _ (List.mem_of_getElem? (i := 19) rfl))) (g := (mkF m 19 #[.val (.int r)] [(.int r)])) rfl (hb hby d1_19) _ k) ?_
      by_cases c2 : r < (65536 : Int32)
      · refine own_go (g' := (mkF m 24 #[.val (.int r)] [])) (fun _ k => XS.icmpNo X0.here hx rfl (hb hby d1_21) rfl (XT.ii_ge_f c2) k) ?_
        refine own_go (g' := (mkF m 25 #[.val (.int r)] [(.int (3 : Int32))])) (fun _ k => XS.iconst X0.here hx rfl (hb hby d1_24) k) ?_
        exact own_retI X0 hx hlk hret e0 (hb hby d1_25) ⟨by simp [own_cpl, c0, c1, c2], rfl, rfl⟩ (by decide) (by decide)
      · refine own_go (g' := (mkF m 26 #[.val (.int r)] [])) (fun _ k => XS.icmpYes X0.here hx rfl (pc0 := 21) (pc' := 26) rfl (hb hby d1_21) rfl (XT.ii_ge_t c2) (by decide) (by decide) k) ?_
        refine own_go (g' := (mkF m 27 #[.val (.int r)] [(.int (4 : Int32))])) (fun _ k => XS.iconst X0.here hx rfl (hb hby d1_26) k) ?_
        exact own_retI X0 hx hlk hret e0 (hb hby d1_27) ⟨by simp [own_cpl, c0, c1, c2], rfl, rfl⟩ (by decide) (by decide)
set_option maxRecDepth 65536 in
set_option maxHeartbeats 40000000 in
theorem own_rmUnit (l : Launch) (Z : State) (a0 : Array Value) (hw : ∀ d ∈ tables_1, d.before a0 Z = true) (ws : List Jvm.Cond) (r len k : Int32) (h0 : Heap) (n0 : Nat)  :
    own_Met l (⟨"org/kusuridana/Utf8CodePointPinLaw", "unit", "(III)I"⟩ : MethodName) method_3_code 3 (some .int) ws ({ frames := 0, cells := 0, slots := 0, locals := 0 } : Room) Z #[(.int r), (.int len), (.int k)] h0 (own_QI (own_unit r len k) h0) := by
  refine own_enter (plainFor_of_name pn_2) ?_
  intro p e s m below meth c T0 X0 hx hby hml hZ hown e0 hret hlk hnm
  have hown : s.vm.findClass "org/kusuridana/Utf8CodePointPinLaw" = some m.cls := hown
  have hml : c.maxLocals = 3 := hml
  have N0 := Fr.nil n0
  refine own_start (ef_2 m r len k) ?_
  show own_Go p e below _ T0 (mkF m 0 #[.val (.int r), .val (.int len), .val (.int k)] [])
  refine own_go (g' := (mkF m 1 #[.val (.int r), .val (.int len), .val (.int k)] [(.int k)])) (fun _ k => XS.iloadN X0.here hx rfl (hb hby d2_0) rfl k) ?_
  by_cases ck : k = 0
  · refine own_go (g' := (mkF m 4 #[.val (.int r), .val (.int len), .val (.int k)] [])) (fun _ k => XS.ifNo X0.here hx rfl (hb hby d2_1) rfl (XT.i0_ne_f ck) k) ?_
    refine own_go (g' := (mkF m 5 #[.val (.int r), .val (.int len), .val (.int k)] [(.int len)])) (fun _ k => XS.iloadN X0.here hx rfl (hb hby d2_4) rfl k) ?_
    refine own_go (g' := (mkF m 6 #[.val (.int r), .val (.int len), .val (.int k)] [(.int (1 : Int32)), (.int len)])) (fun _ k => XS.iconst X0.here hx rfl (hb hby d2_5) k) ?_
    by_cases c0 : len = (1 : Int32)
    · refine own_go (g' := (mkF m 9 #[.val (.int r), .val (.int len), .val (.int k)] [])) (fun _ k => XS.icmpNo X0.here hx rfl (hb hby d2_6) rfl (XT.ii_ne_f c0) k) ?_
      refine own_go (g' := (mkF m 10 #[.val (.int r), .val (.int len), .val (.int k)] [(.int r)])) (fun _ k => XS.iloadN X0.here hx rfl (hb hby d2_9) rfl k) ?_
      exact own_retI X0 hx hlk hret e0 (hb hby d2_10) ⟨by simp [own_unit, ck, c0], rfl, rfl⟩ (by decide) (by decide)
    · refine own_go (g' := (mkF m 11 #[.val (.int r), .val (.int len), .val (.int k)] [])) (fun _ k => XS.icmpYes X0.here hx rfl (pc0 := 6) (pc' := 11) rfl (hb hby d2_6) rfl (XT.ii_ne_t c0) (by decide) (by decide) k) ?_
      refine own_go (g' := (mkF m 12 #[.val (.int r), .val (.int len), .val (.int k)] [(.int len)])) (fun _ k => XS.iloadN X0.here hx rfl (hb hby d2_11) rfl k) ?_
      refine own_go (g' := (mkF m 13 #[.val (.int r), .val (.int len), .val (.int k)] [(.int (2 : Int32)), (.int len)])) (fun _ k => XS.iconst X0.here hx rfl (hb hby d2_12) k) ?_
      by_cases c1 : len = (2 : Int32)
      · refine own_go (g' := (mkF m 16 #[.val (.int r), .val (.int len), .val (.int k)] [])) (fun _ k => XS.icmpNo X0.here hx rfl (hb hby d2_13) rfl (XT.ii_ne_f c1) k) ?_
        refine own_go (g' := (mkF m 19 #[.val (.int r), .val (.int len), .val (.int k)] [(.int (192 : Int32))])) (fun _ k => XS.sipush X0.here hx rfl (hb hby d2_16) k) ?_
        refine own_go (g' := (mkF m 20 #[.val (.int r), .val (.int len), .val (.int k)] [(.int r), (.int (192 : Int32))])) (fun _ k => XS.iloadN X0.here hx rfl (hb hby d2_19) rfl k) ?_
        refine own_go (g' := (mkF m 22 #[.val (.int r), .val (.int len), .val (.int k)] [(.int (6 : Int32)), (.int r), (.int (192 : Int32))])) (fun _ k => XS.bipush X0.here hx rfl (hb hby d2_20) k) ?_
        refine own_go (g' := (mkF m 23 #[.val (.int r), .val (.int len), .val (.int k)] [(.int (r >>> ((6 : Int32) &&& 31))), (.int (192 : Int32))])) (fun _ k => XT.ishr X0.here hx rfl (hb hby d2_22) rfl k) ?_
        refine own_go (g' := (mkF m 24 #[.val (.int r), .val (.int len), .val (.int k)] [(.int ((192 : Int32) ||| (r >>> ((6 : Int32) &&& 31))))])) (fun _ k => XT.ior X0.here hx rfl (hb hby d2_23) rfl k) ?_
        exact own_retI X0 hx hlk hret e0 (hb hby d2_24) ⟨by simp [own_unit, ck, c0, c1], rfl, rfl⟩ (by decide) (by decide)
      · refine own_go (g' := (mkF m 25 #[.val (.int r), .val (.int len), .val (.int k)] [])) (fun _ k => XS.icmpYes X0.here hx rfl (pc0 := 13) (pc' := 25) rfl (hb hby d2_13) rfl (XT.ii_ne_t c1) (by decide) (by decide) k) ?_
        refine own_go (g' := (mkF m 26 #[.val (.int r), .val (.int len), .val (.int k)] [(.int len)])) (fun _ k => XS.iloadN X0.here hx rfl (hb hby d2_25) rfl k) ?_
        refine own_go (g' := (mkF m 27 #[.val (.int r), .val (.int len), .val (.int k)] [(.int (3 : Int32)), (.int len)])) (fun _ k => XS.iconst X0.here hx rfl (hb hby d2_26) k) ?_
        by_cases c2 : len = (3 : Int32)
        · refine own_go (g' := (mkF m 30 #[.val (.int r), .val (.int len), .val (.int k)] [])) (fun _ k => XS.icmpNo X0.here hx rfl (hb hby d2_27) rfl (XT.ii_ne_f c2) k) ?_
          refine own_go (g' := (mkF m 33 #[.val (.int r), .val (.int len), .val (.int k)] [(.int (224 : Int32))])) (fun _ k => XS.sipush X0.here hx rfl (hb hby d2_30) k) ?_
          refine own_go (g' := (mkF m 34 #[.val (.int r), .val (.int len), .val (.int k)] [(.int r), (.int (224 : Int32))])) (fun _ k => XS.iloadN X0.here hx rfl (hb hby d2_33) rfl k) ?_
          refine own_go (g' := (mkF m 36 #[.val (.int r), .val (.int len), .val (.int k)] [(.int (12 : Int32)), (.int r), (.int (224 : Int32))])) (fun _ k => XS.bipush X0.here hx rfl (hb hby d2_34) k) ?_
          refine own_go (g' := (mkF m 37 #[.val (.int r), .val (.int len), .val (.int k)] [(.int (r >>> ((12 : Int32) &&& 31))), (.int (224 : Int32))])) (fun _ k => XT.ishr X0.here hx rfl (hb hby d2_36) rfl k) ?_
          refine own_go (g' := (mkF m 38 #[.val (.int r), .val (.int len), .val (.int k)] [(.int ((224 : Int32) ||| (r >>> ((12 : Int32) &&& 31))))])) (fun _ k => XT.ior X0.here hx rfl (hb hby d2_37) rfl k) ?_
          exact own_retI X0 hx hlk hret e0 (hb hby d2_38) ⟨by simp [own_unit, ck, c0, c1, c2], rfl, rfl⟩ (by decide) (by decide)
        · refine own_go (g' := (mkF m 39 #[.val (.int r), .val (.int len), .val (.int k)] [])) (fun _ k => XS.icmpYes X0.here hx rfl (pc0 := 27) (pc' := 39) rfl (hb hby d2_27) rfl (XT.ii_ne_t c2) (by decide) (by decide) k) ?_
          refine own_go (g' := (mkF m 42 #[.val (.int r), .val (.int len), .val (.int k)] [(.int (240 : Int32))])) (fun _ k => XS.sipush X0.here hx rfl (hb hby d2_39) k) ?_
          refine own_go (g' := (mkF m 43 #[.val (.int r), .val (.int len), .val (.int k)] [(.int r), (.int (240 : Int32))])) (fun _ k => XS.iloadN X0.here hx rfl (hb hby d2_42) rfl k) ?_
          refine own_go (g' := (mkF m 45 #[.val (.int r), .val (.int len), .val (.int k)] [(.int (18 : Int32)), (.int r), (.int (240 : Int32))])) (fun _ k => XS.bipush X0.here hx rfl (hb hby d2_43) k) ?_
          refine own_go (g' := (mkF m 46 #[.val (.int r), .val (.int len), .val (.int k)] [(.int (r >>> ((18 : Int32) &&& 31))), (.int (240 : Int32))])) (fun _ k => XT.ishr X0.here hx rfl (hb hby d2_45) rfl k) ?_
          refine own_go (g' := (mkF m 47 #[.val (.int r), .val (.int len), .val (.int k)] [(.int ((240 : Int32) ||| (r >>> ((18 : Int32) &&& 31))))])) (fun _ k => XT.ior X0.here hx rfl (hb hby d2_46) rfl k) ?_
          exact own_retI X0 hx hlk hret e0 (hb hby d2_47) ⟨by simp [own_unit, ck, c0, c1, c2], rfl, rfl⟩ (by decide) (by decide)
  · refine own_go (g' := (mkF m 48 #[.val (.int r), .val (.int len), .val (.int k)] [])) (fun _ k => XS.ifYes X0.here hx rfl (pc0 := 1) (pc' := 48) rfl (hb hby d2_1) rfl (XT.i0_ne_t ck) (by decide) (by decide) k) ?_
    refine own_go (g' := (mkF m 51 #[.val (.int r), .val (.int len), .val (.int k)] [(.int (128 : Int32))])) (fun _ k => XS.sipush X0.here hx rfl (hb hby d2_48) k) ?_
    refine own_go (g' := (mkF m 52 #[.val (.int r), .val (.int len), .val (.int k)] [(.int r), (.int (128 : Int32))])) (fun _ k => XS.iloadN X0.here hx rfl (hb hby d2_51) rfl k) ?_
    refine own_go (g' := (mkF m 54 #[.val (.int r), .val (.int len), .val (.int k)] [(.int (6 : Int32)), (.int r), (.int (128 : Int32))])) (fun _ k => XS.bipush X0.here hx rfl (hb hby d2_52) k) ?_
    refine own_go (g' := (mkF m 55 #[.val (.int r), .val (.int len), .val (.int k)] [(.int len), (.int (6 : Int32)), (.int r), (.int (128 : Int32))])) (fun _ k => XS.iloadN X0.here hx rfl (hb hby d2_54) rfl k) ?_
    refine own_go (g' := (mkF m 56 #[.val (.int r), .val (.int len), .val (.int k)] [(.int (1 : Int32)), (.int len), (.int (6 : Int32)), (.int r), (.int (128 : Int32))])) (fun _ k => XS.iconst X0.here hx rfl (hb hby d2_55) k) ?_
    refine own_go (g' := (mkF m 57 #[.val (.int r), .val (.int len), .val (.int k)] [(.int (len - (1 : Int32))), (.int (6 : Int32)), (.int r), (.int (128 : Int32))])) (fun _ k => XS.isub X0.here hx rfl (hb hby d2_56) rfl k) ?_
    refine own_go (g' := (mkF m 58 #[.val (.int r), .val (.int len), .val (.int k)] [(.int k), (.int (len - (1 : Int32))), (.int (6 : Int32)), (.int r), (.int (128 : Int32))])) (fun _ k => XS.iloadN X0.here hx rfl (hb hby d2_57) rfl k) ?_
    refine own_go (g' := (mkF m 59 #[.val (.int r), .val (.int len), .val (.int k)] [(.int ((len - (1 : Int32)) - k)), (.int (6 : Int32)), (.int r), (.int (128 : Int32))])) (fun _ k => XS.isub X0.here hx rfl (hb hby d2_58) rfl k) ?_
    refine own_go (g' := (mkF m 60 #[.val (.int r), .val (.int len), .val (.int k)] [(.int ((6 : Int32) * ((len - (1 : Int32)) - k))), (.int r), (.int (128 : Int32))])) (fun _ k => XS.imul X0.here hx rfl (hb hby d2_59) rfl k) ?_
    refine own_go (g' := (mkF m 61 #[.val (.int r), .val (.int len), .val (.int k)] [(.int (r >>> (((6 : Int32) * ((len - (1 : Int32)) - k)) &&& 31))), (.int (128 : Int32))])) (fun _ k => XT.ishr X0.here hx rfl (hb hby d2_60) rfl k) ?_
    refine own_go (g' := (mkF m 63 #[.val (.int r), .val (.int len), .val (.int k)] [(.int (63 : Int32)), (.int (r >>> (((6 : Int32) * ((len - (1 : Int32)) - k)) &&& 31))), (.int (128 : Int32))])) (fun _ k => XS.bipush X0.here hx rfl (hb hby d2_61) k) ?_
    refine own_go (g' := (mkF m 64 #[.val (.int r), .val (.int len), .val (.int k)] [(.int ((r >>> (((6 : Int32) * ((len - (1 : Int32)) - k)) &&& 31)) &&& (63 : Int32))), (.int (128 : Int32))])) (fun _ k => XS.iand X0.here hx rfl (hb hby d2_63) rfl k) ?_
    refine own_go (g' := (mkF m 65 #[.val (.int r), .val (.int len), .val (.int k)] [(.int ((128 : Int32) ||| ((r >>> (((6 : Int32) * ((len - (1 : Int32)) - k)) &&& 31)) &&& (63 : Int32))))])) (fun _ k => XT.ior X0.here hx rfl (hb hby d2_64) rfl k) ?_
    exact own_retI X0 hx hlk hret e0 (hb hby d2_65) ⟨by simp [own_unit, ck], rfl, rfl⟩ (by decide) (by decide)
set_option maxRecDepth 65536 in
set_option maxHeartbeats 40000000 in
theorem own_rmCp (l : Launch) (Z : State) (a0 : Array Value) (hw : ∀ d ∈ tables_1, d.before a0 Z = true) (ws : List Jvm.Cond) (a : Addr) (ai ti : Int32) (f : Nat → Int32) (A TO : Nat) (h0 : Heap) (n0 : Nat) (hA : ai.toInt = (A : Int)) (hTO : ti.toInt = (TO : Int)) (hAT : A < TO) (hT8 : TO ≤ 8) (F0 : own_Ai Z h0 a .byte 8 f) :
    own_Met l (⟨"org/kusuridana/Utf8", "codePoint", "([BII)I"⟩ : MethodName) prog_164_method_2_code 10 (some .int) ws ({ frames := 0, cells := 0, slots := 0, locals := 0 } : Room) Z #[(.ref a), (.int ai), (.int ti)] h0 (own_QI (own_cp f A TO) h0) := by
  refine own_enter (plainFor_of_name pn_3) ?_
  intro p e s m below meth c T0 X0 hx hby hml hZ hown e0 hret hlk hnm
  have hown : s.vm.findClass "org/kusuridana/Utf8" = some m.cls := hown
  have hml : c.maxLocals = 10 := hml
  have N0 := Fr.nil n0
  refine own_start (ef_3 m a ai ti) ?_
  show own_Go p e below _ T0 (mkF m 0 #[.val (.ref a), .val (.int ai), .val (.int ti), .unset, .unset, .unset, .unset, .unset, .unset, .unset] [])
  refine own_go (g' := (mkF m 1 #[.val (.ref a), .val (.int ai), .val (.int ti), .unset, .unset, .unset, .unset, .unset, .unset, .unset] [(.ref a)])) (fun _ k => XS.aloadN X0.here hx rfl (hb hby d3_0) rfl rfl k) ?_
  refine own_go (g' := (mkF m 2 #[.val (.ref a), .val (.int ai), .val (.int ti), .unset, .unset, .unset, .unset, .unset, .unset, .unset] [(.int ai), (.ref a)])) (fun _ k => XS.iloadN X0.here hx rfl (hb hby d3_1) rfl k) ?_
  refine own_baload X0 hx hZ e0 F0 A hA (by omega) (hb hby d3_2) ?_
  show own_Go p e below _ T0 (mkF m 3 #[.val (.ref a), .val (.int ai), .val (.int ti), .unset, .unset, .unset, .unset, .unset, .unset, .unset] [(.int (f A))])
  refine own_go (g' := (mkF m 6 #[.val (.ref a), .val (.int ai), .val (.int ti), .unset, .unset, .unset, .unset, .unset, .unset, .unset] [(.int (255 : Int32)), (.int (f A))])) (fun _ k => XS.sipush X0.here hx rfl (hb hby d3_3) k) ?_
  refine own_go (g' := (mkF m 7 #[.val (.ref a), .val (.int ai), .val (.int ti), .unset, .unset, .unset, .unset, .unset, .unset, .unset] [(.int ((f A) &&& (255 : Int32)))])) (fun _ k => XS.iand X0.here hx rfl (hb hby d3_6) rfl k) ?_
  refine own_go (g' := (mkF m 8 #[.val (.ref a), .val (.int ai), .val (.int ti), .val (.int ((f A) &&& (255 : Int32))), .unset, .unset, .unset, .unset, .unset, .unset] [])) (fun _ k => XS.istoreN X0.here hx rfl (hb hby d3_7) rfl (l' := #[.val (.ref a), .val (.int ai), .val (.int ti), .val (.int ((f A) &&& (255 : Int32))), .unset, .unset, .unset, .unset, .unset, .unset]) rfl k) ?_
  obtain ⟨F, hF⟩ : ∃ z : Int32, z = ((f A) &&& (255 : Int32)) := ⟨_, rfl⟩
  rw [← hF]
  show own_Go p e below _ T0 (mkF m 8 #[.val (.ref a), .val (.int ai), .val (.int ti), .val (.int F), .unset, .unset, .unset, .unset, .unset, .unset] [])
  refine own_go (g' := (mkF m 9 #[.val (.ref a), .val (.int ai), .val (.int ti), .val (.int F), .unset, .unset, .unset, .unset, .unset, .unset] [(.int F)])) (fun _ k => XS.iloadN X0.here hx rfl (hb hby d3_8) rfl k) ?_
  refine own_go (g' := (mkF m 12 #[.val (.ref a), .val (.int ai), .val (.int ti), .val (.int F), .unset, .unset, .unset, .unset, .unset, .unset] [(.int (128 : Int32)), (.int F)])) (fun _ k => XS.sipush X0.here hx rfl (hb hby d3_9) k) ?_
  by_cases c12 : F < (128 : Int32)
  · refine own_go (g' := (mkF m 15 #[.val (.ref a), .val (.int ai), .val (.int ti), .val (.int F), .unset, .unset, .unset, .unset, .unset, .unset] [])) (fun _ k => XS.icmpNo X0.here hx rfl (hb hby d3_12) rfl (XT.ii_ge_f c12) k) ?_
    refine own_go (g' := (mkF m 16 #[.val (.ref a), .val (.int ai), .val (.int ti), .val (.int F), .unset, .unset, .unset, .unset, .unset, .unset] [(.int F)])) (fun _ k => XS.iloadN X0.here hx rfl (hb hby d3_15) rfl k) ?_
    exact own_retI X0 hx hlk hret e0 (hb hby d3_16) ⟨by simp [own_cp, ← hF, c12], rfl, rfl⟩ (by decide) (by decide)
  · refine own_go (g' := (mkF m 17 #[.val (.ref a), .val (.int ai), .val (.int ti), .val (.int F), .unset, .unset, .unset, .unset, .unset, .unset] [])) (fun _ k => XS.icmpYes X0.here hx rfl (pc0 := 12) (pc' := 17) rfl (hb hby d3_12) rfl (XT.ii_ge_t c12) (by decide) (by decide) k) ?_
    suffices J : ∀ (len bits least : Int32) (n : Nat), len.toInt = (n : Int) → 2 ≤ n → n ≤ 4 → own_cp f A TO = own_tail f A TO n bits least → own_Go p e below (own_Po s (own_QI (own_cp f A TO) h0) 0 0) T0 (mkF m 111 #[.val (.ref a), .val (.int ai), .val (.int ti), .val (.int F), .val (.int len), .val (.int bits), .val (.int least), .unset, .unset, .unset] []) by
      refine own_go (g' := (mkF m 18 #[.val (.ref a), .val (.int ai), .val (.int ti), .val (.int F), .unset, .unset, .unset, .unset, .unset, .unset] [(.int F)])) (fun _ k => XS.iloadN X0.here hx rfl (hb hby d3_17) rfl k) ?_
      refine own_go (g' := (mkF m 21 #[.val (.ref a), .val (.int ai), .val (.int ti), .val (.int F), .unset, .unset, .unset, .unset, .unset, .unset] [(.int (194 : Int32)), (.int F)])) (fun _ k => XS.sipush X0.here hx rfl (hb hby d3_18) k) ?_
      by_cases c21 : F < (194 : Int32)
      · refine own_go (g' := (mkF m 48 #[.val (.ref a), .val (.int ai), .val (.int ti), .val (.int F), .unset, .unset, .unset, .unset, .unset, .unset] [])) (fun _ k => XS.icmpYes X0.here hx rfl (pc0 := 21) (pc' := 48) rfl (hb hby d3_21) rfl (XT.ii_lt_t c21) (by decide) (by decide) k) ?_
        refine own_go (g' := (mkF m 49 #[.val (.ref a), .val (.int ai), .val (.int ti), .val (.int F), .unset, .unset, .unset, .unset, .unset, .unset] [(.int F)])) (fun _ k => XS.iloadN X0.here hx rfl (hb hby d3_48) rfl k) ?_
        refine own_go (g' := (mkF m 52 #[.val (.ref a), .val (.int ai), .val (.int ti), .val (.int F), .unset, .unset, .unset, .unset, .unset, .unset] [(.int (224 : Int32)), (.int F)])) (fun _ k => XS.sipush X0.here hx rfl (hb hby d3_49) k) ?_
        by_cases c52 : F < (224 : Int32)
        · refine own_go (g' := (mkF m 79 #[.val (.ref a), .val (.int ai), .val (.int ti), .val (.int F), .unset, .unset, .unset, .unset, .unset, .unset] [])) (fun _ k => XS.icmpYes X0.here hx rfl (pc0 := 52) (pc' := 79) rfl (hb hby d3_52) rfl (XT.ii_lt_t c52) (by decide) (by decide) k) ?_
          refine own_go (g' := (mkF m 80 #[.val (.ref a), .val (.int ai), .val (.int ti), .val (.int F), .unset, .unset, .unset, .unset, .unset, .unset] [(.int F)])) (fun _ k => XS.iloadN X0.here hx rfl (hb hby d3_79) rfl k) ?_
          refine own_go (g' := (mkF m 83 #[.val (.ref a), .val (.int ai), .val (.int ti), .val (.int F), .unset, .unset, .unset, .unset, .unset, .unset] [(.int (240 : Int32)), (.int F)])) (fun _ k => XS.sipush X0.here hx rfl (hb hby d3_80) k) ?_
          by_cases c83 : F < (240 : Int32)
          · refine own_go (g' := (mkF m 109 #[.val (.ref a), .val (.int ai), .val (.int ti), .val (.int F), .unset, .unset, .unset, .unset, .unset, .unset] [])) (fun _ k => XS.icmpYes X0.here hx rfl (pc0 := 83) (pc' := 109) rfl (hb hby d3_83) rfl (XT.ii_lt_t c83) (by decide) (by decide) k) ?_
            refine own_go (g' := (mkF m 110 #[.val (.ref a), .val (.int ai), .val (.int ti), .val (.int F), .unset, .unset, .unset, .unset, .unset, .unset] [(.int (-1 : Int32))])) (fun _ k => XS.iconst X0.here hx rfl (hb hby d3_109) k) ?_
            exact own_retI X0 hx hlk hret e0 (hb hby d3_110) ⟨by simp [own_cp, ← hF, c12, c21, c52, c83], rfl, rfl⟩ (by decide) (by decide)
          · refine own_go (g' := (mkF m 86 #[.val (.ref a), .val (.int ai), .val (.int ti), .val (.int F), .unset, .unset, .unset, .unset, .unset, .unset] [])) (fun _ k => XS.icmpNo X0.here hx rfl (hb hby d3_83) rfl (XT.ii_lt_f c83) k) ?_
            refine own_go (g' := (mkF m 87 #[.val (.ref a), .val (.int ai), .val (.int ti), .val (.int F), .unset, .unset, .unset, .unset, .unset, .unset] [(.int F)])) (fun _ k => XS.iloadN X0.here hx rfl (hb hby d3_86) rfl k) ?_
            refine own_go (g' := (mkF m 90 #[.val (.ref a), .val (.int ai), .val (.int ti), .val (.int F), .unset, .unset, .unset, .unset, .unset, .unset] [(.int (244 : Int32)), (.int F)])) (fun _ k => XS.sipush X0.here hx rfl (hb hby d3_87) k) ?_
            by_cases c90 : (244 : Int32) < F
            · refine own_go (g' := (mkF m 109 #[.val (.ref a), .val (.int ai), .val (.int ti), .val (.int F), .unset, .unset, .unset, .unset, .unset, .unset] [])) (fun _ k => XS.icmpYes X0.here hx rfl (pc0 := 90) (pc' := 109) rfl (hb hby d3_90) rfl (XT.ii_gt_t c90) (by decide) (by decide) k) ?_
              refine own_go (g' := (mkF m 110 #[.val (.ref a), .val (.int ai), .val (.int ti), .val (.int F), .unset, .unset, .unset, .unset, .unset, .unset] [(.int (-1 : Int32))])) (fun _ k => XS.iconst X0.here hx rfl (hb hby d3_109) k) ?_
              exact own_retI X0 hx hlk hret e0 (hb hby d3_110) ⟨by simp [own_cp, ← hF, c12, c21, c52, c83, c90], rfl, rfl⟩ (by decide) (by decide)
            · refine own_go (g' := (mkF m 93 #[.val (.ref a), .val (.int ai), .val (.int ti), .val (.int F), .unset, .unset, .unset, .unset, .unset, .unset] [])) (fun _ k => XS.icmpNo X0.here hx rfl (hb hby d3_90) rfl (XT.ii_gt_f c90) k) ?_
              refine own_go (g' := (mkF m 94 #[.val (.ref a), .val (.int ai), .val (.int ti), .val (.int F), .unset, .unset, .unset, .unset, .unset, .unset] [(.int (4 : Int32))])) (fun _ k => XS.iconst X0.here hx rfl (hb hby d3_93) k) ?_
              refine own_go (g' := (mkF m 96 #[.val (.ref a), .val (.int ai), .val (.int ti), .val (.int F), .val (.int (4 : Int32)), .unset, .unset, .unset, .unset, .unset] [])) (fun _ k => XS.istore X0.here hx rfl (hb hby d3_94) rfl (l' := #[.val (.ref a), .val (.int ai), .val (.int ti), .val (.int F), .val (.int (4 : Int32)), .unset, .unset, .unset, .unset, .unset]) rfl k) ?_
              refine own_go (g' := (mkF m 97 #[.val (.ref a), .val (.int ai), .val (.int ti), .val (.int F), .val (.int (4 : Int32)), .unset, .unset, .unset, .unset, .unset] [(.int F)])) (fun _ k => XS.iloadN X0.here hx rfl (hb hby d3_96) rfl k) ?_
              refine own_go (g' := (mkF m 99 #[.val (.ref a), .val (.int ai), .val (.int ti), .val (.int F), .val (.int (4 : Int32)), .unset, .unset, .unset, .unset, .unset] [(.int (7 : Int32)), (.int F)])) (fun _ k => XS.bipush X0.here hx rfl (hb hby d3_97) k) ?_
              refine own_go (g' := (mkF m 100 #[.val (.ref a), .val (.int ai), .val (.int ti), .val (.int F), .val (.int (4 : Int32)), .unset, .unset, .unset, .unset, .unset] [(.int (F &&& (7 : Int32)))])) (fun _ k => XS.iand X0.here hx rfl (hb hby d3_99) rfl k) ?_
              refine own_go (g' := (mkF m 102 #[.val (.ref a), .val (.int ai), .val (.int ti), .val (.int F), .val (.int (4 : Int32)), .val (.int (F &&& (7 : Int32))), .unset, .unset, .unset, .unset] [])) (fun _ k => XS.istore X0.here hx rfl (hb hby d3_100) rfl (l' := #[.val (.ref a), .val (.int ai), .val (.int ti), .val (.int F), .val (.int (4 : Int32)), .val (.int (F &&& (7 : Int32))), .unset, .unset, .unset, .unset]) rfl k) ?_
              refine own_go (g' := (mkF m 104 #[.val (.ref a), .val (.int ai), .val (.int ti), .val (.int F), .val (.int (4 : Int32)), .val (.int (F &&& (7 : Int32))), .unset, .unset, .unset, .unset] [(.int (65536 : Int32))])) (fun _ k => X0.ldcInt hx hown (mvT hZ (hw _ (List.mem_of_getElem? (i := 20) rfl))) (g := (mkF m 102 #[.val (.ref a), .val (.int ai), .val (.int ti), .val (.int F), .val (.int (4 : Int32)), .val (.int (F &&& (7 : Int32))), .unset, .unset, .unset, .unset] [])) rfl (hb hby d3_102) _ k) ?_
              refine own_go (g' := (mkF m 106 #[.val (.ref a), .val (.int ai), .val (.int ti), .val (.int F), .val (.int (4 : Int32)), .val (.int (F &&& (7 : Int32))), .val (.int (65536 : Int32)), .unset, .unset, .unset] [])) (fun _ k => XS.istore X0.here hx rfl (hb hby d3_104) rfl (l' := #[.val (.ref a), .val (.int ai), .val (.int ti), .val (.int F), .val (.int (4 : Int32)), .val (.int (F &&& (7 : Int32))), .val (.int (65536 : Int32)), .unset, .unset, .unset]) rfl k) ?_
              refine own_go (g' := (mkF m 111 #[.val (.ref a), .val (.int ai), .val (.int ti), .val (.int F), .val (.int (4 : Int32)), .val (.int (F &&& (7 : Int32))), .val (.int (65536 : Int32)), .unset, .unset, .unset] [])) (fun _ k => XS.goto X0.here hx rfl (pc0 := 106) (pc' := 111) rfl (hb hby d3_106) (by decide) (by decide) k) ?_
              exact J (4 : Int32) (F &&& (7 : Int32)) (65536 : Int32) 4 rfl (by decide) (by decide) (by simp [own_cp, ← hF, c12, c21, c52, c83, c90])
        · refine own_go (g' := (mkF m 55 #[.val (.ref a), .val (.int ai), .val (.int ti), .val (.int F), .unset, .unset, .unset, .unset, .unset, .unset] [])) (fun _ k => XS.icmpNo X0.here hx rfl (hb hby d3_52) rfl (XT.ii_lt_f c52) k) ?_
          refine own_go (g' := (mkF m 56 #[.val (.ref a), .val (.int ai), .val (.int ti), .val (.int F), .unset, .unset, .unset, .unset, .unset, .unset] [(.int F)])) (fun _ k => XS.iloadN X0.here hx rfl (hb hby d3_55) rfl k) ?_
          refine own_go (g' := (mkF m 59 #[.val (.ref a), .val (.int ai), .val (.int ti), .val (.int F), .unset, .unset, .unset, .unset, .unset, .unset] [(.int (239 : Int32)), (.int F)])) (fun _ k => XS.sipush X0.here hx rfl (hb hby d3_56) k) ?_
          by_cases c59 : (239 : Int32) < F
          · refine own_go (g' := (mkF m 79 #[.val (.ref a), .val (.int ai), .val (.int ti), .val (.int F), .unset, .unset, .unset, .unset, .unset, .unset] [])) (fun _ k => XS.icmpYes X0.here hx rfl (pc0 := 59) (pc' := 79) rfl (hb hby d3_59) rfl (XT.ii_gt_t c59) (by decide) (by decide) k) ?_
            refine own_go (g' := (mkF m 80 #[.val (.ref a), .val (.int ai), .val (.int ti), .val (.int F), .unset, .unset, .unset, .unset, .unset, .unset] [(.int F)])) (fun _ k => XS.iloadN X0.here hx rfl (hb hby d3_79) rfl k) ?_
            refine own_go (g' := (mkF m 83 #[.val (.ref a), .val (.int ai), .val (.int ti), .val (.int F), .unset, .unset, .unset, .unset, .unset, .unset] [(.int (240 : Int32)), (.int F)])) (fun _ k => XS.sipush X0.here hx rfl (hb hby d3_80) k) ?_
            by_cases c83 : F < (240 : Int32)
            · refine own_go (g' := (mkF m 109 #[.val (.ref a), .val (.int ai), .val (.int ti), .val (.int F), .unset, .unset, .unset, .unset, .unset, .unset] [])) (fun _ k => XS.icmpYes X0.here hx rfl (pc0 := 83) (pc' := 109) rfl (hb hby d3_83) rfl (XT.ii_lt_t c83) (by decide) (by decide) k) ?_
              refine own_go (g' := (mkF m 110 #[.val (.ref a), .val (.int ai), .val (.int ti), .val (.int F), .unset, .unset, .unset, .unset, .unset, .unset] [(.int (-1 : Int32))])) (fun _ k => XS.iconst X0.here hx rfl (hb hby d3_109) k) ?_
              exact own_retI X0 hx hlk hret e0 (hb hby d3_110) ⟨by simp [own_cp, ← hF, c12, c21, c52, c59, c83], rfl, rfl⟩ (by decide) (by decide)
            · refine own_go (g' := (mkF m 86 #[.val (.ref a), .val (.int ai), .val (.int ti), .val (.int F), .unset, .unset, .unset, .unset, .unset, .unset] [])) (fun _ k => XS.icmpNo X0.here hx rfl (hb hby d3_83) rfl (XT.ii_lt_f c83) k) ?_
              refine own_go (g' := (mkF m 87 #[.val (.ref a), .val (.int ai), .val (.int ti), .val (.int F), .unset, .unset, .unset, .unset, .unset, .unset] [(.int F)])) (fun _ k => XS.iloadN X0.here hx rfl (hb hby d3_86) rfl k) ?_
              refine own_go (g' := (mkF m 90 #[.val (.ref a), .val (.int ai), .val (.int ti), .val (.int F), .unset, .unset, .unset, .unset, .unset, .unset] [(.int (244 : Int32)), (.int F)])) (fun _ k => XS.sipush X0.here hx rfl (hb hby d3_87) k) ?_
              by_cases c90 : (244 : Int32) < F
              · refine own_go (g' := (mkF m 109 #[.val (.ref a), .val (.int ai), .val (.int ti), .val (.int F), .unset, .unset, .unset, .unset, .unset, .unset] [])) (fun _ k => XS.icmpYes X0.here hx rfl (pc0 := 90) (pc' := 109) rfl (hb hby d3_90) rfl (XT.ii_gt_t c90) (by decide) (by decide) k) ?_
                refine own_go (g' := (mkF m 110 #[.val (.ref a), .val (.int ai), .val (.int ti), .val (.int F), .unset, .unset, .unset, .unset, .unset, .unset] [(.int (-1 : Int32))])) (fun _ k => XS.iconst X0.here hx rfl (hb hby d3_109) k) ?_
                exact own_retI X0 hx hlk hret e0 (hb hby d3_110) ⟨by simp [own_cp, ← hF, c12, c21, c52, c59, c83, c90], rfl, rfl⟩ (by decide) (by decide)
              · refine own_go (g' := (mkF m 93 #[.val (.ref a), .val (.int ai), .val (.int ti), .val (.int F), .unset, .unset, .unset, .unset, .unset, .unset] [])) (fun _ k => XS.icmpNo X0.here hx rfl (hb hby d3_90) rfl (XT.ii_gt_f c90) k) ?_
                refine own_go (g' := (mkF m 94 #[.val (.ref a), .val (.int ai), .val (.int ti), .val (.int F), .unset, .unset, .unset, .unset, .unset, .unset] [(.int (4 : Int32))])) (fun _ k => XS.iconst X0.here hx rfl (hb hby d3_93) k) ?_
                refine own_go (g' := (mkF m 96 #[.val (.ref a), .val (.int ai), .val (.int ti), .val (.int F), .val (.int (4 : Int32)), .unset, .unset, .unset, .unset, .unset] [])) (fun _ k => XS.istore X0.here hx rfl (hb hby d3_94) rfl (l' := #[.val (.ref a), .val (.int ai), .val (.int ti), .val (.int F), .val (.int (4 : Int32)), .unset, .unset, .unset, .unset, .unset]) rfl k) ?_
                refine own_go (g' := (mkF m 97 #[.val (.ref a), .val (.int ai), .val (.int ti), .val (.int F), .val (.int (4 : Int32)), .unset, .unset, .unset, .unset, .unset] [(.int F)])) (fun _ k => XS.iloadN X0.here hx rfl (hb hby d3_96) rfl k) ?_
                refine own_go (g' := (mkF m 99 #[.val (.ref a), .val (.int ai), .val (.int ti), .val (.int F), .val (.int (4 : Int32)), .unset, .unset, .unset, .unset, .unset] [(.int (7 : Int32)), (.int F)])) (fun _ k => XS.bipush X0.here hx rfl (hb hby d3_97) k) ?_
                refine own_go (g' := (mkF m 100 #[.val (.ref a), .val (.int ai), .val (.int ti), .val (.int F), .val (.int (4 : Int32)), .unset, .unset, .unset, .unset, .unset] [(.int (F &&& (7 : Int32)))])) (fun _ k => XS.iand X0.here hx rfl (hb hby d3_99) rfl k) ?_
                refine own_go (g' := (mkF m 102 #[.val (.ref a), .val (.int ai), .val (.int ti), .val (.int F), .val (.int (4 : Int32)), .val (.int (F &&& (7 : Int32))), .unset, .unset, .unset, .unset] [])) (fun _ k => XS.istore X0.here hx rfl (hb hby d3_100) rfl (l' := #[.val (.ref a), .val (.int ai), .val (.int ti), .val (.int F), .val (.int (4 : Int32)), .val (.int (F &&& (7 : Int32))), .unset, .unset, .unset, .unset]) rfl k) ?_
                refine own_go (g' := (mkF m 104 #[.val (.ref a), .val (.int ai), .val (.int ti), .val (.int F), .val (.int (4 : Int32)), .val (.int (F &&& (7 : Int32))), .unset, .unset, .unset, .unset] [(.int (65536 : Int32))])) (fun _ k => X0.ldcInt hx hown (mvT hZ (hw _ (List.mem_of_getElem? (i := 20) rfl))) (g := (mkF m 102 #[.val (.ref a), .val (.int ai), .val (.int ti), .val (.int F), .val (.int (4 : Int32)), .val (.int (F &&& (7 : Int32))), .unset, .unset, .unset, .unset] [])) rfl (hb hby d3_102) _ k) ?_
                refine own_go (g' := (mkF m 106 #[.val (.ref a), .val (.int ai), .val (.int ti), .val (.int F), .val (.int (4 : Int32)), .val (.int (F &&& (7 : Int32))), .val (.int (65536 : Int32)), .unset, .unset, .unset] [])) (fun _ k => XS.istore X0.here hx rfl (hb hby d3_104) rfl (l' := #[.val (.ref a), .val (.int ai), .val (.int ti), .val (.int F), .val (.int (4 : Int32)), .val (.int (F &&& (7 : Int32))), .val (.int (65536 : Int32)), .unset, .unset, .unset]) rfl k) ?_
                refine own_go (g' := (mkF m 111 #[.val (.ref a), .val (.int ai), .val (.int ti), .val (.int F), .val (.int (4 : Int32)), .val (.int (F &&& (7 : Int32))), .val (.int (65536 : Int32)), .unset, .unset, .unset] [])) (fun _ k => XS.goto X0.here hx rfl (pc0 := 106) (pc' := 111) rfl (hb hby d3_106) (by decide) (by decide) k) ?_
                exact J (4 : Int32) (F &&& (7 : Int32)) (65536 : Int32) 4 rfl (by decide) (by decide) (by simp [own_cp, ← hF, c12, c21, c52, c59, c83, c90])
          · refine own_go (g' := (mkF m 62 #[.val (.ref a), .val (.int ai), .val (.int ti), .val (.int F), .unset, .unset, .unset, .unset, .unset, .unset] [])) (fun _ k => XS.icmpNo X0.here hx rfl (hb hby d3_59) rfl (XT.ii_gt_f c59) k) ?_
            refine own_go (g' := (mkF m 63 #[.val (.ref a), .val (.int ai), .val (.int ti), .val (.int F), .unset, .unset, .unset, .unset, .unset, .unset] [(.int (3 : Int32))])) (fun _ k => XS.iconst X0.here hx rfl (hb hby d3_62) k) ?_
            refine own_go (g' := (mkF m 65 #[.val (.ref a), .val (.int ai), .val (.int ti), .val (.int F), .val (.int (3 : Int32)), .unset, .unset, .unset, .unset, .unset] [])) (fun _ k => XS.istore X0.here hx rfl (hb hby d3_63) rfl (l' := #[.val (.ref a), .val (.int ai), .val (.int ti), .val (.int F), .val (.int (3 : Int32)), .unset, .unset, .unset, .unset, .unset]) rfl k) ?_
            refine own_go (g' := (mkF m 66 #[.val (.ref a), .val (.int ai), .val (.int ti), .val (.int F), .val (.int (3 : Int32)), .unset, .unset, .unset, .unset, .unset] [(.int F)])) (fun _ k => XS.iloadN X0.here hx rfl (hb hby d3_65) rfl k) ?_
            refine own_go (g' := (mkF m 68 #[.val (.ref a), .val (.int ai), .val (.int ti), .val (.int F), .val (.int (3 : Int32)), .unset, .unset, .unset, .unset, .unset] [(.int (15 : Int32)), (.int F)])) (fun _ k => XS.bipush X0.here hx rfl (hb hby d3_66) k) ?_
            refine own_go (g' := (mkF m 69 #[.val (.ref a), .val (.int ai), .val (.int ti), .val (.int F), .val (.int (3 : Int32)), .unset, .unset, .unset, .unset, .unset] [(.int (F &&& (15 : Int32)))])) (fun _ k => XS.iand X0.here hx rfl (hb hby d3_68) rfl k) ?_
            refine own_go (g' := (mkF m 71 #[.val (.ref a), .val (.int ai), .val (.int ti), .val (.int F), .val (.int (3 : Int32)), .val (.int (F &&& (15 : Int32))), .unset, .unset, .unset, .unset] [])) (fun _ k => XS.istore X0.here hx rfl (hb hby d3_69) rfl (l' := #[.val (.ref a), .val (.int ai), .val (.int ti), .val (.int F), .val (.int (3 : Int32)), .val (.int (F &&& (15 : Int32))), .unset, .unset, .unset, .unset]) rfl k) ?_
            refine own_go (g' := (mkF m 74 #[.val (.ref a), .val (.int ai), .val (.int ti), .val (.int F), .val (.int (3 : Int32)), .val (.int (F &&& (15 : Int32))), .unset, .unset, .unset, .unset] [(.int (2048 : Int32))])) (fun _ k => XS.sipush X0.here hx rfl (hb hby d3_71) k) ?_
            refine own_go (g' := (mkF m 76 #[.val (.ref a), .val (.int ai), .val (.int ti), .val (.int F), .val (.int (3 : Int32)), .val (.int (F &&& (15 : Int32))), .val (.int (2048 : Int32)), .unset, .unset, .unset] [])) (fun _ k => XS.istore X0.here hx rfl (hb hby d3_74) rfl (l' := #[.val (.ref a), .val (.int ai), .val (.int ti), .val (.int F), .val (.int (3 : Int32)), .val (.int (F &&& (15 : Int32))), .val (.int (2048 : Int32)), .unset, .unset, .unset]) rfl k) ?_
            refine own_go (g' := (mkF m 111 #[.val (.ref a), .val (.int ai), .val (.int ti), .val (.int F), .val (.int (3 : Int32)), .val (.int (F &&& (15 : Int32))), .val (.int (2048 : Int32)), .unset, .unset, .unset] [])) (fun _ k => XS.goto X0.here hx rfl (pc0 := 76) (pc' := 111) rfl (hb hby d3_76) (by decide) (by decide) k) ?_
            exact J (3 : Int32) (F &&& (15 : Int32)) (2048 : Int32) 3 rfl (by decide) (by decide) (by simp [own_cp, ← hF, c12, c21, c52, c59])
      · refine own_go (g' := (mkF m 24 #[.val (.ref a), .val (.int ai), .val (.int ti), .val (.int F), .unset, .unset, .unset, .unset, .unset, .unset] [])) (fun _ k => XS.icmpNo X0.here hx rfl (hb hby d3_21) rfl (XT.ii_lt_f c21) k) ?_
        refine own_go (g' := (mkF m 25 #[.val (.ref a), .val (.int ai), .val (.int ti), .val (.int F), .unset, .unset, .unset, .unset, .unset, .unset] [(.int F)])) (fun _ k => XS.iloadN X0.here hx rfl (hb hby d3_24) rfl k) ?_
        refine own_go (g' := (mkF m 28 #[.val (.ref a), .val (.int ai), .val (.int ti), .val (.int F), .unset, .unset, .unset, .unset, .unset, .unset] [(.int (223 : Int32)), (.int F)])) (fun _ k => XS.sipush X0.here hx rfl (hb hby d3_25) k) ?_
        by_cases c28 : (223 : Int32) < F
        · refine own_go (g' := (mkF m 48 #[.val (.ref a), .val (.int ai), .val (.int ti), .val (.int F), .unset, .unset, .unset, .unset, .unset, .unset] [])) (fun _ k => XS.icmpYes X0.here hx rfl (pc0 := 28) (pc' := 48) rfl (hb hby d3_28) rfl (XT.ii_gt_t c28) (by decide) (by decide) k) ?_
          refine own_go (g' := (mkF m 49 #[.val (.ref a), .val (.int ai), .val (.int ti), .val (.int F), .unset, .unset, .unset, .unset, .unset, .unset] [(.int F)])) (fun _ k => XS.iloadN X0.here hx rfl (hb hby d3_48) rfl k) ?_
          refine own_go (g' := (mkF m 52 #[.val (.ref a), .val (.int ai), .val (.int ti), .val (.int F), .unset, .unset, .unset, .unset, .unset, .unset] [(.int (224 : Int32)), (.int F)])) (fun _ k => XS.sipush X0.here hx rfl (hb hby d3_49) k) ?_
          by_cases c52 : F < (224 : Int32)
          · refine own_go (g' := (mkF m 79 #[.val (.ref a), .val (.int ai), .val (.int ti), .val (.int F), .unset, .unset, .unset, .unset, .unset, .unset] [])) (fun _ k => XS.icmpYes X0.here hx rfl (pc0 := 52) (pc' := 79) rfl (hb hby d3_52) rfl (XT.ii_lt_t c52) (by decide) (by decide) k) ?_
            refine own_go (g' := (mkF m 80 #[.val (.ref a), .val (.int ai), .val (.int ti), .val (.int F), .unset, .unset, .unset, .unset, .unset, .unset] [(.int F)])) (fun _ k => XS.iloadN X0.here hx rfl (hb hby d3_79) rfl k) ?_
            refine own_go (g' := (mkF m 83 #[.val (.ref a), .val (.int ai), .val (.int ti), .val (.int F), .unset, .unset, .unset, .unset, .unset, .unset] [(.int (240 : Int32)), (.int F)])) (fun _ k => XS.sipush X0.here hx rfl (hb hby d3_80) k) ?_
            by_cases c83 : F < (240 : Int32)
            · refine own_go (g' := (mkF m 109 #[.val (.ref a), .val (.int ai), .val (.int ti), .val (.int F), .unset, .unset, .unset, .unset, .unset, .unset] [])) (fun _ k => XS.icmpYes X0.here hx rfl (pc0 := 83) (pc' := 109) rfl (hb hby d3_83) rfl (XT.ii_lt_t c83) (by decide) (by decide) k) ?_
              refine own_go (g' := (mkF m 110 #[.val (.ref a), .val (.int ai), .val (.int ti), .val (.int F), .unset, .unset, .unset, .unset, .unset, .unset] [(.int (-1 : Int32))])) (fun _ k => XS.iconst X0.here hx rfl (hb hby d3_109) k) ?_
              exact own_retI X0 hx hlk hret e0 (hb hby d3_110) ⟨by simp [own_cp, ← hF, c12, c21, c28, c52, c83], rfl, rfl⟩ (by decide) (by decide)
            · refine own_go (g' := (mkF m 86 #[.val (.ref a), .val (.int ai), .val (.int ti), .val (.int F), .unset, .unset, .unset, .unset, .unset, .unset] [])) (fun _ k => XS.icmpNo X0.here hx rfl (hb hby d3_83) rfl (XT.ii_lt_f c83) k) ?_
              refine own_go (g' := (mkF m 87 #[.val (.ref a), .val (.int ai), .val (.int ti), .val (.int F), .unset, .unset, .unset, .unset, .unset, .unset] [(.int F)])) (fun _ k => XS.iloadN X0.here hx rfl (hb hby d3_86) rfl k) ?_
              refine own_go (g' := (mkF m 90 #[.val (.ref a), .val (.int ai), .val (.int ti), .val (.int F), .unset, .unset, .unset, .unset, .unset, .unset] [(.int (244 : Int32)), (.int F)])) (fun _ k => XS.sipush X0.here hx rfl (hb hby d3_87) k) ?_
              by_cases c90 : (244 : Int32) < F
              · refine own_go (g' := (mkF m 109 #[.val (.ref a), .val (.int ai), .val (.int ti), .val (.int F), .unset, .unset, .unset, .unset, .unset, .unset] [])) (fun _ k => XS.icmpYes X0.here hx rfl (pc0 := 90) (pc' := 109) rfl (hb hby d3_90) rfl (XT.ii_gt_t c90) (by decide) (by decide) k) ?_
                refine own_go (g' := (mkF m 110 #[.val (.ref a), .val (.int ai), .val (.int ti), .val (.int F), .unset, .unset, .unset, .unset, .unset, .unset] [(.int (-1 : Int32))])) (fun _ k => XS.iconst X0.here hx rfl (hb hby d3_109) k) ?_
                exact own_retI X0 hx hlk hret e0 (hb hby d3_110) ⟨by simp [own_cp, ← hF, c12, c21, c28, c52, c83, c90], rfl, rfl⟩ (by decide) (by decide)
              · refine own_go (g' := (mkF m 93 #[.val (.ref a), .val (.int ai), .val (.int ti), .val (.int F), .unset, .unset, .unset, .unset, .unset, .unset] [])) (fun _ k => XS.icmpNo X0.here hx rfl (hb hby d3_90) rfl (XT.ii_gt_f c90) k) ?_
                refine own_go (g' := (mkF m 94 #[.val (.ref a), .val (.int ai), .val (.int ti), .val (.int F), .unset, .unset, .unset, .unset, .unset, .unset] [(.int (4 : Int32))])) (fun _ k => XS.iconst X0.here hx rfl (hb hby d3_93) k) ?_
                refine own_go (g' := (mkF m 96 #[.val (.ref a), .val (.int ai), .val (.int ti), .val (.int F), .val (.int (4 : Int32)), .unset, .unset, .unset, .unset, .unset] [])) (fun _ k => XS.istore X0.here hx rfl (hb hby d3_94) rfl (l' := #[.val (.ref a), .val (.int ai), .val (.int ti), .val (.int F), .val (.int (4 : Int32)), .unset, .unset, .unset, .unset, .unset]) rfl k) ?_
                refine own_go (g' := (mkF m 97 #[.val (.ref a), .val (.int ai), .val (.int ti), .val (.int F), .val (.int (4 : Int32)), .unset, .unset, .unset, .unset, .unset] [(.int F)])) (fun _ k => XS.iloadN X0.here hx rfl (hb hby d3_96) rfl k) ?_
                refine own_go (g' := (mkF m 99 #[.val (.ref a), .val (.int ai), .val (.int ti), .val (.int F), .val (.int (4 : Int32)), .unset, .unset, .unset, .unset, .unset] [(.int (7 : Int32)), (.int F)])) (fun _ k => XS.bipush X0.here hx rfl (hb hby d3_97) k) ?_
                refine own_go (g' := (mkF m 100 #[.val (.ref a), .val (.int ai), .val (.int ti), .val (.int F), .val (.int (4 : Int32)), .unset, .unset, .unset, .unset, .unset] [(.int (F &&& (7 : Int32)))])) (fun _ k => XS.iand X0.here hx rfl (hb hby d3_99) rfl k) ?_
                refine own_go (g' := (mkF m 102 #[.val (.ref a), .val (.int ai), .val (.int ti), .val (.int F), .val (.int (4 : Int32)), .val (.int (F &&& (7 : Int32))), .unset, .unset, .unset, .unset] [])) (fun _ k => XS.istore X0.here hx rfl (hb hby d3_100) rfl (l' := #[.val (.ref a), .val (.int ai), .val (.int ti), .val (.int F), .val (.int (4 : Int32)), .val (.int (F &&& (7 : Int32))), .unset, .unset, .unset, .unset]) rfl k) ?_
                refine own_go (g' := (mkF m 104 #[.val (.ref a), .val (.int ai), .val (.int ti), .val (.int F), .val (.int (4 : Int32)), .val (.int (F &&& (7 : Int32))), .unset, .unset, .unset, .unset] [(.int (65536 : Int32))])) (fun _ k => X0.ldcInt hx hown (mvT hZ (hw _ (List.mem_of_getElem? (i := 20) rfl))) (g := (mkF m 102 #[.val (.ref a), .val (.int ai), .val (.int ti), .val (.int F), .val (.int (4 : Int32)), .val (.int (F &&& (7 : Int32))), .unset, .unset, .unset, .unset] [])) rfl (hb hby d3_102) _ k) ?_
                refine own_go (g' := (mkF m 106 #[.val (.ref a), .val (.int ai), .val (.int ti), .val (.int F), .val (.int (4 : Int32)), .val (.int (F &&& (7 : Int32))), .val (.int (65536 : Int32)), .unset, .unset, .unset] [])) (fun _ k => XS.istore X0.here hx rfl (hb hby d3_104) rfl (l' := #[.val (.ref a), .val (.int ai), .val (.int ti), .val (.int F), .val (.int (4 : Int32)), .val (.int (F &&& (7 : Int32))), .val (.int (65536 : Int32)), .unset, .unset, .unset]) rfl k) ?_
                refine own_go (g' := (mkF m 111 #[.val (.ref a), .val (.int ai), .val (.int ti), .val (.int F), .val (.int (4 : Int32)), .val (.int (F &&& (7 : Int32))), .val (.int (65536 : Int32)), .unset, .unset, .unset] [])) (fun _ k => XS.goto X0.here hx rfl (pc0 := 106) (pc' := 111) rfl (hb hby d3_106) (by decide) (by decide) k) ?_
                exact J (4 : Int32) (F &&& (7 : Int32)) (65536 : Int32) 4 rfl (by decide) (by decide) (by simp [own_cp, ← hF, c12, c21, c28, c52, c83, c90])
          · refine own_go (g' := (mkF m 55 #[.val (.ref a), .val (.int ai), .val (.int ti), .val (.int F), .unset, .unset, .unset, .unset, .unset, .unset] [])) (fun _ k => XS.icmpNo X0.here hx rfl (hb hby d3_52) rfl (XT.ii_lt_f c52) k) ?_
            refine own_go (g' := (mkF m 56 #[.val (.ref a), .val (.int ai), .val (.int ti), .val (.int F), .unset, .unset, .unset, .unset, .unset, .unset] [(.int F)])) (fun _ k => XS.iloadN X0.here hx rfl (hb hby d3_55) rfl k) ?_
            refine own_go (g' := (mkF m 59 #[.val (.ref a), .val (.int ai), .val (.int ti), .val (.int F), .unset, .unset, .unset, .unset, .unset, .unset] [(.int (239 : Int32)), (.int F)])) (fun _ k => XS.sipush X0.here hx rfl (hb hby d3_56) k) ?_
            by_cases c59 : (239 : Int32) < F
            · refine own_go (g' := (mkF m 79 #[.val (.ref a), .val (.int ai), .val (.int ti), .val (.int F), .unset, .unset, .unset, .unset, .unset, .unset] [])) (fun _ k => XS.icmpYes X0.here hx rfl (pc0 := 59) (pc' := 79) rfl (hb hby d3_59) rfl (XT.ii_gt_t c59) (by decide) (by decide) k) ?_
              refine own_go (g' := (mkF m 80 #[.val (.ref a), .val (.int ai), .val (.int ti), .val (.int F), .unset, .unset, .unset, .unset, .unset, .unset] [(.int F)])) (fun _ k => XS.iloadN X0.here hx rfl (hb hby d3_79) rfl k) ?_
              refine own_go (g' := (mkF m 83 #[.val (.ref a), .val (.int ai), .val (.int ti), .val (.int F), .unset, .unset, .unset, .unset, .unset, .unset] [(.int (240 : Int32)), (.int F)])) (fun _ k => XS.sipush X0.here hx rfl (hb hby d3_80) k) ?_
              by_cases c83 : F < (240 : Int32)
              · refine own_go (g' := (mkF m 109 #[.val (.ref a), .val (.int ai), .val (.int ti), .val (.int F), .unset, .unset, .unset, .unset, .unset, .unset] [])) (fun _ k => XS.icmpYes X0.here hx rfl (pc0 := 83) (pc' := 109) rfl (hb hby d3_83) rfl (XT.ii_lt_t c83) (by decide) (by decide) k) ?_
                refine own_go (g' := (mkF m 110 #[.val (.ref a), .val (.int ai), .val (.int ti), .val (.int F), .unset, .unset, .unset, .unset, .unset, .unset] [(.int (-1 : Int32))])) (fun _ k => XS.iconst X0.here hx rfl (hb hby d3_109) k) ?_
                exact own_retI X0 hx hlk hret e0 (hb hby d3_110) ⟨by simp [own_cp, ← hF, c12, c21, c28, c52, c59, c83], rfl, rfl⟩ (by decide) (by decide)
              · refine own_go (g' := (mkF m 86 #[.val (.ref a), .val (.int ai), .val (.int ti), .val (.int F), .unset, .unset, .unset, .unset, .unset, .unset] [])) (fun _ k => XS.icmpNo X0.here hx rfl (hb hby d3_83) rfl (XT.ii_lt_f c83) k) ?_
                refine own_go (g' := (mkF m 87 #[.val (.ref a), .val (.int ai), .val (.int ti), .val (.int F), .unset, .unset, .unset, .unset, .unset, .unset] [(.int F)])) (fun _ k => XS.iloadN X0.here hx rfl (hb hby d3_86) rfl k) ?_
                refine own_go (g' := (mkF m 90 #[.val (.ref a), .val (.int ai), .val (.int ti), .val (.int F), .unset, .unset, .unset, .unset, .unset, .unset] [(.int (244 : Int32)), (.int F)])) (fun _ k => XS.sipush X0.here hx rfl (hb hby d3_87) k) ?_
                by_cases c90 : (244 : Int32) < F
                · refine own_go (g' := (mkF m 109 #[.val (.ref a), .val (.int ai), .val (.int ti), .val (.int F), .unset, .unset, .unset, .unset, .unset, .unset] [])) (fun _ k => XS.icmpYes X0.here hx rfl (pc0 := 90) (pc' := 109) rfl (hb hby d3_90) rfl (XT.ii_gt_t c90) (by decide) (by decide) k) ?_
                  refine own_go (g' := (mkF m 110 #[.val (.ref a), .val (.int ai), .val (.int ti), .val (.int F), .unset, .unset, .unset, .unset, .unset, .unset] [(.int (-1 : Int32))])) (fun _ k => XS.iconst X0.here hx rfl (hb hby d3_109) k) ?_
                  exact own_retI X0 hx hlk hret e0 (hb hby d3_110) ⟨by simp [own_cp, ← hF, c12, c21, c28, c52, c59, c83, c90], rfl, rfl⟩ (by decide) (by decide)
                · refine own_go (g' := (mkF m 93 #[.val (.ref a), .val (.int ai), .val (.int ti), .val (.int F), .unset, .unset, .unset, .unset, .unset, .unset] [])) (fun _ k => XS.icmpNo X0.here hx rfl (hb hby d3_90) rfl (XT.ii_gt_f c90) k) ?_
                  refine own_go (g' := (mkF m 94 #[.val (.ref a), .val (.int ai), .val (.int ti), .val (.int F), .unset, .unset, .unset, .unset, .unset, .unset] [(.int (4 : Int32))])) (fun _ k => XS.iconst X0.here hx rfl (hb hby d3_93) k) ?_
                  refine own_go (g' := (mkF m 96 #[.val (.ref a), .val (.int ai), .val (.int ti), .val (.int F), .val (.int (4 : Int32)), .unset, .unset, .unset, .unset, .unset] [])) (fun _ k => XS.istore X0.here hx rfl (hb hby d3_94) rfl (l' := #[.val (.ref a), .val (.int ai), .val (.int ti), .val (.int F), .val (.int (4 : Int32)), .unset, .unset, .unset, .unset, .unset]) rfl k) ?_
                  refine own_go (g' := (mkF m 97 #[.val (.ref a), .val (.int ai), .val (.int ti), .val (.int F), .val (.int (4 : Int32)), .unset, .unset, .unset, .unset, .unset] [(.int F)])) (fun _ k => XS.iloadN X0.here hx rfl (hb hby d3_96) rfl k) ?_
                  refine own_go (g' := (mkF m 99 #[.val (.ref a), .val (.int ai), .val (.int ti), .val (.int F), .val (.int (4 : Int32)), .unset, .unset, .unset, .unset, .unset] [(.int (7 : Int32)), (.int F)])) (fun _ k => XS.bipush X0.here hx rfl (hb hby d3_97) k) ?_
                  refine own_go (g' := (mkF m 100 #[.val (.ref a), .val (.int ai), .val (.int ti), .val (.int F), .val (.int (4 : Int32)), .unset, .unset, .unset, .unset, .unset] [(.int (F &&& (7 : Int32)))])) (fun _ k => XS.iand X0.here hx rfl (hb hby d3_99) rfl k) ?_
                  refine own_go (g' := (mkF m 102 #[.val (.ref a), .val (.int ai), .val (.int ti), .val (.int F), .val (.int (4 : Int32)), .val (.int (F &&& (7 : Int32))), .unset, .unset, .unset, .unset] [])) (fun _ k => XS.istore X0.here hx rfl (hb hby d3_100) rfl (l' := #[.val (.ref a), .val (.int ai), .val (.int ti), .val (.int F), .val (.int (4 : Int32)), .val (.int (F &&& (7 : Int32))), .unset, .unset, .unset, .unset]) rfl k) ?_
                  refine own_go (g' := (mkF m 104 #[.val (.ref a), .val (.int ai), .val (.int ti), .val (.int F), .val (.int (4 : Int32)), .val (.int (F &&& (7 : Int32))), .unset, .unset, .unset, .unset] [(.int (65536 : Int32))])) (fun _ k => X0.ldcInt hx hown (mvT hZ (hw _ (List.mem_of_getElem? (i := 20) rfl))) (g := (mkF m 102 #[.val (.ref a), .val (.int ai), .val (.int ti), .val (.int F), .val (.int (4 : Int32)), .val (.int (F &&& (7 : Int32))), .unset, .unset, .unset, .unset] [])) rfl (hb hby d3_102) _ k) ?_
                  refine own_go (g' := (mkF m 106 #[.val (.ref a), .val (.int ai), .val (.int ti), .val (.int F), .val (.int (4 : Int32)), .val (.int (F &&& (7 : Int32))), .val (.int (65536 : Int32)), .unset, .unset, .unset] [])) (fun _ k => XS.istore X0.here hx rfl (hb hby d3_104) rfl (l' := #[.val (.ref a), .val (.int ai), .val (.int ti), .val (.int F), .val (.int (4 : Int32)), .val (.int (F &&& (7 : Int32))), .val (.int (65536 : Int32)), .unset, .unset, .unset]) rfl k) ?_
                  refine own_go (g' := (mkF m 111 #[.val (.ref a), .val (.int ai), .val (.int ti), .val (.int F), .val (.int (4 : Int32)), .val (.int (F &&& (7 : Int32))), .val (.int (65536 : Int32)), .unset, .unset, .unset] [])) (fun _ k => XS.goto X0.here hx rfl (pc0 := 106) (pc' := 111) rfl (hb hby d3_106) (by decide) (by decide) k) ?_
                  exact J (4 : Int32) (F &&& (7 : Int32)) (65536 : Int32) 4 rfl (by decide) (by decide) (by simp [own_cp, ← hF, c12, c21, c28, c52, c59, c83, c90])
            · refine own_go (g' := (mkF m 62 #[.val (.ref a), .val (.int ai), .val (.int ti), .val (.int F), .unset, .unset, .unset, .unset, .unset, .unset] [])) (fun _ k => XS.icmpNo X0.here hx rfl (hb hby d3_59) rfl (XT.ii_gt_f c59) k) ?_
              refine own_go (g' := (mkF m 63 #[.val (.ref a), .val (.int ai), .val (.int ti), .val (.int F), .unset, .unset, .unset, .unset, .unset, .unset] [(.int (3 : Int32))])) (fun _ k => XS.iconst X0.here hx rfl (hb hby d3_62) k) ?_
              refine own_go (g' := (mkF m 65 #[.val (.ref a), .val (.int ai), .val (.int ti), .val (.int F), .val (.int (3 : Int32)), .unset, .unset, .unset, .unset, .unset] [])) (fun _ k => XS.istore X0.here hx rfl (hb hby d3_63) rfl (l' := #[.val (.ref a), .val (.int ai), .val (.int ti), .val (.int F), .val (.int (3 : Int32)), .unset, .unset, .unset, .unset, .unset]) rfl k) ?_
              refine own_go (g' := (mkF m 66 #[.val (.ref a), .val (.int ai), .val (.int ti), .val (.int F), .val (.int (3 : Int32)), .unset, .unset, .unset, .unset, .unset] [(.int F)])) (fun _ k => XS.iloadN X0.here hx rfl (hb hby d3_65) rfl k) ?_
              refine own_go (g' := (mkF m 68 #[.val (.ref a), .val (.int ai), .val (.int ti), .val (.int F), .val (.int (3 : Int32)), .unset, .unset, .unset, .unset, .unset] [(.int (15 : Int32)), (.int F)])) (fun _ k => XS.bipush X0.here hx rfl (hb hby d3_66) k) ?_
              refine own_go (g' := (mkF m 69 #[.val (.ref a), .val (.int ai), .val (.int ti), .val (.int F), .val (.int (3 : Int32)), .unset, .unset, .unset, .unset, .unset] [(.int (F &&& (15 : Int32)))])) (fun _ k => XS.iand X0.here hx rfl (hb hby d3_68) rfl k) ?_
              refine own_go (g' := (mkF m 71 #[.val (.ref a), .val (.int ai), .val (.int ti), .val (.int F), .val (.int (3 : Int32)), .val (.int (F &&& (15 : Int32))), .unset, .unset, .unset, .unset] [])) (fun _ k => XS.istore X0.here hx rfl (hb hby d3_69) rfl (l' := #[.val (.ref a), .val (.int ai), .val (.int ti), .val (.int F), .val (.int (3 : Int32)), .val (.int (F &&& (15 : Int32))), .unset, .unset, .unset, .unset]) rfl k) ?_
              refine own_go (g' := (mkF m 74 #[.val (.ref a), .val (.int ai), .val (.int ti), .val (.int F), .val (.int (3 : Int32)), .val (.int (F &&& (15 : Int32))), .unset, .unset, .unset, .unset] [(.int (2048 : Int32))])) (fun _ k => XS.sipush X0.here hx rfl (hb hby d3_71) k) ?_
              refine own_go (g' := (mkF m 76 #[.val (.ref a), .val (.int ai), .val (.int ti), .val (.int F), .val (.int (3 : Int32)), .val (.int (F &&& (15 : Int32))), .val (.int (2048 : Int32)), .unset, .unset, .unset] [])) (fun _ k => XS.istore X0.here hx rfl (hb hby d3_74) rfl (l' := #[.val (.ref a), .val (.int ai), .val (.int ti), .val (.int F), .val (.int (3 : Int32)), .val (.int (F &&& (15 : Int32))), .val (.int (2048 : Int32)), .unset, .unset, .unset]) rfl k) ?_
              refine own_go (g' := (mkF m 111 #[.val (.ref a), .val (.int ai), .val (.int ti), .val (.int F), .val (.int (3 : Int32)), .val (.int (F &&& (15 : Int32))), .val (.int (2048 : Int32)), .unset, .unset, .unset] [])) (fun _ k => XS.goto X0.here hx rfl (pc0 := 76) (pc' := 111) rfl (hb hby d3_76) (by decide) (by decide) k) ?_
              exact J (3 : Int32) (F &&& (15 : Int32)) (2048 : Int32) 3 rfl (by decide) (by decide) (by simp [own_cp, ← hF, c12, c21, c28, c52, c59])
        · refine own_go (g' := (mkF m 31 #[.val (.ref a), .val (.int ai), .val (.int ti), .val (.int F), .unset, .unset, .unset, .unset, .unset, .unset] [])) (fun _ k => XS.icmpNo X0.here hx rfl (hb hby d3_28) rfl (XT.ii_gt_f c28) k) ?_
          refine own_go (g' := (mkF m 32 #[.val (.ref a), .val (.int ai), .val (.int ti), .val (.int F), .unset, .unset, .unset, .unset, .unset, .unset] [(.int (2 : Int32))])) (fun _ k => XS.iconst X0.here hx rfl (hb hby d3_31) k) ?_
          refine own_go (g' := (mkF m 34 #[.val (.ref a), .val (.int ai), .val (.int ti), .val (.int F), .val (.int (2 : Int32)), .unset, .unset, .unset, .unset, .unset] [])) (fun _ k => XS.istore X0.here hx rfl (hb hby d3_32) rfl (l' := #[.val (.ref a), .val (.int ai), .val (.int ti), .val (.int F), .val (.int (2 : Int32)), .unset, .unset, .unset, .unset, .unset]) rfl k) ?_
          refine own_go (g' := (mkF m 35 #[.val (.ref a), .val (.int ai), .val (.int ti), .val (.int F), .val (.int (2 : Int32)), .unset, .unset, .unset, .unset, .unset] [(.int F)])) (fun _ k => XS.iloadN X0.here hx rfl (hb hby d3_34) rfl k) ?_
          refine own_go (g' := (mkF m 37 #[.val (.ref a), .val (.int ai), .val (.int ti), .val (.int F), .val (.int (2 : Int32)), .unset, .unset, .unset, .unset, .unset] [(.int (31 : Int32)), (.int F)])) (fun _ k => XS.bipush X0.here hx rfl (hb hby d3_35) k) ?_
          refine own_go (g' := (mkF m 38 #[.val (.ref a), .val (.int ai), .val (.int ti), .val (.int F), .val (.int (2 : Int32)), .unset, .unset, .unset, .unset, .unset] [(.int (F &&& (31 : Int32)))])) (fun _ k => XS.iand X0.here hx rfl (hb hby d3_37) rfl k) ?_
          refine own_go (g' := (mkF m 40 #[.val (.ref a), .val (.int ai), .val (.int ti), .val (.int F), .val (.int (2 : Int32)), .val (.int (F &&& (31 : Int32))), .unset, .unset, .unset, .unset] [])) (fun _ k => XS.istore X0.here hx rfl (hb hby d3_38) rfl (l' := #[.val (.ref a), .val (.int ai), .val (.int ti), .val (.int F), .val (.int (2 : Int32)), .val (.int (F &&& (31 : Int32))), .unset, .unset, .unset, .unset]) rfl k) ?_
          refine own_go (g' := (mkF m 43 #[.val (.ref a), .val (.int ai), .val (.int ti), .val (.int F), .val (.int (2 : Int32)), .val (.int (F &&& (31 : Int32))), .unset, .unset, .unset, .unset] [(.int (128 : Int32))])) (fun _ k => XS.sipush X0.here hx rfl (hb hby d3_40) k) ?_
          refine own_go (g' := (mkF m 45 #[.val (.ref a), .val (.int ai), .val (.int ti), .val (.int F), .val (.int (2 : Int32)), .val (.int (F &&& (31 : Int32))), .val (.int (128 : Int32)), .unset, .unset, .unset] [])) (fun _ k => XS.istore X0.here hx rfl (hb hby d3_43) rfl (l' := #[.val (.ref a), .val (.int ai), .val (.int ti), .val (.int F), .val (.int (2 : Int32)), .val (.int (F &&& (31 : Int32))), .val (.int (128 : Int32)), .unset, .unset, .unset]) rfl k) ?_
          refine own_go (g' := (mkF m 111 #[.val (.ref a), .val (.int ai), .val (.int ti), .val (.int F), .val (.int (2 : Int32)), .val (.int (F &&& (31 : Int32))), .val (.int (128 : Int32)), .unset, .unset, .unset] [])) (fun _ k => XS.goto X0.here hx rfl (pc0 := 45) (pc' := 111) rfl (hb hby d3_45) (by decide) (by decide) k) ?_
          exact J (2 : Int32) (F &&& (31 : Int32)) (128 : Int32) 2 rfl (by decide) (by decide) (by simp [own_cp, ← hF, c12, c21, c28])
    intro len bits least n hlen hn2 hn4 hcp
    refine own_go (g' := (mkF m 112 #[.val (.ref a), .val (.int ai), .val (.int ti), .val (.int F), .val (.int len), .val (.int bits), .val (.int least), .unset, .unset, .unset] [(.int ai)])) (fun _ k => XS.iloadN X0.here hx rfl (hb hby d3_111) rfl k) ?_
    refine own_go (g' := (mkF m 114 #[.val (.ref a), .val (.int ai), .val (.int ti), .val (.int F), .val (.int len), .val (.int bits), .val (.int least), .unset, .unset, .unset] [(.int len), (.int ai)])) (fun _ k => XS.iload X0.here hx rfl (hb hby d3_112) rfl k) ?_
    refine own_go (g' := (mkF m 115 #[.val (.ref a), .val (.int ai), .val (.int ti), .val (.int F), .val (.int len), .val (.int bits), .val (.int least), .unset, .unset, .unset] [(.int (ai + len))])) (fun _ k => XS.iadd X0.here hx rfl (hb hby d3_114) rfl k) ?_
    refine own_go (g' := (mkF m 116 #[.val (.ref a), .val (.int ai), .val (.int ti), .val (.int F), .val (.int len), .val (.int bits), .val (.int least), .unset, .unset, .unset] [(.int ti), (.int (ai + len))])) (fun _ k => XS.iloadN X0.here hx rfl (hb hby d3_115) rfl k) ?_
    by_cases c116 : ti < (ai + len)
    · refine own_go (g' := (mkF m 119 #[.val (.ref a), .val (.int ai), .val (.int ti), .val (.int F), .val (.int len), .val (.int bits), .val (.int least), .unset, .unset, .unset] [])) (fun _ k => XS.icmpNo X0.here hx rfl (hb hby d3_116) rfl (XT.ii_le_f c116) k) ?_
      have hT := (own_cmp hA hlen hTO (by omega) (by omega)).mp c116
      refine own_go (g' := (mkF m 120 #[.val (.ref a), .val (.int ai), .val (.int ti), .val (.int F), .val (.int len), .val (.int bits), .val (.int least), .unset, .unset, .unset] [(.int (-1 : Int32))])) (fun _ k => XS.iconst X0.here hx rfl (hb hby d3_119) k) ?_
      exact own_retI X0 hx hlk hret e0 (hb hby d3_120) ⟨by rw [hcp]; simp [own_tail, hT], rfl, rfl⟩ (by decide) (by decide)
    · refine own_go (g' := (mkF m 121 #[.val (.ref a), .val (.int ai), .val (.int ti), .val (.int F), .val (.int len), .val (.int bits), .val (.int least), .unset, .unset, .unset] [])) (fun _ k => XS.icmpYes X0.here hx rfl (pc0 := 116) (pc' := 121) rfl (hb hby d3_116) rfl (XT.ii_le_t c116) (by decide) (by decide) k) ?_
      have hT : ¬ TO < A + n := fun q => c116 ((own_cmp hA hlen hTO (by omega) (by omega)).mpr q)
      have hcp2 : own_cp f A TO = (own_fold f A (n - 1) 1 bits).elim (-1) (fun q => own_fin q least) := by rw [hcp]; simp [own_tail, hT]
      refine own_go (g' := (mkF m 123 #[.val (.ref a), .val (.int ai), .val (.int ti), .val (.int F), .val (.int len), .val (.int bits), .val (.int least), .unset, .unset, .unset] [(.int bits)])) (fun _ k => XS.iload X0.here hx rfl (hb hby d3_121) rfl k) ?_
      refine own_go (g' := (mkF m 125 #[.val (.ref a), .val (.int ai), .val (.int ti), .val (.int F), .val (.int len), .val (.int bits), .val (.int least), .val (.int bits), .unset, .unset] [])) (fun _ k => XS.istore X0.here hx rfl (hb hby d3_123) rfl (l' := #[.val (.ref a), .val (.int ai), .val (.int ti), .val (.int F), .val (.int len), .val (.int bits), .val (.int least), .val (.int bits), .unset, .unset]) rfl k) ?_
      refine own_go (g' := (mkF m 126 #[.val (.ref a), .val (.int ai), .val (.int ti), .val (.int F), .val (.int len), .val (.int bits), .val (.int least), .val (.int bits), .unset, .unset] [(.int (1 : Int32))])) (fun _ k => XS.iconst X0.here hx rfl (hb hby d3_125) k) ?_
      refine own_go (g' := (mkF m 128 #[.val (.ref a), .val (.int ai), .val (.int ti), .val (.int F), .val (.int len), .val (.int bits), .val (.int least), .val (.int bits), .val (.int (1 : Int32)), .unset] [])) (fun _ k => XS.istore X0.here hx rfl (hb hby d3_126) rfl (l' := #[.val (.ref a), .val (.int ai), .val (.int ti), .val (.int F), .val (.int len), .val (.int bits), .val (.int least), .val (.int bits), .val (.int (1 : Int32)), .unset]) rfl k) ?_
      suffices loop : ∀ (d i : Nat) (pt iv : Int32) (s9 : Slot), (s9 = .unset ∨ ∃ w, s9 = .val w ∧ w.category = 1) → i + d = n → iv.toInt = (i : Int) → 1 ≤ i → own_cp f A TO = (own_fold f A d i pt).elim (-1) (fun q => own_fin q least) → own_Go p e below (own_Po s (own_QI (own_cp f A TO) h0) 0 0) T0 (mkF m 128 #[.val (.ref a), .val (.int ai), .val (.int ti), .val (.int F), .val (.int len), .val (.int bits), .val (.int least), .val (.int pt), .val (.int iv), s9] []) by
        exact loop (n - 1) 1 bits 1 .unset (Or.inl rfl) (by omega) rfl (by omega) hcp2
      intro d
      induction d with
      | zero =>
        intro i pt iv s9 hs9 hid hiv hi1 hc
        have hc' : own_cp f A TO = own_fin pt least := hc
        refine own_go (g' := (mkF m 130 #[.val (.ref a), .val (.int ai), .val (.int ti), .val (.int F), .val (.int len), .val (.int bits), .val (.int least), .val (.int pt), .val (.int iv), s9] [(.int iv)])) (fun _ k => XS.iload X0.here hx rfl (hb hby d3_128) rfl k) ?_
        refine own_go (g' := (mkF m 132 #[.val (.ref a), .val (.int ai), .val (.int ti), .val (.int F), .val (.int len), .val (.int bits), .val (.int least), .val (.int pt), .val (.int iv), s9] [(.int len), (.int iv)])) (fun _ k => XS.iload X0.here hx rfl (hb hby d3_130) rfl k) ?_
        refine own_go (g' := (mkF m 180 #[.val (.ref a), .val (.int ai), .val (.int ti), .val (.int F), .val (.int len), .val (.int bits), .val (.int least), .val (.int pt), .val (.int iv), s9] [])) (fun _ k => XS.icmpYes X0.here hx rfl (pc0 := 132) (pc' := 180) rfl (hb hby d3_132) rfl (XT.ii_ge_t (by rw [Int32.lt_iff_toInt_lt, hiv, hlen]; omega)) (by decide) (by decide) k) ?_
        refine own_go (g' := (mkF m 182 #[.val (.ref a), .val (.int ai), .val (.int ti), .val (.int F), .val (.int len), .val (.int bits), .val (.int least), .val (.int pt), .val (.int iv), s9] [(.int pt)])) (fun _ k => XS.iload X0.here hx rfl (hb hby d3_180) rfl k) ?_
        refine own_go (g' := (mkF m 184 #[.val (.ref a), .val (.int ai), .val (.int ti), .val (.int F), .val (.int len), .val (.int bits), .val (.int least), .val (.int pt), .val (.int iv), s9] [(.int (55296 : Int32)), (.int pt)])) (fun _ k => X0.ldcInt hx hown (mvT hZ (hw _ (List.mem_of_getElem? (i := 21) rfl))) (g := (mkF m 182 #[.val (.ref a), .val (.int ai), .val (.int ti), .val (.int F), .val (.int len), .val (.int bits), .val (.int least), .val (.int pt), .val (.int iv), s9] [(.int pt)])) rfl (hb hby d3_182) _ k) ?_
        suffices J2 : ∀ b8 : Int32, (b8 = 0 ↔ ¬ (¬ pt < 55296 ∧ ¬ 57343 < pt)) → own_Go p e below (own_Po s (own_QI (own_cp f A TO) h0) 0 0) T0 (mkF m 199 #[.val (.ref a), .val (.int ai), .val (.int ti), .val (.int F), .val (.int len), .val (.int bits), .val (.int least), .val (.int pt), .val (.int iv), s9] [(.int b8)]) by
          by_cases c184 : pt < (55296 : Int32)
          · refine own_go (g' := (mkF m 198 #[.val (.ref a), .val (.int ai), .val (.int ti), .val (.int F), .val (.int len), .val (.int bits), .val (.int least), .val (.int pt), .val (.int iv), s9] [])) (fun _ k => XS.icmpYes X0.here hx rfl (pc0 := 184) (pc' := 198) rfl (hb hby d3_184) rfl (XT.ii_lt_t c184) (by decide) (by decide) k) ?_
            refine own_go (g' := (mkF m 199 #[.val (.ref a), .val (.int ai), .val (.int ti), .val (.int F), .val (.int len), .val (.int bits), .val (.int least), .val (.int pt), .val (.int iv), s9] [(.int (0 : Int32))])) (fun _ k => XS.iconst X0.here hx rfl (hb hby d3_198) k) ?_
            exact J2 0 (by simp [c184])
          · refine own_go (g' := (mkF m 187 #[.val (.ref a), .val (.int ai), .val (.int ti), .val (.int F), .val (.int len), .val (.int bits), .val (.int least), .val (.int pt), .val (.int iv), s9] [])) (fun _ k => XS.icmpNo X0.here hx rfl (hb hby d3_184) rfl (XT.ii_lt_f c184) k) ?_
            refine own_go (g' := (mkF m 189 #[.val (.ref a), .val (.int ai), .val (.int ti), .val (.int F), .val (.int len), .val (.int bits), .val (.int least), .val (.int pt), .val (.int iv), s9] [(.int pt)])) (fun _ k => XS.iload X0.here hx rfl (hb hby d3_187) rfl k) ?_
            refine own_go (g' := (mkF m 191 #[.val (.ref a), .val (.int ai), .val (.int ti), .val (.int F), .val (.int len), .val (.int bits), .val (.int least), .val (.int pt), .val (.int iv), s9] [(.int (57343 : Int32)), (.int pt)])) (fun _ k => X0.ldcInt hx hown (mvT hZ (hw _ (List.mem_of_getElem? (i := 22) rfl))) (g := (mkF m 189 #[.val (.ref a), .val (.int ai), .val (.int ti), .val (.int F), .val (.int len), .val (.int bits), .val (.int least), .val (.int pt), .val (.int iv), s9] [(.int pt)])) rfl (hb hby d3_189) _ k) ?_
            by_cases c191 : (57343 : Int32) < pt
            · refine own_go (g' := (mkF m 198 #[.val (.ref a), .val (.int ai), .val (.int ti), .val (.int F), .val (.int len), .val (.int bits), .val (.int least), .val (.int pt), .val (.int iv), s9] [])) (fun _ k => XS.icmpYes X0.here hx rfl (pc0 := 191) (pc' := 198) rfl (hb hby d3_191) rfl (XT.ii_gt_t c191) (by decide) (by decide) k) ?_
              refine own_go (g' := (mkF m 199 #[.val (.ref a), .val (.int ai), .val (.int ti), .val (.int F), .val (.int len), .val (.int bits), .val (.int least), .val (.int pt), .val (.int iv), s9] [(.int (0 : Int32))])) (fun _ k => XS.iconst X0.here hx rfl (hb hby d3_198) k) ?_
              exact J2 0 (by simp [c191])
            · refine own_go (g' := (mkF m 194 #[.val (.ref a), .val (.int ai), .val (.int ti), .val (.int F), .val (.int len), .val (.int bits), .val (.int least), .val (.int pt), .val (.int iv), s9] [])) (fun _ k => XS.icmpNo X0.here hx rfl (hb hby d3_191) rfl (XT.ii_gt_f c191) k) ?_
              refine own_go (g' := (mkF m 195 #[.val (.ref a), .val (.int ai), .val (.int ti), .val (.int F), .val (.int len), .val (.int bits), .val (.int least), .val (.int pt), .val (.int iv), s9] [(.int (1 : Int32))])) (fun _ k => XS.iconst X0.here hx rfl (hb hby d3_194) k) ?_
              refine own_go (g' := (mkF m 199 #[.val (.ref a), .val (.int ai), .val (.int ti), .val (.int F), .val (.int len), .val (.int bits), .val (.int least), .val (.int pt), .val (.int iv), s9] [(.int (1 : Int32))])) (fun _ k => XS.goto X0.here hx rfl (pc0 := 195) (pc' := 199) rfl (hb hby d3_195) (by decide) (by decide) k) ?_
              exact J2 1 (by simp [c184, c191])
        intro b8 hb8
        refine own_go (g' := (mkF m 201 #[.val (.ref a), .val (.int ai), .val (.int ti), .val (.int F), .val (.int len), .val (.int bits), .val (.int least), .val (.int pt), .val (.int b8), s9] [])) (fun _ k => XS.istore X0.here hx rfl (hb hby d3_199) rfl (l' := #[.val (.ref a), .val (.int ai), .val (.int ti), .val (.int F), .val (.int len), .val (.int bits), .val (.int least), .val (.int pt), .val (.int b8), s9]) rfl k) ?_
        refine own_go (g' := (mkF m 203 #[.val (.ref a), .val (.int ai), .val (.int ti), .val (.int F), .val (.int len), .val (.int bits), .val (.int least), .val (.int pt), .val (.int b8), s9] [(.int pt)])) (fun _ k => XS.iload X0.here hx rfl (hb hby d3_201) rfl k) ?_
        refine own_go (g' := (mkF m 205 #[.val (.ref a), .val (.int ai), .val (.int ti), .val (.int F), .val (.int len), .val (.int bits), .val (.int least), .val (.int pt), .val (.int b8), s9] [(.int least), (.int pt)])) (fun _ k => XS.iload X0.here hx rfl (hb hby d3_203) rfl k) ?_
        by_cases c205 : pt < least
        · refine own_go (g' := (mkF m 220 #[.val (.ref a), .val (.int ai), .val (.int ti), .val (.int F), .val (.int len), .val (.int bits), .val (.int least), .val (.int pt), .val (.int b8), s9] [])) (fun _ k => XS.icmpYes X0.here hx rfl (pc0 := 205) (pc' := 220) rfl (hb hby d3_205) rfl (XT.ii_lt_t c205) (by decide) (by decide) k) ?_
          refine own_go (g' := (mkF m 221 #[.val (.ref a), .val (.int ai), .val (.int ti), .val (.int F), .val (.int len), .val (.int bits), .val (.int least), .val (.int pt), .val (.int b8), s9] [(.int (-1 : Int32))])) (fun _ k => XS.iconst X0.here hx rfl (hb hby d3_220) k) ?_
          refine own_go (g' := (mkF m 226 #[.val (.ref a), .val (.int ai), .val (.int ti), .val (.int F), .val (.int len), .val (.int bits), .val (.int least), .val (.int pt), .val (.int b8), s9] [(.int (-1 : Int32))])) (fun _ k => XS.goto X0.here hx rfl (pc0 := 221) (pc' := 226) rfl (hb hby d3_221) (by decide) (by decide) k) ?_
          exact own_retI X0 hx hlk hret e0 (hb hby d3_226) ⟨by rw [hc']; simp [own_fin, c205], rfl, rfl⟩ (by decide) (by decide)
        · refine own_go (g' := (mkF m 208 #[.val (.ref a), .val (.int ai), .val (.int ti), .val (.int F), .val (.int len), .val (.int bits), .val (.int least), .val (.int pt), .val (.int b8), s9] [])) (fun _ k => XS.icmpNo X0.here hx rfl (hb hby d3_205) rfl (XT.ii_lt_f c205) k) ?_
          refine own_go (g' := (mkF m 210 #[.val (.ref a), .val (.int ai), .val (.int ti), .val (.int F), .val (.int len), .val (.int bits), .val (.int least), .val (.int pt), .val (.int b8), s9] [(.int b8)])) (fun _ k => XS.iload X0.here hx rfl (hb hby d3_208) rfl k) ?_
          by_cases c210 : b8 = 0
          · refine own_go (g' := (mkF m 213 #[.val (.ref a), .val (.int ai), .val (.int ti), .val (.int F), .val (.int len), .val (.int bits), .val (.int least), .val (.int pt), .val (.int b8), s9] [])) (fun _ k => XS.ifNo X0.here hx rfl (hb hby d3_210) rfl (XT.i0_ne_f c210) k) ?_
            have hsu : ¬ (¬ pt < 55296 ∧ ¬ 57343 < pt) := hb8.mp c210
            refine own_go (g' := (mkF m 215 #[.val (.ref a), .val (.int ai), .val (.int ti), .val (.int F), .val (.int len), .val (.int bits), .val (.int least), .val (.int pt), .val (.int b8), s9] [(.int pt)])) (fun _ k => XS.iload X0.here hx rfl (hb hby d3_213) rfl k) ?_
            refine own_go (g' := (mkF m 217 #[.val (.ref a), .val (.int ai), .val (.int ti), .val (.int F), .val (.int len), .val (.int bits), .val (.int least), .val (.int pt), .val (.int b8), s9] [(.int (1114111 : Int32)), (.int pt)])) (fun _ k => X0.ldcInt hx hown (mvT hZ (hw _ (List.mem_of_getElem? (i := 23) rfl))) (g := (mkF m 215 #[.val (.ref a), .val (.int ai), .val (.int ti), .val (.int F), .val (.int len), .val (.int bits), .val (.int least), .val (.int pt), .val (.int b8), s9] [(.int pt)])) rfl (hb hby d3_215) _ k) ?_
            by_cases c217 : (1114111 : Int32) < pt
            · refine own_go (g' := (mkF m 220 #[.val (.ref a), .val (.int ai), .val (.int ti), .val (.int F), .val (.int len), .val (.int bits), .val (.int least), .val (.int pt), .val (.int b8), s9] [])) (fun _ k => XS.icmpNo X0.here hx rfl (hb hby d3_217) rfl (XT.ii_le_f c217) k) ?_
              refine own_go (g' := (mkF m 221 #[.val (.ref a), .val (.int ai), .val (.int ti), .val (.int F), .val (.int len), .val (.int bits), .val (.int least), .val (.int pt), .val (.int b8), s9] [(.int (-1 : Int32))])) (fun _ k => XS.iconst X0.here hx rfl (hb hby d3_220) k) ?_
              refine own_go (g' := (mkF m 226 #[.val (.ref a), .val (.int ai), .val (.int ti), .val (.int F), .val (.int len), .val (.int bits), .val (.int least), .val (.int pt), .val (.int b8), s9] [(.int (-1 : Int32))])) (fun _ k => XS.goto X0.here hx rfl (pc0 := 221) (pc' := 226) rfl (hb hby d3_221) (by decide) (by decide) k) ?_
              exact own_retI X0 hx hlk hret e0 (hb hby d3_226) ⟨by rw [hc']; simp only [own_fin, if_neg c205, if_neg hsu, if_pos c217], rfl, rfl⟩ (by decide) (by decide)
            · refine own_go (g' := (mkF m 224 #[.val (.ref a), .val (.int ai), .val (.int ti), .val (.int F), .val (.int len), .val (.int bits), .val (.int least), .val (.int pt), .val (.int b8), s9] [])) (fun _ k => XS.icmpYes X0.here hx rfl (pc0 := 217) (pc' := 224) rfl (hb hby d3_217) rfl (XT.ii_le_t c217) (by decide) (by decide) k) ?_
              refine own_go (g' := (mkF m 226 #[.val (.ref a), .val (.int ai), .val (.int ti), .val (.int F), .val (.int len), .val (.int bits), .val (.int least), .val (.int pt), .val (.int b8), s9] [(.int pt)])) (fun _ k => XS.iload X0.here hx rfl (hb hby d3_224) rfl k) ?_
              exact own_retI X0 hx hlk hret e0 (hb hby d3_226) ⟨by rw [hc']; simp only [own_fin, if_neg c205, if_neg hsu, if_neg c217], rfl, rfl⟩ (by decide) (by decide)
          · refine own_go (g' := (mkF m 220 #[.val (.ref a), .val (.int ai), .val (.int ti), .val (.int F), .val (.int len), .val (.int bits), .val (.int least), .val (.int pt), .val (.int b8), s9] [])) (fun _ k => XS.ifYes X0.here hx rfl (pc0 := 210) (pc' := 220) rfl (hb hby d3_210) rfl (XT.i0_ne_t c210) (by decide) (by decide) k) ?_
            have hsu : ¬ pt < 55296 ∧ ¬ 57343 < pt := Classical.not_not.mp fun q => c210 (hb8.mpr q)
            refine own_go (g' := (mkF m 221 #[.val (.ref a), .val (.int ai), .val (.int ti), .val (.int F), .val (.int len), .val (.int bits), .val (.int least), .val (.int pt), .val (.int b8), s9] [(.int (-1 : Int32))])) (fun _ k => XS.iconst X0.here hx rfl (hb hby d3_220) k) ?_
            refine own_go (g' := (mkF m 226 #[.val (.ref a), .val (.int ai), .val (.int ti), .val (.int F), .val (.int len), .val (.int bits), .val (.int least), .val (.int pt), .val (.int b8), s9] [(.int (-1 : Int32))])) (fun _ k => XS.goto X0.here hx rfl (pc0 := 221) (pc' := 226) rfl (hb hby d3_221) (by decide) (by decide) k) ?_
            exact own_retI X0 hx hlk hret e0 (hb hby d3_226) ⟨by rw [hc']; simp [own_fin, c205, hsu], rfl, rfl⟩ (by decide) (by decide)
      | succ d ih =>
        intro i pt iv s9 hs9 hid hiv hi1 hc
        refine own_go (g' := (mkF m 130 #[.val (.ref a), .val (.int ai), .val (.int ti), .val (.int F), .val (.int len), .val (.int bits), .val (.int least), .val (.int pt), .val (.int iv), s9] [(.int iv)])) (fun _ k => XS.iload X0.here hx rfl (hb hby d3_128) rfl k) ?_
        refine own_go (g' := (mkF m 132 #[.val (.ref a), .val (.int ai), .val (.int ti), .val (.int F), .val (.int len), .val (.int bits), .val (.int least), .val (.int pt), .val (.int iv), s9] [(.int len), (.int iv)])) (fun _ k => XS.iload X0.here hx rfl (hb hby d3_130) rfl k) ?_
        refine own_go (g' := (mkF m 135 #[.val (.ref a), .val (.int ai), .val (.int ti), .val (.int F), .val (.int len), .val (.int bits), .val (.int least), .val (.int pt), .val (.int iv), s9] [])) (fun _ k => XS.icmpNo X0.here hx rfl (hb hby d3_132) rfl (XT.ii_ge_f (by rw [Int32.lt_iff_toInt_lt, hiv, hlen]; omega)) k) ?_
        refine own_go (g' := (mkF m 136 #[.val (.ref a), .val (.int ai), .val (.int ti), .val (.int F), .val (.int len), .val (.int bits), .val (.int least), .val (.int pt), .val (.int iv), s9] [(.ref a)])) (fun _ k => XS.aloadN X0.here hx rfl (hb hby d3_135) rfl rfl k) ?_
        refine own_go (g' := (mkF m 137 #[.val (.ref a), .val (.int ai), .val (.int ti), .val (.int F), .val (.int len), .val (.int bits), .val (.int least), .val (.int pt), .val (.int iv), s9] [(.int ai), (.ref a)])) (fun _ k => XS.iloadN X0.here hx rfl (hb hby d3_136) rfl k) ?_
        refine own_go (g' := (mkF m 139 #[.val (.ref a), .val (.int ai), .val (.int ti), .val (.int F), .val (.int len), .val (.int bits), .val (.int least), .val (.int pt), .val (.int iv), s9] [(.int iv), (.int ai), (.ref a)])) (fun _ k => XS.iload X0.here hx rfl (hb hby d3_137) rfl k) ?_
        refine own_go (g' := (mkF m 140 #[.val (.ref a), .val (.int ai), .val (.int ti), .val (.int F), .val (.int len), .val (.int bits), .val (.int least), .val (.int pt), .val (.int iv), s9] [(.int (ai + iv)), (.ref a)])) (fun _ k => XS.iadd X0.here hx rfl (hb hby d3_139) rfl k) ?_
        refine own_baload X0 hx hZ e0 F0 (A + i) (own_addi hA hiv (by omega)) (by omega) (hb hby d3_140) ?_
        show own_Go p e below _ T0 (mkF m 141 #[.val (.ref a), .val (.int ai), .val (.int ti), .val (.int F), .val (.int len), .val (.int bits), .val (.int least), .val (.int pt), .val (.int iv), s9] [(.int (f (A + i)))])
        refine own_go (g' := (mkF m 144 #[.val (.ref a), .val (.int ai), .val (.int ti), .val (.int F), .val (.int len), .val (.int bits), .val (.int least), .val (.int pt), .val (.int iv), s9] [(.int (255 : Int32)), (.int (f (A + i)))])) (fun _ k => XS.sipush X0.here hx rfl (hb hby d3_141) k) ?_
        refine own_go (g' := (mkF m 145 #[.val (.ref a), .val (.int ai), .val (.int ti), .val (.int F), .val (.int len), .val (.int bits), .val (.int least), .val (.int pt), .val (.int iv), s9] [(.int ((f (A + i)) &&& (255 : Int32)))])) (fun _ k => XS.iand X0.here hx rfl (hb hby d3_144) rfl k) ?_
        refine own_go (g' := (mkF m 147 #[.val (.ref a), .val (.int ai), .val (.int ti), .val (.int F), .val (.int len), .val (.int bits), .val (.int least), .val (.int pt), .val (.int iv), .val (.int ((f (A + i)) &&& (255 : Int32)))] [])) (fun _ k => XS.istoreS X0.here hx rfl (hb hby d3_145) rfl (o := s9) rfl hs9 k) ?_
        obtain ⟨nx, hnx⟩ : ∃ z : Int32, z = ((f (A + i)) &&& (255 : Int32)) := ⟨_, rfl⟩
        rw [← hnx]
        show own_Go p e below _ T0 (mkF m 147 #[.val (.ref a), .val (.int ai), .val (.int ti), .val (.int F), .val (.int len), .val (.int bits), .val (.int least), .val (.int pt), .val (.int iv), .val (.int nx)] [])
        refine own_go (g' := (mkF m 149 #[.val (.ref a), .val (.int ai), .val (.int ti), .val (.int F), .val (.int len), .val (.int bits), .val (.int least), .val (.int pt), .val (.int iv), .val (.int nx)] [(.int nx)])) (fun _ k => XS.iload X0.here hx rfl (hb hby d3_147) rfl k) ?_
        refine own_go (g' := (mkF m 152 #[.val (.ref a), .val (.int ai), .val (.int ti), .val (.int F), .val (.int len), .val (.int bits), .val (.int least), .val (.int pt), .val (.int iv), .val (.int nx)] [(.int (192 : Int32)), (.int nx)])) (fun _ k => XS.sipush X0.here hx rfl (hb hby d3_149) k) ?_
        refine own_go (g' := (mkF m 153 #[.val (.ref a), .val (.int ai), .val (.int ti), .val (.int F), .val (.int len), .val (.int bits), .val (.int least), .val (.int pt), .val (.int iv), .val (.int nx)] [(.int (nx &&& (192 : Int32)))])) (fun _ k => XS.iand X0.here hx rfl (hb hby d3_152) rfl k) ?_
        refine own_go (g' := (mkF m 156 #[.val (.ref a), .val (.int ai), .val (.int ti), .val (.int F), .val (.int len), .val (.int bits), .val (.int least), .val (.int pt), .val (.int iv), .val (.int nx)] [(.int (128 : Int32)), (.int (nx &&& (192 : Int32)))])) (fun _ k => XS.sipush X0.here hx rfl (hb hby d3_153) k) ?_
        by_cases c156 : (nx &&& (192 : Int32)) = (128 : Int32)
        · refine own_go (g' := (mkF m 161 #[.val (.ref a), .val (.int ai), .val (.int ti), .val (.int F), .val (.int len), .val (.int bits), .val (.int least), .val (.int pt), .val (.int iv), .val (.int nx)] [])) (fun _ k => XS.icmpYes X0.here hx rfl (pc0 := 156) (pc' := 161) rfl (hb hby d3_156) rfl (XT.ii_eq_t c156) (by decide) (by decide) k) ?_
          refine own_go (g' := (mkF m 163 #[.val (.ref a), .val (.int ai), .val (.int ti), .val (.int F), .val (.int len), .val (.int bits), .val (.int least), .val (.int pt), .val (.int iv), .val (.int nx)] [(.int pt)])) (fun _ k => XS.iload X0.here hx rfl (hb hby d3_161) rfl k) ?_
          refine own_go (g' := (mkF m 165 #[.val (.ref a), .val (.int ai), .val (.int ti), .val (.int F), .val (.int len), .val (.int bits), .val (.int least), .val (.int pt), .val (.int iv), .val (.int nx)] [(.int (6 : Int32)), (.int pt)])) (fun _ k => XS.bipush X0.here hx rfl (hb hby d3_163) k) ?_
          refine own_go (g' := (mkF m 166 #[.val (.ref a), .val (.int ai), .val (.int ti), .val (.int F), .val (.int len), .val (.int bits), .val (.int least), .val (.int pt), .val (.int iv), .val (.int nx)] [(.int (pt <<< ((6 : Int32) &&& 31)))])) (fun _ k => XT.ishl X0.here hx rfl (hb hby d3_165) rfl k) ?_
          refine own_go (g' := (mkF m 168 #[.val (.ref a), .val (.int ai), .val (.int ti), .val (.int F), .val (.int len), .val (.int bits), .val (.int least), .val (.int pt), .val (.int iv), .val (.int nx)] [(.int nx), (.int (pt <<< ((6 : Int32) &&& 31)))])) (fun _ k => XS.iload X0.here hx rfl (hb hby d3_166) rfl k) ?_
          refine own_go (g' := (mkF m 170 #[.val (.ref a), .val (.int ai), .val (.int ti), .val (.int F), .val (.int len), .val (.int bits), .val (.int least), .val (.int pt), .val (.int iv), .val (.int nx)] [(.int (63 : Int32)), (.int nx), (.int (pt <<< ((6 : Int32) &&& 31)))])) (fun _ k => XS.bipush X0.here hx rfl (hb hby d3_168) k) ?_
          refine own_go (g' := (mkF m 171 #[.val (.ref a), .val (.int ai), .val (.int ti), .val (.int F), .val (.int len), .val (.int bits), .val (.int least), .val (.int pt), .val (.int iv), .val (.int nx)] [(.int (nx &&& (63 : Int32))), (.int (pt <<< ((6 : Int32) &&& 31)))])) (fun _ k => XS.iand X0.here hx rfl (hb hby d3_170) rfl k) ?_
          refine own_go (g' := (mkF m 172 #[.val (.ref a), .val (.int ai), .val (.int ti), .val (.int F), .val (.int len), .val (.int bits), .val (.int least), .val (.int pt), .val (.int iv), .val (.int nx)] [(.int ((pt <<< ((6 : Int32) &&& 31)) ||| (nx &&& (63 : Int32))))])) (fun _ k => XT.ior X0.here hx rfl (hb hby d3_171) rfl k) ?_
          refine own_go (g' := (mkF m 174 #[.val (.ref a), .val (.int ai), .val (.int ti), .val (.int F), .val (.int len), .val (.int bits), .val (.int least), .val (.int ((pt <<< ((6 : Int32) &&& 31)) ||| (nx &&& (63 : Int32)))), .val (.int iv), .val (.int nx)] [])) (fun _ k => XS.istore X0.here hx rfl (hb hby d3_172) rfl (l' := #[.val (.ref a), .val (.int ai), .val (.int ti), .val (.int F), .val (.int len), .val (.int bits), .val (.int least), .val (.int ((pt <<< ((6 : Int32) &&& 31)) ||| (nx &&& (63 : Int32)))), .val (.int iv), .val (.int nx)]) rfl k) ?_
          refine own_go (g' := (mkF m 177 #[.val (.ref a), .val (.int ai), .val (.int ti), .val (.int F), .val (.int len), .val (.int bits), .val (.int least), .val (.int ((pt <<< ((6 : Int32) &&& 31)) ||| (nx &&& (63 : Int32)))), .val (.int (iv + (1 : Int32))), .val (.int nx)] [])) (fun _ k => XS.iinc X0.here hx rfl (hb hby d3_174) rfl (l' := #[.val (.ref a), .val (.int ai), .val (.int ti), .val (.int F), .val (.int len), .val (.int bits), .val (.int least), .val (.int ((pt <<< ((6 : Int32) &&& 31)) ||| (nx &&& (63 : Int32)))), .val (.int (iv + (1 : Int32))), .val (.int nx)]) rfl k) ?_
          refine own_go (g' := (mkF m 128 #[.val (.ref a), .val (.int ai), .val (.int ti), .val (.int F), .val (.int len), .val (.int bits), .val (.int least), .val (.int ((pt <<< ((6 : Int32) &&& 31)) ||| (nx &&& (63 : Int32)))), .val (.int (iv + (1 : Int32))), .val (.int nx)] [])) (fun _ k => XS.goto X0.here hx rfl (pc0 := 177) (pc' := 128) rfl (hb hby d3_177) (by decide) (by decide) k) ?_
          exact ih (i + 1) _ _ _ (Or.inr ⟨_, rfl, rfl⟩) (by omega) (own_inc hiv (by omega)) (by omega) (by rw [hc]; simp [own_fold, ← hnx, c156])
        · refine own_go (g' := (mkF m 159 #[.val (.ref a), .val (.int ai), .val (.int ti), .val (.int F), .val (.int len), .val (.int bits), .val (.int least), .val (.int pt), .val (.int iv), .val (.int nx)] [])) (fun _ k => XS.icmpNo X0.here hx rfl (hb hby d3_156) rfl (XT.ii_eq_f c156) k) ?_
          refine own_go (g' := (mkF m 160 #[.val (.ref a), .val (.int ai), .val (.int ti), .val (.int F), .val (.int len), .val (.int bits), .val (.int least), .val (.int pt), .val (.int iv), .val (.int nx)] [(.int (-1 : Int32))])) (fun _ k => XS.iconst X0.here hx rfl (hb hby d3_159) k) ?_
          exact own_retI X0 hx hlk hret e0 (hb hby d3_160) ⟨by rw [hc]; simp [own_fold, ← hnx, c156], rfl, rfl⟩ (by decide) (by decide)
set_option maxRecDepth 65536 in
set_option maxHeartbeats 40000000 in
theorem own_rmM (l : Launch) (Z : State) (a0 : Array Value) (hw : ∀ d ∈ tables_1, d.before a0 Z = true) (ws : List Jvm.Cond) (a : Addr) (ai ti r : Int32) (f : Nat → Int32) (A TO N : Nat) (h0 : Heap) (n0 : Nat) (hA : ai.toInt = (A : Int)) (hTO : ti.toInt = (TO : Int)) (hAT : A < TO) (hT8 : TO ≤ 8) (F0 : own_Ai Z h0 a .byte 8 f) (hr0 : ¬ r < 0) (hr1 : ¬ 1114111 < r) (hsu : r < 55296 ∨ 57343 < r) (hN : (own_cpl r).toInt = (N : Int)) (hN4 : N ≤ 4) (hfit : A + N ≤ TO) (hu : own_units f A r (own_cpl r)) :
    own_Met l (⟨"org/kusuridana/Utf8CodePointPinLaw", "matches", "([BIII)Z"⟩ : MethodName) method_4_code 5 (some .boolean) ws ({ frames := 1, cells := 0, slots := 0, locals := 20 } : Room) Z #[(.ref a), (.int ai), (.int ti), (.int r)] h0 (own_QI 1 h0) := by
  refine own_enter (plainFor_of_name pn_4) ?_
  intro p e s m below meth c T0 X0 hx hby hml hZ hown e0 hret hlk hnm
  have hown : s.vm.findClass "org/kusuridana/Utf8CodePointPinLaw" = some m.cls := hown
  have hml : c.maxLocals = 5 := hml
  have N0 := Fr.nil n0
  refine own_start (ef_4 m a ai ti r) ?_
  show own_Go p e below _ T0 (mkF m 0 #[.val (.ref a), .val (.int ai), .val (.int ti), .val (.int r), .unset] [])
  refine own_go (g' := (mkF m 1 #[.val (.ref a), .val (.int ai), .val (.int ti), .val (.int r), .unset] [(.int r)])) (fun _ k => XS.iloadN X0.here hx rfl (hb hby d4_0) rfl k) ?_
  refine own_go (g' := (mkF m 4 #[.val (.ref a), .val (.int ai), .val (.int ti), .val (.int r), .unset] [])) (fun _ k => XS.ifNo X0.here hx rfl (hb hby d4_1) rfl (XT.i0_lt_f hr0) k) ?_
  refine own_go (g' := (mkF m 5 #[.val (.ref a), .val (.int ai), .val (.int ti), .val (.int r), .unset] [(.int r)])) (fun _ k => XS.iloadN X0.here hx rfl (hb hby d4_4) rfl k) ?_
  refine own_go (g' := (mkF m 7 #[.val (.ref a), .val (.int ai), .val (.int ti), .val (.int r), .unset] [(.int (1114111 : Int32)), (.int r)])) (fun _ k => X0.ldcInt hx hown (mvT hZ (hw _ (List.mem_of_getElem? (i := 18) rfl))) (g := (mkF m 5 #[.val (.ref a), .val (.int ai), .val (.int ti), .val (.int r), .unset] [(.int r)])) rfl (hb hby d4_5) _ k) ?_
  refine own_go (g' := (mkF m 12 #[.val (.ref a), .val (.int ai), .val (.int ti), .val (.int r), .unset] [])) (fun _ k => XS.icmpYes X0.here hx rfl (pc0 := 7) (pc' := 12) rfl (hb hby d4_7) rfl (XT.ii_le_t hr1) (by decide) (by decide) k) ?_
  refine own_go (g' := (mkF m 13 #[.val (.ref a), .val (.int ai), .val (.int ti), .val (.int r), .unset] [(.int r)])) (fun _ k => XS.iloadN X0.here hx rfl (hb hby d4_12) rfl k) ?_
  refine own_go (g' := (mkF m 15 #[.val (.ref a), .val (.int ai), .val (.int ti), .val (.int r), .unset] [(.int (55296 : Int32)), (.int r)])) (fun _ k => X0.ldcInt hx hown (mvT hZ (hw _ (List.mem_of_getElem? (i := 14) rfl))) (g := (mkF m 13 #[.val (.ref a), .val (.int ai), .val (.int ti), .val (.int r), .unset] [(.int r)])) rfl (hb hby d4_13) _ k) ?_
  suffices J : own_Go p e below (own_Po s (own_QI 1 h0) 0 0) T0 (mkF m 26 #[.val (.ref a), .val (.int ai), .val (.int ti), .val (.int r), .unset] []) by
    by_cases c15 : r < (55296 : Int32)
    · refine own_go (g' := (mkF m 26 #[.val (.ref a), .val (.int ai), .val (.int ti), .val (.int r), .unset] [])) (fun _ k => XS.icmpYes X0.here hx rfl (pc0 := 15) (pc' := 26) rfl (hb hby d4_15) rfl (XT.ii_lt_t c15) (by decide) (by decide) k) ?_
      exact J
    · refine own_go (g' := (mkF m 18 #[.val (.ref a), .val (.int ai), .val (.int ti), .val (.int r), .unset] [])) (fun _ k => XS.icmpNo X0.here hx rfl (hb hby d4_15) rfl (XT.ii_lt_f c15) k) ?_
      refine own_go (g' := (mkF m 19 #[.val (.ref a), .val (.int ai), .val (.int ti), .val (.int r), .unset] [(.int r)])) (fun _ k => XS.iloadN X0.here hx rfl (hb hby d4_18) rfl k) ?_
      refine own_go (g' := (mkF m 21 #[.val (.ref a), .val (.int ai), .val (.int ti), .val (.int r), .unset] [(.int (57343 : Int32)), (.int r)])) (fun _ k => X0.ldcInt hx hown (mvT hZ (hw _ (List.mem_of_getElem? (i := 24) rfl))) (g := (mkF m 19 #[.val (.ref a), .val (.int ai), .val (.int ti), .val (.int r), .unset] [(.int r)])) rfl (hb hby d4_19) _ k) ?_
      refine own_go (g' := (mkF m 26 #[.val (.ref a), .val (.int ai), .val (.int ti), .val (.int r), .unset] [])) (fun _ k => XS.icmpYes X0.here hx rfl (pc0 := 21) (pc' := 26) rfl (hb hby d4_21) rfl (XT.ii_gt_t (hsu.resolve_left c15)) (by decide) (by decide) k) ?_
      exact J
  refine own_go (g' := (mkF m 27 #[.val (.ref a), .val (.int ai), .val (.int ti), .val (.int r), .unset] [(.int r)])) (fun _ k => XS.iloadN X0.here hx rfl (hb hby d4_26) rfl k) ?_
  refine own_callS X0 hx hZ hown e0 (y := (⟨"org/kusuridana/Utf8CodePointPinLaw", "len", "(I)I"⟩ : MethodName)) (rm := ({ frames := 0, cells := 0, slots := 0, locals := 0 } : Room)) (hw _ (List.mem_of_getElem? (i := 3) rfl)) (hw _ (List.mem_of_getElem? (i := 4) rfl)) (hw _ (List.mem_of_getElem? (i := 5) rfl)) (hw _ (List.mem_of_getElem? (i := 6) rfl)) (by decide) (argsL := [(.int r)]) (rest := []) (own_rmLen l Z a0 hw [] r h0 n0) (by rw [hml]; rfl) pd_1 rfl rfl (hb hby d4_27) (W := 0) (Nat.le_of_eq rfl) (by decide) (by decide) (by decide) (by decide) ?_
  intro v1 T1 L1 X1 hQ1
  obtain ⟨hv1, e1, rfl⟩ := hQ1
  obtain ⟨len, hlen⟩ : ∃ z : Int32, z = own_cpl r := ⟨_, rfl⟩
  rw [← hlen] at hv1
  subst hv1
  rw [List.append_nil] at X1
  show own_Go p e below _ T1 (mkF m 30 #[.val (.ref a), .val (.int ai), .val (.int ti), .val (.int r), .unset] [(.int len)])
  rw [← hlen] at hN hu
  obtain ⟨hu0, hu1, hu2, hu3⟩ := hu
  refine own_go (g' := (mkF m 32 #[.val (.ref a), .val (.int ai), .val (.int ti), .val (.int r), .val (.int len)] [])) (fun _ k => XS.istore X1.here hx rfl (hb hby d4_30) rfl (l' := #[.val (.ref a), .val (.int ai), .val (.int ti), .val (.int r), .val (.int len)]) rfl k) ?_
  refine own_go (g' := (mkF m 33 #[.val (.ref a), .val (.int ai), .val (.int ti), .val (.int r), .val (.int len)] [(.int ai)])) (fun _ k => XS.iloadN X1.here hx rfl (hb hby d4_32) rfl k) ?_
  refine own_go (g' := (mkF m 35 #[.val (.ref a), .val (.int ai), .val (.int ti), .val (.int r), .val (.int len)] [(.int len), (.int ai)])) (fun _ k => XS.iload X1.here hx rfl (hb hby d4_33) rfl k) ?_
  refine own_go (g' := (mkF m 36 #[.val (.ref a), .val (.int ai), .val (.int ti), .val (.int r), .val (.int len)] [(.int (ai + len))])) (fun _ k => XS.iadd X1.here hx rfl (hb hby d4_35) rfl k) ?_
  refine own_go (g' := (mkF m 37 #[.val (.ref a), .val (.int ai), .val (.int ti), .val (.int r), .val (.int len)] [(.int ti), (.int (ai + len))])) (fun _ k => XS.iloadN X1.here hx rfl (hb hby d4_36) rfl k) ?_
  refine own_go (g' := (mkF m 42 #[.val (.ref a), .val (.int ai), .val (.int ti), .val (.int r), .val (.int len)] [])) (fun _ k => XS.icmpYes X1.here hx rfl (pc0 := 37) (pc' := 42) rfl (hb hby d4_37) rfl (XT.ii_le_t (fun q => absurd ((own_cmp hA hN hTO (by omega) (by omega)).mp q) (by omega))) (by decide) (by decide) k) ?_
  refine own_go (g' := (mkF m 43 #[.val (.ref a), .val (.int ai), .val (.int ti), .val (.int r), .val (.int len)] [(.ref a)])) (fun _ k => XS.aloadN X1.here hx rfl (hb hby d4_42) rfl rfl k) ?_
  refine own_go (g' := (mkF m 44 #[.val (.ref a), .val (.int ai), .val (.int ti), .val (.int r), .val (.int len)] [(.int ai), (.ref a)])) (fun _ k => XS.iloadN X1.here hx rfl (hb hby d4_43) rfl k) ?_
  refine own_baload X1 hx hZ e1 F0 A hA (by omega) (hb hby d4_44) ?_
  show own_Go p e below _ T1 (mkF m 45 #[.val (.ref a), .val (.int ai), .val (.int ti), .val (.int r), .val (.int len)] [(.int (f A))])
  refine own_go (g' := (mkF m 48 #[.val (.ref a), .val (.int ai), .val (.int ti), .val (.int r), .val (.int len)] [(.int (255 : Int32)), (.int (f A))])) (fun _ k => XS.sipush X1.here hx rfl (hb hby d4_45) k) ?_
  refine own_go (g' := (mkF m 49 #[.val (.ref a), .val (.int ai), .val (.int ti), .val (.int r), .val (.int len)] [(.int ((f A) &&& (255 : Int32)))])) (fun _ k => XS.iand X1.here hx rfl (hb hby d4_48) rfl k) ?_
  refine own_go (g' := (mkF m 50 #[.val (.ref a), .val (.int ai), .val (.int ti), .val (.int r), .val (.int len)] [(.int r), (.int ((f A) &&& (255 : Int32)))])) (fun _ k => XS.iloadN X1.here hx rfl (hb hby d4_49) rfl k) ?_
  refine own_go (g' := (mkF m 52 #[.val (.ref a), .val (.int ai), .val (.int ti), .val (.int r), .val (.int len)] [(.int len), (.int r), (.int ((f A) &&& (255 : Int32)))])) (fun _ k => XS.iload X1.here hx rfl (hb hby d4_50) rfl k) ?_
  refine own_go (g' := (mkF m 53 #[.val (.ref a), .val (.int ai), .val (.int ti), .val (.int r), .val (.int len)] [(.int (0 : Int32)), (.int len), (.int r), (.int ((f A) &&& (255 : Int32)))])) (fun _ k => XS.iconst X1.here hx rfl (hb hby d4_52) k) ?_
  refine own_callS X1 hx hZ hown e1 (y := (⟨"org/kusuridana/Utf8CodePointPinLaw", "unit", "(III)I"⟩ : MethodName)) (rm := ({ frames := 0, cells := 0, slots := 0, locals := 0 } : Room)) (hw _ (List.mem_of_getElem? (i := 7) rfl)) (hw _ (List.mem_of_getElem? (i := 8) rfl)) (hw _ (List.mem_of_getElem? (i := 5) rfl)) (hw _ (List.mem_of_getElem? (i := 9) rfl)) (by decide) (argsL := [(.int r), (.int len), (.int (0 : Int32))]) (rest := [(.int ((f A) &&& (255 : Int32)))]) (own_rmUnit l Z a0 hw [] r len (0 : Int32) h0 n0) (by rw [hml]; rfl) pd_2 rfl rfl (hb hby d4_53) (W := 1) (Nat.le_of_eq rfl) (by decide) (by decide) (by decide) (by decide) ?_
  intro v2 T2 L2 X2 hQ2
  obtain ⟨rfl, e2, rfl⟩ := hQ2
  rw [List.append_nil] at X2
  show own_Go p e below _ T2 (mkF m 56 #[.val (.ref a), .val (.int ai), .val (.int ti), .val (.int r), .val (.int len)] [(.int (own_unit r len (0 : Int32))), (.int ((f A) &&& (255 : Int32)))])
  refine own_go (g' := (mkF m 61 #[.val (.ref a), .val (.int ai), .val (.int ti), .val (.int r), .val (.int len)] [])) (fun _ k => XS.icmpYes X2.here hx rfl (pc0 := 56) (pc' := 61) rfl (hb hby d4_56) rfl (XT.ii_eq_t hu0) (by decide) (by decide) k) ?_
  refine own_go (g' := (mkF m 63 #[.val (.ref a), .val (.int ai), .val (.int ti), .val (.int r), .val (.int len)] [(.int len)])) (fun _ k => XS.iload X2.here hx rfl (hb hby d4_61) rfl k) ?_
  refine own_go (g' := (mkF m 64 #[.val (.ref a), .val (.int ai), .val (.int ti), .val (.int r), .val (.int len)] [(.int (1 : Int32)), (.int len)])) (fun _ k => XS.iconst X2.here hx rfl (hb hby d4_63) k) ?_
  suffices J : ∀ T', Stand p l e ({ frames := 1, cells := 0, slots := 0, locals := 20 } : Room) s m #[(.ref a), (.int ai), (.int ti), (.int r)] below meth c T' [] 0 0 → T'.heap = h0 → own_Go p e below (own_Po s (own_QI 1 h0) 0 0) T' (mkF m 88 #[.val (.ref a), .val (.int ai), .val (.int ti), .val (.int r), .val (.int len)] []) by
    by_cases ck : (1 : Int32) < len
    · refine own_go (g' := (mkF m 67 #[.val (.ref a), .val (.int ai), .val (.int ti), .val (.int r), .val (.int len)] [])) (fun _ k => XS.icmpNo X2.here hx rfl (hb hby d4_64) rfl (XT.ii_le_f ck) k) ?_
      have hk : 1 < N := own_ltN hN (k := 1) (by decide) ck
      refine own_go (g' := (mkF m 68 #[.val (.ref a), .val (.int ai), .val (.int ti), .val (.int r), .val (.int len)] [(.ref a)])) (fun _ k => XS.aloadN X2.here hx rfl (hb hby d4_67) rfl rfl k) ?_
      refine own_go (g' := (mkF m 69 #[.val (.ref a), .val (.int ai), .val (.int ti), .val (.int r), .val (.int len)] [(.int ai), (.ref a)])) (fun _ k => XS.iloadN X2.here hx rfl (hb hby d4_68) rfl k) ?_
      refine own_go (g' := (mkF m 70 #[.val (.ref a), .val (.int ai), .val (.int ti), .val (.int r), .val (.int len)] [(.int (1 : Int32)), (.int ai), (.ref a)])) (fun _ k => XS.iconst X2.here hx rfl (hb hby d4_69) k) ?_
      refine own_go (g' := (mkF m 71 #[.val (.ref a), .val (.int ai), .val (.int ti), .val (.int r), .val (.int len)] [(.int (ai + (1 : Int32))), (.ref a)])) (fun _ k => XS.iadd X2.here hx rfl (hb hby d4_70) rfl k) ?_
      refine own_baload X2 hx hZ e2 F0 (A + 1) (own_addi hA (j := (1 : Int32)) (k := 1) rfl (by omega)) (by omega) (hb hby d4_71) ?_
      show own_Go p e below _ T2 (mkF m 72 #[.val (.ref a), .val (.int ai), .val (.int ti), .val (.int r), .val (.int len)] [(.int (f (A + 1)))])
      refine own_go (g' := (mkF m 75 #[.val (.ref a), .val (.int ai), .val (.int ti), .val (.int r), .val (.int len)] [(.int (255 : Int32)), (.int (f (A + 1)))])) (fun _ k => XS.sipush X2.here hx rfl (hb hby d4_72) k) ?_
      refine own_go (g' := (mkF m 76 #[.val (.ref a), .val (.int ai), .val (.int ti), .val (.int r), .val (.int len)] [(.int ((f (A + 1)) &&& (255 : Int32)))])) (fun _ k => XS.iand X2.here hx rfl (hb hby d4_75) rfl k) ?_
      refine own_go (g' := (mkF m 77 #[.val (.ref a), .val (.int ai), .val (.int ti), .val (.int r), .val (.int len)] [(.int r), (.int ((f (A + 1)) &&& (255 : Int32)))])) (fun _ k => XS.iloadN X2.here hx rfl (hb hby d4_76) rfl k) ?_
      refine own_go (g' := (mkF m 79 #[.val (.ref a), .val (.int ai), .val (.int ti), .val (.int r), .val (.int len)] [(.int len), (.int r), (.int ((f (A + 1)) &&& (255 : Int32)))])) (fun _ k => XS.iload X2.here hx rfl (hb hby d4_77) rfl k) ?_
      refine own_go (g' := (mkF m 80 #[.val (.ref a), .val (.int ai), .val (.int ti), .val (.int r), .val (.int len)] [(.int (1 : Int32)), (.int len), (.int r), (.int ((f (A + 1)) &&& (255 : Int32)))])) (fun _ k => XS.iconst X2.here hx rfl (hb hby d4_79) k) ?_
      refine own_callS X2 hx hZ hown e2 (y := (⟨"org/kusuridana/Utf8CodePointPinLaw", "unit", "(III)I"⟩ : MethodName)) (rm := ({ frames := 0, cells := 0, slots := 0, locals := 0 } : Room)) (hw _ (List.mem_of_getElem? (i := 7) rfl)) (hw _ (List.mem_of_getElem? (i := 8) rfl)) (hw _ (List.mem_of_getElem? (i := 5) rfl)) (hw _ (List.mem_of_getElem? (i := 9) rfl)) (by decide) (argsL := [(.int r), (.int len), (.int (1 : Int32))]) (rest := [(.int ((f (A + 1)) &&& (255 : Int32)))]) (own_rmUnit l Z a0 hw [] r len (1 : Int32) h0 n0) (by rw [hml]; rfl) pd_2 rfl rfl (hb hby d4_80) (W := 1) (Nat.le_of_eq rfl) (by decide) (by decide) (by decide) (by decide) ?_
      intro v3 T3 L3 X3 hQ3
      obtain ⟨rfl, e3, rfl⟩ := hQ3
      rw [List.append_nil] at X3
      show own_Go p e below _ T3 (mkF m 83 #[.val (.ref a), .val (.int ai), .val (.int ti), .val (.int r), .val (.int len)] [(.int (own_unit r len (1 : Int32))), (.int ((f (A + 1)) &&& (255 : Int32)))])
      refine own_go (g' := (mkF m 88 #[.val (.ref a), .val (.int ai), .val (.int ti), .val (.int r), .val (.int len)] [])) (fun _ k => XS.icmpYes X3.here hx rfl (pc0 := 83) (pc' := 88) rfl (hb hby d4_83) rfl (XT.ii_eq_t (hu1 ck)) (by decide) (by decide) k) ?_
      exact J _ X3 e3
    · refine own_go (g' := (mkF m 88 #[.val (.ref a), .val (.int ai), .val (.int ti), .val (.int r), .val (.int len)] [])) (fun _ k => XS.icmpYes X2.here hx rfl (pc0 := 64) (pc' := 88) rfl (hb hby d4_64) rfl (XT.ii_le_t ck) (by decide) (by decide) k) ?_
      exact J _ X2 e2
  intro T4 X4 e4
  refine own_go (g' := (mkF m 90 #[.val (.ref a), .val (.int ai), .val (.int ti), .val (.int r), .val (.int len)] [(.int len)])) (fun _ k => XS.iload X4.here hx rfl (hb hby d4_88) rfl k) ?_
  refine own_go (g' := (mkF m 91 #[.val (.ref a), .val (.int ai), .val (.int ti), .val (.int r), .val (.int len)] [(.int (2 : Int32)), (.int len)])) (fun _ k => XS.iconst X4.here hx rfl (hb hby d4_90) k) ?_
  suffices J : ∀ T', Stand p l e ({ frames := 1, cells := 0, slots := 0, locals := 20 } : Room) s m #[(.ref a), (.int ai), (.int ti), (.int r)] below meth c T' [] 0 0 → T'.heap = h0 → own_Go p e below (own_Po s (own_QI 1 h0) 0 0) T' (mkF m 115 #[.val (.ref a), .val (.int ai), .val (.int ti), .val (.int r), .val (.int len)] []) by
    by_cases ck : (2 : Int32) < len
    · refine own_go (g' := (mkF m 94 #[.val (.ref a), .val (.int ai), .val (.int ti), .val (.int r), .val (.int len)] [])) (fun _ k => XS.icmpNo X4.here hx rfl (hb hby d4_91) rfl (XT.ii_le_f ck) k) ?_
      have hk : 2 < N := own_ltN hN (k := 2) (by decide) ck
      refine own_go (g' := (mkF m 95 #[.val (.ref a), .val (.int ai), .val (.int ti), .val (.int r), .val (.int len)] [(.ref a)])) (fun _ k => XS.aloadN X4.here hx rfl (hb hby d4_94) rfl rfl k) ?_
      refine own_go (g' := (mkF m 96 #[.val (.ref a), .val (.int ai), .val (.int ti), .val (.int r), .val (.int len)] [(.int ai), (.ref a)])) (fun _ k => XS.iloadN X4.here hx rfl (hb hby d4_95) rfl k) ?_
      refine own_go (g' := (mkF m 97 #[.val (.ref a), .val (.int ai), .val (.int ti), .val (.int r), .val (.int len)] [(.int (2 : Int32)), (.int ai), (.ref a)])) (fun _ k => XS.iconst X4.here hx rfl (hb hby d4_96) k) ?_
      refine own_go (g' := (mkF m 98 #[.val (.ref a), .val (.int ai), .val (.int ti), .val (.int r), .val (.int len)] [(.int (ai + (2 : Int32))), (.ref a)])) (fun _ k => XS.iadd X4.here hx rfl (hb hby d4_97) rfl k) ?_
      refine own_baload X4 hx hZ e4 F0 (A + 2) (own_addi hA (j := (2 : Int32)) (k := 2) rfl (by omega)) (by omega) (hb hby d4_98) ?_
      show own_Go p e below _ T4 (mkF m 99 #[.val (.ref a), .val (.int ai), .val (.int ti), .val (.int r), .val (.int len)] [(.int (f (A + 2)))])
      refine own_go (g' := (mkF m 102 #[.val (.ref a), .val (.int ai), .val (.int ti), .val (.int r), .val (.int len)] [(.int (255 : Int32)), (.int (f (A + 2)))])) (fun _ k => XS.sipush X4.here hx rfl (hb hby d4_99) k) ?_
      refine own_go (g' := (mkF m 103 #[.val (.ref a), .val (.int ai), .val (.int ti), .val (.int r), .val (.int len)] [(.int ((f (A + 2)) &&& (255 : Int32)))])) (fun _ k => XS.iand X4.here hx rfl (hb hby d4_102) rfl k) ?_
      refine own_go (g' := (mkF m 104 #[.val (.ref a), .val (.int ai), .val (.int ti), .val (.int r), .val (.int len)] [(.int r), (.int ((f (A + 2)) &&& (255 : Int32)))])) (fun _ k => XS.iloadN X4.here hx rfl (hb hby d4_103) rfl k) ?_
      refine own_go (g' := (mkF m 106 #[.val (.ref a), .val (.int ai), .val (.int ti), .val (.int r), .val (.int len)] [(.int len), (.int r), (.int ((f (A + 2)) &&& (255 : Int32)))])) (fun _ k => XS.iload X4.here hx rfl (hb hby d4_104) rfl k) ?_
      refine own_go (g' := (mkF m 107 #[.val (.ref a), .val (.int ai), .val (.int ti), .val (.int r), .val (.int len)] [(.int (2 : Int32)), (.int len), (.int r), (.int ((f (A + 2)) &&& (255 : Int32)))])) (fun _ k => XS.iconst X4.here hx rfl (hb hby d4_106) k) ?_
      refine own_callS X4 hx hZ hown e4 (y := (⟨"org/kusuridana/Utf8CodePointPinLaw", "unit", "(III)I"⟩ : MethodName)) (rm := ({ frames := 0, cells := 0, slots := 0, locals := 0 } : Room)) (hw _ (List.mem_of_getElem? (i := 7) rfl)) (hw _ (List.mem_of_getElem? (i := 8) rfl)) (hw _ (List.mem_of_getElem? (i := 5) rfl)) (hw _ (List.mem_of_getElem? (i := 9) rfl)) (by decide) (argsL := [(.int r), (.int len), (.int (2 : Int32))]) (rest := [(.int ((f (A + 2)) &&& (255 : Int32)))]) (own_rmUnit l Z a0 hw [] r len (2 : Int32) h0 n0) (by rw [hml]; rfl) pd_2 rfl rfl (hb hby d4_107) (W := 1) (Nat.le_of_eq rfl) (by decide) (by decide) (by decide) (by decide) ?_
      intro v5 T5 L5 X5 hQ5
      obtain ⟨rfl, e5, rfl⟩ := hQ5
      rw [List.append_nil] at X5
      show own_Go p e below _ T5 (mkF m 110 #[.val (.ref a), .val (.int ai), .val (.int ti), .val (.int r), .val (.int len)] [(.int (own_unit r len (2 : Int32))), (.int ((f (A + 2)) &&& (255 : Int32)))])
      refine own_go (g' := (mkF m 115 #[.val (.ref a), .val (.int ai), .val (.int ti), .val (.int r), .val (.int len)] [])) (fun _ k => XS.icmpYes X5.here hx rfl (pc0 := 110) (pc' := 115) rfl (hb hby d4_110) rfl (XT.ii_eq_t (hu2 ck)) (by decide) (by decide) k) ?_
      exact J _ X5 e5
    · refine own_go (g' := (mkF m 115 #[.val (.ref a), .val (.int ai), .val (.int ti), .val (.int r), .val (.int len)] [])) (fun _ k => XS.icmpYes X4.here hx rfl (pc0 := 91) (pc' := 115) rfl (hb hby d4_91) rfl (XT.ii_le_t ck) (by decide) (by decide) k) ?_
      exact J _ X4 e4
  intro T6 X6 e6
  refine own_go (g' := (mkF m 117 #[.val (.ref a), .val (.int ai), .val (.int ti), .val (.int r), .val (.int len)] [(.int len)])) (fun _ k => XS.iload X6.here hx rfl (hb hby d4_115) rfl k) ?_
  refine own_go (g' := (mkF m 118 #[.val (.ref a), .val (.int ai), .val (.int ti), .val (.int r), .val (.int len)] [(.int (3 : Int32)), (.int len)])) (fun _ k => XS.iconst X6.here hx rfl (hb hby d4_117) k) ?_
  suffices J : ∀ T', Stand p l e ({ frames := 1, cells := 0, slots := 0, locals := 20 } : Room) s m #[(.ref a), (.int ai), (.int ti), (.int r)] below meth c T' [] 0 0 → T'.heap = h0 → own_Go p e below (own_Po s (own_QI 1 h0) 0 0) T' (mkF m 142 #[.val (.ref a), .val (.int ai), .val (.int ti), .val (.int r), .val (.int len)] []) by
    by_cases ck : (3 : Int32) < len
    · refine own_go (g' := (mkF m 121 #[.val (.ref a), .val (.int ai), .val (.int ti), .val (.int r), .val (.int len)] [])) (fun _ k => XS.icmpNo X6.here hx rfl (hb hby d4_118) rfl (XT.ii_le_f ck) k) ?_
      have hk : 3 < N := own_ltN hN (k := 3) (by decide) ck
      refine own_go (g' := (mkF m 122 #[.val (.ref a), .val (.int ai), .val (.int ti), .val (.int r), .val (.int len)] [(.ref a)])) (fun _ k => XS.aloadN X6.here hx rfl (hb hby d4_121) rfl rfl k) ?_
      refine own_go (g' := (mkF m 123 #[.val (.ref a), .val (.int ai), .val (.int ti), .val (.int r), .val (.int len)] [(.int ai), (.ref a)])) (fun _ k => XS.iloadN X6.here hx rfl (hb hby d4_122) rfl k) ?_
      refine own_go (g' := (mkF m 124 #[.val (.ref a), .val (.int ai), .val (.int ti), .val (.int r), .val (.int len)] [(.int (3 : Int32)), (.int ai), (.ref a)])) (fun _ k => XS.iconst X6.here hx rfl (hb hby d4_123) k) ?_
      refine own_go (g' := (mkF m 125 #[.val (.ref a), .val (.int ai), .val (.int ti), .val (.int r), .val (.int len)] [(.int (ai + (3 : Int32))), (.ref a)])) (fun _ k => XS.iadd X6.here hx rfl (hb hby d4_124) rfl k) ?_
      refine own_baload X6 hx hZ e6 F0 (A + 3) (own_addi hA (j := (3 : Int32)) (k := 3) rfl (by omega)) (by omega) (hb hby d4_125) ?_
      show own_Go p e below _ T6 (mkF m 126 #[.val (.ref a), .val (.int ai), .val (.int ti), .val (.int r), .val (.int len)] [(.int (f (A + 3)))])
      refine own_go (g' := (mkF m 129 #[.val (.ref a), .val (.int ai), .val (.int ti), .val (.int r), .val (.int len)] [(.int (255 : Int32)), (.int (f (A + 3)))])) (fun _ k => XS.sipush X6.here hx rfl (hb hby d4_126) k) ?_
      refine own_go (g' := (mkF m 130 #[.val (.ref a), .val (.int ai), .val (.int ti), .val (.int r), .val (.int len)] [(.int ((f (A + 3)) &&& (255 : Int32)))])) (fun _ k => XS.iand X6.here hx rfl (hb hby d4_129) rfl k) ?_
      refine own_go (g' := (mkF m 131 #[.val (.ref a), .val (.int ai), .val (.int ti), .val (.int r), .val (.int len)] [(.int r), (.int ((f (A + 3)) &&& (255 : Int32)))])) (fun _ k => XS.iloadN X6.here hx rfl (hb hby d4_130) rfl k) ?_
      refine own_go (g' := (mkF m 133 #[.val (.ref a), .val (.int ai), .val (.int ti), .val (.int r), .val (.int len)] [(.int len), (.int r), (.int ((f (A + 3)) &&& (255 : Int32)))])) (fun _ k => XS.iload X6.here hx rfl (hb hby d4_131) rfl k) ?_
      refine own_go (g' := (mkF m 134 #[.val (.ref a), .val (.int ai), .val (.int ti), .val (.int r), .val (.int len)] [(.int (3 : Int32)), (.int len), (.int r), (.int ((f (A + 3)) &&& (255 : Int32)))])) (fun _ k => XS.iconst X6.here hx rfl (hb hby d4_133) k) ?_
      refine own_callS X6 hx hZ hown e6 (y := (⟨"org/kusuridana/Utf8CodePointPinLaw", "unit", "(III)I"⟩ : MethodName)) (rm := ({ frames := 0, cells := 0, slots := 0, locals := 0 } : Room)) (hw _ (List.mem_of_getElem? (i := 7) rfl)) (hw _ (List.mem_of_getElem? (i := 8) rfl)) (hw _ (List.mem_of_getElem? (i := 5) rfl)) (hw _ (List.mem_of_getElem? (i := 9) rfl)) (by decide) (argsL := [(.int r), (.int len), (.int (3 : Int32))]) (rest := [(.int ((f (A + 3)) &&& (255 : Int32)))]) (own_rmUnit l Z a0 hw [] r len (3 : Int32) h0 n0) (by rw [hml]; rfl) pd_2 rfl rfl (hb hby d4_134) (W := 1) (Nat.le_of_eq rfl) (by decide) (by decide) (by decide) (by decide) ?_
      intro v7 T7 L7 X7 hQ7
      obtain ⟨rfl, e7, rfl⟩ := hQ7
      rw [List.append_nil] at X7
      show own_Go p e below _ T7 (mkF m 137 #[.val (.ref a), .val (.int ai), .val (.int ti), .val (.int r), .val (.int len)] [(.int (own_unit r len (3 : Int32))), (.int ((f (A + 3)) &&& (255 : Int32)))])
      refine own_go (g' := (mkF m 142 #[.val (.ref a), .val (.int ai), .val (.int ti), .val (.int r), .val (.int len)] [])) (fun _ k => XS.icmpYes X7.here hx rfl (pc0 := 137) (pc' := 142) rfl (hb hby d4_137) rfl (XT.ii_eq_t (hu3 ck)) (by decide) (by decide) k) ?_
      exact J _ X7 e7
    · refine own_go (g' := (mkF m 142 #[.val (.ref a), .val (.int ai), .val (.int ti), .val (.int r), .val (.int len)] [])) (fun _ k => XS.icmpYes X6.here hx rfl (pc0 := 118) (pc' := 142) rfl (hb hby d4_118) rfl (XT.ii_le_t ck) (by decide) (by decide) k) ?_
      exact J _ X6 e6
  intro T8 X8 e8
  refine own_go (g' := (mkF m 143 #[.val (.ref a), .val (.int ai), .val (.int ti), .val (.int r), .val (.int len)] [(.int (1 : Int32))])) (fun _ k => XS.iconst X8.here hx rfl (hb hby d4_142) k) ?_
  exact own_retZ X8 hx hlk hret e8 (hb hby d4_143) ⟨rfl, rfl, rfl⟩ (by decide) (by decide)
def own_Q0 (n0 : Nat) (v : Option Value) (h : Heap) (L : List Loc) : Prop := v = some (.int 1) ∧ Fr n0 L
set_option maxRecDepth 65536 in
set_option maxHeartbeats 40000000 in
theorem own_rm0 (l : Launch) (Z : State) (a0 : Array Value) (hw : ∀ d ∈ tables_1, d.before a0 Z = true) (ws : List Jvm.Cond) (p1 p2 : Int32) (q3 : Int64) (h0 : Heap) (n0 : Nat) (Z0 : n0 ≤ h0.size) :
    own_Met l x code maxLocals ret ws room_1 Z #[(.int p1), (.int p2), (.long q3)] h0 (own_Q0 n0) := by
  refine own_enter (plainFor_of_name pn_0) ?_
  intro p e s m below meth c T0 X0 hx hby hml hZ hown e0 hret hlk hnm
  have hown : s.vm.findClass "org/kusuridana/Utf8CodePointPinLaw" = some m.cls := hown
  have hml : c.maxLocals = 12 := hml
  have N0 := Fr.nil n0
  refine own_start (ef_0 m p1 p2 q3) ?_
  show own_Go p e below _ T0 (mkF m 0 #[.val (.int p1), .val (.int p2), .val (.long q3), .second, .unset, .unset, .unset, .unset, .unset, .unset, .unset, .unset] [])
  refine own_go (g' := (mkF m 1 #[.val (.int p1), .val (.int p2), .val (.long q3), .second, .unset, .unset, .unset, .unset, .unset, .unset, .unset, .unset] [(.int p1)])) (fun _ k => XS.iloadN X0.here hx rfl (hb hby at_0) rfl k) ?_
  refine own_go (g' := (mkF m 2 #[.val (.int p1), .val (.int p2), .val (.long q3), .second, .unset, .unset, .unset, .unset, .unset, .unset, .unset, .unset] [(.int (1 : Int32)), (.int p1)])) (fun _ k => XS.iconst X0.here hx rfl (hb hby at_1) k) ?_
  refine own_go (g' := (mkF m 3 #[.val (.int p1), .val (.int p2), .val (.long q3), .second, .unset, .unset, .unset, .unset, .unset, .unset, .unset, .unset] [(.int (XT.ushr p1 (1 : Int32)))])) (fun _ k => XT.iushr X0.here hx rfl (hb hby at_2) rfl k) ?_
  refine own_go (g' := (mkF m 4 #[.val (.int p1), .val (.int p2), .val (.long q3), .second, .unset, .unset, .unset, .unset, .unset, .unset, .unset, .unset] [(.int (3 : Int32)), (.int (XT.ushr p1 (1 : Int32)))])) (fun _ k => XS.iconst X0.here hx rfl (hb hby at_3) k) ?_
  refine own_go (g' := (mkF m 5 #[.val (.int p1), .val (.int p2), .val (.long q3), .second, .unset, .unset, .unset, .unset, .unset, .unset, .unset, .unset] [(.int ((XT.ushr p1 (1 : Int32)) &&& (3 : Int32)))])) (fun _ k => XS.iand X0.here hx rfl (hb hby at_4) rfl k) ?_
  refine own_go (g' := (mkF m 7 #[.val (.int p1), .val (.int p2), .val (.long q3), .second, .val (.int ((XT.ushr p1 (1 : Int32)) &&& (3 : Int32))), .unset, .unset, .unset, .unset, .unset, .unset, .unset] [])) (fun _ k => XS.istore X0.here hx rfl (hb hby at_5) rfl (l' := #[.val (.int p1), .val (.int p2), .val (.long q3), .second, .val (.int ((XT.ushr p1 (1 : Int32)) &&& (3 : Int32))), .unset, .unset, .unset, .unset, .unset, .unset, .unset]) rfl k) ?_
  obtain ⟨ai, hai⟩ : ∃ z : Int32, z = ((XT.ushr p1 (1 : Int32)) &&& (3 : Int32)) := ⟨_, rfl⟩
  rw [← hai]
  show own_Go p e below _ T0 (mkF m 7 #[.val (.int p1), .val (.int p2), .val (.long q3), .second, .val (.int ai), .unset, .unset, .unset, .unset, .unset, .unset, .unset] [])
  obtain ⟨A, hA, hA3⟩ : ∃ A : Nat, ai.toInt = (A : Int) ∧ A ≤ 3 := hai ▸ own_at p1
  refine own_go (g' := (mkF m 9 #[.val (.int p1), .val (.int p2), .val (.long q3), .second, .val (.int ai), .unset, .unset, .unset, .unset, .unset, .unset, .unset] [(.int ai)])) (fun _ k => XS.iload X0.here hx rfl (hb hby at_7) rfl k) ?_
  refine own_go (g' := (mkF m 10 #[.val (.int p1), .val (.int p2), .val (.long q3), .second, .val (.int ai), .unset, .unset, .unset, .unset, .unset, .unset, .unset] [(.int (1 : Int32)), (.int ai)])) (fun _ k => XS.iconst X0.here hx rfl (hb hby at_9) k) ?_
  refine own_go (g' := (mkF m 11 #[.val (.int p1), .val (.int p2), .val (.long q3), .second, .val (.int ai), .unset, .unset, .unset, .unset, .unset, .unset, .unset] [(.int (ai + (1 : Int32)))])) (fun _ k => XS.iadd X0.here hx rfl (hb hby at_10) rfl k) ?_
  refine own_go (g' := (mkF m 12 #[.val (.int p1), .val (.int p2), .val (.long q3), .second, .val (.int ai), .unset, .unset, .unset, .unset, .unset, .unset, .unset] [(.int p1), (.int (ai + (1 : Int32)))])) (fun _ k => XS.iloadN X0.here hx rfl (hb hby at_11) rfl k) ?_
  refine own_go (g' := (mkF m 13 #[.val (.int p1), .val (.int p2), .val (.long q3), .second, .val (.int ai), .unset, .unset, .unset, .unset, .unset, .unset, .unset] [(.int (3 : Int32)), (.int p1), (.int (ai + (1 : Int32)))])) (fun _ k => XS.iconst X0.here hx rfl (hb hby at_12) k) ?_
  refine own_go (g' := (mkF m 14 #[.val (.int p1), .val (.int p2), .val (.long q3), .second, .val (.int ai), .unset, .unset, .unset, .unset, .unset, .unset, .unset] [(.int (XT.ushr p1 (3 : Int32))), (.int (ai + (1 : Int32)))])) (fun _ k => XT.iushr X0.here hx rfl (hb hby at_13) rfl k) ?_
  refine own_go (g' := (mkF m 16 #[.val (.int p1), .val (.int p2), .val (.long q3), .second, .val (.int ai), .unset, .unset, .unset, .unset, .unset, .unset, .unset] [(.int (8 : Int32)), (.int (XT.ushr p1 (3 : Int32))), (.int (ai + (1 : Int32)))])) (fun _ k => XS.bipush X0.here hx rfl (hb hby at_14) k) ?_
  refine own_go (g' := (mkF m 18 #[.val (.int p1), .val (.int p2), .val (.long q3), .second, .val (.int ai), .unset, .unset, .unset, .unset, .unset, .unset, .unset] [(.int ai), (.int (8 : Int32)), (.int (XT.ushr p1 (3 : Int32))), (.int (ai + (1 : Int32)))])) (fun _ k => XS.iload X0.here hx rfl (hb hby at_16) rfl k) ?_
  refine own_go (g' := (mkF m 19 #[.val (.int p1), .val (.int p2), .val (.long q3), .second, .val (.int ai), .unset, .unset, .unset, .unset, .unset, .unset, .unset] [(.int ((8 : Int32) - ai)), (.int (XT.ushr p1 (3 : Int32))), (.int (ai + (1 : Int32)))])) (fun _ k => XS.isub X0.here hx rfl (hb hby at_18) rfl k) ?_
  refine own_go (g' := (mkF m 20 #[.val (.int p1), .val (.int p2), .val (.long q3), .second, .val (.int ai), .unset, .unset, .unset, .unset, .unset, .unset, .unset] [(.int ((XT.ushr p1 (3 : Int32)) % ((8 : Int32) - ai))), (.int (ai + (1 : Int32)))])) (fun _ k => Jvm.RoadKit.iremM X0 hx rfl (hb hby at_19) rfl (own_8at hA hA3) k) ?_
  refine own_go (g' := (mkF m 21 #[.val (.int p1), .val (.int p2), .val (.long q3), .second, .val (.int ai), .unset, .unset, .unset, .unset, .unset, .unset, .unset] [(.int ((ai + (1 : Int32)) + ((XT.ushr p1 (3 : Int32)) % ((8 : Int32) - ai))))])) (fun _ k => XS.iadd X0.here hx rfl (hb hby at_20) rfl k) ?_
  refine own_go (g' := (mkF m 23 #[.val (.int p1), .val (.int p2), .val (.long q3), .second, .val (.int ai), .val (.int ((ai + (1 : Int32)) + ((XT.ushr p1 (3 : Int32)) % ((8 : Int32) - ai)))), .unset, .unset, .unset, .unset, .unset, .unset] [])) (fun _ k => XS.istore X0.here hx rfl (hb hby at_21) rfl (l' := #[.val (.int p1), .val (.int p2), .val (.long q3), .second, .val (.int ai), .val (.int ((ai + (1 : Int32)) + ((XT.ushr p1 (3 : Int32)) % ((8 : Int32) - ai)))), .unset, .unset, .unset, .unset, .unset, .unset]) rfl k) ?_
  obtain ⟨ti, hti⟩ : ∃ z : Int32, z = ((ai + (1 : Int32)) + ((XT.ushr p1 (3 : Int32)) % ((8 : Int32) - ai))) := ⟨_, rfl⟩
  rw [← hti]
  show own_Go p e below _ T0 (mkF m 23 #[.val (.int p1), .val (.int p2), .val (.long q3), .second, .val (.int ai), .val (.int ti), .unset, .unset, .unset, .unset, .unset, .unset] [])
  obtain ⟨TO, hTO, hAT, hT8⟩ : ∃ TO : Nat, ti.toInt = (TO : Int) ∧ A < TO ∧ TO ≤ 8 := hti ▸ own_to p1 hA hA3
  refine own_go (g' := (mkF m 25 #[.val (.int p1), .val (.int p2), .val (.long q3), .second, .val (.int ai), .val (.int ti), .unset, .unset, .unset, .unset, .unset, .unset] [(.int (8 : Int32))])) (fun _ k => XS.bipush X0.here hx rfl (hb hby at_23) k) ?_
  refine own_newP X0 hx hZ e0 (aty := .byte) (hw _ (List.mem_of_getElem? (i := 0) rfl)) 8 (by decide) (by decide) (by decide) (by decide) (by decide) (hb hby at_25) ?_
  intro T9 h9 b9 g9 X9 e9 E9 A9
  show own_Go p e below _ T9 (mkF m 27 #[.val (.int p1), .val (.int p2), .val (.long q3), .second, .val (.int ai), .val (.int ti), .unset, .unset, .unset, .unset, .unset, .unset] [(.ref b9)])
  have gb : n0 ≤ b9 := Nat.le_trans Z0 (Nat.le_of_eq g9.symm)
  have F9 : own_Ai Z h9 b9 .byte 8 (fun _ => 0) := A9
  refine own_go (g' := (mkF m 29 #[.val (.int p1), .val (.int p2), .val (.long q3), .second, .val (.int ai), .val (.int ti), .val (.ref b9), .unset, .unset, .unset, .unset, .unset] [])) (fun _ k => XS.astore X9.here hx rfl (hb hby at_27) rfl rfl (l' := #[.val (.int p1), .val (.int p2), .val (.long q3), .second, .val (.int ai), .val (.int ti), .val (.ref b9), .unset, .unset, .unset, .unset, .unset]) rfl k) ?_
  refine own_go (g' := (mkF m 31 #[.val (.int p1), .val (.int p2), .val (.long q3), .second, .val (.int ai), .val (.int ti), .val (.ref b9), .unset, .unset, .unset, .unset, .unset] [(.ref b9)])) (fun _ k => XS.aload X9.here hx rfl (hb hby at_29) rfl rfl k) ?_
  refine own_go (g' := (mkF m 32 #[.val (.int p1), .val (.int p2), .val (.long q3), .second, .val (.int ai), .val (.int ti), .val (.ref b9), .unset, .unset, .unset, .unset, .unset] [(.int (0 : Int32)), (.ref b9)])) (fun _ k => XS.iconst X9.here hx rfl (hb hby at_31) k) ?_
  refine own_go (g' := (mkF m 33 #[.val (.int p1), .val (.int p2), .val (.long q3), .second, .val (.int ai), .val (.int ti), .val (.ref b9), .unset, .unset, .unset, .unset, .unset] [(.long q3), (.int (0 : Int32)), (.ref b9)])) (fun _ k => XT.lloadN X9.here hx rfl (hb hby at_32) rfl k) ?_
  refine own_go (g' := (mkF m 34 #[.val (.int p1), .val (.int p2), .val (.long q3), .second, .val (.int ai), .val (.int ti), .val (.ref b9), .unset, .unset, .unset, .unset, .unset] [(.int ((q3).toInt32)), (.int (0 : Int32)), (.ref b9)])) (fun _ k => XT.l2i X9.here hx rfl (hb hby at_33) rfl k) ?_
  refine own_go (g' := (mkF m 35 #[.val (.int p1), .val (.int p2), .val (.long q3), .second, .val (.int ai), .val (.int ti), .val (.ref b9), .unset, .unset, .unset, .unset, .unset] [(.int ((((q3).toInt32)).toInt8.toInt32)), (.int (0 : Int32)), (.ref b9)])) (fun _ k => XT.i2b X9.here hx rfl (hb hby at_34) rfl k) ?_
  refine own_bastore X9 hx hZ e9 F9 0 (by decide) (by decide) (hb hby at_35) ?_
  intro T10 h10 X10 e10 W10
  show own_Go p e below _ T10 (mkF m 36 #[.val (.int p1), .val (.int p2), .val (.long q3), .second, .val (.int ai), .val (.int ti), .val (.ref b9), .unset, .unset, .unset, .unset, .unset] [])
  have F10 := own_Ai_set F9 W10
  have N10 := Fr.snoc X10 N0 gb
  refine own_go (g' := (mkF m 38 #[.val (.int p1), .val (.int p2), .val (.long q3), .second, .val (.int ai), .val (.int ti), .val (.ref b9), .unset, .unset, .unset, .unset, .unset] [(.ref b9)])) (fun _ k => XS.aload X10.here hx rfl (hb hby at_36) rfl rfl k) ?_
  refine own_go (g' := (mkF m 39 #[.val (.int p1), .val (.int p2), .val (.long q3), .second, .val (.int ai), .val (.int ti), .val (.ref b9), .unset, .unset, .unset, .unset, .unset] [(.int (1 : Int32)), (.ref b9)])) (fun _ k => XS.iconst X10.here hx rfl (hb hby at_38) k) ?_
  refine own_go (g' := (mkF m 40 #[.val (.int p1), .val (.int p2), .val (.long q3), .second, .val (.int ai), .val (.int ti), .val (.ref b9), .unset, .unset, .unset, .unset, .unset] [(.long q3), (.int (1 : Int32)), (.ref b9)])) (fun _ k => XT.lloadN X10.here hx rfl (hb hby at_39) rfl k) ?_
  refine own_go (g' := (mkF m 42 #[.val (.int p1), .val (.int p2), .val (.long q3), .second, .val (.int ai), .val (.int ti), .val (.ref b9), .unset, .unset, .unset, .unset, .unset] [(.int (8 : Int32)), (.long q3), (.int (1 : Int32)), (.ref b9)])) (fun _ k => XS.bipush X10.here hx rfl (hb hby at_40) k) ?_
  refine own_go (g' := (mkF m 43 #[.val (.int p1), .val (.int p2), .val (.long q3), .second, .val (.int ai), .val (.int ti), .val (.ref b9), .unset, .unset, .unset, .unset, .unset] [(.long (XT.ushrL q3 (8 : Int32))), (.int (1 : Int32)), (.ref b9)])) (fun _ k => XT.lushr X10.here hx rfl (hb hby at_42) rfl k) ?_
  refine own_go (g' := (mkF m 44 #[.val (.int p1), .val (.int p2), .val (.long q3), .second, .val (.int ai), .val (.int ti), .val (.ref b9), .unset, .unset, .unset, .unset, .unset] [(.int (((XT.ushrL q3 (8 : Int32))).toInt32)), (.int (1 : Int32)), (.ref b9)])) (fun _ k => XT.l2i X10.here hx rfl (hb hby at_43) rfl k) ?_
  refine own_go (g' := (mkF m 45 #[.val (.int p1), .val (.int p2), .val (.long q3), .second, .val (.int ai), .val (.int ti), .val (.ref b9), .unset, .unset, .unset, .unset, .unset] [(.int (((((XT.ushrL q3 (8 : Int32))).toInt32)).toInt8.toInt32)), (.int (1 : Int32)), (.ref b9)])) (fun _ k => XT.i2b X10.here hx rfl (hb hby at_44) rfl k) ?_
  refine own_bastore X10 hx hZ e10 F10 1 (by decide) (by decide) (hb hby at_45) ?_
  intro T11 h11 X11 e11 W11
  show own_Go p e below _ T11 (mkF m 46 #[.val (.int p1), .val (.int p2), .val (.long q3), .second, .val (.int ai), .val (.int ti), .val (.ref b9), .unset, .unset, .unset, .unset, .unset] [])
  have F11 := own_Ai_set F10 W11
  have N11 := Fr.snoc X11 N10 gb
  refine own_go (g' := (mkF m 48 #[.val (.int p1), .val (.int p2), .val (.long q3), .second, .val (.int ai), .val (.int ti), .val (.ref b9), .unset, .unset, .unset, .unset, .unset] [(.ref b9)])) (fun _ k => XS.aload X11.here hx rfl (hb hby at_46) rfl rfl k) ?_
  refine own_go (g' := (mkF m 49 #[.val (.int p1), .val (.int p2), .val (.long q3), .second, .val (.int ai), .val (.int ti), .val (.ref b9), .unset, .unset, .unset, .unset, .unset] [(.int (2 : Int32)), (.ref b9)])) (fun _ k => XS.iconst X11.here hx rfl (hb hby at_48) k) ?_
  refine own_go (g' := (mkF m 50 #[.val (.int p1), .val (.int p2), .val (.long q3), .second, .val (.int ai), .val (.int ti), .val (.ref b9), .unset, .unset, .unset, .unset, .unset] [(.long q3), (.int (2 : Int32)), (.ref b9)])) (fun _ k => XT.lloadN X11.here hx rfl (hb hby at_49) rfl k) ?_
  refine own_go (g' := (mkF m 52 #[.val (.int p1), .val (.int p2), .val (.long q3), .second, .val (.int ai), .val (.int ti), .val (.ref b9), .unset, .unset, .unset, .unset, .unset] [(.int (16 : Int32)), (.long q3), (.int (2 : Int32)), (.ref b9)])) (fun _ k => XS.bipush X11.here hx rfl (hb hby at_50) k) ?_
  refine own_go (g' := (mkF m 53 #[.val (.int p1), .val (.int p2), .val (.long q3), .second, .val (.int ai), .val (.int ti), .val (.ref b9), .unset, .unset, .unset, .unset, .unset] [(.long (XT.ushrL q3 (16 : Int32))), (.int (2 : Int32)), (.ref b9)])) (fun _ k => XT.lushr X11.here hx rfl (hb hby at_52) rfl k) ?_
  refine own_go (g' := (mkF m 54 #[.val (.int p1), .val (.int p2), .val (.long q3), .second, .val (.int ai), .val (.int ti), .val (.ref b9), .unset, .unset, .unset, .unset, .unset] [(.int (((XT.ushrL q3 (16 : Int32))).toInt32)), (.int (2 : Int32)), (.ref b9)])) (fun _ k => XT.l2i X11.here hx rfl (hb hby at_53) rfl k) ?_
  refine own_go (g' := (mkF m 55 #[.val (.int p1), .val (.int p2), .val (.long q3), .second, .val (.int ai), .val (.int ti), .val (.ref b9), .unset, .unset, .unset, .unset, .unset] [(.int (((((XT.ushrL q3 (16 : Int32))).toInt32)).toInt8.toInt32)), (.int (2 : Int32)), (.ref b9)])) (fun _ k => XT.i2b X11.here hx rfl (hb hby at_54) rfl k) ?_
  refine own_bastore X11 hx hZ e11 F11 2 (by decide) (by decide) (hb hby at_55) ?_
  intro T12 h12 X12 e12 W12
  show own_Go p e below _ T12 (mkF m 56 #[.val (.int p1), .val (.int p2), .val (.long q3), .second, .val (.int ai), .val (.int ti), .val (.ref b9), .unset, .unset, .unset, .unset, .unset] [])
  have F12 := own_Ai_set F11 W12
  have N12 := Fr.snoc X12 N11 gb
  refine own_go (g' := (mkF m 58 #[.val (.int p1), .val (.int p2), .val (.long q3), .second, .val (.int ai), .val (.int ti), .val (.ref b9), .unset, .unset, .unset, .unset, .unset] [(.ref b9)])) (fun _ k => XS.aload X12.here hx rfl (hb hby at_56) rfl rfl k) ?_
  refine own_go (g' := (mkF m 59 #[.val (.int p1), .val (.int p2), .val (.long q3), .second, .val (.int ai), .val (.int ti), .val (.ref b9), .unset, .unset, .unset, .unset, .unset] [(.int (3 : Int32)), (.ref b9)])) (fun _ k => XS.iconst X12.here hx rfl (hb hby at_58) k) ?_
  refine own_go (g' := (mkF m 60 #[.val (.int p1), .val (.int p2), .val (.long q3), .second, .val (.int ai), .val (.int ti), .val (.ref b9), .unset, .unset, .unset, .unset, .unset] [(.long q3), (.int (3 : Int32)), (.ref b9)])) (fun _ k => XT.lloadN X12.here hx rfl (hb hby at_59) rfl k) ?_
  refine own_go (g' := (mkF m 62 #[.val (.int p1), .val (.int p2), .val (.long q3), .second, .val (.int ai), .val (.int ti), .val (.ref b9), .unset, .unset, .unset, .unset, .unset] [(.int (24 : Int32)), (.long q3), (.int (3 : Int32)), (.ref b9)])) (fun _ k => XS.bipush X12.here hx rfl (hb hby at_60) k) ?_
  refine own_go (g' := (mkF m 63 #[.val (.int p1), .val (.int p2), .val (.long q3), .second, .val (.int ai), .val (.int ti), .val (.ref b9), .unset, .unset, .unset, .unset, .unset] [(.long (XT.ushrL q3 (24 : Int32))), (.int (3 : Int32)), (.ref b9)])) (fun _ k => XT.lushr X12.here hx rfl (hb hby at_62) rfl k) ?_
  refine own_go (g' := (mkF m 64 #[.val (.int p1), .val (.int p2), .val (.long q3), .second, .val (.int ai), .val (.int ti), .val (.ref b9), .unset, .unset, .unset, .unset, .unset] [(.int (((XT.ushrL q3 (24 : Int32))).toInt32)), (.int (3 : Int32)), (.ref b9)])) (fun _ k => XT.l2i X12.here hx rfl (hb hby at_63) rfl k) ?_
  refine own_go (g' := (mkF m 65 #[.val (.int p1), .val (.int p2), .val (.long q3), .second, .val (.int ai), .val (.int ti), .val (.ref b9), .unset, .unset, .unset, .unset, .unset] [(.int (((((XT.ushrL q3 (24 : Int32))).toInt32)).toInt8.toInt32)), (.int (3 : Int32)), (.ref b9)])) (fun _ k => XT.i2b X12.here hx rfl (hb hby at_64) rfl k) ?_
  refine own_bastore X12 hx hZ e12 F12 3 (by decide) (by decide) (hb hby at_65) ?_
  intro T13 h13 X13 e13 W13
  show own_Go p e below _ T13 (mkF m 66 #[.val (.int p1), .val (.int p2), .val (.long q3), .second, .val (.int ai), .val (.int ti), .val (.ref b9), .unset, .unset, .unset, .unset, .unset] [])
  have F13 := own_Ai_set F12 W13
  have N13 := Fr.snoc X13 N12 gb
  refine own_go (g' := (mkF m 68 #[.val (.int p1), .val (.int p2), .val (.long q3), .second, .val (.int ai), .val (.int ti), .val (.ref b9), .unset, .unset, .unset, .unset, .unset] [(.ref b9)])) (fun _ k => XS.aload X13.here hx rfl (hb hby at_66) rfl rfl k) ?_
  refine own_go (g' := (mkF m 69 #[.val (.int p1), .val (.int p2), .val (.long q3), .second, .val (.int ai), .val (.int ti), .val (.ref b9), .unset, .unset, .unset, .unset, .unset] [(.int (4 : Int32)), (.ref b9)])) (fun _ k => XS.iconst X13.here hx rfl (hb hby at_68) k) ?_
  refine own_go (g' := (mkF m 70 #[.val (.int p1), .val (.int p2), .val (.long q3), .second, .val (.int ai), .val (.int ti), .val (.ref b9), .unset, .unset, .unset, .unset, .unset] [(.long q3), (.int (4 : Int32)), (.ref b9)])) (fun _ k => XT.lloadN X13.here hx rfl (hb hby at_69) rfl k) ?_
  refine own_go (g' := (mkF m 72 #[.val (.int p1), .val (.int p2), .val (.long q3), .second, .val (.int ai), .val (.int ti), .val (.ref b9), .unset, .unset, .unset, .unset, .unset] [(.int (32 : Int32)), (.long q3), (.int (4 : Int32)), (.ref b9)])) (fun _ k => XS.bipush X13.here hx rfl (hb hby at_70) k) ?_
  refine own_go (g' := (mkF m 73 #[.val (.int p1), .val (.int p2), .val (.long q3), .second, .val (.int ai), .val (.int ti), .val (.ref b9), .unset, .unset, .unset, .unset, .unset] [(.long (XT.ushrL q3 (32 : Int32))), (.int (4 : Int32)), (.ref b9)])) (fun _ k => XT.lushr X13.here hx rfl (hb hby at_72) rfl k) ?_
  refine own_go (g' := (mkF m 74 #[.val (.int p1), .val (.int p2), .val (.long q3), .second, .val (.int ai), .val (.int ti), .val (.ref b9), .unset, .unset, .unset, .unset, .unset] [(.int (((XT.ushrL q3 (32 : Int32))).toInt32)), (.int (4 : Int32)), (.ref b9)])) (fun _ k => XT.l2i X13.here hx rfl (hb hby at_73) rfl k) ?_
  refine own_go (g' := (mkF m 75 #[.val (.int p1), .val (.int p2), .val (.long q3), .second, .val (.int ai), .val (.int ti), .val (.ref b9), .unset, .unset, .unset, .unset, .unset] [(.int (((((XT.ushrL q3 (32 : Int32))).toInt32)).toInt8.toInt32)), (.int (4 : Int32)), (.ref b9)])) (fun _ k => XT.i2b X13.here hx rfl (hb hby at_74) rfl k) ?_
  refine own_bastore X13 hx hZ e13 F13 4 (by decide) (by decide) (hb hby at_75) ?_
  intro T14 h14 X14 e14 W14
  show own_Go p e below _ T14 (mkF m 76 #[.val (.int p1), .val (.int p2), .val (.long q3), .second, .val (.int ai), .val (.int ti), .val (.ref b9), .unset, .unset, .unset, .unset, .unset] [])
  have F14 := own_Ai_set F13 W14
  have N14 := Fr.snoc X14 N13 gb
  refine own_go (g' := (mkF m 78 #[.val (.int p1), .val (.int p2), .val (.long q3), .second, .val (.int ai), .val (.int ti), .val (.ref b9), .unset, .unset, .unset, .unset, .unset] [(.ref b9)])) (fun _ k => XS.aload X14.here hx rfl (hb hby at_76) rfl rfl k) ?_
  refine own_go (g' := (mkF m 79 #[.val (.int p1), .val (.int p2), .val (.long q3), .second, .val (.int ai), .val (.int ti), .val (.ref b9), .unset, .unset, .unset, .unset, .unset] [(.int (5 : Int32)), (.ref b9)])) (fun _ k => XS.iconst X14.here hx rfl (hb hby at_78) k) ?_
  refine own_go (g' := (mkF m 80 #[.val (.int p1), .val (.int p2), .val (.long q3), .second, .val (.int ai), .val (.int ti), .val (.ref b9), .unset, .unset, .unset, .unset, .unset] [(.long q3), (.int (5 : Int32)), (.ref b9)])) (fun _ k => XT.lloadN X14.here hx rfl (hb hby at_79) rfl k) ?_
  refine own_go (g' := (mkF m 82 #[.val (.int p1), .val (.int p2), .val (.long q3), .second, .val (.int ai), .val (.int ti), .val (.ref b9), .unset, .unset, .unset, .unset, .unset] [(.int (40 : Int32)), (.long q3), (.int (5 : Int32)), (.ref b9)])) (fun _ k => XS.bipush X14.here hx rfl (hb hby at_80) k) ?_
  refine own_go (g' := (mkF m 83 #[.val (.int p1), .val (.int p2), .val (.long q3), .second, .val (.int ai), .val (.int ti), .val (.ref b9), .unset, .unset, .unset, .unset, .unset] [(.long (XT.ushrL q3 (40 : Int32))), (.int (5 : Int32)), (.ref b9)])) (fun _ k => XT.lushr X14.here hx rfl (hb hby at_82) rfl k) ?_
  refine own_go (g' := (mkF m 84 #[.val (.int p1), .val (.int p2), .val (.long q3), .second, .val (.int ai), .val (.int ti), .val (.ref b9), .unset, .unset, .unset, .unset, .unset] [(.int (((XT.ushrL q3 (40 : Int32))).toInt32)), (.int (5 : Int32)), (.ref b9)])) (fun _ k => XT.l2i X14.here hx rfl (hb hby at_83) rfl k) ?_
  refine own_go (g' := (mkF m 85 #[.val (.int p1), .val (.int p2), .val (.long q3), .second, .val (.int ai), .val (.int ti), .val (.ref b9), .unset, .unset, .unset, .unset, .unset] [(.int (((((XT.ushrL q3 (40 : Int32))).toInt32)).toInt8.toInt32)), (.int (5 : Int32)), (.ref b9)])) (fun _ k => XT.i2b X14.here hx rfl (hb hby at_84) rfl k) ?_
  refine own_bastore X14 hx hZ e14 F14 5 (by decide) (by decide) (hb hby at_85) ?_
  intro T15 h15 X15 e15 W15
  show own_Go p e below _ T15 (mkF m 86 #[.val (.int p1), .val (.int p2), .val (.long q3), .second, .val (.int ai), .val (.int ti), .val (.ref b9), .unset, .unset, .unset, .unset, .unset] [])
  have F15 := own_Ai_set F14 W15
  have N15 := Fr.snoc X15 N14 gb
  refine own_go (g' := (mkF m 88 #[.val (.int p1), .val (.int p2), .val (.long q3), .second, .val (.int ai), .val (.int ti), .val (.ref b9), .unset, .unset, .unset, .unset, .unset] [(.ref b9)])) (fun _ k => XS.aload X15.here hx rfl (hb hby at_86) rfl rfl k) ?_
  refine own_go (g' := (mkF m 90 #[.val (.int p1), .val (.int p2), .val (.long q3), .second, .val (.int ai), .val (.int ti), .val (.ref b9), .unset, .unset, .unset, .unset, .unset] [(.int (6 : Int32)), (.ref b9)])) (fun _ k => XS.bipush X15.here hx rfl (hb hby at_88) k) ?_
  refine own_go (g' := (mkF m 91 #[.val (.int p1), .val (.int p2), .val (.long q3), .second, .val (.int ai), .val (.int ti), .val (.ref b9), .unset, .unset, .unset, .unset, .unset] [(.long q3), (.int (6 : Int32)), (.ref b9)])) (fun _ k => XT.lloadN X15.here hx rfl (hb hby at_90) rfl k) ?_
  refine own_go (g' := (mkF m 93 #[.val (.int p1), .val (.int p2), .val (.long q3), .second, .val (.int ai), .val (.int ti), .val (.ref b9), .unset, .unset, .unset, .unset, .unset] [(.int (48 : Int32)), (.long q3), (.int (6 : Int32)), (.ref b9)])) (fun _ k => XS.bipush X15.here hx rfl (hb hby at_91) k) ?_
  refine own_go (g' := (mkF m 94 #[.val (.int p1), .val (.int p2), .val (.long q3), .second, .val (.int ai), .val (.int ti), .val (.ref b9), .unset, .unset, .unset, .unset, .unset] [(.long (XT.ushrL q3 (48 : Int32))), (.int (6 : Int32)), (.ref b9)])) (fun _ k => XT.lushr X15.here hx rfl (hb hby at_93) rfl k) ?_
  refine own_go (g' := (mkF m 95 #[.val (.int p1), .val (.int p2), .val (.long q3), .second, .val (.int ai), .val (.int ti), .val (.ref b9), .unset, .unset, .unset, .unset, .unset] [(.int (((XT.ushrL q3 (48 : Int32))).toInt32)), (.int (6 : Int32)), (.ref b9)])) (fun _ k => XT.l2i X15.here hx rfl (hb hby at_94) rfl k) ?_
  refine own_go (g' := (mkF m 96 #[.val (.int p1), .val (.int p2), .val (.long q3), .second, .val (.int ai), .val (.int ti), .val (.ref b9), .unset, .unset, .unset, .unset, .unset] [(.int (((((XT.ushrL q3 (48 : Int32))).toInt32)).toInt8.toInt32)), (.int (6 : Int32)), (.ref b9)])) (fun _ k => XT.i2b X15.here hx rfl (hb hby at_95) rfl k) ?_
  refine own_bastore X15 hx hZ e15 F15 6 (by decide) (by decide) (hb hby at_96) ?_
  intro T16 h16 X16 e16 W16
  show own_Go p e below _ T16 (mkF m 97 #[.val (.int p1), .val (.int p2), .val (.long q3), .second, .val (.int ai), .val (.int ti), .val (.ref b9), .unset, .unset, .unset, .unset, .unset] [])
  have F16 := own_Ai_set F15 W16
  have N16 := Fr.snoc X16 N15 gb
  refine own_go (g' := (mkF m 99 #[.val (.int p1), .val (.int p2), .val (.long q3), .second, .val (.int ai), .val (.int ti), .val (.ref b9), .unset, .unset, .unset, .unset, .unset] [(.ref b9)])) (fun _ k => XS.aload X16.here hx rfl (hb hby at_97) rfl rfl k) ?_
  refine own_go (g' := (mkF m 101 #[.val (.int p1), .val (.int p2), .val (.long q3), .second, .val (.int ai), .val (.int ti), .val (.ref b9), .unset, .unset, .unset, .unset, .unset] [(.int (7 : Int32)), (.ref b9)])) (fun _ k => XS.bipush X16.here hx rfl (hb hby at_99) k) ?_
  refine own_go (g' := (mkF m 102 #[.val (.int p1), .val (.int p2), .val (.long q3), .second, .val (.int ai), .val (.int ti), .val (.ref b9), .unset, .unset, .unset, .unset, .unset] [(.long q3), (.int (7 : Int32)), (.ref b9)])) (fun _ k => XT.lloadN X16.here hx rfl (hb hby at_101) rfl k) ?_
  refine own_go (g' := (mkF m 104 #[.val (.int p1), .val (.int p2), .val (.long q3), .second, .val (.int ai), .val (.int ti), .val (.ref b9), .unset, .unset, .unset, .unset, .unset] [(.int (56 : Int32)), (.long q3), (.int (7 : Int32)), (.ref b9)])) (fun _ k => XS.bipush X16.here hx rfl (hb hby at_102) k) ?_
  refine own_go (g' := (mkF m 105 #[.val (.int p1), .val (.int p2), .val (.long q3), .second, .val (.int ai), .val (.int ti), .val (.ref b9), .unset, .unset, .unset, .unset, .unset] [(.long (XT.ushrL q3 (56 : Int32))), (.int (7 : Int32)), (.ref b9)])) (fun _ k => XT.lushr X16.here hx rfl (hb hby at_104) rfl k) ?_
  refine own_go (g' := (mkF m 106 #[.val (.int p1), .val (.int p2), .val (.long q3), .second, .val (.int ai), .val (.int ti), .val (.ref b9), .unset, .unset, .unset, .unset, .unset] [(.int (((XT.ushrL q3 (56 : Int32))).toInt32)), (.int (7 : Int32)), (.ref b9)])) (fun _ k => XT.l2i X16.here hx rfl (hb hby at_105) rfl k) ?_
  refine own_go (g' := (mkF m 107 #[.val (.int p1), .val (.int p2), .val (.long q3), .second, .val (.int ai), .val (.int ti), .val (.ref b9), .unset, .unset, .unset, .unset, .unset] [(.int (((((XT.ushrL q3 (56 : Int32))).toInt32)).toInt8.toInt32)), (.int (7 : Int32)), (.ref b9)])) (fun _ k => XT.i2b X16.here hx rfl (hb hby at_106) rfl k) ?_
  refine own_bastore X16 hx hZ e16 F16 7 (by decide) (by decide) (hb hby at_107) ?_
  intro T17 h17 X17 e17 W17
  show own_Go p e below _ T17 (mkF m 108 #[.val (.int p1), .val (.int p2), .val (.long q3), .second, .val (.int ai), .val (.int ti), .val (.ref b9), .unset, .unset, .unset, .unset, .unset] [])
  have F17 := own_Ai_set F16 W17
  have N17 := Fr.snoc X17 N16 gb
  obtain ⟨f0, F0⟩ : ∃ f, own_Ai Z h17 b9 .byte 8 f := ⟨_, F17⟩
  refine own_go (g' := (mkF m 109 #[.val (.int p1), .val (.int p2), .val (.long q3), .second, .val (.int ai), .val (.int ti), .val (.ref b9), .unset, .unset, .unset, .unset, .unset] [(.int p1)])) (fun _ k => XS.iloadN X17.here hx rfl (hb hby at_108) rfl k) ?_
  refine own_go (g' := (mkF m 110 #[.val (.int p1), .val (.int p2), .val (.long q3), .second, .val (.int ai), .val (.int ti), .val (.ref b9), .unset, .unset, .unset, .unset, .unset] [(.int (1 : Int32)), (.int p1)])) (fun _ k => XS.iconst X17.here hx rfl (hb hby at_109) k) ?_
  refine own_go (g' := (mkF m 111 #[.val (.int p1), .val (.int p2), .val (.long q3), .second, .val (.int ai), .val (.int ti), .val (.ref b9), .unset, .unset, .unset, .unset, .unset] [(.int (p1 &&& (1 : Int32)))])) (fun _ k => XS.iand X17.here hx rfl (hb hby at_110) rfl k) ?_
  by_cases csh : (p1 &&& (1 : Int32)) = 0
  · refine own_go (g' := (mkF m 114 #[.val (.int p1), .val (.int p2), .val (.long q3), .second, .val (.int ai), .val (.int ti), .val (.ref b9), .unset, .unset, .unset, .unset, .unset] [])) (fun _ k => XS.ifNo X17.here hx rfl (hb hby at_111) rfl (XT.i0_ne_f csh) k) ?_
    refine own_go (g' := (mkF m 115 #[.val (.int p1), .val (.int p2), .val (.long q3), .second, .val (.int ai), .val (.int ti), .val (.ref b9), .unset, .unset, .unset, .unset, .unset] [(.int p2)])) (fun _ k => XS.iloadN X17.here hx rfl (hb hby at_114) rfl k) ?_
    refine own_go (g' := (mkF m 117 #[.val (.int p1), .val (.int p2), .val (.long q3), .second, .val (.int ai), .val (.int ti), .val (.ref b9), .unset, .unset, .unset, .unset, .unset] [(.int (2147483647 : Int32)), (.int p2)])) (fun _ k => X17.ldcInt hx hown (mvT hZ (hw _ (List.mem_of_getElem? (i := 1) rfl))) (g := (mkF m 115 #[.val (.int p1), .val (.int p2), .val (.long q3), .second, .val (.int ai), .val (.int ti), .val (.ref b9), .unset, .unset, .unset, .unset, .unset] [(.int p2)])) rfl (hb hby at_115) _ k) ?_
    refine own_go (g' := (mkF m 118 #[.val (.int p1), .val (.int p2), .val (.long q3), .second, .val (.int ai), .val (.int ti), .val (.ref b9), .unset, .unset, .unset, .unset, .unset] [(.int (p2 &&& (2147483647 : Int32)))])) (fun _ k => XS.iand X17.here hx rfl (hb hby at_117) rfl k) ?_
    refine own_go (g' := (mkF m 120 #[.val (.int p1), .val (.int p2), .val (.long q3), .second, .val (.int ai), .val (.int ti), .val (.ref b9), .unset, .unset, .unset, .unset, .unset] [(.int (1114112 : Int32)), (.int (p2 &&& (2147483647 : Int32)))])) (fun _ k => X17.ldcInt hx hown (mvT hZ (hw _ (List.mem_of_getElem? (i := 2) rfl))) (g := (mkF m 118 #[.val (.int p1), .val (.int p2), .val (.long q3), .second, .val (.int ai), .val (.int ti), .val (.ref b9), .unset, .unset, .unset, .unset, .unset] [(.int (p2 &&& (2147483647 : Int32)))])) rfl (hb hby at_118) _ k) ?_
    refine own_go (g' := (mkF m 121 #[.val (.int p1), .val (.int p2), .val (.long q3), .second, .val (.int ai), .val (.int ti), .val (.ref b9), .unset, .unset, .unset, .unset, .unset] [(.int ((p2 &&& (2147483647 : Int32)) % (1114112 : Int32)))])) (fun _ k => Jvm.RoadKit.iremM X17 hx rfl (hb hby at_120) rfl (by decide) k) ?_
    refine own_go (g' := (mkF m 123 #[.val (.int p1), .val (.int p2), .val (.long q3), .second, .val (.int ai), .val (.int ti), .val (.ref b9), .val (.int ((p2 &&& (2147483647 : Int32)) % (1114112 : Int32))), .unset, .unset, .unset, .unset] [])) (fun _ k => XS.istore X17.here hx rfl (hb hby at_121) rfl (l' := #[.val (.int p1), .val (.int p2), .val (.long q3), .second, .val (.int ai), .val (.int ti), .val (.ref b9), .val (.int ((p2 &&& (2147483647 : Int32)) % (1114112 : Int32))), .unset, .unset, .unset, .unset]) rfl k) ?_
    obtain ⟨cp, hcp⟩ : ∃ z : Int32, z = ((p2 &&& (2147483647 : Int32)) % (1114112 : Int32)) := ⟨_, rfl⟩
    rw [← hcp]
    show own_Go p e below _ T17 (mkF m 123 #[.val (.int p1), .val (.int p2), .val (.long q3), .second, .val (.int ai), .val (.int ti), .val (.ref b9), .val (.int cp), .unset, .unset, .unset, .unset] [])
    obtain ⟨hc0, hc1⟩ : ¬ cp < 0 ∧ ¬ 1114111 < cp := hcp ▸ own_cp0 p2
    refine own_go (g' := (mkF m 125 #[.val (.int p1), .val (.int p2), .val (.long q3), .second, .val (.int ai), .val (.int ti), .val (.ref b9), .val (.int cp), .unset, .unset, .unset, .unset] [(.int cp)])) (fun _ k => XS.iload X17.here hx rfl (hb hby at_123) rfl k) ?_
    refine own_callS X17 hx hZ hown e17 (y := (⟨"org/kusuridana/Utf8CodePointPinLaw", "len", "(I)I"⟩ : MethodName)) (rm := ({ frames := 0, cells := 0, slots := 0, locals := 0 } : Room)) (hw _ (List.mem_of_getElem? (i := 3) rfl)) (hw _ (List.mem_of_getElem? (i := 4) rfl)) (hw _ (List.mem_of_getElem? (i := 5) rfl)) (hw _ (List.mem_of_getElem? (i := 6) rfl)) (by decide) (argsL := [(.int cp)]) (rest := []) (own_rmLen l Z a0 hw [] cp h17 n0) (by rw [hml]; rfl) pd_1 rfl rfl (hb hby at_125) (W := 0) (Nat.le_of_eq rfl) (by decide) (by decide) (by decide) (by decide) ?_
    intro v20 T20 L20 X20 hQ20
    obtain ⟨hv20, e20, rfl⟩ := hQ20
    obtain ⟨len, hlen⟩ : ∃ z : Int32, z = own_cpl cp := ⟨_, rfl⟩
    rw [← hlen] at hv20
    subst hv20
    rw [List.append_nil] at X20
    show own_Go p e below _ T20 (mkF m 128 #[.val (.int p1), .val (.int p2), .val (.long q3), .second, .val (.int ai), .val (.int ti), .val (.ref b9), .val (.int cp), .unset, .unset, .unset, .unset] [(.int len)])
    refine own_go (g' := (mkF m 130 #[.val (.int p1), .val (.int p2), .val (.long q3), .second, .val (.int ai), .val (.int ti), .val (.ref b9), .val (.int cp), .val (.int len), .unset, .unset, .unset] [])) (fun _ k => XS.istore X20.here hx rfl (hb hby at_128) rfl (l' := #[.val (.int p1), .val (.int p2), .val (.long q3), .second, .val (.int ai), .val (.int ti), .val (.ref b9), .val (.int cp), .val (.int len), .unset, .unset, .unset]) rfl k) ?_
    refine own_go (g' := (mkF m 132 #[.val (.int p1), .val (.int p2), .val (.long q3), .second, .val (.int ai), .val (.int ti), .val (.ref b9), .val (.int cp), .val (.int len), .unset, .unset, .unset] [(.ref b9)])) (fun _ k => XS.aload X20.here hx rfl (hb hby at_130) rfl rfl k) ?_
    refine own_go (g' := (mkF m 134 #[.val (.int p1), .val (.int p2), .val (.long q3), .second, .val (.int ai), .val (.int ti), .val (.ref b9), .val (.int cp), .val (.int len), .unset, .unset, .unset] [(.int ai), (.ref b9)])) (fun _ k => XS.iload X20.here hx rfl (hb hby at_132) rfl k) ?_
    obtain ⟨NN, hNN, hNN1, hNN4⟩ := own_cplN cp len hlen
    suffices J : ∀ T' h' lo f, Stand p l e room_1 s m #[(.int p1), (.int p2), (.long q3)] below meth c T' lo 1 8 → T'.heap = h' → Fr n0 lo → own_Ai Z h' b9 .byte 8 f → own_units f A cp len → own_Go p e below (own_Po s (own_Q0 n0) 16 128) T' (mkF m 210 #[.val (.int p1), .val (.int p2), .val (.long q3), .second, .val (.int ai), .val (.int ti), .val (.ref b9), .val (.int cp), .val (.int len), .unset, .unset, .unset] []) by
      refine own_go (g' := (mkF m 136 #[.val (.int p1), .val (.int p2), .val (.long q3), .second, .val (.int ai), .val (.int ti), .val (.ref b9), .val (.int cp), .val (.int len), .unset, .unset, .unset] [(.int cp), (.int ai), (.ref b9)])) (fun _ k => XS.iload X20.here hx rfl (hb hby at_134) rfl k) ?_
      refine own_go (g' := (mkF m 138 #[.val (.int p1), .val (.int p2), .val (.long q3), .second, .val (.int ai), .val (.int ti), .val (.ref b9), .val (.int cp), .val (.int len), .unset, .unset, .unset] [(.int len), (.int cp), (.int ai), (.ref b9)])) (fun _ k => XS.iload X20.here hx rfl (hb hby at_136) rfl k) ?_
      refine own_go (g' := (mkF m 139 #[.val (.int p1), .val (.int p2), .val (.long q3), .second, .val (.int ai), .val (.int ti), .val (.ref b9), .val (.int cp), .val (.int len), .unset, .unset, .unset] [(.int (0 : Int32)), (.int len), (.int cp), (.int ai), (.ref b9)])) (fun _ k => XS.iconst X20.here hx rfl (hb hby at_138) k) ?_
      refine own_callS X20 hx hZ hown e20 (y := (⟨"org/kusuridana/Utf8CodePointPinLaw", "unit", "(III)I"⟩ : MethodName)) (rm := ({ frames := 0, cells := 0, slots := 0, locals := 0 } : Room)) (hw _ (List.mem_of_getElem? (i := 7) rfl)) (hw _ (List.mem_of_getElem? (i := 8) rfl)) (hw _ (List.mem_of_getElem? (i := 5) rfl)) (hw _ (List.mem_of_getElem? (i := 9) rfl)) (by decide) (argsL := [(.int cp), (.int len), (.int (0 : Int32))]) (rest := [(.int ai), (.ref b9)]) (own_rmUnit l Z a0 hw [] cp len (0 : Int32) h17 n0) (by rw [hml]; rfl) pd_2 rfl rfl (hb hby at_139) (W := 2) (Nat.le_of_eq rfl) (by decide) (by decide) (by decide) (by decide) ?_
      intro v21 T21 L21 X21 hQ21
      obtain ⟨rfl, e21, rfl⟩ := hQ21
      rw [List.append_nil] at X21
      show own_Go p e below _ T21 (mkF m 142 #[.val (.int p1), .val (.int p2), .val (.long q3), .second, .val (.int ai), .val (.int ti), .val (.ref b9), .val (.int cp), .val (.int len), .unset, .unset, .unset] [(.int (own_unit cp len (0 : Int32))), (.int ai), (.ref b9)])
      refine own_go (g' := (mkF m 143 #[.val (.int p1), .val (.int p2), .val (.long q3), .second, .val (.int ai), .val (.int ti), .val (.ref b9), .val (.int cp), .val (.int len), .unset, .unset, .unset] [(.int (((own_unit cp len (0 : Int32))).toInt8.toInt32)), (.int ai), (.ref b9)])) (fun _ k => XT.i2b X21.here hx rfl (hb hby at_142) rfl k) ?_
      refine own_bastore X21 hx hZ e21 F0 A hA (by omega) (hb hby at_143) ?_
      intro T22 h22 X22 e22 W22
      show own_Go p e below _ T22 (mkF m 144 #[.val (.int p1), .val (.int p2), .val (.long q3), .second, .val (.int ai), .val (.int ti), .val (.ref b9), .val (.int cp), .val (.int len), .unset, .unset, .unset] [])
      have F22 := own_Ai_set F0 W22
      have N22 := Fr.snoc X22 N17 gb
      refine own_go (g' := (mkF m 146 #[.val (.int p1), .val (.int p2), .val (.long q3), .second, .val (.int ai), .val (.int ti), .val (.ref b9), .val (.int cp), .val (.int len), .unset, .unset, .unset] [(.int len)])) (fun _ k => XS.iload X22.here hx rfl (hb hby at_144) rfl k) ?_
      refine own_go (g' := (mkF m 147 #[.val (.int p1), .val (.int p2), .val (.long q3), .second, .val (.int ai), .val (.int ti), .val (.ref b9), .val (.int cp), .val (.int len), .unset, .unset, .unset] [(.int (1 : Int32)), (.int len)])) (fun _ k => XS.iconst X22.here hx rfl (hb hby at_146) k) ?_
      by_cases c1 : (1 : Int32) < len
      · refine own_go (g' := (mkF m 150 #[.val (.int p1), .val (.int p2), .val (.long q3), .second, .val (.int ai), .val (.int ti), .val (.ref b9), .val (.int cp), .val (.int len), .unset, .unset, .unset] [])) (fun _ k => XS.icmpNo X22.here hx rfl (hb hby at_147) rfl (XT.ii_le_f c1) k) ?_
        have hk1 : 1 < NN := own_ltN hNN (k := 1) (by decide) c1
        refine own_go (g' := (mkF m 152 #[.val (.int p1), .val (.int p2), .val (.long q3), .second, .val (.int ai), .val (.int ti), .val (.ref b9), .val (.int cp), .val (.int len), .unset, .unset, .unset] [(.ref b9)])) (fun _ k => XS.aload X22.here hx rfl (hb hby at_150) rfl rfl k) ?_
        refine own_go (g' := (mkF m 154 #[.val (.int p1), .val (.int p2), .val (.long q3), .second, .val (.int ai), .val (.int ti), .val (.ref b9), .val (.int cp), .val (.int len), .unset, .unset, .unset] [(.int ai), (.ref b9)])) (fun _ k => XS.iload X22.here hx rfl (hb hby at_152) rfl k) ?_
        refine own_go (g' := (mkF m 155 #[.val (.int p1), .val (.int p2), .val (.long q3), .second, .val (.int ai), .val (.int ti), .val (.ref b9), .val (.int cp), .val (.int len), .unset, .unset, .unset] [(.int (1 : Int32)), (.int ai), (.ref b9)])) (fun _ k => XS.iconst X22.here hx rfl (hb hby at_154) k) ?_
        refine own_go (g' := (mkF m 156 #[.val (.int p1), .val (.int p2), .val (.long q3), .second, .val (.int ai), .val (.int ti), .val (.ref b9), .val (.int cp), .val (.int len), .unset, .unset, .unset] [(.int (ai + (1 : Int32))), (.ref b9)])) (fun _ k => XS.iadd X22.here hx rfl (hb hby at_155) rfl k) ?_
        refine own_go (g' := (mkF m 158 #[.val (.int p1), .val (.int p2), .val (.long q3), .second, .val (.int ai), .val (.int ti), .val (.ref b9), .val (.int cp), .val (.int len), .unset, .unset, .unset] [(.int cp), (.int (ai + (1 : Int32))), (.ref b9)])) (fun _ k => XS.iload X22.here hx rfl (hb hby at_156) rfl k) ?_
        refine own_go (g' := (mkF m 160 #[.val (.int p1), .val (.int p2), .val (.long q3), .second, .val (.int ai), .val (.int ti), .val (.ref b9), .val (.int cp), .val (.int len), .unset, .unset, .unset] [(.int len), (.int cp), (.int (ai + (1 : Int32))), (.ref b9)])) (fun _ k => XS.iload X22.here hx rfl (hb hby at_158) rfl k) ?_
        refine own_go (g' := (mkF m 161 #[.val (.int p1), .val (.int p2), .val (.long q3), .second, .val (.int ai), .val (.int ti), .val (.ref b9), .val (.int cp), .val (.int len), .unset, .unset, .unset] [(.int (1 : Int32)), (.int len), (.int cp), (.int (ai + (1 : Int32))), (.ref b9)])) (fun _ k => XS.iconst X22.here hx rfl (hb hby at_160) k) ?_
        refine own_callS X22 hx hZ hown e22 (y := (⟨"org/kusuridana/Utf8CodePointPinLaw", "unit", "(III)I"⟩ : MethodName)) (rm := ({ frames := 0, cells := 0, slots := 0, locals := 0 } : Room)) (hw _ (List.mem_of_getElem? (i := 7) rfl)) (hw _ (List.mem_of_getElem? (i := 8) rfl)) (hw _ (List.mem_of_getElem? (i := 5) rfl)) (hw _ (List.mem_of_getElem? (i := 9) rfl)) (by decide) (argsL := [(.int cp), (.int len), (.int (1 : Int32))]) (rest := [(.int (ai + (1 : Int32))), (.ref b9)]) (own_rmUnit l Z a0 hw [] cp len (1 : Int32) h22 n0) (by rw [hml]; rfl) pd_2 rfl rfl (hb hby at_161) (W := 2) (Nat.le_of_eq rfl) (by decide) (by decide) (by decide) (by decide) ?_
        intro v23 T23 L23 X23 hQ23
        obtain ⟨rfl, e23, rfl⟩ := hQ23
        rw [List.append_nil] at X23
        show own_Go p e below _ T23 (mkF m 164 #[.val (.int p1), .val (.int p2), .val (.long q3), .second, .val (.int ai), .val (.int ti), .val (.ref b9), .val (.int cp), .val (.int len), .unset, .unset, .unset] [(.int (own_unit cp len (1 : Int32))), (.int (ai + (1 : Int32))), (.ref b9)])
        refine own_go (g' := (mkF m 165 #[.val (.int p1), .val (.int p2), .val (.long q3), .second, .val (.int ai), .val (.int ti), .val (.ref b9), .val (.int cp), .val (.int len), .unset, .unset, .unset] [(.int (((own_unit cp len (1 : Int32))).toInt8.toInt32)), (.int (ai + (1 : Int32))), (.ref b9)])) (fun _ k => XT.i2b X23.here hx rfl (hb hby at_164) rfl k) ?_
        refine own_bastore X23 hx hZ e23 F22 (A + 1) (own_addi hA (j := (1 : Int32)) (k := 1) rfl (by omega)) (by omega) (hb hby at_165) ?_
        intro T24 h24 X24 e24 W24
        show own_Go p e below _ T24 (mkF m 166 #[.val (.int p1), .val (.int p2), .val (.long q3), .second, .val (.int ai), .val (.int ti), .val (.ref b9), .val (.int cp), .val (.int len), .unset, .unset, .unset] [])
        have F24 := own_Ai_set F22 W24
        have N24 := Fr.snoc X24 N22 gb
        refine own_go (g' := (mkF m 168 #[.val (.int p1), .val (.int p2), .val (.long q3), .second, .val (.int ai), .val (.int ti), .val (.ref b9), .val (.int cp), .val (.int len), .unset, .unset, .unset] [(.int len)])) (fun _ k => XS.iload X24.here hx rfl (hb hby at_166) rfl k) ?_
        refine own_go (g' := (mkF m 169 #[.val (.int p1), .val (.int p2), .val (.long q3), .second, .val (.int ai), .val (.int ti), .val (.ref b9), .val (.int cp), .val (.int len), .unset, .unset, .unset] [(.int (2 : Int32)), (.int len)])) (fun _ k => XS.iconst X24.here hx rfl (hb hby at_168) k) ?_
        by_cases c2 : (2 : Int32) < len
        · refine own_go (g' := (mkF m 172 #[.val (.int p1), .val (.int p2), .val (.long q3), .second, .val (.int ai), .val (.int ti), .val (.ref b9), .val (.int cp), .val (.int len), .unset, .unset, .unset] [])) (fun _ k => XS.icmpNo X24.here hx rfl (hb hby at_169) rfl (XT.ii_le_f c2) k) ?_
          have hk2 : 2 < NN := own_ltN hNN (k := 2) (by decide) c2
          refine own_go (g' := (mkF m 174 #[.val (.int p1), .val (.int p2), .val (.long q3), .second, .val (.int ai), .val (.int ti), .val (.ref b9), .val (.int cp), .val (.int len), .unset, .unset, .unset] [(.ref b9)])) (fun _ k => XS.aload X24.here hx rfl (hb hby at_172) rfl rfl k) ?_
          refine own_go (g' := (mkF m 176 #[.val (.int p1), .val (.int p2), .val (.long q3), .second, .val (.int ai), .val (.int ti), .val (.ref b9), .val (.int cp), .val (.int len), .unset, .unset, .unset] [(.int ai), (.ref b9)])) (fun _ k => XS.iload X24.here hx rfl (hb hby at_174) rfl k) ?_
          refine own_go (g' := (mkF m 177 #[.val (.int p1), .val (.int p2), .val (.long q3), .second, .val (.int ai), .val (.int ti), .val (.ref b9), .val (.int cp), .val (.int len), .unset, .unset, .unset] [(.int (2 : Int32)), (.int ai), (.ref b9)])) (fun _ k => XS.iconst X24.here hx rfl (hb hby at_176) k) ?_
          refine own_go (g' := (mkF m 178 #[.val (.int p1), .val (.int p2), .val (.long q3), .second, .val (.int ai), .val (.int ti), .val (.ref b9), .val (.int cp), .val (.int len), .unset, .unset, .unset] [(.int (ai + (2 : Int32))), (.ref b9)])) (fun _ k => XS.iadd X24.here hx rfl (hb hby at_177) rfl k) ?_
          refine own_go (g' := (mkF m 180 #[.val (.int p1), .val (.int p2), .val (.long q3), .second, .val (.int ai), .val (.int ti), .val (.ref b9), .val (.int cp), .val (.int len), .unset, .unset, .unset] [(.int cp), (.int (ai + (2 : Int32))), (.ref b9)])) (fun _ k => XS.iload X24.here hx rfl (hb hby at_178) rfl k) ?_
          refine own_go (g' := (mkF m 182 #[.val (.int p1), .val (.int p2), .val (.long q3), .second, .val (.int ai), .val (.int ti), .val (.ref b9), .val (.int cp), .val (.int len), .unset, .unset, .unset] [(.int len), (.int cp), (.int (ai + (2 : Int32))), (.ref b9)])) (fun _ k => XS.iload X24.here hx rfl (hb hby at_180) rfl k) ?_
          refine own_go (g' := (mkF m 183 #[.val (.int p1), .val (.int p2), .val (.long q3), .second, .val (.int ai), .val (.int ti), .val (.ref b9), .val (.int cp), .val (.int len), .unset, .unset, .unset] [(.int (2 : Int32)), (.int len), (.int cp), (.int (ai + (2 : Int32))), (.ref b9)])) (fun _ k => XS.iconst X24.here hx rfl (hb hby at_182) k) ?_
          refine own_callS X24 hx hZ hown e24 (y := (⟨"org/kusuridana/Utf8CodePointPinLaw", "unit", "(III)I"⟩ : MethodName)) (rm := ({ frames := 0, cells := 0, slots := 0, locals := 0 } : Room)) (hw _ (List.mem_of_getElem? (i := 7) rfl)) (hw _ (List.mem_of_getElem? (i := 8) rfl)) (hw _ (List.mem_of_getElem? (i := 5) rfl)) (hw _ (List.mem_of_getElem? (i := 9) rfl)) (by decide) (argsL := [(.int cp), (.int len), (.int (2 : Int32))]) (rest := [(.int (ai + (2 : Int32))), (.ref b9)]) (own_rmUnit l Z a0 hw [] cp len (2 : Int32) h24 n0) (by rw [hml]; rfl) pd_2 rfl rfl (hb hby at_183) (W := 2) (Nat.le_of_eq rfl) (by decide) (by decide) (by decide) (by decide) ?_
          intro v25 T25 L25 X25 hQ25
          obtain ⟨rfl, e25, rfl⟩ := hQ25
          rw [List.append_nil] at X25
          show own_Go p e below _ T25 (mkF m 186 #[.val (.int p1), .val (.int p2), .val (.long q3), .second, .val (.int ai), .val (.int ti), .val (.ref b9), .val (.int cp), .val (.int len), .unset, .unset, .unset] [(.int (own_unit cp len (2 : Int32))), (.int (ai + (2 : Int32))), (.ref b9)])
          refine own_go (g' := (mkF m 187 #[.val (.int p1), .val (.int p2), .val (.long q3), .second, .val (.int ai), .val (.int ti), .val (.ref b9), .val (.int cp), .val (.int len), .unset, .unset, .unset] [(.int (((own_unit cp len (2 : Int32))).toInt8.toInt32)), (.int (ai + (2 : Int32))), (.ref b9)])) (fun _ k => XT.i2b X25.here hx rfl (hb hby at_186) rfl k) ?_
          refine own_bastore X25 hx hZ e25 F24 (A + 2) (own_addi hA (j := (2 : Int32)) (k := 2) rfl (by omega)) (by omega) (hb hby at_187) ?_
          intro T26 h26 X26 e26 W26
          show own_Go p e below _ T26 (mkF m 188 #[.val (.int p1), .val (.int p2), .val (.long q3), .second, .val (.int ai), .val (.int ti), .val (.ref b9), .val (.int cp), .val (.int len), .unset, .unset, .unset] [])
          have F26 := own_Ai_set F24 W26
          have N26 := Fr.snoc X26 N24 gb
          refine own_go (g' := (mkF m 190 #[.val (.int p1), .val (.int p2), .val (.long q3), .second, .val (.int ai), .val (.int ti), .val (.ref b9), .val (.int cp), .val (.int len), .unset, .unset, .unset] [(.int len)])) (fun _ k => XS.iload X26.here hx rfl (hb hby at_188) rfl k) ?_
          refine own_go (g' := (mkF m 191 #[.val (.int p1), .val (.int p2), .val (.long q3), .second, .val (.int ai), .val (.int ti), .val (.ref b9), .val (.int cp), .val (.int len), .unset, .unset, .unset] [(.int (3 : Int32)), (.int len)])) (fun _ k => XS.iconst X26.here hx rfl (hb hby at_190) k) ?_
          by_cases c3 : (3 : Int32) < len
          · refine own_go (g' := (mkF m 194 #[.val (.int p1), .val (.int p2), .val (.long q3), .second, .val (.int ai), .val (.int ti), .val (.ref b9), .val (.int cp), .val (.int len), .unset, .unset, .unset] [])) (fun _ k => XS.icmpNo X26.here hx rfl (hb hby at_191) rfl (XT.ii_le_f c3) k) ?_
            have hk3 : 3 < NN := own_ltN hNN (k := 3) (by decide) c3
            refine own_go (g' := (mkF m 196 #[.val (.int p1), .val (.int p2), .val (.long q3), .second, .val (.int ai), .val (.int ti), .val (.ref b9), .val (.int cp), .val (.int len), .unset, .unset, .unset] [(.ref b9)])) (fun _ k => XS.aload X26.here hx rfl (hb hby at_194) rfl rfl k) ?_
            refine own_go (g' := (mkF m 198 #[.val (.int p1), .val (.int p2), .val (.long q3), .second, .val (.int ai), .val (.int ti), .val (.ref b9), .val (.int cp), .val (.int len), .unset, .unset, .unset] [(.int ai), (.ref b9)])) (fun _ k => XS.iload X26.here hx rfl (hb hby at_196) rfl k) ?_
            refine own_go (g' := (mkF m 199 #[.val (.int p1), .val (.int p2), .val (.long q3), .second, .val (.int ai), .val (.int ti), .val (.ref b9), .val (.int cp), .val (.int len), .unset, .unset, .unset] [(.int (3 : Int32)), (.int ai), (.ref b9)])) (fun _ k => XS.iconst X26.here hx rfl (hb hby at_198) k) ?_
            refine own_go (g' := (mkF m 200 #[.val (.int p1), .val (.int p2), .val (.long q3), .second, .val (.int ai), .val (.int ti), .val (.ref b9), .val (.int cp), .val (.int len), .unset, .unset, .unset] [(.int (ai + (3 : Int32))), (.ref b9)])) (fun _ k => XS.iadd X26.here hx rfl (hb hby at_199) rfl k) ?_
            refine own_go (g' := (mkF m 202 #[.val (.int p1), .val (.int p2), .val (.long q3), .second, .val (.int ai), .val (.int ti), .val (.ref b9), .val (.int cp), .val (.int len), .unset, .unset, .unset] [(.int cp), (.int (ai + (3 : Int32))), (.ref b9)])) (fun _ k => XS.iload X26.here hx rfl (hb hby at_200) rfl k) ?_
            refine own_go (g' := (mkF m 204 #[.val (.int p1), .val (.int p2), .val (.long q3), .second, .val (.int ai), .val (.int ti), .val (.ref b9), .val (.int cp), .val (.int len), .unset, .unset, .unset] [(.int len), (.int cp), (.int (ai + (3 : Int32))), (.ref b9)])) (fun _ k => XS.iload X26.here hx rfl (hb hby at_202) rfl k) ?_
            refine own_go (g' := (mkF m 205 #[.val (.int p1), .val (.int p2), .val (.long q3), .second, .val (.int ai), .val (.int ti), .val (.ref b9), .val (.int cp), .val (.int len), .unset, .unset, .unset] [(.int (3 : Int32)), (.int len), (.int cp), (.int (ai + (3 : Int32))), (.ref b9)])) (fun _ k => XS.iconst X26.here hx rfl (hb hby at_204) k) ?_
            refine own_callS X26 hx hZ hown e26 (y := (⟨"org/kusuridana/Utf8CodePointPinLaw", "unit", "(III)I"⟩ : MethodName)) (rm := ({ frames := 0, cells := 0, slots := 0, locals := 0 } : Room)) (hw _ (List.mem_of_getElem? (i := 7) rfl)) (hw _ (List.mem_of_getElem? (i := 8) rfl)) (hw _ (List.mem_of_getElem? (i := 5) rfl)) (hw _ (List.mem_of_getElem? (i := 9) rfl)) (by decide) (argsL := [(.int cp), (.int len), (.int (3 : Int32))]) (rest := [(.int (ai + (3 : Int32))), (.ref b9)]) (own_rmUnit l Z a0 hw [] cp len (3 : Int32) h26 n0) (by rw [hml]; rfl) pd_2 rfl rfl (hb hby at_205) (W := 2) (Nat.le_of_eq rfl) (by decide) (by decide) (by decide) (by decide) ?_
            intro v27 T27 L27 X27 hQ27
            obtain ⟨rfl, e27, rfl⟩ := hQ27
            rw [List.append_nil] at X27
            show own_Go p e below _ T27 (mkF m 208 #[.val (.int p1), .val (.int p2), .val (.long q3), .second, .val (.int ai), .val (.int ti), .val (.ref b9), .val (.int cp), .val (.int len), .unset, .unset, .unset] [(.int (own_unit cp len (3 : Int32))), (.int (ai + (3 : Int32))), (.ref b9)])
            refine own_go (g' := (mkF m 209 #[.val (.int p1), .val (.int p2), .val (.long q3), .second, .val (.int ai), .val (.int ti), .val (.ref b9), .val (.int cp), .val (.int len), .unset, .unset, .unset] [(.int (((own_unit cp len (3 : Int32))).toInt8.toInt32)), (.int (ai + (3 : Int32))), (.ref b9)])) (fun _ k => XT.i2b X27.here hx rfl (hb hby at_208) rfl k) ?_
            refine own_bastore X27 hx hZ e27 F26 (A + 3) (own_addi hA (j := (3 : Int32)) (k := 3) rfl (by omega)) (by omega) (hb hby at_209) ?_
            intro T28 h28 X28 e28 W28
            show own_Go p e below _ T28 (mkF m 210 #[.val (.int p1), .val (.int p2), .val (.long q3), .second, .val (.int ai), .val (.int ti), .val (.ref b9), .val (.int cp), .val (.int len), .unset, .unset, .unset] [])
            have F28 := own_Ai_set F26 W28
            have N28 := Fr.snoc X28 N26 gb
            refine J _ _ _ _ X28 e28 N28 F28 ⟨?_, ?_, ?_, ?_⟩
            · exact own_byte_at (by simp [own_upi]) (own_unit_rng hc0 hc1 hlen (0 : Int32))
            · exact fun q => own_byte_at (by simp [own_upi]) (own_unit_rng hc0 hc1 hlen (1 : Int32))
            · exact fun q => own_byte_at (by simp [own_upi]) (own_unit_rng hc0 hc1 hlen (2 : Int32))
            · exact fun q => own_byte_at (by simp [own_upi]) (own_unit_rng hc0 hc1 hlen (3 : Int32))
          · refine own_go (g' := (mkF m 210 #[.val (.int p1), .val (.int p2), .val (.long q3), .second, .val (.int ai), .val (.int ti), .val (.ref b9), .val (.int cp), .val (.int len), .unset, .unset, .unset] [])) (fun _ k => XS.icmpYes X26.here hx rfl (pc0 := 191) (pc' := 210) rfl (hb hby at_191) rfl (XT.ii_le_t c3) (by decide) (by decide) k) ?_
            refine J _ _ _ _ X26 e26 N26 F26 ⟨?_, ?_, ?_, ?_⟩
            · exact own_byte_at (by simp [own_upi]) (own_unit_rng hc0 hc1 hlen (0 : Int32))
            · exact fun q => own_byte_at (by simp [own_upi]) (own_unit_rng hc0 hc1 hlen (1 : Int32))
            · exact fun q => own_byte_at (by simp [own_upi]) (own_unit_rng hc0 hc1 hlen (2 : Int32))
            · exact fun q => absurd q c3
        · refine own_go (g' := (mkF m 188 #[.val (.int p1), .val (.int p2), .val (.long q3), .second, .val (.int ai), .val (.int ti), .val (.ref b9), .val (.int cp), .val (.int len), .unset, .unset, .unset] [])) (fun _ k => XS.icmpYes X24.here hx rfl (pc0 := 169) (pc' := 188) rfl (hb hby at_169) rfl (XT.ii_le_t c2) (by decide) (by decide) k) ?_
          refine own_go (g' := (mkF m 190 #[.val (.int p1), .val (.int p2), .val (.long q3), .second, .val (.int ai), .val (.int ti), .val (.ref b9), .val (.int cp), .val (.int len), .unset, .unset, .unset] [(.int len)])) (fun _ k => XS.iload X24.here hx rfl (hb hby at_188) rfl k) ?_
          refine own_go (g' := (mkF m 191 #[.val (.int p1), .val (.int p2), .val (.long q3), .second, .val (.int ai), .val (.int ti), .val (.ref b9), .val (.int cp), .val (.int len), .unset, .unset, .unset] [(.int (3 : Int32)), (.int len)])) (fun _ k => XS.iconst X24.here hx rfl (hb hby at_190) k) ?_
          refine own_go (g' := (mkF m 210 #[.val (.int p1), .val (.int p2), .val (.long q3), .second, .val (.int ai), .val (.int ti), .val (.ref b9), .val (.int cp), .val (.int len), .unset, .unset, .unset] [])) (fun _ k => XS.icmpYes X24.here hx rfl (pc0 := 191) (pc' := 210) rfl (hb hby at_191) rfl (XT.ii_le_t (own_no2 (j := 2) (k := 3) (by decide) (by decide) c2)) (by decide) (by decide) k) ?_
          refine J _ _ _ _ X24 e24 N24 F24 ⟨?_, ?_, ?_, ?_⟩
          · exact own_byte_at (by simp [own_upi]) (own_unit_rng hc0 hc1 hlen (0 : Int32))
          · exact fun q => own_byte_at (by simp [own_upi]) (own_unit_rng hc0 hc1 hlen (1 : Int32))
          · exact fun q => absurd q c2
          · exact fun q => absurd q (own_no2 (j := 2) (k := 3) (by decide) (by decide) c2)
      · refine own_go (g' := (mkF m 166 #[.val (.int p1), .val (.int p2), .val (.long q3), .second, .val (.int ai), .val (.int ti), .val (.ref b9), .val (.int cp), .val (.int len), .unset, .unset, .unset] [])) (fun _ k => XS.icmpYes X22.here hx rfl (pc0 := 147) (pc' := 166) rfl (hb hby at_147) rfl (XT.ii_le_t c1) (by decide) (by decide) k) ?_
        refine own_go (g' := (mkF m 168 #[.val (.int p1), .val (.int p2), .val (.long q3), .second, .val (.int ai), .val (.int ti), .val (.ref b9), .val (.int cp), .val (.int len), .unset, .unset, .unset] [(.int len)])) (fun _ k => XS.iload X22.here hx rfl (hb hby at_166) rfl k) ?_
        refine own_go (g' := (mkF m 169 #[.val (.int p1), .val (.int p2), .val (.long q3), .second, .val (.int ai), .val (.int ti), .val (.ref b9), .val (.int cp), .val (.int len), .unset, .unset, .unset] [(.int (2 : Int32)), (.int len)])) (fun _ k => XS.iconst X22.here hx rfl (hb hby at_168) k) ?_
        refine own_go (g' := (mkF m 188 #[.val (.int p1), .val (.int p2), .val (.long q3), .second, .val (.int ai), .val (.int ti), .val (.ref b9), .val (.int cp), .val (.int len), .unset, .unset, .unset] [])) (fun _ k => XS.icmpYes X22.here hx rfl (pc0 := 169) (pc' := 188) rfl (hb hby at_169) rfl (XT.ii_le_t (own_no2 (j := 1) (k := 2) (by decide) (by decide) c1)) (by decide) (by decide) k) ?_
        refine own_go (g' := (mkF m 190 #[.val (.int p1), .val (.int p2), .val (.long q3), .second, .val (.int ai), .val (.int ti), .val (.ref b9), .val (.int cp), .val (.int len), .unset, .unset, .unset] [(.int len)])) (fun _ k => XS.iload X22.here hx rfl (hb hby at_188) rfl k) ?_
        refine own_go (g' := (mkF m 191 #[.val (.int p1), .val (.int p2), .val (.long q3), .second, .val (.int ai), .val (.int ti), .val (.ref b9), .val (.int cp), .val (.int len), .unset, .unset, .unset] [(.int (3 : Int32)), (.int len)])) (fun _ k => XS.iconst X22.here hx rfl (hb hby at_190) k) ?_
        refine own_go (g' := (mkF m 210 #[.val (.int p1), .val (.int p2), .val (.long q3), .second, .val (.int ai), .val (.int ti), .val (.ref b9), .val (.int cp), .val (.int len), .unset, .unset, .unset] [])) (fun _ k => XS.icmpYes X22.here hx rfl (pc0 := 191) (pc' := 210) rfl (hb hby at_191) rfl (XT.ii_le_t (own_no2 (j := 1) (k := 3) (by decide) (by decide) c1)) (by decide) (by decide) k) ?_
        refine J _ _ _ _ X22 e22 N22 F22 ⟨?_, ?_, ?_, ?_⟩
        · exact own_byte_at (by simp [own_upi]) (own_unit_rng hc0 hc1 hlen (0 : Int32))
        · exact fun q => absurd q c1
        · exact fun q => absurd q (own_no2 (j := 1) (k := 2) (by decide) (by decide) c1)
        · exact fun q => absurd q (own_no2 (j := 1) (k := 3) (by decide) (by decide) c1)
    intro T9 h9 lo9 f9 X9 e9 N9 F9 hu
    refine own_go (g' := (mkF m 212 #[.val (.int p1), .val (.int p2), .val (.long q3), .second, .val (.int ai), .val (.int ti), .val (.ref b9), .val (.int cp), .val (.int len), .unset, .unset, .unset] [(.ref b9)])) (fun _ k => XS.aload X9.here hx rfl (hb hby at_210) rfl rfl k) ?_
    refine own_go (g' := (mkF m 214 #[.val (.int p1), .val (.int p2), .val (.long q3), .second, .val (.int ai), .val (.int ti), .val (.ref b9), .val (.int cp), .val (.int len), .unset, .unset, .unset] [(.int ai), (.ref b9)])) (fun _ k => XS.iload X9.here hx rfl (hb hby at_212) rfl k) ?_
    refine own_go (g' := (mkF m 216 #[.val (.int p1), .val (.int p2), .val (.long q3), .second, .val (.int ai), .val (.int ti), .val (.ref b9), .val (.int cp), .val (.int len), .unset, .unset, .unset] [(.int ti), (.int ai), (.ref b9)])) (fun _ k => XS.iload X9.here hx rfl (hb hby at_214) rfl k) ?_
    refine own_callS X9 hx hZ hown e9 (y := (⟨"org/kusuridana/Utf8", "codePoint", "([BII)I"⟩ : MethodName)) (rm := ({ frames := 0, cells := 0, slots := 0, locals := 0 } : Room)) (hw _ (List.mem_of_getElem? (i := 10) rfl)) (hw _ (List.mem_of_getElem? (i := 11) rfl)) (hw _ (List.mem_of_getElem? (i := 12) rfl)) (hw _ (List.mem_of_getElem? (i := 13) rfl)) (by decide) (argsL := [(.ref b9), (.int ai), (.int ti)]) (rest := []) (own_rmCp l Z a0 hw [] b9 ai ti f9 A TO h9 n0 hA hTO hAT hT8 F9) (by rw [hml]; rfl) pd_3 rfl rfl (hb hby at_216) (W := 0) (Nat.le_of_eq rfl) (by decide) (by decide) (by decide) (by decide) ?_
    intro v29 T29 L29 X29 hQ29
    obtain ⟨hv29, e29, rfl⟩ := hQ29
    obtain ⟨r, hr⟩ : ∃ z : Int32, z = own_cp f9 A TO := ⟨_, rfl⟩
    rw [← hr] at hv29
    subst hv29
    rw [List.append_nil] at X29
    show own_Go p e below _ T29 (mkF m 219 #[.val (.int p1), .val (.int p2), .val (.long q3), .second, .val (.int ai), .val (.int ti), .val (.ref b9), .val (.int cp), .val (.int len), .unset, .unset, .unset] [(.int r)])
    have hL1 := own_L1 f9 A TO cp len NN hAT hlen hNN hc0 hc1 hu
    refine own_go (g' := (mkF m 221 #[.val (.int p1), .val (.int p2), .val (.long q3), .second, .val (.int ai), .val (.int ti), .val (.ref b9), .val (.int cp), .val (.int len), .val (.int r), .unset, .unset] [])) (fun _ k => XS.istore X29.here hx rfl (hb hby at_219) rfl (l' := #[.val (.int p1), .val (.int p2), .val (.long q3), .second, .val (.int ai), .val (.int ti), .val (.ref b9), .val (.int cp), .val (.int len), .val (.int r), .unset, .unset]) rfl k) ?_
    refine own_go (g' := (mkF m 223 #[.val (.int p1), .val (.int p2), .val (.long q3), .second, .val (.int ai), .val (.int ti), .val (.ref b9), .val (.int cp), .val (.int len), .val (.int r), .unset, .unset] [(.int cp)])) (fun _ k => XS.iload X29.here hx rfl (hb hby at_221) rfl k) ?_
    refine own_go (g' := (mkF m 225 #[.val (.int p1), .val (.int p2), .val (.long q3), .second, .val (.int ai), .val (.int ti), .val (.ref b9), .val (.int cp), .val (.int len), .val (.int r), .unset, .unset] [(.int (55296 : Int32)), (.int cp)])) (fun _ k => X29.ldcInt hx hown (mvT hZ (hw _ (List.mem_of_getElem? (i := 14) rfl))) (g := (mkF m 223 #[.val (.int p1), .val (.int p2), .val (.long q3), .second, .val (.int ai), .val (.int ti), .val (.ref b9), .val (.int cp), .val (.int len), .val (.int r), .unset, .unset] [(.int cp)])) rfl (hb hby at_223) _ k) ?_
    suffices J : ∀ b10 : Int32, (b10 = 0 ↔ (cp < 55296 ∨ 57343 < cp)) → own_Go p e below (own_Po s (own_Q0 n0) 16 128) T29 (mkF m 240 #[.val (.int p1), .val (.int p2), .val (.long q3), .second, .val (.int ai), .val (.int ti), .val (.ref b9), .val (.int cp), .val (.int len), .val (.int r), .unset, .unset] [(.int b10)]) by
      by_cases c1 : cp < (55296 : Int32)
      · refine own_go (g' := (mkF m 239 #[.val (.int p1), .val (.int p2), .val (.long q3), .second, .val (.int ai), .val (.int ti), .val (.ref b9), .val (.int cp), .val (.int len), .val (.int r), .unset, .unset] [])) (fun _ k => XS.icmpYes X29.here hx rfl (pc0 := 225) (pc' := 239) rfl (hb hby at_225) rfl (XT.ii_lt_t c1) (by decide) (by decide) k) ?_
        refine own_go (g' := (mkF m 240 #[.val (.int p1), .val (.int p2), .val (.long q3), .second, .val (.int ai), .val (.int ti), .val (.ref b9), .val (.int cp), .val (.int len), .val (.int r), .unset, .unset] [(.int (0 : Int32))])) (fun _ k => XS.iconst X29.here hx rfl (hb hby at_239) k) ?_
        exact J 0 (by simp [c1])
      · refine own_go (g' := (mkF m 228 #[.val (.int p1), .val (.int p2), .val (.long q3), .second, .val (.int ai), .val (.int ti), .val (.ref b9), .val (.int cp), .val (.int len), .val (.int r), .unset, .unset] [])) (fun _ k => XS.icmpNo X29.here hx rfl (hb hby at_225) rfl (XT.ii_lt_f c1) k) ?_
        refine own_go (g' := (mkF m 230 #[.val (.int p1), .val (.int p2), .val (.long q3), .second, .val (.int ai), .val (.int ti), .val (.ref b9), .val (.int cp), .val (.int len), .val (.int r), .unset, .unset] [(.int cp)])) (fun _ k => XS.iload X29.here hx rfl (hb hby at_228) rfl k) ?_
        refine own_go (g' := (mkF m 232 #[.val (.int p1), .val (.int p2), .val (.long q3), .second, .val (.int ai), .val (.int ti), .val (.ref b9), .val (.int cp), .val (.int len), .val (.int r), .unset, .unset] [(.int (57343 : Int32)), (.int cp)])) (fun _ k => X29.ldcInt hx hown (mvT hZ (hw _ (List.mem_of_getElem? (i := 24) rfl))) (g := (mkF m 230 #[.val (.int p1), .val (.int p2), .val (.long q3), .second, .val (.int ai), .val (.int ti), .val (.ref b9), .val (.int cp), .val (.int len), .val (.int r), .unset, .unset] [(.int cp)])) rfl (hb hby at_230) _ k) ?_
        by_cases c2 : (57343 : Int32) < cp
        · refine own_go (g' := (mkF m 239 #[.val (.int p1), .val (.int p2), .val (.long q3), .second, .val (.int ai), .val (.int ti), .val (.ref b9), .val (.int cp), .val (.int len), .val (.int r), .unset, .unset] [])) (fun _ k => XS.icmpYes X29.here hx rfl (pc0 := 232) (pc' := 239) rfl (hb hby at_232) rfl (XT.ii_gt_t c2) (by decide) (by decide) k) ?_
          refine own_go (g' := (mkF m 240 #[.val (.int p1), .val (.int p2), .val (.long q3), .second, .val (.int ai), .val (.int ti), .val (.ref b9), .val (.int cp), .val (.int len), .val (.int r), .unset, .unset] [(.int (0 : Int32))])) (fun _ k => XS.iconst X29.here hx rfl (hb hby at_239) k) ?_
          exact J 0 (by simp [c2])
        · refine own_go (g' := (mkF m 235 #[.val (.int p1), .val (.int p2), .val (.long q3), .second, .val (.int ai), .val (.int ti), .val (.ref b9), .val (.int cp), .val (.int len), .val (.int r), .unset, .unset] [])) (fun _ k => XS.icmpNo X29.here hx rfl (hb hby at_232) rfl (XT.ii_gt_f c2) k) ?_
          refine own_go (g' := (mkF m 236 #[.val (.int p1), .val (.int p2), .val (.long q3), .second, .val (.int ai), .val (.int ti), .val (.ref b9), .val (.int cp), .val (.int len), .val (.int r), .unset, .unset] [(.int (1 : Int32))])) (fun _ k => XS.iconst X29.here hx rfl (hb hby at_235) k) ?_
          refine own_go (g' := (mkF m 240 #[.val (.int p1), .val (.int p2), .val (.long q3), .second, .val (.int ai), .val (.int ti), .val (.ref b9), .val (.int cp), .val (.int len), .val (.int r), .unset, .unset] [(.int (1 : Int32))])) (fun _ k => XS.goto X29.here hx rfl (pc0 := 236) (pc' := 240) rfl (hb hby at_236) (by decide) (by decide) k) ?_
          exact J 1 (by simp [c1, c2])
    intro b10 hb10
    refine own_go (g' := (mkF m 242 #[.val (.int p1), .val (.int p2), .val (.long q3), .second, .val (.int ai), .val (.int ti), .val (.ref b9), .val (.int cp), .val (.int len), .val (.int r), .val (.int b10), .unset] [])) (fun _ k => XS.istore X29.here hx rfl (hb hby at_240) rfl (l' := #[.val (.int p1), .val (.int p2), .val (.long q3), .second, .val (.int ai), .val (.int ti), .val (.ref b9), .val (.int cp), .val (.int len), .val (.int r), .val (.int b10), .unset]) rfl k) ?_
    refine own_go (g' := (mkF m 244 #[.val (.int p1), .val (.int p2), .val (.long q3), .second, .val (.int ai), .val (.int ti), .val (.ref b9), .val (.int cp), .val (.int len), .val (.int r), .val (.int b10), .unset] [(.int ai)])) (fun _ k => XS.iload X29.here hx rfl (hb hby at_242) rfl k) ?_
    refine own_go (g' := (mkF m 246 #[.val (.int p1), .val (.int p2), .val (.long q3), .second, .val (.int ai), .val (.int ti), .val (.ref b9), .val (.int cp), .val (.int len), .val (.int r), .val (.int b10), .unset] [(.int len), (.int ai)])) (fun _ k => XS.iload X29.here hx rfl (hb hby at_244) rfl k) ?_
    refine own_go (g' := (mkF m 247 #[.val (.int p1), .val (.int p2), .val (.long q3), .second, .val (.int ai), .val (.int ti), .val (.ref b9), .val (.int cp), .val (.int len), .val (.int r), .val (.int b10), .unset] [(.int (ai + len))])) (fun _ k => XS.iadd X29.here hx rfl (hb hby at_246) rfl k) ?_
    refine own_go (g' := (mkF m 249 #[.val (.int p1), .val (.int p2), .val (.long q3), .second, .val (.int ai), .val (.int ti), .val (.ref b9), .val (.int cp), .val (.int len), .val (.int r), .val (.int b10), .unset] [(.int ti), (.int (ai + len))])) (fun _ k => XS.iload X29.here hx rfl (hb hby at_247) rfl k) ?_
    suffices J : ∀ z : Int32, z = r → own_Go p e below (own_Po s (own_Q0 n0) 16 128) T29 (mkF m 263 #[.val (.int p1), .val (.int p2), .val (.long q3), .second, .val (.int ai), .val (.int ti), .val (.ref b9), .val (.int cp), .val (.int len), .val (.int r), .val (.int b10), .unset] [(.int z)]) by
      by_cases c1 : ti < (ai + len)
      · refine own_go (g' := (mkF m 262 #[.val (.int p1), .val (.int p2), .val (.long q3), .second, .val (.int ai), .val (.int ti), .val (.ref b9), .val (.int cp), .val (.int len), .val (.int r), .val (.int b10), .unset] [])) (fun _ k => XS.icmpYes X29.here hx rfl (pc0 := 249) (pc' := 262) rfl (hb hby at_249) rfl (XT.ii_gt_t c1) (by decide) (by decide) k) ?_
        have hr1 : r = -1 := by rw [hr, hL1, if_neg (fun q => absurd ((own_cmp hA hNN hTO (by omega) (by omega)).mp c1) (by omega))]
        refine own_go (g' := (mkF m 263 #[.val (.int p1), .val (.int p2), .val (.long q3), .second, .val (.int ai), .val (.int ti), .val (.ref b9), .val (.int cp), .val (.int len), .val (.int r), .val (.int b10), .unset] [(.int (-1 : Int32))])) (fun _ k => XS.iconst X29.here hx rfl (hb hby at_262) k) ?_
        exact J _ hr1.symm
      · refine own_go (g' := (mkF m 252 #[.val (.int p1), .val (.int p2), .val (.long q3), .second, .val (.int ai), .val (.int ti), .val (.ref b9), .val (.int cp), .val (.int len), .val (.int r), .val (.int b10), .unset] [])) (fun _ k => XS.icmpNo X29.here hx rfl (hb hby at_249) rfl (XT.ii_gt_f c1) k) ?_
        have hT : ¬ TO < A + NN := fun q => c1 ((own_cmp hA hNN hTO (by omega) (by omega)).mpr q)
        refine own_go (g' := (mkF m 254 #[.val (.int p1), .val (.int p2), .val (.long q3), .second, .val (.int ai), .val (.int ti), .val (.ref b9), .val (.int cp), .val (.int len), .val (.int r), .val (.int b10), .unset] [(.int b10)])) (fun _ k => XS.iload X29.here hx rfl (hb hby at_252) rfl k) ?_
        by_cases c2 : b10 = 0
        · refine own_go (g' := (mkF m 257 #[.val (.int p1), .val (.int p2), .val (.long q3), .second, .val (.int ai), .val (.int ti), .val (.ref b9), .val (.int cp), .val (.int len), .val (.int r), .val (.int b10), .unset] [])) (fun _ k => XS.ifNo X29.here hx rfl (hb hby at_254) rfl (XT.i0_ne_f c2) k) ?_
          have hr1 : r = cp := by rw [hr, hL1, if_pos ⟨by omega, hb10.mp c2⟩]
          refine own_go (g' := (mkF m 259 #[.val (.int p1), .val (.int p2), .val (.long q3), .second, .val (.int ai), .val (.int ti), .val (.ref b9), .val (.int cp), .val (.int len), .val (.int r), .val (.int b10), .unset] [(.int cp)])) (fun _ k => XS.iload X29.here hx rfl (hb hby at_257) rfl k) ?_
          refine own_go (g' := (mkF m 263 #[.val (.int p1), .val (.int p2), .val (.long q3), .second, .val (.int ai), .val (.int ti), .val (.ref b9), .val (.int cp), .val (.int len), .val (.int r), .val (.int b10), .unset] [(.int cp)])) (fun _ k => XS.goto X29.here hx rfl (pc0 := 259) (pc' := 263) rfl (hb hby at_259) (by decide) (by decide) k) ?_
          exact J _ hr1.symm
        · refine own_go (g' := (mkF m 262 #[.val (.int p1), .val (.int p2), .val (.long q3), .second, .val (.int ai), .val (.int ti), .val (.ref b9), .val (.int cp), .val (.int len), .val (.int r), .val (.int b10), .unset] [])) (fun _ k => XS.ifYes X29.here hx rfl (pc0 := 254) (pc' := 262) rfl (hb hby at_254) rfl (XT.i0_ne_t c2) (by decide) (by decide) k) ?_
          have hr1 : r = -1 := by rw [hr, hL1, if_neg (fun q => c2 (hb10.mpr q.2))]
          refine own_go (g' := (mkF m 263 #[.val (.int p1), .val (.int p2), .val (.long q3), .second, .val (.int ai), .val (.int ti), .val (.ref b9), .val (.int cp), .val (.int len), .val (.int r), .val (.int b10), .unset] [(.int (-1 : Int32))])) (fun _ k => XS.iconst X29.here hx rfl (hb hby at_262) k) ?_
          exact J _ hr1.symm
    intro z hz
    refine own_go (g' := (mkF m 265 #[.val (.int p1), .val (.int p2), .val (.long q3), .second, .val (.int ai), .val (.int ti), .val (.ref b9), .val (.int cp), .val (.int len), .val (.int r), .val (.int b10), .val (.int z)] [])) (fun _ k => XS.istore X29.here hx rfl (hb hby at_263) rfl (l' := #[.val (.int p1), .val (.int p2), .val (.long q3), .second, .val (.int ai), .val (.int ti), .val (.ref b9), .val (.int cp), .val (.int len), .val (.int r), .val (.int b10), .val (.int z)]) rfl k) ?_
    refine own_go (g' := (mkF m 267 #[.val (.int p1), .val (.int p2), .val (.long q3), .second, .val (.int ai), .val (.int ti), .val (.ref b9), .val (.int cp), .val (.int len), .val (.int r), .val (.int b10), .val (.int z)] [(.int r)])) (fun _ k => XS.iload X29.here hx rfl (hb hby at_265) rfl k) ?_
    refine own_go (g' := (mkF m 269 #[.val (.int p1), .val (.int p2), .val (.long q3), .second, .val (.int ai), .val (.int ti), .val (.ref b9), .val (.int cp), .val (.int len), .val (.int r), .val (.int b10), .val (.int z)] [(.int z), (.int r)])) (fun _ k => XS.iload X29.here hx rfl (hb hby at_267) rfl k) ?_
    refine own_go (g' := (mkF m 272 #[.val (.int p1), .val (.int p2), .val (.long q3), .second, .val (.int ai), .val (.int ti), .val (.ref b9), .val (.int cp), .val (.int len), .val (.int r), .val (.int b10), .val (.int z)] [])) (fun _ k => XS.icmpNo X29.here hx rfl (hb hby at_269) rfl (XT.ii_ne_f hz.symm) k) ?_
    refine own_go (g' := (mkF m 273 #[.val (.int p1), .val (.int p2), .val (.long q3), .second, .val (.int ai), .val (.int ti), .val (.ref b9), .val (.int cp), .val (.int len), .val (.int r), .val (.int b10), .val (.int z)] [(.int (1 : Int32))])) (fun _ k => XS.iconst X29.here hx rfl (hb hby at_272) k) ?_
    refine own_go (g' := (mkF m 277 #[.val (.int p1), .val (.int p2), .val (.long q3), .second, .val (.int ai), .val (.int ti), .val (.ref b9), .val (.int cp), .val (.int len), .val (.int r), .val (.int b10), .val (.int z)] [(.int (1 : Int32))])) (fun _ k => XS.goto X29.here hx rfl (pc0 := 273) (pc' := 277) rfl (hb hby at_273) (by decide) (by decide) k) ?_
    exact own_retZ X29 hx hlk hret e29 (hb hby at_277) ⟨rfl, N9⟩ (by decide) (by decide)
  · refine own_go (g' := (mkF m 278 #[.val (.int p1), .val (.int p2), .val (.long q3), .second, .val (.int ai), .val (.int ti), .val (.ref b9), .unset, .unset, .unset, .unset, .unset] [])) (fun _ k => XS.ifYes X17.here hx rfl (pc0 := 111) (pc' := 278) rfl (hb hby at_111) rfl (XT.i0_ne_t csh) (by decide) (by decide) k) ?_
    refine own_go (g' := (mkF m 280 #[.val (.int p1), .val (.int p2), .val (.long q3), .second, .val (.int ai), .val (.int ti), .val (.ref b9), .unset, .unset, .unset, .unset, .unset] [(.ref b9)])) (fun _ k => XS.aload X17.here hx rfl (hb hby at_278) rfl rfl k) ?_
    refine own_go (g' := (mkF m 282 #[.val (.int p1), .val (.int p2), .val (.long q3), .second, .val (.int ai), .val (.int ti), .val (.ref b9), .unset, .unset, .unset, .unset, .unset] [(.int ai), (.ref b9)])) (fun _ k => XS.iload X17.here hx rfl (hb hby at_280) rfl k) ?_
    refine own_go (g' := (mkF m 284 #[.val (.int p1), .val (.int p2), .val (.long q3), .second, .val (.int ai), .val (.int ti), .val (.ref b9), .unset, .unset, .unset, .unset, .unset] [(.int ti), (.int ai), (.ref b9)])) (fun _ k => XS.iload X17.here hx rfl (hb hby at_282) rfl k) ?_
    refine own_callS X17 hx hZ hown e17 (y := (⟨"org/kusuridana/Utf8", "codePoint", "([BII)I"⟩ : MethodName)) (rm := ({ frames := 0, cells := 0, slots := 0, locals := 0 } : Room)) (hw _ (List.mem_of_getElem? (i := 10) rfl)) (hw _ (List.mem_of_getElem? (i := 11) rfl)) (hw _ (List.mem_of_getElem? (i := 12) rfl)) (hw _ (List.mem_of_getElem? (i := 13) rfl)) (by decide) (argsL := [(.ref b9), (.int ai), (.int ti)]) (rest := []) (own_rmCp l Z a0 hw [] b9 ai ti f0 A TO h17 n0 hA hTO hAT hT8 F0) (by rw [hml]; rfl) pd_3 rfl rfl (hb hby at_284) (W := 0) (Nat.le_of_eq rfl) (by decide) (by decide) (by decide) (by decide) ?_
    intro v18 T18 L18 X18 hQ18
    obtain ⟨hv18, e18, rfl⟩ := hQ18
    obtain ⟨r, hr⟩ : ∃ z : Int32, z = own_cp f0 A TO := ⟨_, rfl⟩
    rw [← hr] at hv18
    subst hv18
    rw [List.append_nil] at X18
    show own_Go p e below _ T18 (mkF m 287 #[.val (.int p1), .val (.int p2), .val (.long q3), .second, .val (.int ai), .val (.int ti), .val (.ref b9), .unset, .unset, .unset, .unset, .unset] [(.int r)])
    refine own_go (g' := (mkF m 289 #[.val (.int p1), .val (.int p2), .val (.long q3), .second, .val (.int ai), .val (.int ti), .val (.ref b9), .val (.int r), .unset, .unset, .unset, .unset] [])) (fun _ k => XS.istore X18.here hx rfl (hb hby at_287) rfl (l' := #[.val (.int p1), .val (.int p2), .val (.long q3), .second, .val (.int ai), .val (.int ti), .val (.ref b9), .val (.int r), .unset, .unset, .unset, .unset]) rfl k) ?_
    refine own_go (g' := (mkF m 291 #[.val (.int p1), .val (.int p2), .val (.long q3), .second, .val (.int ai), .val (.int ti), .val (.ref b9), .val (.int r), .unset, .unset, .unset, .unset] [(.int r)])) (fun _ k => XS.iload X18.here hx rfl (hb hby at_289) rfl k) ?_
    refine own_go (g' := (mkF m 292 #[.val (.int p1), .val (.int p2), .val (.long q3), .second, .val (.int ai), .val (.int ti), .val (.ref b9), .val (.int r), .unset, .unset, .unset, .unset] [(.int (-1 : Int32)), (.int r)])) (fun _ k => XS.iconst X18.here hx rfl (hb hby at_291) k) ?_
    by_cases cr : r = (-1 : Int32)
    · refine own_go (g' := (mkF m 309 #[.val (.int p1), .val (.int p2), .val (.long q3), .second, .val (.int ai), .val (.int ti), .val (.ref b9), .val (.int r), .unset, .unset, .unset, .unset] [])) (fun _ k => XS.icmpYes X18.here hx rfl (pc0 := 292) (pc' := 309) rfl (hb hby at_292) rfl (XT.ii_eq_t cr) (by decide) (by decide) k) ?_
      refine own_go (g' := (mkF m 310 #[.val (.int p1), .val (.int p2), .val (.long q3), .second, .val (.int ai), .val (.int ti), .val (.ref b9), .val (.int r), .unset, .unset, .unset, .unset] [(.int (1 : Int32))])) (fun _ k => XS.iconst X18.here hx rfl (hb hby at_309) k) ?_
      refine own_go (g' := (mkF m 314 #[.val (.int p1), .val (.int p2), .val (.long q3), .second, .val (.int ai), .val (.int ti), .val (.ref b9), .val (.int r), .unset, .unset, .unset, .unset] [(.int (1 : Int32))])) (fun _ k => XS.goto X18.here hx rfl (pc0 := 310) (pc' := 314) rfl (hb hby at_310) (by decide) (by decide) k) ?_
      exact own_retZ X18 hx hlk hret e18 (hb hby at_314) ⟨rfl, N17⟩ (by decide) (by decide)
    · refine own_go (g' := (mkF m 295 #[.val (.int p1), .val (.int p2), .val (.long q3), .second, .val (.int ai), .val (.int ti), .val (.ref b9), .val (.int r), .unset, .unset, .unset, .unset] [])) (fun _ k => XS.icmpNo X18.here hx rfl (hb hby at_292) rfl (XT.ii_eq_f cr) k) ?_
      obtain ⟨N, hr0, hr1, hsu, hN, hN4, hfit, hu⟩ := own_L2 f0 A TO r hAT hr cr
      refine own_go (g' := (mkF m 297 #[.val (.int p1), .val (.int p2), .val (.long q3), .second, .val (.int ai), .val (.int ti), .val (.ref b9), .val (.int r), .unset, .unset, .unset, .unset] [(.ref b9)])) (fun _ k => XS.aload X18.here hx rfl (hb hby at_295) rfl rfl k) ?_
      refine own_go (g' := (mkF m 299 #[.val (.int p1), .val (.int p2), .val (.long q3), .second, .val (.int ai), .val (.int ti), .val (.ref b9), .val (.int r), .unset, .unset, .unset, .unset] [(.int ai), (.ref b9)])) (fun _ k => XS.iload X18.here hx rfl (hb hby at_297) rfl k) ?_
      refine own_go (g' := (mkF m 301 #[.val (.int p1), .val (.int p2), .val (.long q3), .second, .val (.int ai), .val (.int ti), .val (.ref b9), .val (.int r), .unset, .unset, .unset, .unset] [(.int ti), (.int ai), (.ref b9)])) (fun _ k => XS.iload X18.here hx rfl (hb hby at_299) rfl k) ?_
      refine own_go (g' := (mkF m 303 #[.val (.int p1), .val (.int p2), .val (.long q3), .second, .val (.int ai), .val (.int ti), .val (.ref b9), .val (.int r), .unset, .unset, .unset, .unset] [(.int r), (.int ti), (.int ai), (.ref b9)])) (fun _ k => XS.iload X18.here hx rfl (hb hby at_301) rfl k) ?_
      refine own_callS X18 hx hZ hown e18 (y := (⟨"org/kusuridana/Utf8CodePointPinLaw", "matches", "([BIII)Z"⟩ : MethodName)) (rm := ({ frames := 1, cells := 0, slots := 0, locals := 20 } : Room)) (hw _ (List.mem_of_getElem? (i := 15) rfl)) (hw _ (List.mem_of_getElem? (i := 16) rfl)) (hw _ (List.mem_of_getElem? (i := 5) rfl)) (hw _ (List.mem_of_getElem? (i := 17) rfl)) (by decide) (argsL := [(.ref b9), (.int ai), (.int ti), (.int r)]) (rest := []) (own_rmM l Z a0 hw [] b9 ai ti r f0 A TO N h17 n0 hA hTO hAT hT8 F0 hr0 hr1 hsu hN hN4 hfit hu) (by rw [hml]; rfl) pd_4 rfl rfl (hb hby at_303) (W := 0) (Nat.le_of_eq rfl) (by decide) (by decide) (by decide) (by decide) ?_
      intro v19 T19 L19 X19 hQ19
      obtain ⟨rfl, e19, rfl⟩ := hQ19
      rw [List.append_nil] at X19
      show own_Go p e below _ T19 (mkF m 306 #[.val (.int p1), .val (.int p2), .val (.long q3), .second, .val (.int ai), .val (.int ti), .val (.ref b9), .val (.int r), .unset, .unset, .unset, .unset] [(.int 1)])
      refine own_go (g' := (mkF m 309 #[.val (.int p1), .val (.int p2), .val (.long q3), .second, .val (.int ai), .val (.int ti), .val (.ref b9), .val (.int r), .unset, .unset, .unset, .unset] [])) (fun _ k => XS.ifNo X19.here hx rfl (hb hby at_306) rfl (XT.i0_eq_f (by decide)) k) ?_
      refine own_go (g' := (mkF m 310 #[.val (.int p1), .val (.int p2), .val (.long q3), .second, .val (.int ai), .val (.int ti), .val (.ref b9), .val (.int r), .unset, .unset, .unset, .unset] [(.int (1 : Int32))])) (fun _ k => XS.iconst X19.here hx rfl (hb hby at_309) k) ?_
      refine own_go (g' := (mkF m 314 #[.val (.int p1), .val (.int p2), .val (.long q3), .second, .val (.int ai), .val (.int ti), .val (.ref b9), .val (.int r), .unset, .unset, .unset, .unset] [(.int (1 : Int32))])) (fun _ k => XS.goto X19.here hx rfl (pc0 := 310) (pc' := 314) rfl (hb hby at_310) (by decide) (by decide) k) ?_
      exact own_retZ X19 hx hlk hret e19 (hb hby at_314) ⟨rfl, N17⟩ (by decide) (by decide)
set_option maxRecDepth 65536 in
set_option maxHeartbeats 40000000 in
theorem comes_1 {Post : Tables → Env → Array Value → State → Outcome → State → Prop} (hpost : ∀ tb e args s v u, (limb_1_1.after args s (.returned v) u = true ∧ limb_1_2.after args s (.returned v) u = true ∧ True) → FrameEnd s (.returned v) u (Jvm.fieldLocs frame_1_writes args s ++ Jvm.arrayLocs frame_1_arrays args s ++ Jvm.staticLocs frame_1_statics s) 16 128 → Post tb e args s (.returned v) u) :
    ArmFor flags0 classFile x code maxLocals ret World_1 tables_1 room_1 Calls_1 rest_1 Pre_1 Post := by
  intro l hfl _ _ p e ha hc hk s m args below hf hA hF happ hP
  obtain ⟨hcalls, hrest, hpre⟩ := hP
  obtain ⟨-, -, -, hnamed, -, -, -, hat⟩ := (Spec.applies_iff hf).mp happ
  obtain ⟨hg, hn⟩ := and_e (Cond.before_iff.mp (show (Jvm.Cond.and given_1 narrow_1).before args s = true from hpre))
  obtain ⟨h1, g0⟩ := and_e hg
  obtain ⟨k0, g1⟩ := and_e g0
  obtain ⟨k1, g2⟩ := and_e g1
  have k2 := g2
  obtain ⟨w0, w1, w2, rfl⟩ : ∃ w0 w1 w2 : Value, args = #[w0, w1, w2] := by
    have hs : args.size = 3 := by simpa [Cond.value, given_1] using h1
    obtain ⟨L⟩ := args
    match L, hs with
    | [w0, w1, w2], _ => exact ⟨w0, w1, w2, rfl⟩
  have hw := fun d (hd : d ∈ tables_1) => atoms_spec (ws := Jvm.Cond.code x code maxLocals ret :: tables_1) hat d (List.mem_cons_of_mem _ hd)
  obtain ⟨i0, e0⟩ := is_v k0
  obtain rfl : w0 = (.int i0) := Option.some.inj e0
  obtain ⟨i1, e1⟩ := is_v k1
  obtain rfl : w1 = (.int i1) := Option.some.inj e1
  obtain ⟨i2, e2⟩ := isL_v k2
  obtain rfl : w2 = (.long i2) := Option.some.inj e2
  obtain ⟨n, o, h1, h2, h3, _, L, rfl, ⟨rfl, N⟩, hq⟩ := own_rm0 l s _ hw tables_1 i0 i1 i2 s.heap s.heap.size (Nat.le_refl _)  p e ha hc hk s m _ below hf ((Spec.applies_iff_loose hf).mp happ).1 ⟨rfl, State.Warmed39.refl s, rfl⟩ trivial
  refine ⟨n, _, h1, h2, h3, hpost _ _ _ _ _ _ ⟨Cond.after_iff.mpr rfl, Cond.after_iff.mpr (eq_i res_at (Term.int_eval (1)) rfl), trivial⟩ ⟨hq.1, hq.2.1, (hq.2.2.sift fun y hy => Or.inr (N y hy)).mono (by decide) (by decide)⟩⟩
theorem main_1_1 : Claimed_1_1 := comes_1 fun _ _ _ _ _ _ h hF => ⟨h.1, hF⟩
theorem main_1_2 : Claimed_1_2 := comes_1 fun _ _ _ _ _ _ h hF => ⟨h.2.1, hF⟩
end Jvm.Pilot.@@N@@
namespace Jvm.Pilot.@@N@@
open Jvm Jvm.ClassFile Sem Op Lib Jvm.Free Jvm.Stand Jvm.Pilot.@@N@@.Jvm.D
/-! MADE BY PROGRAM (witnessworld.py) out of the Statement's table words and the real class files: 9 classes; the members and pool entries that the words name. The judged class is class 1, her method 4. -/
namespace start1
open Jvm.ClassFile
def u (s : String) : CpInfo := .utf8 (stringToUtf16 s)
/-- a pool by its gaps: so many unusable entries, then the entry; so many at the end -/
def gap : Nat → List CpInfo → List CpInfo
  | 0, r => r
  | n + 1, r => .unusable :: gap n r
def poolList (es : List (Nat × CpInfo)) (last : Nat) : List CpInfo := es.foldr (fun e r => gap e.1 (e.2 :: r)) (gap last [])
def pool (es : List (Nat × CpInfo)) (last : Nat) : Array CpInfo := ⟨poolList es last⟩
def fileOf (pool : Array CpInfo) (this : Nat) (attrs : Array Attribute := #[]) (ms : Array MethodInfo := #[]) (fl : Nat := 33) (sup : Nat := 0) (ifs : Array Nat := #[]) (fds : Array FieldInfo := #[]) : ClassFile where
  minorVersion := 0
  majorVersion := 65
  constantPool := pool
  accessFlags := fl
  thisClass := this
  superClass := sup
  interfaces := ifs
  fields := fds
  methods := ms
  attributes := attrs
def plain (name : String) (sup : Option ClassId) : Class where
  name := name
  kind := .ordinary
  loader := none
  accessFlags := 33
  super := sup
  interfaces := #[]
  cf := none
  fields := #[]
  methods := #[]
  instanceTypes := #[]
  staticTypes := #[]
  resolved := #[]
  callSites := []
  init := .initialized
  statics := none
  mirror := none

def pool0 : Array CpInfo := pool [(5, u "<init>"), (0, u "()V"), (1, .class_ 10), (1, u "java/lang/Object")] 113

def k0m0 : Method := { name := "<init>", desc := "()V", sig := { parameters := [], returnType := none }, accessFlags := 1, code := none }
/-- java/lang/Object -/
def k0 : Class := { plain "java/lang/Object" none with
  accessFlags := 33
  interfaces := #[]
  cf := some (fileOf pool0 8 #[] #[{ accessFlags := 1, nameIndex := 5, descriptorIndex := 6, attributes := #[] }] 33 0 #[] #[])
  fields := #[]
  methods := #[k0m0]
  instanceTypes := #[]
  staticTypes := #[]
  resolved := Array.replicate 124 none
  statics := none }

def pool1 : Array CpInfo := pool [(2, .class_ 4), (1, u "java/lang/Object"), (0, u "<init>"), (0, u "()V"), (0, .integer 65536), (0, .integer 1114111), (0, .integer 55296), (0, .integer 57343), (0, .methodref 12 13), (0, .class_ 14), (0, .nameAndType 15 16), (0, u "org/kusuridana/Utf8CodePointPinLaw"), (0, u "len"), (0, u "(I)I"), (0, .methodref 12 18), (0, .nameAndType 19 20), (0, u "unit"), (0, u "(III)I"), (0, .integer 2147483647), (0, .integer 1114112), (0, .methodref 24 25), (0, .class_ 26), (0, .nameAndType 27 28), (0, u "org/kusuridana/Utf8"), (0, u "codePoint"), (0, u "([BII)I"), (0, .methodref 12 30), (0, .nameAndType 31 32), (0, u "matches"), (0, u "([BIII)Z"), (3, u "law"), (0, u "(IIJ)Z")] 4

def k1m0 : Method := { name := "<init>", desc := "()V", sig := { parameters := [], returnType := none }, accessFlags := 2, code := none }
def k1c1 : Code := { maxStack := 2, maxLocals := 1, code := method_2_code, exceptionTable := #[], attributes := #[] }
def k1m1 : Method := { name := "len", desc := "(I)I", sig := { parameters := [.int], returnType := some .int }, accessFlags := 10, code := some k1c1 }
def k1c2 : Code := { maxStack := 5, maxLocals := 3, code := method_3_code, exceptionTable := #[], attributes := #[] }
def k1m2 : Method := { name := "unit", desc := "(III)I", sig := { parameters := [.int, .int, .int], returnType := some .int }, accessFlags := 10, code := some k1c2 }
def k1c3 : Code := { maxStack := 4, maxLocals := 5, code := method_4_code, exceptionTable := #[], attributes := #[] }
def k1m3 : Method := { name := "matches", desc := "([BIII)Z", sig := { parameters := [(.array .byte), .int, .int, .int], returnType := some .boolean }, accessFlags := 10, code := some k1c3 }
def k1c4 : Code := { maxStack := 5, maxLocals := 12, code := code, exceptionTable := #[], attributes := #[] }
def k1m4 : Method := { name := "law", desc := "(IIJ)Z", sig := { parameters := [.int, .int, .long], returnType := some .boolean }, accessFlags := 9, code := some k1c4 }
/-- org/kusuridana/Utf8CodePointPinLaw -/
def k1 : Class := { plain "org/kusuridana/Utf8CodePointPinLaw" (some 0) with
  accessFlags := 49
  interfaces := #[]
  cf := some (fileOf pool1 12 #[] #[{ accessFlags := 2, nameIndex := 5, descriptorIndex := 6, attributes := #[] }, { accessFlags := 10, nameIndex := 15, descriptorIndex := 16, attributes := #[] }, { accessFlags := 10, nameIndex := 19, descriptorIndex := 20, attributes := #[] }, { accessFlags := 10, nameIndex := 31, descriptorIndex := 32, attributes := #[] }, { accessFlags := 9, nameIndex := 36, descriptorIndex := 37, attributes := #[] }] 49 2 #[] #[])
  fields := #[]
  methods := #[k1m0, k1m1, k1m2, k1m3, k1m4]
  instanceTypes := #[]
  staticTypes := #[]
  resolved := Array.replicate 42 none
  statics := none }

def pool2 : Array CpInfo := pool [(2, .class_ 4), (1, u "java/lang/Object"), (0, u "<init>"), (0, u "()V"), (0, .integer 65536), (2, .integer 55296), (0, .integer 57343), (0, .integer 1114111), (18, .class_ 33), (1, u "org/kusuridana/Utf8"), (3, u "codePoint"), (0, u "([BII)I")] 4

def k2m0 : Method := { name := "<init>", desc := "()V", sig := { parameters := [], returnType := none }, accessFlags := 2, code := none }
def k2c1 : Code := { maxStack := 3, maxLocals := 10, code := prog_164_method_2_code, exceptionTable := #[], attributes := #[] }
def k2m1 : Method := { name := "codePoint", desc := "([BII)I", sig := { parameters := [(.array .byte), .int, .int], returnType := some .int }, accessFlags := 8, code := some k2c1 }
/-- org/kusuridana/Utf8 -/
def k2 : Class := { plain "org/kusuridana/Utf8" (some 0) with
  accessFlags := 48
  interfaces := #[]
  cf := some (fileOf pool2 31 #[] #[{ accessFlags := 2, nameIndex := 5, descriptorIndex := 6, attributes := #[] }, { accessFlags := 8, nameIndex := 37, descriptorIndex := 38, attributes := #[] }] 48 2 #[] #[])
  fields := #[]
  methods := #[k2m0, k2m1]
  instanceTypes := #[]
  staticTypes := #[]
  resolved := Array.replicate 43 none
  statics := none }

def pool3 : Array CpInfo := pool [(1, u "java/lang/Cloneable"), (0, .class_ 1), (0, u "java/lang/Object"), (0, .class_ 3)] 3

/-- java/lang/Cloneable -/
def k3 : Class := { plain "java/lang/Cloneable" (some 0) with
  accessFlags := 1537
  interfaces := #[]
  cf := some (fileOf pool3 2 #[] #[] 1537 4 #[] #[])
  fields := #[]
  methods := #[]
  instanceTypes := #[]
  staticTypes := #[]
  resolved := Array.replicate 8 none
  statics := none }

def pool4 : Array CpInfo := pool [(1, u "java/io/Serializable"), (0, .class_ 1), (0, u "java/lang/Object"), (0, .class_ 3)] 3

/-- java/io/Serializable -/
def k4 : Class := { plain "java/io/Serializable" (some 0) with
  accessFlags := 1537
  interfaces := #[]
  cf := some (fileOf pool4 2 #[] #[] 1537 4 #[] #[])
  fields := #[]
  methods := #[]
  instanceTypes := #[]
  staticTypes := #[]
  resolved := Array.replicate 8 none
  statics := none }

/-- the primitive byte -/
def k5 : Class := { plain "byte" none with kind := .primitive 'B', accessFlags := 0x411 }
/-- [B -/
def k6 : Class := { plain "[B" (some 0) with kind := .array 5 .byte, interfaces := #[3, 4], accessFlags := 1041 }

/-- the primitive int -/
def k7 : Class := { plain "int" none with kind := .primitive 'I', accessFlags := 0x411 }
/-- [I -/
def k8 : Class := { plain "[I" (some 0) with kind := .array 7 .int, interfaces := #[3, 4], accessFlags := 1041 }

def heap : Heap := #[]
def classes : Array Class := #[k0, k1, k2, k3, k4, k5, k6, k7, k8]
def interned : List (Array UInt16 × Addr) := []
def slotsUsed : Nat := 0
def theMethod : MethodId := ⟨1, 4⟩
def args0 : Array Value := #[.int 12, .int 65, .long 5]
def aboutOver (below : List Frame) : State where
  vm := { classes := classes, interned := interned.toArray }
  heap := heap
  slotsUsed := slotsUsed
  threads := #[{ frames := .invoking theMethod args0 :: below }]
def below0 : List Frame := [.native { method := ⟨0, 0⟩, args := #[] }]
def about1 : State := aboutOver below0
def p0 : Program := .bare "" "" ""
def e0 : Env := launch0.env 0 0 0
theorem w_frames : about1.frames = Frame.invoking theMethod args0 :: below0 := rfl
set_option maxRecDepth 65536 in
theorem w_args : argsFit about1.vm theMethod args0 = true := by decide +kernel
set_option maxRecDepth 65536 in
theorem w_heap : heapFits about1 = true := by decide +kernel
set_option maxRecDepth 65536 in
theorem w_runnable : about1.curStatus? = some .runnable := by decide +kernel
set_option maxRecDepth 65536 in
theorem w_alone : about1.alone = true := by decide +kernel
set_option maxRecDepth 65536 in
theorem w_named : about1.methodNamed? x = some theMethod := by decide +kernel
set_option maxRecDepth 65536 in
theorem w_hears : about1.hears theMethod below0 = true := by decide +kernel
set_option maxRecDepth 65536 in
theorem w_ripe : about1.ripe theMethod args0 below0 = true := by decide +kernel
theorem w_running : about1.status = .running := rfl
set_option maxRecDepth 65536 in
theorem w_room : about1.hasRoom e0.platform room_1 = true :=
  launch0.hasRoom_least _ room_1 (by decide +kernel) (by decide +kernel) (by decide +kernel) (by decide +kernel) (by decide +kernel) (by decide +kernel)
theorem allAtoms_all (ts : List Jvm.Cond) (a : Array Jvm.Value) (st : Jvm.State) : (allAtoms ts).before a st = ts.all (fun c => c.before a st) := by
  induction ts with
  | nil => rfl
  | cons c t ih =>
    show (Jvm.Cond.and c (allAtoms t)).before a st = _
    rw [Jvm.Cond.before_and, ih, List.all_cons]
def words1 : List Jvm.Cond := Jvm.Cond.code x code maxLocals ret :: tables_1
/-- a 'code' word, met by the world's own term for the bytes: nothing is compared byte by byte -/
theorem code_word {y : MethodName} {bytes : ByteArray} {mx : Nat} {rt : Option FieldType} {a : Array Value} {s : State} {m : MethodId} {meth : Method} {c : Code} (h1 : s.methodNamed? y = some m) (h2 : s.vm.method? m = some meth) (h3 : meth.code = some c) (h4 : c.code = bytes)
    (h5 : (c.maxLocals == mx && c.exceptionTable.isEmpty && decide (c.maxStack ≤ mostOperands) && decide (meth.sig.returnType = rt) && !meth.locks && decide (parseMethodDescriptor y.desc = some meth.sig)) = true) : (Jvm.Cond.code y bytes mx rt).before a s = true := by
  simp only [Bool.and_eq_true, beq_iff_eq, Bool.not_eq_true', decide_eq_true_eq] at h5
  obtain ⟨⟨⟨⟨⟨g1, g2⟩, g3⟩, g4⟩, g5⟩, g6⟩ := h5
  simp [Cond.before, Cond.holds, Cond.value, h1, h2, h3, h4, g1, g2, g3, g4, g5, g6]
def isCode : Jvm.Cond → Bool
  | .code _ _ _ _ => true
  | _ => false
theorem all_split {L : List Jvm.Cond} {P : Jvm.Cond → Bool} (h1 : L.all (fun c => isCode c || P c) = true) (h2 : ∀ c ∈ L.filter isCode, P c = true) : L.all P = true := by
  refine List.all_eq_true.mpr fun c hc => ?_
  have h := List.all_eq_true.mp h1 c hc
  rcases Bool.eq_false_or_eq_true (isCode c) with hi | hi
  · exact h2 c (List.mem_filter.mpr ⟨hc, hi⟩)
  · simpa [hi] using h
set_option maxRecDepth 65536 in
theorem w_c0 : (Jvm.Cond.code x code maxLocals ret).before args0 about1 = true := code_word (m := ⟨1, 4⟩) (meth := k1m4) (c := k1c4) (by decide +kernel) rfl rfl rfl (by decide +kernel)
set_option maxRecDepth 65536 in
theorem w_c1 : (Jvm.Cond.code ({ cls := "org/kusuridana/Utf8CodePointPinLaw", name := "len", desc := "(I)I" } : Jvm.MethodName) method_2_code (1 : Nat) (Option.some Jvm.ClassFile.FieldType.int)).before args0 about1 = true := code_word (m := ⟨1, 1⟩) (meth := k1m1) (c := k1c1) (by decide +kernel) rfl rfl rfl (by decide +kernel)
set_option maxRecDepth 65536 in
theorem w_c2 : (Jvm.Cond.code ({ cls := "org/kusuridana/Utf8CodePointPinLaw", name := "unit", desc := "(III)I" } : Jvm.MethodName) method_3_code (3 : Nat) (Option.some Jvm.ClassFile.FieldType.int)).before args0 about1 = true := code_word (m := ⟨1, 2⟩) (meth := k1m2) (c := k1c2) (by decide +kernel) rfl rfl rfl (by decide +kernel)
set_option maxRecDepth 65536 in
theorem w_c3 : (Jvm.Cond.code ({ cls := "org/kusuridana/Utf8", name := "codePoint", desc := "([BII)I" } : Jvm.MethodName) prog_164_method_2_code (10 : Nat) (Option.some Jvm.ClassFile.FieldType.int)).before args0 about1 = true := code_word (m := ⟨2, 1⟩) (meth := k2m1) (c := k2c1) (by decide +kernel) rfl rfl rfl (by decide +kernel)
set_option maxRecDepth 65536 in
theorem w_c4 : (Jvm.Cond.code ({ cls := "org/kusuridana/Utf8CodePointPinLaw", name := "matches", desc := "([BIII)Z" } : Jvm.MethodName) method_4_code (5 : Nat) (Option.some Jvm.ClassFile.FieldType.boolean)).before args0 about1 = true := code_word (m := ⟨1, 3⟩) (meth := k1m3) (c := k1c3) (by decide +kernel) rfl rfl rfl (by decide +kernel)
def codes1 : List Jvm.Cond := [Jvm.Cond.code x code maxLocals ret, Jvm.Cond.code ({ cls := "org/kusuridana/Utf8CodePointPinLaw", name := "len", desc := "(I)I" } : Jvm.MethodName) method_2_code (1 : Nat) (Option.some Jvm.ClassFile.FieldType.int), Jvm.Cond.code ({ cls := "org/kusuridana/Utf8CodePointPinLaw", name := "unit", desc := "(III)I" } : Jvm.MethodName) method_3_code (3 : Nat) (Option.some Jvm.ClassFile.FieldType.int), Jvm.Cond.code ({ cls := "org/kusuridana/Utf8", name := "codePoint", desc := "([BII)I" } : Jvm.MethodName) prog_164_method_2_code (10 : Nat) (Option.some Jvm.ClassFile.FieldType.int), Jvm.Cond.code ({ cls := "org/kusuridana/Utf8CodePointPinLaw", name := "matches", desc := "([BIII)Z" } : Jvm.MethodName) method_4_code (5 : Nat) (Option.some Jvm.ClassFile.FieldType.boolean)]
set_option maxRecDepth 65536 in
theorem codes_eq : words1.filter isCode = codes1 := rfl
theorem w_codes : ∀ c ∈ words1.filter isCode, c.before args0 about1 = true := by
  rw [codes_eq]
  intro c hc
  simp only [codes1, List.mem_cons, List.not_mem_nil, or_false] at hc
  rcases hc with rfl | rfl | rfl | rfl | rfl
  · exact w_c0
  · exact w_c1
  · exact w_c2
  · exact w_c3
  · exact w_c4
set_option maxRecDepth 65536 in
theorem w_t1 : (words1.take 24).all (fun c => isCode c || c.before args0 about1) = true := by decide +kernel
set_option maxRecDepth 65536 in
theorem w_t2 : (words1.drop 24).all (fun c => isCode c || c.before args0 about1) = true := by decide +kernel
theorem w_tables : (allAtoms (Jvm.Cond.code x code maxLocals ret :: tables_1)).before args0 about1 = true := by
  rw [allAtoms_all]
  show words1.all (fun c => c.before args0 about1) = true
  refine all_split ?_ w_codes
  rw [← List.take_append_drop 24 words1, List.all_append, w_t1, w_t2]
  rfl
set_option maxRecDepth 65536 in
theorem w_case : (Jvm.Cond.and given_1 narrow_1).before args0 about1 = true := by decide +kernel
theorem w_applies : (headSpec (Jvm.Cond.code x code maxLocals ret :: tables_1) room_1).applies x e0.platform about1 = true :=
  (Spec.applies_iff w_frames).mpr ⟨w_running, w_runnable, w_alone, w_named, w_hears, w_ripe, w_room, w_tables⟩
theorem atStart : AtStart classFile x code maxLocals ret World_1 tables_1 room_1 Calls_1 rest_1 Pre_1 launch0 p0 e0 about1 theMethod args0 below0 :=
  ⟨lists_1, trivial, launch0.admits_env _ _ _, launch0.least_env, fairChoices_fair.cas, fairChoices_fair.clock, w_frames, w_args, w_heap, w_applies, trivial, trivial, w_case⟩
end start1
theorem witness_1 : WitnessClaimed_1 := ⟨start1.p0, start1.e0, start1.about1, start1.theMethod, start1.args0, start1.below0, start1.atStart⟩
end Jvm.Pilot.@@N@@
