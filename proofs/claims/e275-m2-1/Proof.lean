import JvmDerived
import JvmDerived.Pilot.@@N@@Statement
import JvmDerived.Pilot.@@N@@Code
set_option linter.unusedVariables false
set_option linter.unusedSimpArgs false
@@BLOCK:NumsL.lean.txt@@
namespace Jvm.Pilot.@@N@@
open Jvm Jvm.ClassFile Sem Op Lib Jvm.Free Jvm.Stand Jvm.LawKit Jvm.RoadKit Bundle Jvm.Pilot.@@N@@.Jvm.D
section Own
variable {p : Program} {l : Launch} {e : Env} {R : Room} {s : State} {m : MethodId} {args : Array Value} {below : List Frame} {meth : Method} {c : Code} {T : State} {locs : List Loc} {cells slots : Nat} {Z : State} {a0 : Array Value} {h h' : Heap} {Po : Outcome → State → Prop}
/-- from the frame g on top of T the run comes to an end of which Po holds -/
def own_Go (p : Program) (e : Env) (below : List Frame) (Po : Outcome → State → Prop) (T : State) (g : JFrame) : Prop :=
  ∃ U o, Steps p.tables e below (T.setTop g) U ∧ U.status = .running ∧ Ended U below o ∧ Po o U
theorem own_go {T T' : State} {g g' : JFrame} (st : ∀ t, Steps p.tables e below (T'.setTop g') t → Steps p.tables e below (T.setTop g) t) (k : own_Go p e below Po T' g') : own_Go p e below Po T g := by
  obtain ⟨U, o, h1, h2⟩ := k
  exact ⟨U, o, st U h1, h2⟩
/-- what a body leaves: it returned v, Q holds of v, of the heap at its end and of the places written -/
def own_Po (s : State) (Q : Option Value → Heap → List Loc → Prop) (C S : Nat) (o : Outcome) (U : State) : Prop :=
  ∃ v L, o = .returned v ∧ Q v U.heap L ∧ FrameEnd s o U L C S
theorem own_end (X : Stand p l e R s m args below meth c T locs cells slots) (hlk : meth.locks = false) {g : JFrame} {v : Option Value} (hv : meth.sig.returnType = none → v = none) {Q : Option Value → Heap → List Loc → Prop} {C S : Nat}
    (st : ∀ fs, (∀ (f : JFrame) (acts : List Action), f.method = m → f.locked = none → f.entered = [] → (doReturn e (T.setTop f) acts v).1 = T.setFrames fs) → Steps p.tables e below (T.setTop g) (T.setFrames fs))
    (hq : Q v T.heap locs) (hc : cells ≤ C) (hs : slots ≤ S) : own_Go p e below (own_Po s Q C S) T g := by
  obtain ⟨fs, hr, hrun, hended, hW, hsame⟩ := X.leave (v := v) hv hlk
  exact ⟨_, _, st fs hr, hrun, hended, _, _, rfl, hq, ⟨_, rfl⟩, hW, hsame.mono hc hs⟩
theorem own_retI (X : Stand p l e R s m args below meth c T locs cells slots) (hx : p.tables.exec = Jvm.exec) (hlk : meth.locks = false) (hret : meth.sig.returnType = some .int) (eT : T.heap = h) {pc : Nat} {Ls : Array Slot} {z : Int32} {rest : List Value} (hd : decode c.code pc = .ok (.ireturn, 1)) {Q : Option Value → Heap → List Loc → Prop} {C S : Nat}
    (hq : Q (some (.int z)) h locs) (hc : cells ≤ C) (hs : slots ≤ S) : own_Go p e below (own_Po s Q C S) T (mkF m pc Ls (.int z :: rest)) :=
  own_end X hlk (v := some (.int z)) (fun q => by rw [hret] at q; cases q) (fun _ hr => retOut X hx hret rfl (Or.inl ⟨rfl, Or.inl rfl, _, rfl⟩) hd hr) (by rw [eT]; exact hq) hc hs
theorem own_retZ (X : Stand p l e R s m args below meth c T locs cells slots) (hx : p.tables.exec = Jvm.exec) (hlk : meth.locks = false) (hret : meth.sig.returnType = some .boolean) (eT : T.heap = h) {pc : Nat} {Ls : Array Slot} {z : Int32} {rest : List Value} (hd : decode c.code pc = .ok (.ireturn, 1)) {Q : Option Value → Heap → List Loc → Prop} {C S : Nat}
    (hq : Q (some (.int (z &&& 1))) h locs) (hc : cells ≤ C) (hs : slots ≤ S) : own_Go p e below (own_Po s Q C S) T (mkF m pc Ls (.int z :: rest)) :=
  own_end X hlk (v := some (.int (nar .boolean z))) (fun q => by rw [hret] at q; cases q) (fun _ hr => retN X hx (t := .boolean) hret (Or.inl rfl) hd hr) (by rw [eT]; exact hq) hc hs
theorem own_retJ (X : Stand p l e R s m args below meth c T locs cells slots) (hx : p.tables.exec = Jvm.exec) (hlk : meth.locks = false) (hret : meth.sig.returnType = some .long) (eT : T.heap = h) {pc : Nat} {Ls : Array Slot} {z : Int64} {rest : List Value} (hd : decode c.code pc = .ok (.lreturn, 1)) {Q : Option Value → Heap → List Loc → Prop} {C S : Nat}
    (hq : Q (some (.long z)) h locs) (hc : cells ≤ C) (hs : slots ≤ S) : own_Go p e below (own_Po s Q C S) T (mkF m pc Ls (.long z :: rest)) :=
  own_end X hlk (v := some (.long z)) (fun q => by rw [hret] at q; cases q) (fun _ hr => retOut X hx hret rfl (Or.inr (Or.inl ⟨rfl, rfl, _, rfl⟩)) hd hr) (by rw [eT]; exact hq) hc hs
theorem own_retA (X : Stand p l e R s m args below meth c T locs cells slots) (hx : p.tables.exec = Jvm.exec) (hlk : meth.locks = false) {t : FieldType} (ht : t.isReference = true) (hret : meth.sig.returnType = some t) (eT : T.heap = h) {pc : Nat} {Ls : Array Slot} {z : Value} (hz : z.isRef = true) (hn : narrow t z = z) {rest : List Value} (hd : decode c.code pc = .ok (.areturn, 1)) {Q : Option Value → Heap → List Loc → Prop} {C S : Nat}
    (hq : Q (some z) h locs) (hc : cells ≤ C) (hs : slots ≤ S) : own_Go p e below (own_Po s Q C S) T (mkF m pc Ls (z :: rest)) :=
  own_end X hlk (v := some z) (fun q => by rw [hret] at q; cases q) (fun _ hr => retOut X hx hret hn (Or.inr (Or.inr (Or.inr (Or.inr ⟨rfl, ht, hz⟩)))) hd hr) (by rw [eT]; exact hq) hc hs
theorem own_ret0 (X : Stand p l e R s m args below meth c T locs cells slots) (hx : p.tables.exec = Jvm.exec) (hlk : meth.locks = false) (hret : meth.sig.returnType = none) (eT : T.heap = h) {pc : Nat} {Ls : Array Slot} (hd : decode c.code pc = .ok (.return_, 1)) {Q : Option Value → Heap → List Loc → Prop} {C S : Nat}
    (hq : Q none h locs) (hc : cells ≤ C) (hs : slots ≤ S) : own_Go p e below (own_Po s Q C S) T (mkF m pc Ls []) :=
  own_end X hlk (v := none) (fun _ => rfl) (fun _ hr => X.returnOut hx hret hd hr) (by rw [eT]; exact hq) hc hs
/-- a body's contract -/
def own_Met (l : Launch) (y : MethodName) (bytes : ByteArray) (maxL : Nat) (ret : Option FieldType) (ws : List Jvm.Cond) (rm : Room) (Z : State) (as' : Array Value) (h0 : Heap) (Q : Option Value → Heap → List Loc → Prop) : Prop :=
  MetFree l y (head1 (Jvm.Cond.code y bytes maxL ret :: ws) rm) (fun a U => a = as' ∧ Z.Warmed39 U.vm ∧ U.heap = h0) (fun _ _ _ _ _ => True) (fun _ U o U' => ∃ v L, o = .returned v ∧ Q v U'.heap L ∧ FrameEnd U o U' L rm.cells rm.slots)
theorem own_enter {y : MethodName} {bytes : ByteArray} {maxL : Nat} {ret : Option FieldType} {ws : List Jvm.Cond} {rm : Room} {as' : Array Value} {h0 : Heap} {Q : Option Value → Heap → List Loc → Prop} (hp : plainFor y = true)
    (body : ∀ (p : Program) (e : Env) (s : State) (m : MethodId) (below : List Frame) (meth : Method) (c : Code) (T : State), Stand p l e rm s m as' below meth c T [] 0 0 → p.tables.exec = Jvm.exec → c.code = bytes → c.maxLocals = maxL → Z.Warmed39 s.vm → s.vm.findClass y.cls = some m.cls → T.heap = h0 → meth.sig.returnType = ret → meth.locks = false → meth.name = y.name →
      own_Go p e below (own_Po s Q rm.cells rm.slots) T (entryFrame m as' maxL)) : own_Met l y bytes maxL ret ws rm Z as' h0 Q := by
  refine MetFree.of_bodySF hp hisR ?_
  intro p e s m args below meth c s₁ Bd hml0 hP hK
  obtain ⟨rfl, hZ, hh⟩ := hP
  exact body p e s m below meth c s₁ (Stand.of_body Bd) Bd.exec Bd.bytes hml0 hZ (findClass_of_methodNamed Bd.named) (by rw [← hh, Bd.state]; rfl) Bd.returns Bd.notSynchronized (name_of_methodNamed Bd.named Bd.method).1
theorem own_start {g g' : JFrame} (q : g = g') (k : own_Go p e below Po T g') : own_Go p e below Po T g := q ▸ k
theorem own_callS (X : Stand p l e R s m args below meth c T locs cells slots) (hx : p.tables.exec = Jvm.exec) (hZ : Z.Warmed39 s.vm) {own : String} (hown : s.vm.findClass own = some m.cls) (eT : T.heap = h) {index : Nat} {y : MethodName} {bytes : ByteArray} {maxL : Nat} {ret : Option FieldType} {rm : Room} {Q : Option Value → Heap → List Loc → Prop}
    (w1 : (Jvm.Cond.methodLink own index y).before a0 Z = true) (w2 : (Jvm.Cond.static y).before a0 Z = true) (w3 : (Jvm.Cond.initialized y.cls).before a0 Z = true) (w4 : (Jvm.Cond.code y bytes maxL ret).before a0 Z = true) (hy : y.cls ≠ "java/lang/invoke/MethodHandle" ∧ y.cls ≠ "java/lang/invoke/VarHandle")
    {pc : Nat} {Ls : Array Slot} {argsL rest st : List Value} (M : own_Met l y bytes maxL ret [] rm Z argsL.toArray h Q) (hml : Ls.size = c.maxLocals) {ps : List FieldType} {r : Option FieldType} (hps : parseMethodDescriptor y.desc = some ⟨ps, r⟩) (hl : argsL.length = ps.length) (hst : st = argsL.reverse ++ rest)
    (hd : decode c.code pc = .ok (.invokestatic index, 3)) {W : Nat} (hW : (rest.map fun v => v.category).sum ≤ W) (hf : rm.frames + 1 ≤ R.frames) (hlo : W + (maxL + 11) + rm.locals ≤ R.locals) (hc : cells + rm.cells ≤ R.cells) (hs : slots + rm.slots ≤ R.slots)
    (k : ∀ v T' L, Stand p l e R s m args below meth c T' (locs ++ L) (cells + rm.cells) (slots + rm.slots) → Q v T'.heap L → own_Go p e below Po T' (mkF m (pc + 3) Ls (v.toList ++ rest))) : own_Go p e below Po T (mkF m pc Ls st) := by
  subst hst
  obtain ⟨v, vm₁, ⟨T', L', k', n'⟩, -, X', ⟨L, hQ, l1, y1, z1⟩, st⟩ := Jvm.LawKit.callS X hx hown (mvT hZ w1) (mvT hZ w2) (mvT hZ w3) (mvT hZ w4) hy (backOf (W := W) M hZ w4 w3 hf hlo) (g := mkF m pc Ls (argsL.reverse ++ rest)) rfl hml (argsL := argsL) (rest := rest) (lenOf hps hl) rfl (by show 2 * 0 + _ ≤ _; simpa using hW) hd (fun _ _ => ⟨rfl, eT, hc, hs⟩)
  dsimp only [Pt.U, Pt.locs, Pt.cells, Pt.slots] at X' l1 y1 z1 st hQ
  subst l1 y1 z1
  exact own_go st (k v T' L X' hQ)
theorem own_callC (X : Stand p l e R s m args below meth c T locs cells slots) (hx : p.tables.exec = Jvm.exec) (hZ : Z.Warmed39 s.vm) {own : String} (hown : s.vm.findClass own = some m.cls) (eT : T.heap = h) {index : Nat} {y : MethodName} {bytes : ByteArray} {maxL : Nat} {rm : Room} {Q : Option Value → Heap → List Loc → Prop} (hy1 : y.name = "<init>")
    (w1 : (Jvm.Cond.methodLink own index y).before a0 Z = true) (w2 : (Jvm.Cond.instanceMethod y).before a0 Z = true) (w3 : (Jvm.Cond.initialized y.cls).before a0 Z = true) (w4 : (Jvm.Cond.code y bytes maxL none).before a0 Z = true) (hy : y.cls ≠ "java/lang/invoke/MethodHandle" ∧ y.cls ≠ "java/lang/invoke/VarHandle")
    {pc : Nat} {Ls : Array Slot} {a : Addr} {argsL rest st : List Value} (M : own_Met l y bytes maxL none [] rm Z (.ref a :: argsL).toArray h Q) (hml : Ls.size = c.maxLocals) {ps : List FieldType} {r : Option FieldType} (hps : parseMethodDescriptor y.desc = some ⟨ps, r⟩) (hl : argsL.length = ps.length) (hst : st = argsL.reverse ++ .ref a :: rest)
    (hd : decode c.code pc = .ok (.invokespecial index, 3)) {W : Nat} (hW : (rest.map fun v => v.category).sum ≤ W) (hf : rm.frames + 1 ≤ R.frames) (hlo : W + (maxL + 11) + rm.locals ≤ R.locals) (hc : cells + rm.cells ≤ R.cells) (hs : slots + rm.slots ≤ R.slots)
    (k : ∀ v T' L, Stand p l e R s m args below meth c T' (locs ++ L) (cells + rm.cells) (slots + rm.slots) → Q v T'.heap L → own_Go p e below Po T' (mkF m (pc + 3) Ls (v.toList ++ rest))) : own_Go p e below Po T (mkF m pc Ls st) := by
  subst hst
  obtain ⟨v, vm₁, ⟨T', L', k', n'⟩, -, X', ⟨L, hQ, l1, y1, z1⟩, st⟩ := X.specialBack hx (y := y) hy1 hown (mvT hZ w1) (mvT hZ w2) (mvT hZ w4) hy (backOf (W := W) M hZ w4 w3 hf hlo) (g := mkF m pc Ls (argsL.reverse ++ .ref a :: rest)) rfl hml (Steps.refl _) (a := a) (argsL := argsL) (rest := rest) (lenOf hps hl) rfl (by show 2 * 0 + _ ≤ _; simpa using hW) hd (fun _ _ => ⟨rfl, eT, hc, hs⟩)
  dsimp only [Pt.U, Pt.locs, Pt.cells, Pt.slots] at X' l1 y1 z1 st hQ
  subst l1 y1 z1
  exact own_go (fun _ kk => st.trans kk) (k v T' L X' hQ)
theorem own_callV (X : Stand p l e R s m args below meth c T locs cells slots) (hx : p.tables.exec = Jvm.exec) (hZ : Z.Warmed39 s.vm) {own C : String} (hown : s.vm.findClass own = some m.cls) (eT : T.heap = h) {index : Nat} {y : MethodName} {bytes : ByteArray} {maxL : Nat} {ret : Option FieldType} {rm : Room} {Q : Option Value → Heap → List Loc → Prop}
    (w1 : (Jvm.Cond.methodLink own index y).before a0 Z = true) (w2 : (Jvm.Cond.declares y).before a0 Z = true) (w5 : (Jvm.Cond.selects C y y).before a0 Z = true) (w6 : (Jvm.Cond.instanceMethod y).before a0 Z = true) (w3 : (Jvm.Cond.initialized y.cls).before a0 Z = true) (w4 : (Jvm.Cond.code y bytes maxL ret).before a0 Z = true) (hy : y.cls ≠ "java/lang/invoke/MethodHandle" ∧ y.cls ≠ "java/lang/invoke/VarHandle")
    {pc : Nat} {Ls : Array Slot} {a : Addr} (E : Exa Z h a C) {argsL rest st : List Value} (M : own_Met l y bytes maxL ret [] rm Z (.ref a :: argsL).toArray h Q) (hml : Ls.size = c.maxLocals) {ps : List FieldType} {r : Option FieldType} (hps : parseMethodDescriptor y.desc = some ⟨ps, r⟩) (hl : argsL.length = ps.length) (hst : st = argsL.reverse ++ .ref a :: rest)
    (hd : decode c.code pc = .ok (.invokevirtual index, 3)) {W : Nat} (hW : (rest.map fun v => v.category).sum ≤ W) (hf : rm.frames + 1 ≤ R.frames) (hlo : W + (maxL + 11) + rm.locals ≤ R.locals) (hc : cells + rm.cells ≤ R.cells) (hs : slots + rm.slots ≤ R.slots)
    (k : ∀ v T' L, Stand p l e R s m args below meth c T' (locs ++ L) (cells + rm.cells) (slots + rm.slots) → Q v T'.heap L → own_Go p e below Po T' (mkF m (pc + 3) Ls (v.toList ++ rest))) : own_Go p e below Po T (mkF m pc Ls st) := by
  subst hst
  obtain ⟨cq, kq, qa, qb, qc⟩ := isOf hZ eT E
  obtain ⟨v, vm₁, ⟨T', L', k', n'⟩, -, X', ⟨L, hQ, l1, y1, z1⟩, st⟩ := X.virtualBack hx (y := y) (z := y) hown (mvT hZ w1) (mvT hZ w2) (notFace_of_selects (args := #[]) (mvT hZ w5)) (mvT hZ w5) (mvT hZ w6) hy (backOf (W := W) M hZ w4 w3 hf hlo) qa qc (g := mkF m pc Ls (argsL.reverse ++ .ref a :: rest)) rfl hml (Steps.refl _) (argsL := argsL) (rest := rest) (lenOf hps hl) rfl (by show 2 * 0 + _ ≤ _; simpa using hW) hd (fun _ _ => ⟨rfl, eT, hc, hs⟩)
  dsimp only [Pt.U, Pt.locs, Pt.cells, Pt.slots] at X' l1 y1 z1 st hQ
  subst l1 y1 z1
  exact own_go (fun _ kk => st.trans kk) (k v T' L X' hQ)
/-- an array of n places, place j holds f j -/
def own_Ar (Z : State) (h : Heap) (a : Addr) (ty : FieldType) (n : Nat) (f : Nat → Value) : Prop := ∃ cl : Cell, Arr Z h a cl ty ∧ cl.slots.size = n ∧ ∀ j, j < n → cl.slots[j]? = some (f j)
def own_up (f : Nat → Value) (k : Nat) (v : Value) : Nat → Value := fun i => if i = k then v else f i
theorem own_up_eq (f : Nat → Value) (k : Nat) (v : Value) : own_up f k v k = v := if_pos rfl
theorem own_up_ne (f : Nat → Value) {k j : Nat} (v : Value) (q : j ≠ k) : own_up f k v j = f j := if_neg q
variable {a b : Addr} {ty : FieldType} {n sl : Nat} {f : Nat → Value} {v : Value} {wl : List Addr}
theorem own_Ar_lt (F : own_Ar Z h a ty n f) : a < h.size := by
  obtain ⟨_, A, _⟩ := F
  exact A.lt
theorem own_Ar_ext (F : own_Ar Z h a ty n f) (E : Ext h h') : own_Ar Z h' a ty n f := by
  obtain ⟨cl, A, r⟩ := F
  exact ⟨cl, A.ext E, r⟩
theorem own_Ar_other (F : own_Ar Z h b ty n f) (W : Wr h h' a sl v) (q : b ≠ a) : own_Ar Z h' b ty n f := by
  obtain ⟨cl, A, r⟩ := F
  exact ⟨cl, A.other W q, r⟩
theorem own_Ar_keep (F : own_Ar Z h a ty n f) (K : Keep h h' wl) (q : a ∉ wl) : own_Ar Z h' a ty n f := by
  obtain ⟨cl, A, r⟩ := F
  exact ⟨cl, ⟨K.2.1 _ _ A.1 q, A.2⟩, r⟩
theorem own_Ar_new {cA : ClassId} {z : Int32} (A : Arr Z h a (newA cA ty z) ty) (q : z.toNatClampNeg = n) : own_Ar Z h a ty n (fun _ => defaultValue ty) := by
  refine ⟨_, A, (sz_new cA ty z).trans q, fun j hj => ?_⟩
  simp [newA, q, hj]
theorem own_Ar_set (F : own_Ar Z h a ty n f) (W : Wr h h' a sl v) : own_Ar Z h' a ty n (own_up f sl v) := by
  obtain ⟨cl, A, r, g⟩ := F
  refine ⟨_, A.same W, (sz_set cl sl v).trans r, fun j hj => ?_⟩
  show (cl.slots.setIfInBounds sl v)[j]? = some (if j = sl then v else f j)
  rw [Array.getElem?_setIfInBounds]
  by_cases q : sl = j
  · subst q
    simp [r, hj]
  · rw [if_neg q, if_neg (Ne.symm q)]
    exact g j hj
theorem own_Ar_eq {g : Nat → Value} (F : own_Ar Z h a ty n f) (q : ∀ i, i < n → f i = g i) : own_Ar Z h a ty n g := by
  obtain ⟨cl, A, r, w⟩ := F
  exact ⟨cl, A, r, fun j hj => (w j hj).trans (congrArg some (q j hj))⟩
theorem own_idx {j : Int32} {k n : Nat} (hj : j.toInt = (k : Int)) (hk : k < n) : j.toNatClampNeg = k ∧ ¬ (j < 0 ∨ n ≤ j.toNatClampNeg) := by
  have h1 : j.toNatClampNeg = k := by
    show j.toInt.toNat = k
    rw [hj]; rfl
  refine ⟨h1, ?_⟩
  have h0 : (0 : Int32).toInt = 0 := rfl
  rw [h1, Int32.lt_iff_toInt_lt, hj, h0]
  omega
theorem own_iaload (X : Stand p l e R s m args below meth c T locs cells slots) (hx : p.tables.exec = Jvm.exec) (hZ : Z.Warmed39 s.vm) (eT : T.heap = h) (A : own_Ar Z h a .int n f) {j : Int32} (k : Nat) (hj : j.toInt = (k : Int)) (hk : k < n) {pc : Nat} {Ls : Array Slot} {st : List Value} (hd : decode c.code pc = .ok (.iaload, 1))
    (go : own_Go p e below Po T (mkF m (pc + 1) Ls (f k :: st))) : own_Go p e below Po T (mkF m pc Ls (.int j :: .ref a :: st)) := by
  obtain ⟨cl, A, r, w⟩ := A
  obtain ⟨q1, q2⟩ := own_idx hj hk
  exact own_go (fun _ kk => X.iaload hx (j := j) (v := f k) (by rw [eT]; exact A.1) (State.isArrayOf_alike hZ.alike A.2.1) A.2.2 (by rw [r]; exact q2) (by rw [q1]; exact w k hk) (g := mkF m pc Ls (.int j :: .ref a :: st)) rfl rfl hd _ kk) go
theorem own_laload (X : Stand p l e R s m args below meth c T locs cells slots) (hx : p.tables.exec = Jvm.exec) (hZ : Z.Warmed39 s.vm) (eT : T.heap = h) (A : own_Ar Z h a .long n f) {j : Int32} (k : Nat) (hj : j.toInt = (k : Int)) (hk : k < n) {pc : Nat} {Ls : Array Slot} {st : List Value} (hd : decode c.code pc = .ok (.laload, 1))
    (go : own_Go p e below Po T (mkF m (pc + 1) Ls (f k :: st))) : own_Go p e below Po T (mkF m pc Ls (.int j :: .ref a :: st)) := by
  obtain ⟨cl, A, r, w⟩ := A
  obtain ⟨q1, q2⟩ := own_idx hj hk
  exact own_go (fun _ kk => X.laload hx (j := j) (v := f k) (by rw [eT]; exact A.1) (State.isArrayOf_alike hZ.alike A.2.1) A.2.2 (by rw [r]; exact q2) (by rw [q1]; exact w k hk) (g := mkF m pc Ls (.int j :: .ref a :: st)) rfl rfl hd _ kk) go
theorem own_baload (X : Stand p l e R s m args below meth c T locs cells slots) (hx : p.tables.exec = Jvm.exec) (hZ : Z.Warmed39 s.vm) (eT : T.heap = h) (A : own_Ar Z h a .byte n f) {j : Int32} (k : Nat) (hj : j.toInt = (k : Int)) (hk : k < n) {pc : Nat} {Ls : Array Slot} {st : List Value} (hd : decode c.code pc = .ok (.baload, 1))
    (go : own_Go p e below Po T (mkF m (pc + 1) Ls (f k :: st))) : own_Go p e below Po T (mkF m pc Ls (.int j :: .ref a :: st)) := by
  obtain ⟨cl, A, r, w⟩ := A
  obtain ⟨q1, q2⟩ := own_idx hj hk
  exact own_go (fun _ kk => X.baloadBytes hx (j := j) (v := f k) (by rw [eT]; exact A.1) (State.isArrayOf_alike hZ.alike A.2.1) A.2.2 (by rw [r]; exact q2) (by rw [q1]; exact w k hk) (g := mkF m pc Ls (.int j :: .ref a :: st)) rfl rfl hd _ kk) go
theorem own_aaload (X : Stand p l e R s m args below meth c T locs cells slots) (hx : p.tables.exec = Jvm.exec) (hZ : Z.Warmed39 s.vm) (eT : T.heap = h) (A : own_Ar Z h a ty n f) (hty : ty.isReference = true) {j : Int32} (k : Nat) (hj : j.toInt = (k : Int)) (hk : k < n) {pc : Nat} {Ls : Array Slot} {st : List Value} (hd : decode c.code pc = .ok (.aaload, 1))
    (go : own_Go p e below Po T (mkF m (pc + 1) Ls (f k :: st))) : own_Go p e below Po T (mkF m pc Ls (.int j :: .ref a :: st)) := by
  obtain ⟨cl, A, r, w⟩ := A
  obtain ⟨q1, q2⟩ := own_idx hj hk
  exact own_go (fun _ kk => X.aaload hx (j := j) (v := f k) (by rw [eT]; exact A.1) (State.isArrayOf_alike hZ.alike A.2.1) hty A.2.2 (by rw [r]; exact q2) (by rw [q1]; exact w k hk) (g := mkF m pc Ls (.int j :: .ref a :: st)) rfl rfl hd _ kk) go
theorem own_len (X : Stand p l e R s m args below meth c T locs cells slots) (hx : p.tables.exec = Jvm.exec) (hZ : Z.Warmed39 s.vm) (eT : T.heap = h) (A : own_Ar Z h a ty n f) {pc : Nat} {Ls : Array Slot} {st : List Value} (hd : decode c.code pc = .ok (.arraylength, 1)) (z : Int32) (hz : n.toInt32 = z)
    (go : own_Go p e below Po T (mkF m (pc + 1) Ls (.int z :: st))) : own_Go p e below Po T (mkF m pc Ls (.ref a :: st)) := by
  obtain ⟨cl, A, r, w⟩ := A
  refine own_go (fun _ kk => X.arraylength hx (by rw [eT]; exact A.1) (State.isArrayOf_alike hZ.alike A.2.1) (g := mkF m pc Ls (.ref a :: st)) rfl rfl hd _ kk) ?_
  rw [r, hz]
  exact go
theorem own_iastore (X : Stand p l e R s m args below meth c T locs cells slots) (hx : p.tables.exec = Jvm.exec) (hZ : Z.Warmed39 s.vm) (eT : T.heap = h) (A : own_Ar Z h a .int n f) {j x : Int32} (k : Nat) (hj : j.toInt = (k : Int)) (hk : k < n) {pc : Nat} {Ls : Array Slot} {st : List Value} (hd : decode c.code pc = .ok (.iastore, 1))
    (go : ∀ T' h', Stand p l e R s m args below meth c T' (locs ++ [⟨a, k⟩]) cells slots → T'.heap = h' → Wr h h' a k (.int x) → own_Go p e below Po T' (mkF m (pc + 1) Ls st)) : own_Go p e below Po T (mkF m pc Ls (.int x :: .int j :: .ref a :: st)) := by
  obtain ⟨cl, A, r, w⟩ := A
  obtain ⟨q1, q2⟩ := own_idx hj hk
  obtain ⟨T', h', X', e', W, st'⟩ := stI X hx hZ eT A (j := j) (x := x) (by rw [r]; exact q2) (g := mkF m pc Ls (.int x :: .int j :: .ref a :: st)) rfl rfl hd
  rw [q1] at X' W
  exact own_go st' (go T' h' X' e' W)
theorem own_lastore (X : Stand p l e R s m args below meth c T locs cells slots) (hx : p.tables.exec = Jvm.exec) (hZ : Z.Warmed39 s.vm) (eT : T.heap = h) (A : own_Ar Z h a .long n f) {j : Int32} {x : Int64} (k : Nat) (hj : j.toInt = (k : Int)) (hk : k < n) {pc : Nat} {Ls : Array Slot} {st : List Value} (hd : decode c.code pc = .ok (.lastore, 1))
    (go : ∀ T' h', Stand p l e R s m args below meth c T' (locs ++ [⟨a, k⟩]) cells slots → T'.heap = h' → Wr h h' a k (.long x) → own_Go p e below Po T' (mkF m (pc + 1) Ls st)) : own_Go p e below Po T (mkF m pc Ls (.long x :: .int j :: .ref a :: st)) := by
  obtain ⟨cl, A, r, w⟩ := A
  obtain ⟨q1, q2⟩ := own_idx hj hk
  obtain ⟨T', h', X', e', W, st'⟩ := stJ X hx hZ eT A (j := j) (x := x) (by rw [r]; exact q2) (g := mkF m pc Ls (.long x :: .int j :: .ref a :: st)) rfl rfl hd
  rw [q1] at X' W
  exact own_go st' (go T' h' X' e' W)
theorem own_bastore (X : Stand p l e R s m args below meth c T locs cells slots) (hx : p.tables.exec = Jvm.exec) (hZ : Z.Warmed39 s.vm) (eT : T.heap = h) (A : own_Ar Z h a .byte n f) {j x : Int32} (k : Nat) (hj : j.toInt = (k : Int)) (hk : k < n) {pc : Nat} {Ls : Array Slot} {st : List Value} (hd : decode c.code pc = .ok (.bastore, 1))
    (go : ∀ T' h', Stand p l e R s m args below meth c T' (locs ++ [⟨a, k⟩]) cells slots → T'.heap = h' → Wr h h' a k (.int x.toInt8.toInt32) → own_Go p e below Po T' (mkF m (pc + 1) Ls st)) : own_Go p e below Po T (mkF m pc Ls (.int x :: .int j :: .ref a :: st)) := by
  obtain ⟨cl, A, r, w⟩ := A
  obtain ⟨q1, q2⟩ := own_idx hj hk
  obtain ⟨T', h', X', e', W, st'⟩ := stB X hx hZ eT A (j := j) (x := x) (by rw [r]; exact q2) (g := mkF m pc Ls (.int x :: .int j :: .ref a :: st)) rfl rfl hd
  rw [q1] at X' W
  exact own_go st' (go T' h' X' e' W)
theorem own_newP (X : Stand p l e R s m args below meth c T locs cells slots) (hx : p.tables.exec = Jvm.exec) (hZ : Z.Warmed39 s.vm) (eT : T.heap = h) {aty : ArrayType} (w : (Jvm.Cond.arrayClass (newarray.typeOf aty)).before a0 Z = true) {z : Int32} (n : Nat) (hz : z.toNatClampNeg = n) (hz0 : ¬ z < 0) (hb8 : n * 8 ≤ 536870912) (hc : cells + 1 ≤ R.cells) (hs : slots + n ≤ R.slots) {pc : Nat} {Ls : Array Slot} {st : List Value} (hd : decode c.code pc = .ok (.newarray aty, 2))
    (go : ∀ T' h' b, b = h.size → Stand p l e R s m args below meth c T' locs (cells + 1) (slots + n) → T'.heap = h' → Ext h h' → own_Ar Z h' b (newarray.typeOf aty) n (fun _ => defaultValue (newarray.typeOf aty)) → own_Go p e below Po T' (mkF m (pc + 2) Ls (.ref b :: st))) : own_Go p e below Po T (mkF m pc Ls (.int z :: st)) := by
  obtain ⟨T', h', cA, X', e', E, A, st'⟩ := newP X hx hZ w eT (g := mkF m pc Ls (.int z :: st)) rfl hd rfl hz0 (cap := n) (Nat.le_of_eq hz) hb8 hc hs
  exact own_go st' (go T' h' _ rfl X' e' E (own_Ar_new A hz))
end Own
section OwnI
variable {Z : State} {h h' : Heap} {a b : Addr} {ty : FieldType} {n sl : Nat} {f : Nat → Int32} {v : Value} {wl : List Addr} {x : Int32}
/-- an array of ints (bytes): place j holds f j -/
def own_Ai (Z : State) (h : Heap) (a : Addr) (ty : FieldType) (n : Nat) (f : Nat → Int32) : Prop := own_Ar Z h a ty n (fun i => .int (f i))
def own_upi (f : Nat → Int32) (k : Nat) (x : Int32) : Nat → Int32 := fun i => if i = k then x else f i
theorem own_Ai_set (F : own_Ai Z h a ty n f) (W : Wr h h' a sl (.int x)) : own_Ai Z h' a ty n (own_upi f sl x) :=
  own_Ar_eq (own_Ar_set F W) (fun i _ => by unfold own_up own_upi; split <;> rfl)
theorem own_Ai_eq {g : Nat → Int32} (F : own_Ai Z h a ty n f) (q : ∀ i, i < n → f i = g i) : own_Ai Z h a ty n g := own_Ar_eq F fun i hi => by rw [q i hi]
end OwnI
theorem pn_0 : plainName "org/kusuridana/CsvLineNumberPinLaw" = true := by first | (simp [plainName, overriddenIn]; done) | decide +kernel
theorem pd_0 : parseMethodDescriptor "(IIIIII)Z" = some ⟨[.int, .int, .int, .int, .int, .int], some .boolean⟩ := by decide +kernel
theorem ef_0 (m : MethodId) (x0 : Int32) (x1 : Int32) (x2 : Int32) (x3 : Int32) (x4 : Int32) (x5 : Int32) : entryFrame m #[(.int x0), (.int x1), (.int x2), (.int x3), (.int x4), (.int x5)] maxLocals = mkF m 0 #[.val (.int x0), .val (.int x1), .val (.int x2), .val (.int x3), .val (.int x4), .val (.int x5), .unset, .unset, .unset, .unset, .unset, .unset, .unset, .unset, .unset, .unset, .unset, .unset, .unset] [] := by first | (simp [entryFrame, mkF, argsToLocals, Value.category, maxLocals]; done) | rfl
theorem d1_0 : decode method_3_code 0 = .ok (.aload_n 0, 1) := by decide +kernel
theorem d1_1 : decode method_3_code 1 = .ok (.iload_n 1, 1) := by decide +kernel
theorem d1_2 : decode method_3_code 2 = .ok (.iload_n 2, 1) := by decide +kernel
theorem d1_3 : decode method_3_code 3 = .ok (.iload_n 3, 1) := by decide +kernel
theorem d1_4 : decode method_3_code 4 = .ok (.iconst 0, 1) := by decide +kernel
theorem d1_5 : decode method_3_code 5 = .ok (.aload 4, 2) := by decide +kernel
theorem d1_7 : decode method_3_code 7 = .ok (.invokestatic 7, 3) := by decide +kernel
theorem d1_10 : decode method_3_code 10 = .ok (.aload_n 0, 1) := by decide +kernel
theorem d1_11 : decode method_3_code 11 = .ok (.iload_n 1, 1) := by decide +kernel
theorem d1_12 : decode method_3_code 12 = .ok (.iload_n 2, 1) := by decide +kernel
theorem d1_13 : decode method_3_code 13 = .ok (.iload_n 3, 1) := by decide +kernel
theorem d1_14 : decode method_3_code 14 = .ok (.iconst 1, 1) := by decide +kernel
theorem d1_15 : decode method_3_code 15 = .ok (.aload 4, 2) := by decide +kernel
theorem d1_17 : decode method_3_code 17 = .ok (.invokestatic 7, 3) := by decide +kernel
theorem d1_20 : decode method_3_code 20 = .ok (.aload_n 0, 1) := by decide +kernel
theorem d1_21 : decode method_3_code 21 = .ok (.iload_n 1, 1) := by decide +kernel
theorem d1_22 : decode method_3_code 22 = .ok (.iload_n 2, 1) := by decide +kernel
theorem d1_23 : decode method_3_code 23 = .ok (.iload_n 3, 1) := by decide +kernel
theorem d1_24 : decode method_3_code 24 = .ok (.iconst 2, 1) := by decide +kernel
theorem d1_25 : decode method_3_code 25 = .ok (.aload 4, 2) := by decide +kernel
theorem d1_27 : decode method_3_code 27 = .ok (.invokestatic 7, 3) := by decide +kernel
theorem d1_30 : decode method_3_code 30 = .ok (.aload_n 0, 1) := by decide +kernel
theorem d1_31 : decode method_3_code 31 = .ok (.iload_n 1, 1) := by decide +kernel
theorem d1_32 : decode method_3_code 32 = .ok (.iload_n 2, 1) := by decide +kernel
theorem d1_33 : decode method_3_code 33 = .ok (.iload_n 3, 1) := by decide +kernel
theorem d1_34 : decode method_3_code 34 = .ok (.iconst 3, 1) := by decide +kernel
theorem d1_35 : decode method_3_code 35 = .ok (.aload 4, 2) := by decide +kernel
theorem d1_37 : decode method_3_code 37 = .ok (.invokestatic 7, 3) := by decide +kernel
theorem d1_40 : decode method_3_code 40 = .ok (.aload_n 0, 1) := by decide +kernel
theorem d1_41 : decode method_3_code 41 = .ok (.iload_n 1, 1) := by decide +kernel
theorem d1_42 : decode method_3_code 42 = .ok (.iload_n 2, 1) := by decide +kernel
theorem d1_43 : decode method_3_code 43 = .ok (.iload_n 3, 1) := by decide +kernel
theorem d1_44 : decode method_3_code 44 = .ok (.iconst 4, 1) := by decide +kernel
theorem d1_45 : decode method_3_code 45 = .ok (.aload 4, 2) := by decide +kernel
theorem d1_47 : decode method_3_code 47 = .ok (.invokestatic 7, 3) := by decide +kernel
theorem d1_50 : decode method_3_code 50 = .ok (.aload_n 0, 1) := by decide +kernel
theorem d1_51 : decode method_3_code 51 = .ok (.iload_n 1, 1) := by decide +kernel
theorem d1_52 : decode method_3_code 52 = .ok (.iload_n 2, 1) := by decide +kernel
theorem d1_53 : decode method_3_code 53 = .ok (.iload_n 3, 1) := by decide +kernel
theorem d1_54 : decode method_3_code 54 = .ok (.iconst 5, 1) := by decide +kernel
theorem d1_55 : decode method_3_code 55 = .ok (.aload 4, 2) := by decide +kernel
theorem d1_57 : decode method_3_code 57 = .ok (.invokestatic 7, 3) := by decide +kernel
theorem d1_60 : decode method_3_code 60 = .ok (.aload_n 0, 1) := by decide +kernel
theorem d1_61 : decode method_3_code 61 = .ok (.iload_n 1, 1) := by decide +kernel
theorem d1_62 : decode method_3_code 62 = .ok (.iload_n 2, 1) := by decide +kernel
theorem d1_63 : decode method_3_code 63 = .ok (.iload_n 3, 1) := by decide +kernel
theorem d1_64 : decode method_3_code 64 = .ok (.bipush 6, 2) := by decide +kernel
theorem d1_66 : decode method_3_code 66 = .ok (.aload 4, 2) := by decide +kernel
theorem d1_68 : decode method_3_code 68 = .ok (.invokestatic 7, 3) := by decide +kernel
theorem d1_71 : decode method_3_code 71 = .ok (.aload_n 0, 1) := by decide +kernel
theorem d1_72 : decode method_3_code 72 = .ok (.iload_n 1, 1) := by decide +kernel
theorem d1_73 : decode method_3_code 73 = .ok (.iload_n 2, 1) := by decide +kernel
theorem d1_74 : decode method_3_code 74 = .ok (.iload_n 3, 1) := by decide +kernel
theorem d1_75 : decode method_3_code 75 = .ok (.bipush 7, 2) := by decide +kernel
theorem d1_77 : decode method_3_code 77 = .ok (.aload 4, 2) := by decide +kernel
theorem d1_79 : decode method_3_code 79 = .ok (.invokestatic 7, 3) := by decide +kernel
theorem d1_82 : decode method_3_code 82 = .ok (.aload_n 0, 1) := by decide +kernel
theorem d1_83 : decode method_3_code 83 = .ok (.iload_n 1, 1) := by decide +kernel
theorem d1_84 : decode method_3_code 84 = .ok (.iload_n 2, 1) := by decide +kernel
theorem d1_85 : decode method_3_code 85 = .ok (.iload_n 3, 1) := by decide +kernel
theorem d1_86 : decode method_3_code 86 = .ok (.bipush 8, 2) := by decide +kernel
theorem d1_88 : decode method_3_code 88 = .ok (.aload 4, 2) := by decide +kernel
theorem d1_90 : decode method_3_code 90 = .ok (.invokestatic 7, 3) := by decide +kernel
theorem d1_93 : decode method_3_code 93 = .ok (.return_, 1) := by decide +kernel
theorem pn_1 : plainName "org/kusuridana/CsvLineNumberPinLaw" = true := by first | (simp [plainName, overriddenIn]; done) | decide +kernel
theorem pd_1 : parseMethodDescriptor "([BIII[I)V" = some ⟨[(.array .byte), .int, .int, .int, (.array .int)], none⟩ := by decide +kernel
theorem ef_1 (m : MethodId) (x0 : Addr) (x1 : Int32) (x2 : Int32) (x3 : Int32) (x4 : Addr) : entryFrame m #[(.ref x0), (.int x1), (.int x2), (.int x3), (.ref x4)] 5 = mkF m 0 #[.val (.ref x0), .val (.int x1), .val (.int x2), .val (.int x3), .val (.ref x4)] [] := by first | (simp [entryFrame, mkF, argsToLocals, Value.category]; done) | rfl
theorem d2_0 : decode method_2_code 0 = .ok (.iload 4, 2) := by decide +kernel
theorem d2_2 : decode method_2_code 2 = .ok (.iload_n 3, 1) := by decide +kernel
theorem d2_3 : decode method_2_code 3 = .ok (.if_icmp .ge 27, 3) := by decide +kernel
theorem d2_6 : decode method_2_code 6 = .ok (.aload_n 0, 1) := by decide +kernel
theorem d2_7 : decode method_2_code 7 = .ok (.iload_n 1, 1) := by decide +kernel
theorem d2_8 : decode method_2_code 8 = .ok (.iload 4, 2) := by decide +kernel
theorem d2_10 : decode method_2_code 10 = .ok (.iadd, 1) := by decide +kernel
theorem d2_11 : decode method_2_code 11 = .ok (.bipush 48, 2) := by decide +kernel
theorem d2_13 : decode method_2_code 13 = .ok (.iload_n 2, 1) := by decide +kernel
theorem d2_14 : decode method_2_code 14 = .ok (.aload 5, 2) := by decide +kernel
theorem d2_16 : decode method_2_code 16 = .ok (.iload_n 3, 1) := by decide +kernel
theorem d2_17 : decode method_2_code 17 = .ok (.iconst 1, 1) := by decide +kernel
theorem d2_18 : decode method_2_code 18 = .ok (.isub, 1) := by decide +kernel
theorem d2_19 : decode method_2_code 19 = .ok (.iload 4, 2) := by decide +kernel
theorem d2_21 : decode method_2_code 21 = .ok (.isub, 1) := by decide +kernel
theorem d2_22 : decode method_2_code 22 = .ok (.iaload, 1) := by decide +kernel
theorem d2_23 : decode method_2_code 23 = .ok (.idiv, 1) := by decide +kernel
theorem d2_24 : decode method_2_code 24 = .ok (.bipush 10, 2) := by decide +kernel
theorem d2_26 : decode method_2_code 26 = .ok (.irem, 1) := by decide +kernel
theorem d2_27 : decode method_2_code 27 = .ok (.iadd, 1) := by decide +kernel
theorem d2_28 : decode method_2_code 28 = .ok (.i2b, 1) := by decide +kernel
theorem d2_29 : decode method_2_code 29 = .ok (.bastore, 1) := by decide +kernel
theorem d2_30 : decode method_2_code 30 = .ok (.return_, 1) := by decide +kernel
theorem pn_2 : plainName "org/kusuridana/CsvLineNumberPinLaw" = true := by first | (simp [plainName, overriddenIn]; done) | decide +kernel
theorem pd_2 : parseMethodDescriptor "([BIIII[I)V" = some ⟨[(.array .byte), .int, .int, .int, .int, (.array .int)], none⟩ := by decide +kernel
theorem ef_2 (m : MethodId) (x0 : Addr) (x1 : Int32) (x2 : Int32) (x3 : Int32) (x4 : Int32) (x5 : Addr) : entryFrame m #[(.ref x0), (.int x1), (.int x2), (.int x3), (.int x4), (.ref x5)] 6 = mkF m 0 #[.val (.ref x0), .val (.int x1), .val (.int x2), .val (.int x3), .val (.int x4), .val (.ref x5)] [] := by first | (simp [entryFrame, mkF, argsToLocals, Value.category]; done) | rfl
theorem d3_0 : decode prog_25_method_31_code 0 = .ok (.iload_n 2, 1) := by decide +kernel
theorem d3_1 : decode prog_25_method_31_code 1 = .ok (.iload_n 1, 1) := by decide +kernel
theorem d3_2 : decode prog_25_method_31_code 2 = .ok (.isub, 1) := by decide +kernel
theorem d3_3 : decode prog_25_method_31_code 3 = .ok (.istore_n 3, 1) := by decide +kernel
theorem d3_4 : decode prog_25_method_31_code 4 = .ok (.iload_n 3, 1) := by decide +kernel
theorem d3_5 : decode prog_25_method_31_code 5 = .ok (.ifCond .eq 22, 3) := by decide +kernel
theorem d3_8 : decode prog_25_method_31_code 8 = .ok (.iload_n 3, 1) := by decide +kernel
theorem d3_9 : decode prog_25_method_31_code 9 = .ok (.bipush 9, 2) := by decide +kernel
theorem d3_11 : decode prog_25_method_31_code 11 = .ok (.if_icmp .gt 16, 3) := by decide +kernel
theorem d3_14 : decode prog_25_method_31_code 14 = .ok (.iload_n 3, 1) := by decide +kernel
theorem d3_15 : decode prog_25_method_31_code 15 = .ok (.iconst 1, 1) := by decide +kernel
theorem d3_16 : decode prog_25_method_31_code 16 = .ok (.if_icmp .le 13, 3) := by decide +kernel
theorem d3_19 : decode prog_25_method_31_code 19 = .ok (.aload_n 0, 1) := by decide +kernel
theorem d3_20 : decode prog_25_method_31_code 20 = .ok (.iload_n 1, 1) := by decide +kernel
theorem d3_21 : decode prog_25_method_31_code 21 = .ok (.baload, 1) := by decide +kernel
theorem d3_22 : decode prog_25_method_31_code 22 = .ok (.bipush 48, 2) := by decide +kernel
theorem d3_24 : decode prog_25_method_31_code 24 = .ok (.if_icmp .ne 5, 3) := by decide +kernel
theorem d3_27 : decode prog_25_method_31_code 27 = .ok (.iconst (-1), 1) := by decide +kernel
theorem d3_28 : decode prog_25_method_31_code 28 = .ok (.ireturn, 1) := by decide +kernel
theorem d3_29 : decode prog_25_method_31_code 29 = .ok (.iconst 0, 1) := by decide +kernel
theorem d3_30 : decode prog_25_method_31_code 30 = .ok (.istore 4, 2) := by decide +kernel
theorem d3_32 : decode prog_25_method_31_code 32 = .ok (.iload_n 1, 1) := by decide +kernel
theorem d3_33 : decode prog_25_method_31_code 33 = .ok (.istore 5, 2) := by decide +kernel
theorem d3_35 : decode prog_25_method_31_code 35 = .ok (.iload 5, 2) := by decide +kernel
theorem d3_37 : decode prog_25_method_31_code 37 = .ok (.iload_n 2, 1) := by decide +kernel
theorem d3_38 : decode prog_25_method_31_code 38 = .ok (.if_icmp .ge 42, 3) := by decide +kernel
theorem d3_41 : decode prog_25_method_31_code 41 = .ok (.aload_n 0, 1) := by decide +kernel
theorem d3_42 : decode prog_25_method_31_code 42 = .ok (.iload 5, 2) := by decide +kernel
theorem d3_44 : decode prog_25_method_31_code 44 = .ok (.baload, 1) := by decide +kernel
theorem d3_45 : decode prog_25_method_31_code 45 = .ok (.bipush 48, 2) := by decide +kernel
theorem d3_47 : decode prog_25_method_31_code 47 = .ok (.isub, 1) := by decide +kernel
theorem d3_48 : decode prog_25_method_31_code 48 = .ok (.istore 6, 2) := by decide +kernel
theorem d3_50 : decode prog_25_method_31_code 50 = .ok (.iload 6, 2) := by decide +kernel
theorem d3_52 : decode prog_25_method_31_code 52 = .ok (.ifCond .lt 10, 3) := by decide +kernel
theorem d3_55 : decode prog_25_method_31_code 55 = .ok (.iload 6, 2) := by decide +kernel
theorem d3_57 : decode prog_25_method_31_code 57 = .ok (.bipush 9, 2) := by decide +kernel
theorem d3_59 : decode prog_25_method_31_code 59 = .ok (.if_icmp .le 5, 3) := by decide +kernel
theorem d3_62 : decode prog_25_method_31_code 62 = .ok (.iconst (-1), 1) := by decide +kernel
theorem d3_63 : decode prog_25_method_31_code 63 = .ok (.ireturn, 1) := by decide +kernel
theorem d3_64 : decode prog_25_method_31_code 64 = .ok (.iload 4, 2) := by decide +kernel
theorem d3_66 : decode prog_25_method_31_code 66 = .ok (.bipush 10, 2) := by decide +kernel
theorem d3_68 : decode prog_25_method_31_code 68 = .ok (.imul, 1) := by decide +kernel
theorem d3_69 : decode prog_25_method_31_code 69 = .ok (.iload 6, 2) := by decide +kernel
theorem d3_71 : decode prog_25_method_31_code 71 = .ok (.iadd, 1) := by decide +kernel
theorem d3_72 : decode prog_25_method_31_code 72 = .ok (.istore 4, 2) := by decide +kernel
theorem d3_74 : decode prog_25_method_31_code 74 = .ok (.iinc 5 1, 3) := by decide +kernel
theorem d3_77 : decode prog_25_method_31_code 77 = .ok (.goto (-42), 3) := by decide +kernel
theorem d3_80 : decode prog_25_method_31_code 80 = .ok (.iload 4, 2) := by decide +kernel
theorem d3_82 : decode prog_25_method_31_code 82 = .ok (.ireturn, 1) := by decide +kernel
theorem pn_3 : plainName "org/kusuridana/CsvLine" = true := by first | (simp [plainName, overriddenIn]; done) | decide +kernel
theorem pd_3 : parseMethodDescriptor "([BII)I" = some ⟨[(.array .byte), .int, .int], some .int⟩ := by decide +kernel
theorem ef_3 (m : MethodId) (x0 : Addr) (x1 : Int32) (x2 : Int32) : entryFrame m #[(.ref x0), (.int x1), (.int x2)] 7 = mkF m 0 #[.val (.ref x0), .val (.int x1), .val (.int x2), .unset, .unset, .unset, .unset] [] := by first | (simp [entryFrame, mkF, argsToLocals, Value.category]; done) | rfl
def own_p10 (j : Nat) : Int32 := Int32.ofNat (10 ^ j)
def own_dg (v j : Nat) : Int32 := Int32.ofNat (48 + v / 10 ^ j % 10)
def own_put (f : Nat → Int32) (A V Wd I : Nat) : Nat → Int32 := if I < Wd then own_upi f (A + I) (own_dg V (Wd - 1 - I)) else f
def own_wrk (f : Nat → Int32) (A V Wd m : Nat) : Nat → Int32 := fun j => if A ≤ j ∧ j < A + m ∧ j < A + Wd then own_dg V (A + Wd - 1 - j) else f j
def own_wr (f : Nat → Int32) (A V Wd : Nat) : Nat → Int32 := fun j => if A ≤ j ∧ j < A + Wd then own_dg V (A + Wd - 1 - j) else f j
theorem own_wrk_0 (f : Nat → Int32) (A V Wd : Nat) : own_wrk f A V Wd 0 = f := by
  funext j
  unfold own_wrk
  rw [if_neg (by omega)]
theorem own_put_step (f : Nat → Int32) (A V Wd I : Nat) : own_put (own_wrk f A V Wd I) A V Wd I = own_wrk f A V Wd (I + 1) := by
  funext j
  unfold own_put
  by_cases h : I < Wd
  · rw [if_pos h]
    unfold own_upi own_wrk
    by_cases hj : j = A + I
    · rw [if_pos hj, if_pos (by omega)]
      congr 1
      omega
    · rw [if_neg hj]
      by_cases h2 : A ≤ j ∧ j < A + I ∧ j < A + Wd
      · rw [if_pos h2, if_pos (by omega)]
      · rw [if_neg h2, if_neg (by omega)]
  · rw [if_neg h]
    unfold own_wrk
    by_cases h2 : A ≤ j ∧ j < A + I ∧ j < A + Wd
    · rw [if_pos h2, if_pos (by omega)]
    · rw [if_neg h2, if_neg (by omega)]
theorem own_wrk_9 {f : Nat → Int32} {A V Wd : Nat} (h : Wd ≤ 9) : own_wrk f A V Wd 9 = own_wr f A V Wd := by
  funext j
  unfold own_wrk own_wr
  by_cases h2 : A ≤ j ∧ j < A + Wd
  · rw [if_pos h2, if_pos (by omega)]
  · rw [if_neg h2, if_neg (by omega)]
def own_nf (f : Nat → Int32) (A : Nat) : Nat → Nat → Int32 → Int32
  | 0, _, acc => acc
  | d + 1, i, acc => if f (A + i) - (48 : Int32) < 0 ∨ 9 < f (A + i) - (48 : Int32) then -1 else own_nf f A d (i + 1) ((acc * (10 : Int32)) + (f (A + i) - (48 : Int32)))
def own_num (f : Nat → Int32) (A n : Nat) : Int32 := if n = 0 ∨ 9 < n ∨ (1 < n ∧ f A = 48) then -1 else own_nf f A n 0 0
theorem own_addi {ai j : Int32} {A k : Nat} (hA : ai.toInt = (A : Int)) (hj : j.toInt = (k : Int)) (h : A + k < 1000) : (ai + j).toInt = ((A + k : Nat) : Int) := by
  rw [Jvm.Kit.i32_add (by omega) (by omega), hA, hj]
  omega
theorem own_inc {iv : Int32} {i : Nat} (h : iv.toInt = (i : Int)) (hi : i < 900) : (iv + 1).toInt = ((i + 1 : Nat) : Int) := own_addi h (k := 1) rfl (by omega)
theorem own_addi1 {ai di : Int32} {A D : Nat} (hA : ai.toInt = (A : Int)) (hD : di.toInt = (D : Int)) (h : A + D < 900) : ((ai + di) + (1 : Int32)).toInt = ((A + (D + 1) : Nat) : Int) := by
  have h1 := own_addi hA hD (by omega)
  have h2 := own_addi h1 (j := (1 : Int32)) (k := 1) rfl (by omega)
  rw [h2]
  omega
theorem own_i1 : (1 : Int32).toInt = 1 := rfl
theorem own_i0 : (0 : Int32).toInt = 0 := rfl
theorem own_sub1 {di : Int32} {D : Nat} (hD : di.toInt = (D : Int)) (h1 : 1 ≤ D) (h : D < 1000) : (di - (1 : Int32)).toInt = ((D - 1 : Nat) : Int) := by
  rw [Jvm.Kit.i32_sub (by rw [own_i1]; omega) (by rw [own_i1]; omega), hD, own_i1]
  omega
theorem own_sub2 {di ji : Int32} {D J : Nat} (hD : di.toInt = (D : Int)) (hJ : ji.toInt = (J : Int)) (hJD : J < D) (h : D < 1000) : ((di - (1 : Int32)) - ji).toInt = ((D - 1 - J : Nat) : Int) := by
  have h1 := own_sub1 hD (by omega) h
  rw [Jvm.Kit.i32_sub (by omega) (by omega), h1, hJ]
  omega
theorem own_subn {ai ti : Int32} {A n : Nat} (hA : ai.toInt = (A : Int)) (hT : ti.toInt = ((A + n : Nat) : Int)) (h : A + n ≤ 14) : (ti - ai).toInt = (n : Int) := by
  rw [Jvm.Kit.i32_sub (by omega) (by omega), hA, hT]
  omega
theorem own_eq0 {li : Int32} {n : Nat} (h : li.toInt = (n : Int)) (q : li = 0) : n = 0 := by
  rw [q, own_i0] at h
  omega
theorem own_eq0' {li : Int32} {n : Nat} (h : li.toInt = (n : Int)) (q : n = 0) : li = 0 := Int32.toInt_inj.mp (by rw [h, q]; rfl)
theorem own_nat {k : Nat} (hk : k < 2 ^ 31) : (Int32.ofNat k).toInt = (k : Int) := Int32.toInt_ofNat_small hk
theorem own_ofn {y : Int32} {n : Nat} (hy : y.toInt = (n : Int)) (hn : n < 2 ^ 31) : y = Int32.ofNat n := Int32.toInt_inj.mp (hy.trans (Int32.toInt_ofNat_small hn).symm)
theorem own_ltN {len : Int32} {N k : Nat} (hN : len.toInt = (N : Int)) (hk : k < 2 ^ 31) (h : Int32.ofNat k < len) : k < N := by
  rw [Int32.lt_iff_toInt_lt, own_nat hk, hN] at h
  omega
theorem own_nltN {len : Int32} {N k : Nat} (hN : len.toInt = (N : Int)) (hk : k < 2 ^ 31) (h : ¬ Int32.ofNat k < len) : ¬ k < N := by
  rw [Int32.lt_iff_toInt_lt, own_nat hk, hN] at h
  omega
theorem own_pow {k : Nat} (h : k ≤ 9) : 10 ^ k ≤ 1000000000 ∧ 0 < 10 ^ k := ⟨Nat.le_trans (Nat.pow_le_pow_right (by decide) h) (by decide), Nat.pow_pos (by decide)⟩
theorem own_p10v {k : Nat} (h : k < 10) : (own_p10 k).toInt = ((10 ^ k : Nat) : Int) := own_nat (by have := own_pow (k := k) (by omega); omega)
theorem own_p10_ne {k : Nat} (h : k < 10) : own_p10 k ≠ 0 := by
  intro q
  have h1 := own_p10v h
  rw [q, own_i0] at h1
  have := own_pow (k := k) (by omega)
  omega
theorem own_p10_eq : ∀ i, i < 10 → own_upi (own_upi (own_upi (own_upi (own_upi (own_upi (own_upi (own_upi (own_upi (own_upi (fun _ => 0) 0 1) 1 10) 2 100) 3 1000) 4 10000) 5 100000) 6 1000000) 7 10000000) 8 100000000) 9 1000000000 i = own_p10 i := by decide +kernel
theorem own_i10 : (10 : Int32).toInt = 10 := rfl
theorem own_divp {vi : Int32} {V k : Nat} (hV : vi.toInt = (V : Int)) (hk : k < 10) : (vi / own_p10 k).toInt = ((V / 10 ^ k : Nat) : Int) := by
  rw [Jvm.Kit.i32_div (by omega), hV, own_p10v hk, Int.ofNat_tdiv]
theorem own_odv {vi : Int32} {V k : Nat} (hV : vi.toInt = (V : Int)) (hV9 : V < 10 ^ 9) (hk : k < 10) : (vi / own_p10 k % (10 : Int32)).toInt = ((V / 10 ^ k % 10 : Nat) : Int) := by
  have h := own_divp hV hk
  generalize V / 10 ^ k = q at h ⊢
  rw [Jvm.Kit.i32_rem_nonneg (by omega), h, own_i10]
  omega
theorem own_b_dec : ∀ n : Fin 128, ((Int32.ofNat n.val).toInt8.toInt32).toInt8.toInt32 = Int32.ofNat n.val := by decide +kernel
theorem own_dgv {vi : Int32} {V k : Nat} (hV : vi.toInt = (V : Int)) (hV9 : V < 10 ^ 9) (hk : k < 10) : ((((48 : Int32) + vi / own_p10 k % (10 : Int32)).toInt8.toInt32)).toInt8.toInt32 = own_dg V k := by
  have h := own_odv hV hV9 hk
  have h48 : (48 : Int32).toInt = 48 := rfl
  have h2 : ((48 : Int32) + vi / own_p10 k % (10 : Int32)).toInt = ((48 + V / 10 ^ k % 10 : Nat) : Int) := by
    rw [Jvm.Kit.i32_add (by omega) (by omega), h, h48]
    omega
  rw [own_ofn h2 (by omega)]
  exact own_b_dec ⟨48 + V / 10 ^ k % 10, by omega⟩
theorem own_at (p : Int32) : ∃ A : Nat, (XT.ushr p (2 : Int32) &&& (3 : Int32)).toInt = (A : Int) ∧ A ≤ 3 := by
  have h := Jvm.Kit.i32_mask (XT.ushr p (2 : Int32)) 3 (k := 2) (by decide) (by decide)
  refine ⟨(XT.ushr p (2 : Int32) &&& (3 : Int32)).toInt.toNat, ?_, ?_⟩ <;> omega
theorem own_nn (p : Int32) : ∃ n : Nat, (p &&& (2147483647 : Int32)).toInt = (n : Int) := by
  have h := Jvm.Kit.i32_mask p 2147483647 (k := 31) (by decide) (by decide)
  exact ⟨(p &&& (2147483647 : Int32)).toInt.toNat, by omega⟩
theorem own_remn (p : Int32) {y : Int32} {m : Nat} (hy : y.toInt = (m : Int)) (hm : 0 < m) : ∃ k : Nat, ((p &&& (2147483647 : Int32)) % y).toInt = (k : Int) ∧ k < m := by
  obtain ⟨n, hn⟩ := own_nn p
  refine ⟨n % m, ?_, Nat.mod_lt _ hm⟩
  rw [Jvm.Kit.i32_rem_nonneg (by omega), hn, hy]
  omega
theorem own_d (p : Int32) : ∃ D : Nat, ((1 : Int32) + (p &&& (2147483647 : Int32)) % (9 : Int32)).toInt = (D : Int) ∧ 1 ≤ D ∧ D ≤ 9 := by
  obtain ⟨k, hk, hk9⟩ := own_remn p (y := (9 : Int32)) (m := 9) rfl (by decide)
  refine ⟨1 + k, ?_, by omega, by omega⟩
  rw [Jvm.Kit.i32_add (by rw [own_i1]; omega) (by rw [own_i1]; omega), hk, own_i1]
  omega
def own_lo (D : Nat) : Nat := if D = 1 then 0 else 10 ^ (D - 1)
theorem own_lo_a {di : Int32} {D : Nat} (hD : di.toInt = (D : Int)) (hD9 : D ≤ 9) (c : ¬ di = 1) : (own_p10 (D - 1)).toInt = ((own_lo D : Nat) : Int) := by
  have h : ¬ D = 1 := fun q => c (Int32.toInt_inj.mp (by rw [hD, q]; rfl))
  rw [own_p10v (by omega), own_lo, if_neg h]
theorem own_lo_b {di : Int32} {D : Nat} (hD : di.toInt = (D : Int)) (c : di = 1) : (0 : Int32).toInt = ((own_lo D : Nat) : Int) := by
  have h : D = 1 := by
    rw [c, own_i1] at hD
    omega
  rw [own_lo, if_pos h]
  rfl
theorem own_lo_lt {D : Nat} (hD1 : 1 ≤ D) : own_lo D < 10 ^ D := by
  unfold own_lo
  split
  · exact Nat.pow_pos (by decide)
  · exact Nat.pow_lt_pow_right (by decide) (by omega)
theorem own_pdv {lo : Int32} {D : Nat} (hlo : lo.toInt = ((own_lo D : Nat) : Int)) (hD1 : 1 ≤ D) (hD9 : D ≤ 9) : (own_p10 D - lo).toInt = ((10 ^ D - own_lo D : Nat) : Int) := by
  have h1 := own_lo_lt hD1
  have h2 := own_pow hD9
  have h3 := own_p10v (k := D) (by omega)
  rw [Jvm.Kit.i32_sub (by omega) (by omega), h3, hlo]
  omega
theorem own_pd_ne {lo : Int32} {D : Nat} (hlo : lo.toInt = ((own_lo D : Nat) : Int)) (hD1 : 1 ≤ D) (hD9 : D ≤ 9) : own_p10 D - lo ≠ 0 := by
  intro q
  have h := own_pdv hlo hD1 hD9
  have h1 := own_lo_lt hD1
  rw [q, own_i0] at h
  omega
theorem own_v (p : Int32) {lo : Int32} {D : Nat} (hlo : lo.toInt = ((own_lo D : Nat) : Int)) (hD1 : 1 ≤ D) (hD9 : D ≤ 9) : ∃ V : Nat, (lo + (p &&& (2147483647 : Int32)) % (own_p10 D - lo)).toInt = (V : Int) ∧ own_lo D ≤ V ∧ V < 10 ^ D := by
  have h1 := own_lo_lt hD1
  have h2 := own_pow hD9
  obtain ⟨k, hk, hk2⟩ := own_remn p (own_pdv hlo hD1 hD9) (by omega)
  refine ⟨own_lo D + k, ?_, by omega, by omega⟩
  rw [Jvm.Kit.i32_add (by omega) (by omega), hk, hlo]
  omega
theorem own_w (p : Int32) : ∃ U : Nat, ((p &&& (2147483647 : Int32)) % (1000000000 : Int32)).toInt = (U : Int) ∧ U < 10 ^ 9 := own_remn p rfl (by decide)
theorem own_ne0 {di : Int32} {D : Nat} (hD : di.toInt = (D : Int)) (hD1 : 1 ≤ D) : di ≠ 0 := fun q => absurd (own_eq0 hD q) (by omega)
theorem own_p (p : Int32) {di : Int32} {D : Nat} (hD : di.toInt = (D : Int)) (hD1 : 1 ≤ D) : ∃ J : Nat, ((p &&& (2147483647 : Int32)) % di).toInt = (J : Int) ∧ J < D := own_remn p hD (by omega)
theorem own_wr_48 (f : Nat → Int32) (A V D : Nat) : own_wr (own_upi f A ((48 : Int32).toInt8.toInt32)) (A + 1) V D A = 48 := by
  unfold own_wr own_upi
  rw [if_neg (by omega), if_pos rfl]
  rfl
theorem own_N3 {f : Nat → Int32} {A D : Nat} (h : f A = 48) (hD1 : 1 ≤ D) : own_num f A (D + 1) = -1 := by
  unfold own_num
  rw [if_pos (Or.inr (Or.inr ⟨by omega, h⟩))]
theorem own_wr_at (f : Nat → Int32) (A V D : Nat) : ∀ i, i < D → own_wr f A V D (A + i) = own_dg V (D - 1 - i) := by
  intro i hi
  unfold own_wr
  rw [if_pos (by omega)]
  congr 1
  omega
theorem own_bb {cb pb : Int32} (h : cb = pb.toInt8.toInt32) : cb.toInt8.toInt32 = cb := by
  rw [h, Int8.toInt8_toInt32]
theorem own_upi_at {f : Nat → Int32} {A V D J : Nat} {cb : Int32} (hf : ∀ i, i < D → f (A + i) = own_dg V (D - 1 - i)) (hb : cb.toInt8.toInt32 = cb) : ∀ i, i < D → own_upi f (A + J) (cb.toInt8.toInt32) (A + i) = if i = J then cb else own_dg V (D - 1 - i) := by
  intro i hi
  unfold own_upi
  by_cases h : i = J
  · rw [if_pos h, if_pos (by omega), hb]
  · rw [if_neg h, if_neg (by omega), hf i hi]
def own_H (g : Nat → Nat) : Nat → Nat
  | 0 => 0
  | k + 1 => own_H g k * 10 + g k
theorem own_H_lt {g : Nat → Nat} {D : Nat} (hg : ∀ i, i < D → g i ≤ 9) : ∀ k, k ≤ D → own_H g k < 10 ^ k := by
  intro k
  induction k with
  | zero => intro _; exact Nat.pow_pos (by decide)
  | succ k ih =>
    intro hk
    have h1 := ih (by omega)
    have h2 := hg k (by omega)
    rw [own_H, Nat.pow_succ]
    omega
theorem own_nf_ok {f : Nat → Int32} {A D : Nat} {g : Nat → Nat} (hf : ∀ i, i < D → f (A + i) = Int32.ofNat (48 + g i)) (hg : ∀ i, i < D → g i ≤ 9) (hD9 : D ≤ 9) :
    ∀ d i acc, i + d = D → acc.toInt = ((own_H g i : Nat) : Int) → (own_nf f A d i acc).toInt = ((own_H g D : Nat) : Int) := by
  intro d
  induction d with
  | zero =>
    intro i acc h1 h2
    obtain rfl : i = D := by omega
    exact h2
  | succ d ih =>
    intro i acc h1 h2
    have h3 := hg i (by omega)
    have h48 : (48 : Int32).toInt = 48 := rfl
    have h9 : (9 : Int32).toInt = 9 := rfl
    have hv : (f (A + i)).toInt = ((48 + g i : Nat) : Int) := by rw [hf i (by omega), own_nat (by omega)]
    have hd : (f (A + i) - (48 : Int32)).toInt = ((g i : Nat) : Int) := by
      rw [Jvm.Kit.i32_sub (by omega) (by omega), hv, h48]
      omega
    have hb := own_H_lt hg i (by omega)
    have hb2 := own_H_lt hg (i + 1) (by omega)
    have hp := own_pow (k := i) (by omega)
    have hp2 := own_pow (k := i + 1) (by omega)
    rw [own_H] at hb2
    rw [own_nf, if_neg]
    · refine ih (i + 1) _ (by omega) ?_
      have hm : (acc * (10 : Int32)).toInt = ((own_H g i * 10 : Nat) : Int) := by
        rw [Jvm.Kit.i32_mul (by rw [own_i10]; omega) (by rw [own_i10]; omega), h2, own_i10]
        omega
      rw [Jvm.Kit.i32_add (by omega) (by omega), hm, hd, own_H]
      omega
    · rw [Int32.lt_iff_toInt_lt, Int32.lt_iff_toInt_lt, hd, own_i0, h9]
      omega
theorem own_nf_bad {f : Nat → Int32} {A D J : Nat} (hJ : J < D) (hb : f (A + J) - (48 : Int32) < 0 ∨ 9 < f (A + J) - (48 : Int32)) : ∀ d i acc, i + d = D → i ≤ J → own_nf f A d i acc = -1 := by
  intro d
  induction d with
  | zero => intro i acc h1 h2; omega
  | succ d ih =>
    intro i acc h1 h2
    rw [own_nf]
    split
    · rfl
    · rename_i h
      by_cases hi : i = J
      · subst hi
        exact absurd hb h
      · exact ih (i + 1) _ (by omega) (by omega)
theorem own_H_dig {V D : Nat} (hV : V < 10 ^ D) : ∀ k, k ≤ D → own_H (fun i => V / 10 ^ (D - 1 - i) % 10) k = V / 10 ^ (D - k) := by
  intro k
  induction k with
  | zero => intro _; exact (Nat.div_eq_of_lt hV).symm
  | succ k ih =>
    intro hk
    rw [own_H, ih (by omega)]
    have h : D - k = (D - (k + 1)) + 1 := by omega
    have h' : D - 1 - k = D - (k + 1) := by omega
    show V / 10 ^ (D - k) * 10 + V / 10 ^ (D - 1 - k) % 10 = V / 10 ^ (D - (k + 1))
    rw [h', h, Nat.pow_succ, ← Nat.div_div_eq_div_mul]
    omega
theorem own_lead {V D : Nat} (h1 : own_lo D ≤ V) (h2 : V < 10 ^ D) (hD : 1 < D) : 1 ≤ V / 10 ^ (D - 1) % 10 := by
  rw [own_lo, if_neg (by omega)] at h1
  have h3 : 10 ^ D = 10 ^ (D - 1) * 10 := by rw [← Nat.pow_succ]; congr 1; omega
  have h4 : 1 ≤ V / 10 ^ (D - 1) := (Nat.one_le_div_iff (Nat.pow_pos (by decide))).mpr h1
  have h5 : V / 10 ^ (D - 1) < 10 := Nat.div_lt_of_lt_mul (by rw [← h3]; exact h2)
  omega
theorem own_dg_48 {V j : Nat} (h : 1 ≤ V / 10 ^ j % 10) : ¬ own_dg V j = 48 := by
  intro q
  have h2 : (own_dg V j).toInt = ((48 + V / 10 ^ j % 10 : Nat) : Int) := own_nat (by omega)
  have h48 : (48 : Int32).toInt = 48 := rfl
  rw [q, h48] at h2
  omega
theorem own_N4 {f : Nat → Int32} {A V D : Nat} {vi : Int32} (hf : ∀ i, i < D → f (A + i) = own_dg V (D - 1 - i)) (hV : vi.toInt = (V : Int)) (hV1 : own_lo D ≤ V) (hV2 : V < 10 ^ D) (hD1 : 1 ≤ D) (hD9 : D ≤ 9) : own_num f A D = vi := by
  unfold own_num
  rw [if_neg]
  · refine Int32.toInt_inj.mp ?_
    rw [own_nf_ok (g := fun i => V / 10 ^ (D - 1 - i) % 10) hf (fun i hi => by show _ % 10 ≤ 9; omega) hD9 D 0 0 (by omega) rfl, own_H_dig hV2 D (Nat.le_refl _), hV]
    simp
  · rintro (q | q | ⟨q1, q2⟩)
    · omega
    · omega
    · exact own_dg_48 (own_lead hV1 hV2 q1) ((hf 0 (by omega)).symm.trans q2)
theorem own_N5a {f : Nat → Int32} {A V D J : Nat} {cb ci : Int32} (hf : ∀ i, i < D → f (A + i) = if i = J then cb else own_dg V (D - 1 - i)) (hJ : J < D) (hD9 : D ≤ 9) (hci : ci = cb - (48 : Int32)) (h : ci < 0 ∨ 9 < ci) : own_num f A D = -1 := by
  unfold own_num
  split
  · rfl
  · refine own_nf_bad hJ ?_ D 0 0 (by omega) (by omega)
    rw [hf J hJ, if_pos rfl, ← hci]
    exact h
theorem own_cb48 {cb ci : Int32} (hci : ci = cb - (48 : Int32)) : cb = ci + 48 := by
  rw [hci, Int32.sub_add_cancel]
theorem own_N5b {f : Nat → Int32} {A V D J : Nat} {cb ci : Int32} (hf : ∀ i, i < D → f (A + i) = if i = J then cb else own_dg V (D - 1 - i)) (hJ : J = 0) (hD : 1 < D) (hci : ci = cb - (48 : Int32)) (h : ci = 0) : own_num f A D = -1 := by
  unfold own_num
  rw [if_pos]
  refine Or.inr (Or.inr ⟨hD, ?_⟩)
  have h1 := hf 0 (by omega)
  rw [if_pos hJ.symm, own_cb48 hci, h] at h1
  exact h1
theorem own_H_up (g : Nat → Nat) (J x : Nat) : ∀ k, (k ≤ J → own_H (fun i => if i = J then x else g i) k = own_H g k) ∧ (J < k → ((own_H (fun i => if i = J then x else g i) k : Nat) : Int) = (own_H g k : Int) + ((x : Int) - (g J : Int)) * ((10 ^ (k - 1 - J) : Nat) : Int)) := by
  intro k
  induction k with
  | zero => exact ⟨fun _ => rfl, fun h => absurd h (by omega)⟩
  | succ k ih =>
    refine ⟨fun h => ?_, fun h => ?_⟩
    · rw [own_H, own_H, ih.1 (by omega), if_neg (by omega)]
    · rw [own_H, own_H]
      by_cases hk : k = J
      · subst hk
        rw [ih.1 (Nat.le_refl _), if_pos rfl]
        have : k + 1 - 1 - k = 0 := by omega
        rw [this]
        simp only [Nat.pow_zero]
        omega
      · have h2 := ih.2 (by omega)
        rw [if_neg hk]
        have h3 : k + 1 - 1 - J = (k - 1 - J) + 1 := by omega
        rw [h3, Nat.pow_succ]
        have h4 : ((x : Int) - (g J : Int)) * ((10 ^ (k - 1 - J) * 10 : Nat) : Int) = (((x : Int) - (g J : Int)) * ((10 ^ (k - 1 - J) : Nat) : Int)) * 10 := by
          rw [Int.natCast_mul, ← Int.mul_assoc]
          rfl
        rw [h4]
        omega
theorem own_N5c {f : Nat → Int32} {A V D J : Nat} {cb ci od vi : Int32} (hf : ∀ i, i < D → f (A + i) = if i = J then cb else own_dg V (D - 1 - i)) (hV : vi.toInt = (V : Int)) (hV1 : own_lo D ≤ V) (hV2 : V < 10 ^ D) (hD1 : 1 ≤ D) (hD9 : D ≤ 9) (hJ : J < D) (hod : od.toInt = ((V / 10 ^ (D - 1 - J) % 10 : Nat) : Int)) (hci : ci = cb - (48 : Int32)) (q1 : ¬ ci < 0) (q2 : ¬ 9 < ci) (q3 : ¬ (J = 0 ∧ 1 < D ∧ ci = 0)) :
    own_num f A D = vi + ((ci - od) * own_p10 (D - 1 - J)) := by
  have h9 : (9 : Int32).toInt = 9 := rfl
  have h48 : (48 : Int32).toInt = 48 := rfl
  rw [Int32.lt_iff_toInt_lt, own_i0] at q1
  rw [Int32.lt_iff_toInt_lt, h9] at q2
  obtain ⟨x, hx, hx9⟩ : ∃ x : Nat, ci.toInt = (x : Int) ∧ x ≤ 9 := ⟨ci.toInt.toNat, by omega, by omega⟩
  have hcb : cb = Int32.ofNat (48 + x) := by
    refine own_ofn ?_ (by omega)
    rw [own_cb48 hci, Jvm.Kit.i32_add (by omega) (by omega), hx, h48]
    omega
  have hf' : ∀ i, i < D → f (A + i) = Int32.ofNat (48 + (fun i => if i = J then x else V / 10 ^ (D - 1 - i) % 10) i) := by
    intro i hi
    rw [hf i hi]
    by_cases h : i = J
    · simp only [if_pos h, hcb]
    · simp only [if_neg h, own_dg]
  have hg : ∀ i, i < D → (fun i => if i = J then x else V / 10 ^ (D - 1 - i) % 10) i ≤ 9 := by
    intro i hi
    show (if i = J then x else V / 10 ^ (D - 1 - i) % 10) ≤ 9
    split <;> omega
  have hH := (own_H_up (fun i => V / 10 ^ (D - 1 - i) % 10) J x D).2 hJ
  rw [own_H_dig hV2 D (Nat.le_refl _)] at hH
  have hlt := own_H_lt hg D (Nat.le_refl _)
  have hp := own_pow hD9
  have hp8 : 10 ^ (D - 1 - J) ≤ 100000000 := Nat.le_trans (Nat.pow_le_pow_right (by decide) (by omega : D - 1 - J ≤ 8)) (by decide)
  have hpp := (own_pow (k := D - 1 - J) (by omega)).2
  have hp10 := own_p10v (k := D - 1 - J) (by omega)
  have hdlt : V / 10 ^ (D - 1 - J) % 10 < 10 := Nat.mod_lt _ (by decide)
  have hs : (ci - od).toInt = (x : Int) - ((V / 10 ^ (D - 1 - J) % 10 : Nat) : Int) := by
    rw [Jvm.Kit.i32_sub (by omega) (by omega), hx, hod]
  have hm1 : -900000000 ≤ ((x : Int) - ((V / 10 ^ (D - 1 - J) % 10 : Nat) : Int)) * ((10 ^ (D - 1 - J) : Nat) : Int) ∧ ((x : Int) - ((V / 10 ^ (D - 1 - J) % 10 : Nat) : Int)) * ((10 ^ (D - 1 - J) : Nat) : Int) ≤ 900000000 := by
    have e1 : ((x : Int) - ((V / 10 ^ (D - 1 - J) % 10 : Nat) : Int)) * ((10 ^ (D - 1 - J) : Nat) : Int) ≤ 9 * ((10 ^ (D - 1 - J) : Nat) : Int) := Int.mul_le_mul_of_nonneg_right (by omega) (by omega)
    have e2 : (-9) * ((10 ^ (D - 1 - J) : Nat) : Int) ≤ ((x : Int) - ((V / 10 ^ (D - 1 - J) % 10 : Nat) : Int)) * ((10 ^ (D - 1 - J) : Nat) : Int) := Int.mul_le_mul_of_nonneg_right (by omega) (by omega)
    generalize ((x : Int) - ((V / 10 ^ (D - 1 - J) % 10 : Nat) : Int)) * ((10 ^ (D - 1 - J) : Nat) : Int) = M at e1 e2 ⊢
    omega
  unfold own_num
  rw [if_neg]
  · refine Int32.toInt_inj.mp ?_
    rw [own_nf_ok hf' hg hD9 D 0 0 (by omega) rfl, hH]
    have hmul : ((ci - od) * own_p10 (D - 1 - J)).toInt = ((x : Int) - ((V / 10 ^ (D - 1 - J) % 10 : Nat) : Int)) * ((10 ^ (D - 1 - J) : Nat) : Int) := by
      rw [Jvm.Kit.i32_mul (by rw [hs, hp10]; omega) (by rw [hs, hp10]; omega), hs, hp10]
    rw [Jvm.Kit.i32_add (by omega) (by omega), hmul, hV]
    simp
  · rintro (q | q | ⟨q4, q5⟩)
    · omega
    · omega
    · have h0 := hf 0 (by omega)
      by_cases hJ0 : 0 = J
      · rw [if_pos hJ0, own_cb48 hci] at h0
        have h5 : ci + 48 = 48 := h0.symm.trans q5
        have h6 := congrArg Int32.toInt h5
        rw [Jvm.Kit.i32_add (by omega) (by omega), hx, h48] at h6
        exact q3 ⟨hJ0.symm, q4, Int32.toInt_inj.mp (by rw [hx, own_i0]; omega)⟩
      · rw [if_neg hJ0] at h0
        exact own_dg_48 (own_lead hV1 hV2 q4) (h0.symm.trans q5)
def own_QI (z : Int32) (h0 : Heap) (v : Option Value) (h : Heap) (L : List Loc) : Prop := v = some (.int z) ∧ h = h0 ∧ L = []
def own_QB (Z : State) (a : Addr) (f : Nat → Int32) (h0 : Heap) (n0 : Nat) (v : Option Value) (h : Heap) (L : List Loc) : Prop := v = none ∧ Fr n0 L ∧ Keep h0 h [a] ∧ own_Ai Z h a .byte 14 f
set_option maxRecDepth 65536 in
set_option maxHeartbeats 40000000 in
theorem own_rmP (l : Launch) (Z : State) (a0 : Array Value) (hw : ∀ d ∈ tables_1, d.before a0 Z = true) (ws : List Jvm.Cond) (a pa : Addr) (ai vi wi ii : Int32) (f : Nat → Int32) (A V Wd I : Nat) (h0 : Heap) (n0 : Nat) (hA : ai.toInt = (A : Int)) (hV : vi.toInt = (V : Int)) (hV9 : V < 10 ^ 9) (hW : wi.toInt = (Wd : Int)) (hW1 : 1 ≤ Wd) (hW9 : Wd ≤ 9) (hI : ii.toInt = (I : Int)) (hI9 : I < 9) (hAW : A + Wd ≤ 14) (F0 : own_Ai Z h0 a .byte 14 f) (P0 : own_Ai Z h0 pa .int 10 own_p10) (gb : n0 ≤ a) :
    own_Met l (⟨"org/kusuridana/CsvLineNumberPinLaw", "put", "([BIIII[I)V"⟩ : MethodName) method_2_code 6 none ws ({ frames := 0, cells := 0, slots := 0, locals := 0 } : Room) Z #[(.ref a), (.int ai), (.int vi), (.int wi), (.int ii), (.ref pa)] h0 (own_QB Z a (own_put f A V Wd I) h0 n0) := by
  refine own_enter (plainFor_of_name pn_2) ?_
  intro p e s m below meth c T0 X0 hx hby hml hZ hown e0 hret hlk hnm
  have hown : s.vm.findClass "org/kusuridana/CsvLineNumberPinLaw" = some m.cls := hown
  have hml : c.maxLocals = 6 := hml
  have N0 := Fr.nil n0
  refine own_start (ef_2 m a ai vi wi ii pa) ?_
  show own_Go p e below _ T0 (mkF m 0 #[.val (.ref a), .val (.int ai), .val (.int vi), .val (.int wi), .val (.int ii), .val (.ref pa)] [])
  refine own_go (g' := (mkF m 2 #[.val (.ref a), .val (.int ai), .val (.int vi), .val (.int wi), .val (.int ii), .val (.ref pa)] [(.int ii)])) (fun _ k => XS.iload X0.here hx rfl (hb hby d2_0) rfl k) ?_
  refine own_go (g' := (mkF m 3 #[.val (.ref a), .val (.int ai), .val (.int vi), .val (.int wi), .val (.int ii), .val (.ref pa)] [(.int wi), (.int ii)])) (fun _ k => XS.iloadN X0.here hx rfl (hb hby d2_2) rfl k) ?_
  by_cases ci : ii < wi
  · refine own_go (g' := (mkF m 6 #[.val (.ref a), .val (.int ai), .val (.int vi), .val (.int wi), .val (.int ii), .val (.ref pa)] [])) (fun _ k => XS.icmpNo X0.here hx rfl (hb hby d2_3) rfl (XT.ii_ge_f ci) k) ?_
    have hq : I < Wd := by rw [Int32.lt_iff_toInt_lt, hI, hW] at ci; omega
    refine own_go (g' := (mkF m 7 #[.val (.ref a), .val (.int ai), .val (.int vi), .val (.int wi), .val (.int ii), .val (.ref pa)] [(.ref a)])) (fun _ k => XS.aloadN X0.here hx rfl (hb hby d2_6) rfl rfl k) ?_
    refine own_go (g' := (mkF m 8 #[.val (.ref a), .val (.int ai), .val (.int vi), .val (.int wi), .val (.int ii), .val (.ref pa)] [(.int ai), (.ref a)])) (fun _ k => XS.iloadN X0.here hx rfl (hb hby d2_7) rfl k) ?_
    refine own_go (g' := (mkF m 10 #[.val (.ref a), .val (.int ai), .val (.int vi), .val (.int wi), .val (.int ii), .val (.ref pa)] [(.int ii), (.int ai), (.ref a)])) (fun _ k => XS.iload X0.here hx rfl (hb hby d2_8) rfl k) ?_
    refine own_go (g' := (mkF m 11 #[.val (.ref a), .val (.int ai), .val (.int vi), .val (.int wi), .val (.int ii), .val (.ref pa)] [(.int (ai + ii)), (.ref a)])) (fun _ k => XS.iadd X0.here hx rfl (hb hby d2_10) rfl k) ?_
    refine own_go (g' := (mkF m 13 #[.val (.ref a), .val (.int ai), .val (.int vi), .val (.int wi), .val (.int ii), .val (.ref pa)] [(.int (48 : Int32)), (.int (ai + ii)), (.ref a)])) (fun _ k => XS.bipush X0.here hx rfl (hb hby d2_11) k) ?_
    refine own_go (g' := (mkF m 14 #[.val (.ref a), .val (.int ai), .val (.int vi), .val (.int wi), .val (.int ii), .val (.ref pa)] [(.int vi), (.int (48 : Int32)), (.int (ai + ii)), (.ref a)])) (fun _ k => XS.iloadN X0.here hx rfl (hb hby d2_13) rfl k) ?_
    refine own_go (g' := (mkF m 16 #[.val (.ref a), .val (.int ai), .val (.int vi), .val (.int wi), .val (.int ii), .val (.ref pa)] [(.ref pa), (.int vi), (.int (48 : Int32)), (.int (ai + ii)), (.ref a)])) (fun _ k => XS.aload X0.here hx rfl (hb hby d2_14) rfl rfl k) ?_
    refine own_go (g' := (mkF m 17 #[.val (.ref a), .val (.int ai), .val (.int vi), .val (.int wi), .val (.int ii), .val (.ref pa)] [(.int wi), (.ref pa), (.int vi), (.int (48 : Int32)), (.int (ai + ii)), (.ref a)])) (fun _ k => XS.iloadN X0.here hx rfl (hb hby d2_16) rfl k) ?_
    refine own_go (g' := (mkF m 18 #[.val (.ref a), .val (.int ai), .val (.int vi), .val (.int wi), .val (.int ii), .val (.ref pa)] [(.int (1 : Int32)), (.int wi), (.ref pa), (.int vi), (.int (48 : Int32)), (.int (ai + ii)), (.ref a)])) (fun _ k => XS.iconst X0.here hx rfl (hb hby d2_17) k) ?_
    refine own_go (g' := (mkF m 19 #[.val (.ref a), .val (.int ai), .val (.int vi), .val (.int wi), .val (.int ii), .val (.ref pa)] [(.int (wi - (1 : Int32))), (.ref pa), (.int vi), (.int (48 : Int32)), (.int (ai + ii)), (.ref a)])) (fun _ k => XS.isub X0.here hx rfl (hb hby d2_18) rfl k) ?_
    refine own_go (g' := (mkF m 21 #[.val (.ref a), .val (.int ai), .val (.int vi), .val (.int wi), .val (.int ii), .val (.ref pa)] [(.int ii), (.int (wi - (1 : Int32))), (.ref pa), (.int vi), (.int (48 : Int32)), (.int (ai + ii)), (.ref a)])) (fun _ k => XS.iload X0.here hx rfl (hb hby d2_19) rfl k) ?_
    refine own_go (g' := (mkF m 22 #[.val (.ref a), .val (.int ai), .val (.int vi), .val (.int wi), .val (.int ii), .val (.ref pa)] [(.int ((wi - (1 : Int32)) - ii)), (.ref pa), (.int vi), (.int (48 : Int32)), (.int (ai + ii)), (.ref a)])) (fun _ k => XS.isub X0.here hx rfl (hb hby d2_21) rfl k) ?_
    refine own_iaload X0 hx hZ e0 P0 (Wd - 1 - I) (own_sub2 hW hI hq (by omega)) (by omega) (hb hby d2_22) ?_
    show own_Go p e below _ T0 (mkF m 23 #[.val (.ref a), .val (.int ai), .val (.int vi), .val (.int wi), .val (.int ii), .val (.ref pa)] [(.int (own_p10 (Wd - 1 - I))), (.int vi), (.int (48 : Int32)), (.int (ai + ii)), (.ref a)])
    refine own_go (g' := (mkF m 24 #[.val (.ref a), .val (.int ai), .val (.int vi), .val (.int wi), .val (.int ii), .val (.ref pa)] [(.int (vi / (own_p10 (Wd - 1 - I)))), (.int (48 : Int32)), (.int (ai + ii)), (.ref a)])) (fun _ k => XS.idiv X0.here hx rfl (hb hby d2_23) rfl (own_p10_ne (by omega)) k) ?_
    refine own_go (g' := (mkF m 26 #[.val (.ref a), .val (.int ai), .val (.int vi), .val (.int wi), .val (.int ii), .val (.ref pa)] [(.int (10 : Int32)), (.int (vi / (own_p10 (Wd - 1 - I)))), (.int (48 : Int32)), (.int (ai + ii)), (.ref a)])) (fun _ k => XS.bipush X0.here hx rfl (hb hby d2_24) k) ?_
    refine own_go (g' := (mkF m 27 #[.val (.ref a), .val (.int ai), .val (.int vi), .val (.int wi), .val (.int ii), .val (.ref pa)] [(.int ((vi / (own_p10 (Wd - 1 - I))) % (10 : Int32))), (.int (48 : Int32)), (.int (ai + ii)), (.ref a)])) (fun _ k => Jvm.RoadKit.iremM X0 hx rfl (hb hby d2_26) rfl (by decide) k) ?_
    refine own_go (g' := (mkF m 28 #[.val (.ref a), .val (.int ai), .val (.int vi), .val (.int wi), .val (.int ii), .val (.ref pa)] [(.int ((48 : Int32) + ((vi / (own_p10 (Wd - 1 - I))) % (10 : Int32)))), (.int (ai + ii)), (.ref a)])) (fun _ k => XS.iadd X0.here hx rfl (hb hby d2_27) rfl k) ?_
    refine own_go (g' := (mkF m 29 #[.val (.ref a), .val (.int ai), .val (.int vi), .val (.int wi), .val (.int ii), .val (.ref pa)] [(.int ((((48 : Int32) + ((vi / (own_p10 (Wd - 1 - I))) % (10 : Int32)))).toInt8.toInt32)), (.int (ai + ii)), (.ref a)])) (fun _ k => XT.i2b X0.here hx rfl (hb hby d2_28) rfl k) ?_
    refine own_bastore X0 hx hZ e0 F0 (A + I) (own_addi hA hI (by omega)) (by omega) (hb hby d2_29) ?_
    intro T1 h1 X1 e1 W1
    show own_Go p e below _ T1 (mkF m 30 #[.val (.ref a), .val (.int ai), .val (.int vi), .val (.int wi), .val (.int ii), .val (.ref pa)] [])
    have F1 := own_Ai_set F0 W1
    rw [own_dgv hV hV9 (by omega : Wd - 1 - I < 10)] at F1
    have N1 := Fr.snoc X1 N0 gb
    exact own_ret0 X1 hx hlk hret e1 (hb hby d2_30) ⟨rfl, N1, (Keep.refl h0 [a]).wr W1 (Or.inl (List.mem_singleton.mpr rfl)), by rw [own_put, if_pos hq]; exact F1⟩ (by decide) (by decide)
  · refine own_go (g' := (mkF m 30 #[.val (.ref a), .val (.int ai), .val (.int vi), .val (.int wi), .val (.int ii), .val (.ref pa)] [])) (fun _ k => XS.icmpYes X0.here hx rfl (pc0 := 3) (pc' := 30) rfl (hb hby d2_3) rfl (XT.ii_ge_t ci) (by decide) (by decide) k) ?_
    have hq : ¬ I < Wd := fun q => ci (by rw [Int32.lt_iff_toInt_lt, hI, hW]; omega)
    exact own_ret0 X0 hx hlk hret e0 (hb hby d2_30) ⟨rfl, N0, Keep.refl _ _, by rw [own_put, if_neg hq]; exact F0⟩ (by decide) (by decide)
set_option maxRecDepth 65536 in
set_option maxHeartbeats 40000000 in
theorem own_rmW (l : Launch) (Z : State) (a0 : Array Value) (hw : ∀ d ∈ tables_1, d.before a0 Z = true) (ws : List Jvm.Cond) (a pa : Addr) (ai vi wi : Int32) (f : Nat → Int32) (A V Wd : Nat) (h0 : Heap) (n0 : Nat) (hA : ai.toInt = (A : Int)) (hV : vi.toInt = (V : Int)) (hV9 : V < 10 ^ 9) (hW : wi.toInt = (Wd : Int)) (hW1 : 1 ≤ Wd) (hW9 : Wd ≤ 9) (hAW : A + Wd ≤ 14) (F0 : own_Ai Z h0 a .byte 14 f) (P0 : own_Ai Z h0 pa .int 10 own_p10) (gb : n0 ≤ a) (hap : a ≠ pa) :
    own_Met l (⟨"org/kusuridana/CsvLineNumberPinLaw", "writeAll", "([BIII[I)V"⟩ : MethodName) method_3_code 5 none ws ({ frames := 1, cells := 0, slots := 0, locals := 17 } : Room) Z #[(.ref a), (.int ai), (.int vi), (.int wi), (.ref pa)] h0 (own_QB Z a (own_wr f A V Wd) h0 n0) := by
  refine own_enter (plainFor_of_name pn_1) ?_
  intro p e s m below meth c T0 X0 hx hby hml hZ hown e0 hret hlk hnm
  have hown : s.vm.findClass "org/kusuridana/CsvLineNumberPinLaw" = some m.cls := hown
  have hml : c.maxLocals = 5 := hml
  have N0 := Fr.nil n0
  refine own_start (ef_1 m a ai vi wi pa) ?_
  show own_Go p e below _ T0 (mkF m 0 #[.val (.ref a), .val (.int ai), .val (.int vi), .val (.int wi), .val (.ref pa)] [])
  have F00 : own_Ai Z h0 a .byte 14 (own_wrk f A V Wd 0) := by rw [own_wrk_0]; exact F0
  have K00 := Keep.refl h0 [a]
  refine own_go (g' := (mkF m 1 #[.val (.ref a), .val (.int ai), .val (.int vi), .val (.int wi), .val (.ref pa)] [(.ref a)])) (fun _ k => XS.aloadN X0.here hx rfl (hb hby d1_0) rfl rfl k) ?_
  refine own_go (g' := (mkF m 2 #[.val (.ref a), .val (.int ai), .val (.int vi), .val (.int wi), .val (.ref pa)] [(.int ai), (.ref a)])) (fun _ k => XS.iloadN X0.here hx rfl (hb hby d1_1) rfl k) ?_
  refine own_go (g' := (mkF m 3 #[.val (.ref a), .val (.int ai), .val (.int vi), .val (.int wi), .val (.ref pa)] [(.int vi), (.int ai), (.ref a)])) (fun _ k => XS.iloadN X0.here hx rfl (hb hby d1_2) rfl k) ?_
  refine own_go (g' := (mkF m 4 #[.val (.ref a), .val (.int ai), .val (.int vi), .val (.int wi), .val (.ref pa)] [(.int wi), (.int vi), (.int ai), (.ref a)])) (fun _ k => XS.iloadN X0.here hx rfl (hb hby d1_3) rfl k) ?_
  refine own_go (g' := (mkF m 5 #[.val (.ref a), .val (.int ai), .val (.int vi), .val (.int wi), .val (.ref pa)] [(.int (0 : Int32)), (.int wi), (.int vi), (.int ai), (.ref a)])) (fun _ k => XS.iconst X0.here hx rfl (hb hby d1_4) k) ?_
  refine own_go (g' := (mkF m 7 #[.val (.ref a), .val (.int ai), .val (.int vi), .val (.int wi), .val (.ref pa)] [(.ref pa), (.int (0 : Int32)), (.int wi), (.int vi), (.int ai), (.ref a)])) (fun _ k => XS.aload X0.here hx rfl (hb hby d1_5) rfl rfl k) ?_
  refine own_callS X0 hx hZ hown e0 (y := (⟨"org/kusuridana/CsvLineNumberPinLaw", "put", "([BIIII[I)V"⟩ : MethodName)) (rm := ({ frames := 0, cells := 0, slots := 0, locals := 0 } : Room)) (hw _ (List.mem_of_getElem? (i := 12) rfl)) (hw _ (List.mem_of_getElem? (i := 13) rfl)) (hw _ (List.mem_of_getElem? (i := 10) rfl)) (hw _ (List.mem_of_getElem? (i := 14) rfl)) (by decide) (argsL := [(.ref a), (.int ai), (.int vi), (.int wi), (.int (0 : Int32)), (.ref pa)]) (rest := []) (own_rmP l Z a0 hw [] a pa ai vi wi (0 : Int32) (own_wrk f A V Wd 0) A V Wd 0 h0 n0 hA hV hV9 hW hW1 hW9 rfl (by decide) hAW F00 P0 gb) (by rw [hml]; rfl) pd_2 rfl rfl (hb hby d1_7) (W := 0) (Nat.le_of_eq rfl) (by decide) (by decide) (by decide) (by decide) ?_
  intro v2 T2 L2 X2 hQ2
  obtain ⟨rfl, N2q, K2q, F2⟩ := hQ2
  rw [own_put_step] at F2
  have N2 := Fr.app N0 N2q
  have K2 := K00.trans K2q (fun x hx => Or.inl hx)
  have P2 : own_Ai Z T2.heap pa .int 10 own_p10 := own_Ar_keep P0 K2q (by simpa using Ne.symm hap)
  show own_Go p e below _ T2 (mkF m 10 #[.val (.ref a), .val (.int ai), .val (.int vi), .val (.int wi), .val (.ref pa)] [])
  refine own_go (g' := (mkF m 11 #[.val (.ref a), .val (.int ai), .val (.int vi), .val (.int wi), .val (.ref pa)] [(.ref a)])) (fun _ k => XS.aloadN X2.here hx rfl (hb hby d1_10) rfl rfl k) ?_
  refine own_go (g' := (mkF m 12 #[.val (.ref a), .val (.int ai), .val (.int vi), .val (.int wi), .val (.ref pa)] [(.int ai), (.ref a)])) (fun _ k => XS.iloadN X2.here hx rfl (hb hby d1_11) rfl k) ?_
  refine own_go (g' := (mkF m 13 #[.val (.ref a), .val (.int ai), .val (.int vi), .val (.int wi), .val (.ref pa)] [(.int vi), (.int ai), (.ref a)])) (fun _ k => XS.iloadN X2.here hx rfl (hb hby d1_12) rfl k) ?_
  refine own_go (g' := (mkF m 14 #[.val (.ref a), .val (.int ai), .val (.int vi), .val (.int wi), .val (.ref pa)] [(.int wi), (.int vi), (.int ai), (.ref a)])) (fun _ k => XS.iloadN X2.here hx rfl (hb hby d1_13) rfl k) ?_
  refine own_go (g' := (mkF m 15 #[.val (.ref a), .val (.int ai), .val (.int vi), .val (.int wi), .val (.ref pa)] [(.int (1 : Int32)), (.int wi), (.int vi), (.int ai), (.ref a)])) (fun _ k => XS.iconst X2.here hx rfl (hb hby d1_14) k) ?_
  refine own_go (g' := (mkF m 17 #[.val (.ref a), .val (.int ai), .val (.int vi), .val (.int wi), .val (.ref pa)] [(.ref pa), (.int (1 : Int32)), (.int wi), (.int vi), (.int ai), (.ref a)])) (fun _ k => XS.aload X2.here hx rfl (hb hby d1_15) rfl rfl k) ?_
  refine own_callS X2 hx hZ hown rfl (y := (⟨"org/kusuridana/CsvLineNumberPinLaw", "put", "([BIIII[I)V"⟩ : MethodName)) (rm := ({ frames := 0, cells := 0, slots := 0, locals := 0 } : Room)) (hw _ (List.mem_of_getElem? (i := 12) rfl)) (hw _ (List.mem_of_getElem? (i := 13) rfl)) (hw _ (List.mem_of_getElem? (i := 10) rfl)) (hw _ (List.mem_of_getElem? (i := 14) rfl)) (by decide) (argsL := [(.ref a), (.int ai), (.int vi), (.int wi), (.int (1 : Int32)), (.ref pa)]) (rest := []) (own_rmP l Z a0 hw [] a pa ai vi wi (1 : Int32) (own_wrk f A V Wd 1) A V Wd 1 T2.heap n0 hA hV hV9 hW hW1 hW9 rfl (by decide) hAW F2 P2 gb) (by rw [hml]; rfl) pd_2 rfl rfl (hb hby d1_17) (W := 0) (Nat.le_of_eq rfl) (by decide) (by decide) (by decide) (by decide) ?_
  intro v3 T3 L3 X3 hQ3
  obtain ⟨rfl, N3q, K3q, F3⟩ := hQ3
  rw [own_put_step] at F3
  have N3 := Fr.app N2 N3q
  have K3 := K2.trans K3q (fun x hx => Or.inl hx)
  have P3 : own_Ai Z T3.heap pa .int 10 own_p10 := own_Ar_keep P2 K3q (by simpa using Ne.symm hap)
  show own_Go p e below _ T3 (mkF m 20 #[.val (.ref a), .val (.int ai), .val (.int vi), .val (.int wi), .val (.ref pa)] [])
  refine own_go (g' := (mkF m 21 #[.val (.ref a), .val (.int ai), .val (.int vi), .val (.int wi), .val (.ref pa)] [(.ref a)])) (fun _ k => XS.aloadN X3.here hx rfl (hb hby d1_20) rfl rfl k) ?_
  refine own_go (g' := (mkF m 22 #[.val (.ref a), .val (.int ai), .val (.int vi), .val (.int wi), .val (.ref pa)] [(.int ai), (.ref a)])) (fun _ k => XS.iloadN X3.here hx rfl (hb hby d1_21) rfl k) ?_
  refine own_go (g' := (mkF m 23 #[.val (.ref a), .val (.int ai), .val (.int vi), .val (.int wi), .val (.ref pa)] [(.int vi), (.int ai), (.ref a)])) (fun _ k => XS.iloadN X3.here hx rfl (hb hby d1_22) rfl k) ?_
  refine own_go (g' := (mkF m 24 #[.val (.ref a), .val (.int ai), .val (.int vi), .val (.int wi), .val (.ref pa)] [(.int wi), (.int vi), (.int ai), (.ref a)])) (fun _ k => XS.iloadN X3.here hx rfl (hb hby d1_23) rfl k) ?_
  refine own_go (g' := (mkF m 25 #[.val (.ref a), .val (.int ai), .val (.int vi), .val (.int wi), .val (.ref pa)] [(.int (2 : Int32)), (.int wi), (.int vi), (.int ai), (.ref a)])) (fun _ k => XS.iconst X3.here hx rfl (hb hby d1_24) k) ?_
  refine own_go (g' := (mkF m 27 #[.val (.ref a), .val (.int ai), .val (.int vi), .val (.int wi), .val (.ref pa)] [(.ref pa), (.int (2 : Int32)), (.int wi), (.int vi), (.int ai), (.ref a)])) (fun _ k => XS.aload X3.here hx rfl (hb hby d1_25) rfl rfl k) ?_
  refine own_callS X3 hx hZ hown rfl (y := (⟨"org/kusuridana/CsvLineNumberPinLaw", "put", "([BIIII[I)V"⟩ : MethodName)) (rm := ({ frames := 0, cells := 0, slots := 0, locals := 0 } : Room)) (hw _ (List.mem_of_getElem? (i := 12) rfl)) (hw _ (List.mem_of_getElem? (i := 13) rfl)) (hw _ (List.mem_of_getElem? (i := 10) rfl)) (hw _ (List.mem_of_getElem? (i := 14) rfl)) (by decide) (argsL := [(.ref a), (.int ai), (.int vi), (.int wi), (.int (2 : Int32)), (.ref pa)]) (rest := []) (own_rmP l Z a0 hw [] a pa ai vi wi (2 : Int32) (own_wrk f A V Wd 2) A V Wd 2 T3.heap n0 hA hV hV9 hW hW1 hW9 rfl (by decide) hAW F3 P3 gb) (by rw [hml]; rfl) pd_2 rfl rfl (hb hby d1_27) (W := 0) (Nat.le_of_eq rfl) (by decide) (by decide) (by decide) (by decide) ?_
  intro v4 T4 L4 X4 hQ4
  obtain ⟨rfl, N4q, K4q, F4⟩ := hQ4
  rw [own_put_step] at F4
  have N4 := Fr.app N3 N4q
  have K4 := K3.trans K4q (fun x hx => Or.inl hx)
  have P4 : own_Ai Z T4.heap pa .int 10 own_p10 := own_Ar_keep P3 K4q (by simpa using Ne.symm hap)
  show own_Go p e below _ T4 (mkF m 30 #[.val (.ref a), .val (.int ai), .val (.int vi), .val (.int wi), .val (.ref pa)] [])
  refine own_go (g' := (mkF m 31 #[.val (.ref a), .val (.int ai), .val (.int vi), .val (.int wi), .val (.ref pa)] [(.ref a)])) (fun _ k => XS.aloadN X4.here hx rfl (hb hby d1_30) rfl rfl k) ?_
  refine own_go (g' := (mkF m 32 #[.val (.ref a), .val (.int ai), .val (.int vi), .val (.int wi), .val (.ref pa)] [(.int ai), (.ref a)])) (fun _ k => XS.iloadN X4.here hx rfl (hb hby d1_31) rfl k) ?_
  refine own_go (g' := (mkF m 33 #[.val (.ref a), .val (.int ai), .val (.int vi), .val (.int wi), .val (.ref pa)] [(.int vi), (.int ai), (.ref a)])) (fun _ k => XS.iloadN X4.here hx rfl (hb hby d1_32) rfl k) ?_
  refine own_go (g' := (mkF m 34 #[.val (.ref a), .val (.int ai), .val (.int vi), .val (.int wi), .val (.ref pa)] [(.int wi), (.int vi), (.int ai), (.ref a)])) (fun _ k => XS.iloadN X4.here hx rfl (hb hby d1_33) rfl k) ?_
  refine own_go (g' := (mkF m 35 #[.val (.ref a), .val (.int ai), .val (.int vi), .val (.int wi), .val (.ref pa)] [(.int (3 : Int32)), (.int wi), (.int vi), (.int ai), (.ref a)])) (fun _ k => XS.iconst X4.here hx rfl (hb hby d1_34) k) ?_
  refine own_go (g' := (mkF m 37 #[.val (.ref a), .val (.int ai), .val (.int vi), .val (.int wi), .val (.ref pa)] [(.ref pa), (.int (3 : Int32)), (.int wi), (.int vi), (.int ai), (.ref a)])) (fun _ k => XS.aload X4.here hx rfl (hb hby d1_35) rfl rfl k) ?_
  refine own_callS X4 hx hZ hown rfl (y := (⟨"org/kusuridana/CsvLineNumberPinLaw", "put", "([BIIII[I)V"⟩ : MethodName)) (rm := ({ frames := 0, cells := 0, slots := 0, locals := 0 } : Room)) (hw _ (List.mem_of_getElem? (i := 12) rfl)) (hw _ (List.mem_of_getElem? (i := 13) rfl)) (hw _ (List.mem_of_getElem? (i := 10) rfl)) (hw _ (List.mem_of_getElem? (i := 14) rfl)) (by decide) (argsL := [(.ref a), (.int ai), (.int vi), (.int wi), (.int (3 : Int32)), (.ref pa)]) (rest := []) (own_rmP l Z a0 hw [] a pa ai vi wi (3 : Int32) (own_wrk f A V Wd 3) A V Wd 3 T4.heap n0 hA hV hV9 hW hW1 hW9 rfl (by decide) hAW F4 P4 gb) (by rw [hml]; rfl) pd_2 rfl rfl (hb hby d1_37) (W := 0) (Nat.le_of_eq rfl) (by decide) (by decide) (by decide) (by decide) ?_
  intro v5 T5 L5 X5 hQ5
  obtain ⟨rfl, N5q, K5q, F5⟩ := hQ5
  rw [own_put_step] at F5
  have N5 := Fr.app N4 N5q
  have K5 := K4.trans K5q (fun x hx => Or.inl hx)
  have P5 : own_Ai Z T5.heap pa .int 10 own_p10 := own_Ar_keep P4 K5q (by simpa using Ne.symm hap)
  show own_Go p e below _ T5 (mkF m 40 #[.val (.ref a), .val (.int ai), .val (.int vi), .val (.int wi), .val (.ref pa)] [])
  refine own_go (g' := (mkF m 41 #[.val (.ref a), .val (.int ai), .val (.int vi), .val (.int wi), .val (.ref pa)] [(.ref a)])) (fun _ k => XS.aloadN X5.here hx rfl (hb hby d1_40) rfl rfl k) ?_
  refine own_go (g' := (mkF m 42 #[.val (.ref a), .val (.int ai), .val (.int vi), .val (.int wi), .val (.ref pa)] [(.int ai), (.ref a)])) (fun _ k => XS.iloadN X5.here hx rfl (hb hby d1_41) rfl k) ?_
  refine own_go (g' := (mkF m 43 #[.val (.ref a), .val (.int ai), .val (.int vi), .val (.int wi), .val (.ref pa)] [(.int vi), (.int ai), (.ref a)])) (fun _ k => XS.iloadN X5.here hx rfl (hb hby d1_42) rfl k) ?_
  refine own_go (g' := (mkF m 44 #[.val (.ref a), .val (.int ai), .val (.int vi), .val (.int wi), .val (.ref pa)] [(.int wi), (.int vi), (.int ai), (.ref a)])) (fun _ k => XS.iloadN X5.here hx rfl (hb hby d1_43) rfl k) ?_
  refine own_go (g' := (mkF m 45 #[.val (.ref a), .val (.int ai), .val (.int vi), .val (.int wi), .val (.ref pa)] [(.int (4 : Int32)), (.int wi), (.int vi), (.int ai), (.ref a)])) (fun _ k => XS.iconst X5.here hx rfl (hb hby d1_44) k) ?_
  refine own_go (g' := (mkF m 47 #[.val (.ref a), .val (.int ai), .val (.int vi), .val (.int wi), .val (.ref pa)] [(.ref pa), (.int (4 : Int32)), (.int wi), (.int vi), (.int ai), (.ref a)])) (fun _ k => XS.aload X5.here hx rfl (hb hby d1_45) rfl rfl k) ?_
  refine own_callS X5 hx hZ hown rfl (y := (⟨"org/kusuridana/CsvLineNumberPinLaw", "put", "([BIIII[I)V"⟩ : MethodName)) (rm := ({ frames := 0, cells := 0, slots := 0, locals := 0 } : Room)) (hw _ (List.mem_of_getElem? (i := 12) rfl)) (hw _ (List.mem_of_getElem? (i := 13) rfl)) (hw _ (List.mem_of_getElem? (i := 10) rfl)) (hw _ (List.mem_of_getElem? (i := 14) rfl)) (by decide) (argsL := [(.ref a), (.int ai), (.int vi), (.int wi), (.int (4 : Int32)), (.ref pa)]) (rest := []) (own_rmP l Z a0 hw [] a pa ai vi wi (4 : Int32) (own_wrk f A V Wd 4) A V Wd 4 T5.heap n0 hA hV hV9 hW hW1 hW9 rfl (by decide) hAW F5 P5 gb) (by rw [hml]; rfl) pd_2 rfl rfl (hb hby d1_47) (W := 0) (Nat.le_of_eq rfl) (by decide) (by decide) (by decide) (by decide) ?_
  intro v6 T6 L6 X6 hQ6
  obtain ⟨rfl, N6q, K6q, F6⟩ := hQ6
  rw [own_put_step] at F6
  have N6 := Fr.app N5 N6q
  have K6 := K5.trans K6q (fun x hx => Or.inl hx)
  have P6 : own_Ai Z T6.heap pa .int 10 own_p10 := own_Ar_keep P5 K6q (by simpa using Ne.symm hap)
  show own_Go p e below _ T6 (mkF m 50 #[.val (.ref a), .val (.int ai), .val (.int vi), .val (.int wi), .val (.ref pa)] [])
  refine own_go (g' := (mkF m 51 #[.val (.ref a), .val (.int ai), .val (.int vi), .val (.int wi), .val (.ref pa)] [(.ref a)])) (fun _ k => XS.aloadN X6.here hx rfl (hb hby d1_50) rfl rfl k) ?_
  refine own_go (g' := (mkF m 52 #[.val (.ref a), .val (.int ai), .val (.int vi), .val (.int wi), .val (.ref pa)] [(.int ai), (.ref a)])) (fun _ k => XS.iloadN X6.here hx rfl (hb hby d1_51) rfl k) ?_
  refine own_go (g' := (mkF m 53 #[.val (.ref a), .val (.int ai), .val (.int vi), .val (.int wi), .val (.ref pa)] [(.int vi), (.int ai), (.ref a)])) (fun _ k => XS.iloadN X6.here hx rfl (hb hby d1_52) rfl k) ?_
  refine own_go (g' := (mkF m 54 #[.val (.ref a), .val (.int ai), .val (.int vi), .val (.int wi), .val (.ref pa)] [(.int wi), (.int vi), (.int ai), (.ref a)])) (fun _ k => XS.iloadN X6.here hx rfl (hb hby d1_53) rfl k) ?_
  refine own_go (g' := (mkF m 55 #[.val (.ref a), .val (.int ai), .val (.int vi), .val (.int wi), .val (.ref pa)] [(.int (5 : Int32)), (.int wi), (.int vi), (.int ai), (.ref a)])) (fun _ k => XS.iconst X6.here hx rfl (hb hby d1_54) k) ?_
  refine own_go (g' := (mkF m 57 #[.val (.ref a), .val (.int ai), .val (.int vi), .val (.int wi), .val (.ref pa)] [(.ref pa), (.int (5 : Int32)), (.int wi), (.int vi), (.int ai), (.ref a)])) (fun _ k => XS.aload X6.here hx rfl (hb hby d1_55) rfl rfl k) ?_
  refine own_callS X6 hx hZ hown rfl (y := (⟨"org/kusuridana/CsvLineNumberPinLaw", "put", "([BIIII[I)V"⟩ : MethodName)) (rm := ({ frames := 0, cells := 0, slots := 0, locals := 0 } : Room)) (hw _ (List.mem_of_getElem? (i := 12) rfl)) (hw _ (List.mem_of_getElem? (i := 13) rfl)) (hw _ (List.mem_of_getElem? (i := 10) rfl)) (hw _ (List.mem_of_getElem? (i := 14) rfl)) (by decide) (argsL := [(.ref a), (.int ai), (.int vi), (.int wi), (.int (5 : Int32)), (.ref pa)]) (rest := []) (own_rmP l Z a0 hw [] a pa ai vi wi (5 : Int32) (own_wrk f A V Wd 5) A V Wd 5 T6.heap n0 hA hV hV9 hW hW1 hW9 rfl (by decide) hAW F6 P6 gb) (by rw [hml]; rfl) pd_2 rfl rfl (hb hby d1_57) (W := 0) (Nat.le_of_eq rfl) (by decide) (by decide) (by decide) (by decide) ?_
  intro v7 T7 L7 X7 hQ7
  obtain ⟨rfl, N7q, K7q, F7⟩ := hQ7
  rw [own_put_step] at F7
  have N7 := Fr.app N6 N7q
  have K7 := K6.trans K7q (fun x hx => Or.inl hx)
  have P7 : own_Ai Z T7.heap pa .int 10 own_p10 := own_Ar_keep P6 K7q (by simpa using Ne.symm hap)
  show own_Go p e below _ T7 (mkF m 60 #[.val (.ref a), .val (.int ai), .val (.int vi), .val (.int wi), .val (.ref pa)] [])
  refine own_go (g' := (mkF m 61 #[.val (.ref a), .val (.int ai), .val (.int vi), .val (.int wi), .val (.ref pa)] [(.ref a)])) (fun _ k => XS.aloadN X7.here hx rfl (hb hby d1_60) rfl rfl k) ?_
  refine own_go (g' := (mkF m 62 #[.val (.ref a), .val (.int ai), .val (.int vi), .val (.int wi), .val (.ref pa)] [(.int ai), (.ref a)])) (fun _ k => XS.iloadN X7.here hx rfl (hb hby d1_61) rfl k) ?_
  refine own_go (g' := (mkF m 63 #[.val (.ref a), .val (.int ai), .val (.int vi), .val (.int wi), .val (.ref pa)] [(.int vi), (.int ai), (.ref a)])) (fun _ k => XS.iloadN X7.here hx rfl (hb hby d1_62) rfl k) ?_
  refine own_go (g' := (mkF m 64 #[.val (.ref a), .val (.int ai), .val (.int vi), .val (.int wi), .val (.ref pa)] [(.int wi), (.int vi), (.int ai), (.ref a)])) (fun _ k => XS.iloadN X7.here hx rfl (hb hby d1_63) rfl k) ?_
  refine own_go (g' := (mkF m 66 #[.val (.ref a), .val (.int ai), .val (.int vi), .val (.int wi), .val (.ref pa)] [(.int (6 : Int32)), (.int wi), (.int vi), (.int ai), (.ref a)])) (fun _ k => XS.bipush X7.here hx rfl (hb hby d1_64) k) ?_
  refine own_go (g' := (mkF m 68 #[.val (.ref a), .val (.int ai), .val (.int vi), .val (.int wi), .val (.ref pa)] [(.ref pa), (.int (6 : Int32)), (.int wi), (.int vi), (.int ai), (.ref a)])) (fun _ k => XS.aload X7.here hx rfl (hb hby d1_66) rfl rfl k) ?_
  refine own_callS X7 hx hZ hown rfl (y := (⟨"org/kusuridana/CsvLineNumberPinLaw", "put", "([BIIII[I)V"⟩ : MethodName)) (rm := ({ frames := 0, cells := 0, slots := 0, locals := 0 } : Room)) (hw _ (List.mem_of_getElem? (i := 12) rfl)) (hw _ (List.mem_of_getElem? (i := 13) rfl)) (hw _ (List.mem_of_getElem? (i := 10) rfl)) (hw _ (List.mem_of_getElem? (i := 14) rfl)) (by decide) (argsL := [(.ref a), (.int ai), (.int vi), (.int wi), (.int (6 : Int32)), (.ref pa)]) (rest := []) (own_rmP l Z a0 hw [] a pa ai vi wi (6 : Int32) (own_wrk f A V Wd 6) A V Wd 6 T7.heap n0 hA hV hV9 hW hW1 hW9 rfl (by decide) hAW F7 P7 gb) (by rw [hml]; rfl) pd_2 rfl rfl (hb hby d1_68) (W := 0) (Nat.le_of_eq rfl) (by decide) (by decide) (by decide) (by decide) ?_
  intro v8 T8 L8 X8 hQ8
  obtain ⟨rfl, N8q, K8q, F8⟩ := hQ8
  rw [own_put_step] at F8
  have N8 := Fr.app N7 N8q
  have K8 := K7.trans K8q (fun x hx => Or.inl hx)
  have P8 : own_Ai Z T8.heap pa .int 10 own_p10 := own_Ar_keep P7 K8q (by simpa using Ne.symm hap)
  show own_Go p e below _ T8 (mkF m 71 #[.val (.ref a), .val (.int ai), .val (.int vi), .val (.int wi), .val (.ref pa)] [])
  refine own_go (g' := (mkF m 72 #[.val (.ref a), .val (.int ai), .val (.int vi), .val (.int wi), .val (.ref pa)] [(.ref a)])) (fun _ k => XS.aloadN X8.here hx rfl (hb hby d1_71) rfl rfl k) ?_
  refine own_go (g' := (mkF m 73 #[.val (.ref a), .val (.int ai), .val (.int vi), .val (.int wi), .val (.ref pa)] [(.int ai), (.ref a)])) (fun _ k => XS.iloadN X8.here hx rfl (hb hby d1_72) rfl k) ?_
  refine own_go (g' := (mkF m 74 #[.val (.ref a), .val (.int ai), .val (.int vi), .val (.int wi), .val (.ref pa)] [(.int vi), (.int ai), (.ref a)])) (fun _ k => XS.iloadN X8.here hx rfl (hb hby d1_73) rfl k) ?_
  refine own_go (g' := (mkF m 75 #[.val (.ref a), .val (.int ai), .val (.int vi), .val (.int wi), .val (.ref pa)] [(.int wi), (.int vi), (.int ai), (.ref a)])) (fun _ k => XS.iloadN X8.here hx rfl (hb hby d1_74) rfl k) ?_
  refine own_go (g' := (mkF m 77 #[.val (.ref a), .val (.int ai), .val (.int vi), .val (.int wi), .val (.ref pa)] [(.int (7 : Int32)), (.int wi), (.int vi), (.int ai), (.ref a)])) (fun _ k => XS.bipush X8.here hx rfl (hb hby d1_75) k) ?_
  refine own_go (g' := (mkF m 79 #[.val (.ref a), .val (.int ai), .val (.int vi), .val (.int wi), .val (.ref pa)] [(.ref pa), (.int (7 : Int32)), (.int wi), (.int vi), (.int ai), (.ref a)])) (fun _ k => XS.aload X8.here hx rfl (hb hby d1_77) rfl rfl k) ?_
  refine own_callS X8 hx hZ hown rfl (y := (⟨"org/kusuridana/CsvLineNumberPinLaw", "put", "([BIIII[I)V"⟩ : MethodName)) (rm := ({ frames := 0, cells := 0, slots := 0, locals := 0 } : Room)) (hw _ (List.mem_of_getElem? (i := 12) rfl)) (hw _ (List.mem_of_getElem? (i := 13) rfl)) (hw _ (List.mem_of_getElem? (i := 10) rfl)) (hw _ (List.mem_of_getElem? (i := 14) rfl)) (by decide) (argsL := [(.ref a), (.int ai), (.int vi), (.int wi), (.int (7 : Int32)), (.ref pa)]) (rest := []) (own_rmP l Z a0 hw [] a pa ai vi wi (7 : Int32) (own_wrk f A V Wd 7) A V Wd 7 T8.heap n0 hA hV hV9 hW hW1 hW9 rfl (by decide) hAW F8 P8 gb) (by rw [hml]; rfl) pd_2 rfl rfl (hb hby d1_79) (W := 0) (Nat.le_of_eq rfl) (by decide) (by decide) (by decide) (by decide) ?_
  intro v9 T9 L9 X9 hQ9
  obtain ⟨rfl, N9q, K9q, F9⟩ := hQ9
  rw [own_put_step] at F9
  have N9 := Fr.app N8 N9q
  have K9 := K8.trans K9q (fun x hx => Or.inl hx)
  have P9 : own_Ai Z T9.heap pa .int 10 own_p10 := own_Ar_keep P8 K9q (by simpa using Ne.symm hap)
  show own_Go p e below _ T9 (mkF m 82 #[.val (.ref a), .val (.int ai), .val (.int vi), .val (.int wi), .val (.ref pa)] [])
  refine own_go (g' := (mkF m 83 #[.val (.ref a), .val (.int ai), .val (.int vi), .val (.int wi), .val (.ref pa)] [(.ref a)])) (fun _ k => XS.aloadN X9.here hx rfl (hb hby d1_82) rfl rfl k) ?_
  refine own_go (g' := (mkF m 84 #[.val (.ref a), .val (.int ai), .val (.int vi), .val (.int wi), .val (.ref pa)] [(.int ai), (.ref a)])) (fun _ k => XS.iloadN X9.here hx rfl (hb hby d1_83) rfl k) ?_
  refine own_go (g' := (mkF m 85 #[.val (.ref a), .val (.int ai), .val (.int vi), .val (.int wi), .val (.ref pa)] [(.int vi), (.int ai), (.ref a)])) (fun _ k => XS.iloadN X9.here hx rfl (hb hby d1_84) rfl k) ?_
  refine own_go (g' := (mkF m 86 #[.val (.ref a), .val (.int ai), .val (.int vi), .val (.int wi), .val (.ref pa)] [(.int wi), (.int vi), (.int ai), (.ref a)])) (fun _ k => XS.iloadN X9.here hx rfl (hb hby d1_85) rfl k) ?_
  refine own_go (g' := (mkF m 88 #[.val (.ref a), .val (.int ai), .val (.int vi), .val (.int wi), .val (.ref pa)] [(.int (8 : Int32)), (.int wi), (.int vi), (.int ai), (.ref a)])) (fun _ k => XS.bipush X9.here hx rfl (hb hby d1_86) k) ?_
  refine own_go (g' := (mkF m 90 #[.val (.ref a), .val (.int ai), .val (.int vi), .val (.int wi), .val (.ref pa)] [(.ref pa), (.int (8 : Int32)), (.int wi), (.int vi), (.int ai), (.ref a)])) (fun _ k => XS.aload X9.here hx rfl (hb hby d1_88) rfl rfl k) ?_
  refine own_callS X9 hx hZ hown rfl (y := (⟨"org/kusuridana/CsvLineNumberPinLaw", "put", "([BIIII[I)V"⟩ : MethodName)) (rm := ({ frames := 0, cells := 0, slots := 0, locals := 0 } : Room)) (hw _ (List.mem_of_getElem? (i := 12) rfl)) (hw _ (List.mem_of_getElem? (i := 13) rfl)) (hw _ (List.mem_of_getElem? (i := 10) rfl)) (hw _ (List.mem_of_getElem? (i := 14) rfl)) (by decide) (argsL := [(.ref a), (.int ai), (.int vi), (.int wi), (.int (8 : Int32)), (.ref pa)]) (rest := []) (own_rmP l Z a0 hw [] a pa ai vi wi (8 : Int32) (own_wrk f A V Wd 8) A V Wd 8 T9.heap n0 hA hV hV9 hW hW1 hW9 rfl (by decide) hAW F9 P9 gb) (by rw [hml]; rfl) pd_2 rfl rfl (hb hby d1_90) (W := 0) (Nat.le_of_eq rfl) (by decide) (by decide) (by decide) (by decide) ?_
  intro v10 T10 L10 X10 hQ10
  obtain ⟨rfl, N10q, K10q, F10⟩ := hQ10
  rw [own_put_step] at F10
  have N10 := Fr.app N9 N10q
  have K10 := K9.trans K10q (fun x hx => Or.inl hx)
  have P10 : own_Ai Z T10.heap pa .int 10 own_p10 := own_Ar_keep P9 K10q (by simpa using Ne.symm hap)
  show own_Go p e below _ T10 (mkF m 93 #[.val (.ref a), .val (.int ai), .val (.int vi), .val (.int wi), .val (.ref pa)] [])
  exact own_ret0 X10 hx hlk hret rfl (hb hby d1_93) ⟨rfl, N10, K10, by rw [← own_wrk_9 hW9]; exact F10⟩ (by decide) (by decide)
set_option maxRecDepth 65536 in
set_option maxHeartbeats 40000000 in
theorem own_rmN (l : Launch) (Z : State) (a0 : Array Value) (hw : ∀ d ∈ tables_1, d.before a0 Z = true) (ws : List Jvm.Cond) (a : Addr) (ai ti : Int32) (f : Nat → Int32) (A n : Nat) (h0 : Heap) (n0 : Nat) (hA : ai.toInt = (A : Int)) (hT : ti.toInt = ((A + n : Nat) : Int)) (h14 : A + n ≤ 14) (F0 : own_Ai Z h0 a .byte 14 f) :
    own_Met l (⟨"org/kusuridana/CsvLine", "number", "([BII)I"⟩ : MethodName) prog_25_method_31_code 7 (some .int) ws ({ frames := 0, cells := 0, slots := 0, locals := 0 } : Room) Z #[(.ref a), (.int ai), (.int ti)] h0 (own_QI (own_num f A n) h0) := by
  refine own_enter (plainFor_of_name pn_3) ?_
  intro p e s m below meth c T0 X0 hx hby hml hZ hown e0 hret hlk hnm
  have hown : s.vm.findClass "org/kusuridana/CsvLine" = some m.cls := hown
  have hml : c.maxLocals = 7 := hml
  have N0 := Fr.nil n0
  refine own_start (ef_3 m a ai ti) ?_
  show own_Go p e below _ T0 (mkF m 0 #[.val (.ref a), .val (.int ai), .val (.int ti), .unset, .unset, .unset, .unset] [])
  refine own_go (g' := (mkF m 1 #[.val (.ref a), .val (.int ai), .val (.int ti), .unset, .unset, .unset, .unset] [(.int ti)])) (fun _ k => XS.iloadN X0.here hx rfl (hb hby d3_0) rfl k) ?_
  refine own_go (g' := (mkF m 2 #[.val (.ref a), .val (.int ai), .val (.int ti), .unset, .unset, .unset, .unset] [(.int ai), (.int ti)])) (fun _ k => XS.iloadN X0.here hx rfl (hb hby d3_1) rfl k) ?_
  refine own_go (g' := (mkF m 3 #[.val (.ref a), .val (.int ai), .val (.int ti), .unset, .unset, .unset, .unset] [(.int (ti - ai))])) (fun _ k => XS.isub X0.here hx rfl (hb hby d3_2) rfl k) ?_
  refine own_go (g' := (mkF m 4 #[.val (.ref a), .val (.int ai), .val (.int ti), .val (.int (ti - ai)), .unset, .unset, .unset] [])) (fun _ k => XS.istoreN X0.here hx rfl (hb hby d3_3) rfl (l' := #[.val (.ref a), .val (.int ai), .val (.int ti), .val (.int (ti - ai)), .unset, .unset, .unset]) rfl k) ?_
  obtain ⟨li, hli⟩ : ∃ z : Int32, z = (ti - ai) := ⟨_, rfl⟩
  rw [← hli]
  show own_Go p e below _ T0 (mkF m 4 #[.val (.ref a), .val (.int ai), .val (.int ti), .val (.int li), .unset, .unset, .unset] [])
  have hl : li.toInt = (n : Int) := hli ▸ own_subn hA hT (by omega)
  refine own_go (g' := (mkF m 5 #[.val (.ref a), .val (.int ai), .val (.int ti), .val (.int li), .unset, .unset, .unset] [(.int li)])) (fun _ k => XS.iloadN X0.here hx rfl (hb hby d3_4) rfl k) ?_
  by_cases c5 : li = 0
  · refine own_go (g' := (mkF m 27 #[.val (.ref a), .val (.int ai), .val (.int ti), .val (.int li), .unset, .unset, .unset] [])) (fun _ k => XS.ifYes X0.here hx rfl (pc0 := 5) (pc' := 27) rfl (hb hby d3_5) rfl (XT.i0_eq_t c5) (by decide) (by decide) k) ?_
    have q : n = 0 := own_eq0 hl c5
    refine own_go (g' := (mkF m 28 #[.val (.ref a), .val (.int ai), .val (.int ti), .val (.int li), .unset, .unset, .unset] [(.int (-1 : Int32))])) (fun _ k => XS.iconst X0.here hx rfl (hb hby d3_27) k) ?_
    exact own_retI X0 hx hlk hret e0 (hb hby d3_28) ⟨by simp [own_num, q], rfl, rfl⟩ (by decide) (by decide)
  · refine own_go (g' := (mkF m 8 #[.val (.ref a), .val (.int ai), .val (.int ti), .val (.int li), .unset, .unset, .unset] [])) (fun _ k => XS.ifNo X0.here hx rfl (hb hby d3_5) rfl (XT.i0_eq_f c5) k) ?_
    have q0 : ¬ n = 0 := fun q => c5 (own_eq0' hl q)
    refine own_go (g' := (mkF m 9 #[.val (.ref a), .val (.int ai), .val (.int ti), .val (.int li), .unset, .unset, .unset] [(.int li)])) (fun _ k => XS.iloadN X0.here hx rfl (hb hby d3_8) rfl k) ?_
    refine own_go (g' := (mkF m 11 #[.val (.ref a), .val (.int ai), .val (.int ti), .val (.int li), .unset, .unset, .unset] [(.int (9 : Int32)), (.int li)])) (fun _ k => XS.bipush X0.here hx rfl (hb hby d3_9) k) ?_
    by_cases c11 : (9 : Int32) < li
    · refine own_go (g' := (mkF m 27 #[.val (.ref a), .val (.int ai), .val (.int ti), .val (.int li), .unset, .unset, .unset] [])) (fun _ k => XS.icmpYes X0.here hx rfl (pc0 := 11) (pc' := 27) rfl (hb hby d3_11) rfl (XT.ii_gt_t c11) (by decide) (by decide) k) ?_
      have q : 9 < n := own_ltN hl (k := 9) (by decide) c11
      refine own_go (g' := (mkF m 28 #[.val (.ref a), .val (.int ai), .val (.int ti), .val (.int li), .unset, .unset, .unset] [(.int (-1 : Int32))])) (fun _ k => XS.iconst X0.here hx rfl (hb hby d3_27) k) ?_
      exact own_retI X0 hx hlk hret e0 (hb hby d3_28) ⟨by simp [own_num, q], rfl, rfl⟩ (by decide) (by decide)
    · refine own_go (g' := (mkF m 14 #[.val (.ref a), .val (.int ai), .val (.int ti), .val (.int li), .unset, .unset, .unset] [])) (fun _ k => XS.icmpNo X0.here hx rfl (hb hby d3_11) rfl (XT.ii_gt_f c11) k) ?_
      have q9 : ¬ 9 < n := own_nltN hl (k := 9) (by decide) c11
      refine own_go (g' := (mkF m 15 #[.val (.ref a), .val (.int ai), .val (.int ti), .val (.int li), .unset, .unset, .unset] [(.int li)])) (fun _ k => XS.iloadN X0.here hx rfl (hb hby d3_14) rfl k) ?_
      refine own_go (g' := (mkF m 16 #[.val (.ref a), .val (.int ai), .val (.int ti), .val (.int li), .unset, .unset, .unset] [(.int (1 : Int32)), (.int li)])) (fun _ k => XS.iconst X0.here hx rfl (hb hby d3_15) k) ?_
      suffices J : ¬ (1 < n ∧ f A = 48) → own_Go p e below (own_Po s (own_QI (own_num f A n) h0) 0 0) T0 (mkF m 29 #[.val (.ref a), .val (.int ai), .val (.int ti), .val (.int li), .unset, .unset, .unset] []) by
        by_cases c16 : (1 : Int32) < li
        · refine own_go (g' := (mkF m 19 #[.val (.ref a), .val (.int ai), .val (.int ti), .val (.int li), .unset, .unset, .unset] [])) (fun _ k => XS.icmpNo X0.here hx rfl (hb hby d3_16) rfl (XT.ii_le_f c16) k) ?_
          have q1 : 1 < n := own_ltN hl (k := 1) (by decide) c16
          refine own_go (g' := (mkF m 20 #[.val (.ref a), .val (.int ai), .val (.int ti), .val (.int li), .unset, .unset, .unset] [(.ref a)])) (fun _ k => XS.aloadN X0.here hx rfl (hb hby d3_19) rfl rfl k) ?_
          refine own_go (g' := (mkF m 21 #[.val (.ref a), .val (.int ai), .val (.int ti), .val (.int li), .unset, .unset, .unset] [(.int ai), (.ref a)])) (fun _ k => XS.iloadN X0.here hx rfl (hb hby d3_20) rfl k) ?_
          refine own_baload X0 hx hZ e0 F0 A hA (by omega) (hb hby d3_21) ?_
          show own_Go p e below _ T0 (mkF m 22 #[.val (.ref a), .val (.int ai), .val (.int ti), .val (.int li), .unset, .unset, .unset] [(.int (f A))])
          refine own_go (g' := (mkF m 24 #[.val (.ref a), .val (.int ai), .val (.int ti), .val (.int li), .unset, .unset, .unset] [(.int (48 : Int32)), (.int (f A))])) (fun _ k => XS.bipush X0.here hx rfl (hb hby d3_22) k) ?_
          by_cases c24 : (f A) = (48 : Int32)
          · refine own_go (g' := (mkF m 27 #[.val (.ref a), .val (.int ai), .val (.int ti), .val (.int li), .unset, .unset, .unset] [])) (fun _ k => XS.icmpNo X0.here hx rfl (hb hby d3_24) rfl (XT.ii_ne_f c24) k) ?_
            refine own_go (g' := (mkF m 28 #[.val (.ref a), .val (.int ai), .val (.int ti), .val (.int li), .unset, .unset, .unset] [(.int (-1 : Int32))])) (fun _ k => XS.iconst X0.here hx rfl (hb hby d3_27) k) ?_
            exact own_retI X0 hx hlk hret e0 (hb hby d3_28) ⟨by simp [own_num, q1, c24], rfl, rfl⟩ (by decide) (by decide)
          · refine own_go (g' := (mkF m 29 #[.val (.ref a), .val (.int ai), .val (.int ti), .val (.int li), .unset, .unset, .unset] [])) (fun _ k => XS.icmpYes X0.here hx rfl (pc0 := 24) (pc' := 29) rfl (hb hby d3_24) rfl (XT.ii_ne_t c24) (by decide) (by decide) k) ?_
            exact J (fun q => c24 q.2)
        · refine own_go (g' := (mkF m 29 #[.val (.ref a), .val (.int ai), .val (.int ti), .val (.int li), .unset, .unset, .unset] [])) (fun _ k => XS.icmpYes X0.here hx rfl (pc0 := 16) (pc' := 29) rfl (hb hby d3_16) rfl (XT.ii_le_t c16) (by decide) (by decide) k) ?_
          have q1 : ¬ 1 < n := own_nltN hl (k := 1) (by decide) c16
          exact J (fun q => q1 q.1)
      intro q2
      have hnum : own_num f A n = own_nf f A n 0 0 := by simp only [own_num]; rw [if_neg]; simp only [not_or]; exact ⟨q0, q9, q2⟩
      refine own_go (g' := (mkF m 30 #[.val (.ref a), .val (.int ai), .val (.int ti), .val (.int li), .unset, .unset, .unset] [(.int (0 : Int32))])) (fun _ k => XS.iconst X0.here hx rfl (hb hby d3_29) k) ?_
      refine own_go (g' := (mkF m 32 #[.val (.ref a), .val (.int ai), .val (.int ti), .val (.int li), .val (.int (0 : Int32)), .unset, .unset] [])) (fun _ k => XS.istore X0.here hx rfl (hb hby d3_30) rfl (l' := #[.val (.ref a), .val (.int ai), .val (.int ti), .val (.int li), .val (.int (0 : Int32)), .unset, .unset]) rfl k) ?_
      refine own_go (g' := (mkF m 33 #[.val (.ref a), .val (.int ai), .val (.int ti), .val (.int li), .val (.int (0 : Int32)), .unset, .unset] [(.int ai)])) (fun _ k => XS.iloadN X0.here hx rfl (hb hby d3_32) rfl k) ?_
      refine own_go (g' := (mkF m 35 #[.val (.ref a), .val (.int ai), .val (.int ti), .val (.int li), .val (.int (0 : Int32)), .val (.int ai), .unset] [])) (fun _ k => XS.istore X0.here hx rfl (hb hby d3_33) rfl (l' := #[.val (.ref a), .val (.int ai), .val (.int ti), .val (.int li), .val (.int (0 : Int32)), .val (.int ai), .unset]) rfl k) ?_
      suffices loop : ∀ (d i : Nat) (acc iv : Int32) (s6 : Slot), (s6 = .unset ∨ ∃ w, s6 = .val w ∧ w.category = 1) → i + d = n → iv.toInt = ((A + i : Nat) : Int) → own_num f A n = own_nf f A d i acc → own_Go p e below (own_Po s (own_QI (own_num f A n) h0) 0 0) T0 (mkF m 35 #[.val (.ref a), .val (.int ai), .val (.int ti), .val (.int li), .val (.int acc), .val (.int iv), s6] []) by
        exact loop n 0 0 ai .unset (Or.inl rfl) (by omega) hA hnum
      intro d
      induction d with
      | zero =>
        intro i acc iv s6 hs6 hid hiv hc
        refine own_go (g' := (mkF m 37 #[.val (.ref a), .val (.int ai), .val (.int ti), .val (.int li), .val (.int acc), .val (.int iv), s6] [(.int iv)])) (fun _ k => XS.iload X0.here hx rfl (hb hby d3_35) rfl k) ?_
        refine own_go (g' := (mkF m 38 #[.val (.ref a), .val (.int ai), .val (.int ti), .val (.int li), .val (.int acc), .val (.int iv), s6] [(.int ti), (.int iv)])) (fun _ k => XS.iloadN X0.here hx rfl (hb hby d3_37) rfl k) ?_
        refine own_go (g' := (mkF m 80 #[.val (.ref a), .val (.int ai), .val (.int ti), .val (.int li), .val (.int acc), .val (.int iv), s6] [])) (fun _ k => XS.icmpYes X0.here hx rfl (pc0 := 38) (pc' := 80) rfl (hb hby d3_38) rfl (XT.ii_ge_t (by rw [Int32.lt_iff_toInt_lt, hiv, hT]; omega)) (by decide) (by decide) k) ?_
        refine own_go (g' := (mkF m 82 #[.val (.ref a), .val (.int ai), .val (.int ti), .val (.int li), .val (.int acc), .val (.int iv), s6] [(.int acc)])) (fun _ k => XS.iload X0.here hx rfl (hb hby d3_80) rfl k) ?_
        exact own_retI X0 hx hlk hret e0 (hb hby d3_82) ⟨by rw [hc]; rfl, rfl, rfl⟩ (by decide) (by decide)
      | succ d ih =>
        intro i acc iv s6 hs6 hid hiv hc
        refine own_go (g' := (mkF m 37 #[.val (.ref a), .val (.int ai), .val (.int ti), .val (.int li), .val (.int acc), .val (.int iv), s6] [(.int iv)])) (fun _ k => XS.iload X0.here hx rfl (hb hby d3_35) rfl k) ?_
        refine own_go (g' := (mkF m 38 #[.val (.ref a), .val (.int ai), .val (.int ti), .val (.int li), .val (.int acc), .val (.int iv), s6] [(.int ti), (.int iv)])) (fun _ k => XS.iloadN X0.here hx rfl (hb hby d3_37) rfl k) ?_
        refine own_go (g' := (mkF m 41 #[.val (.ref a), .val (.int ai), .val (.int ti), .val (.int li), .val (.int acc), .val (.int iv), s6] [])) (fun _ k => XS.icmpNo X0.here hx rfl (hb hby d3_38) rfl (XT.ii_ge_f (by rw [Int32.lt_iff_toInt_lt, hiv, hT]; omega)) k) ?_
        refine own_go (g' := (mkF m 42 #[.val (.ref a), .val (.int ai), .val (.int ti), .val (.int li), .val (.int acc), .val (.int iv), s6] [(.ref a)])) (fun _ k => XS.aloadN X0.here hx rfl (hb hby d3_41) rfl rfl k) ?_
        refine own_go (g' := (mkF m 44 #[.val (.ref a), .val (.int ai), .val (.int ti), .val (.int li), .val (.int acc), .val (.int iv), s6] [(.int iv), (.ref a)])) (fun _ k => XS.iload X0.here hx rfl (hb hby d3_42) rfl k) ?_
        refine own_baload X0 hx hZ e0 F0 (A + i) hiv (by omega) (hb hby d3_44) ?_
        show own_Go p e below _ T0 (mkF m 45 #[.val (.ref a), .val (.int ai), .val (.int ti), .val (.int li), .val (.int acc), .val (.int iv), s6] [(.int (f (A + i)))])
        refine own_go (g' := (mkF m 47 #[.val (.ref a), .val (.int ai), .val (.int ti), .val (.int li), .val (.int acc), .val (.int iv), s6] [(.int (48 : Int32)), (.int (f (A + i)))])) (fun _ k => XS.bipush X0.here hx rfl (hb hby d3_45) k) ?_
        refine own_go (g' := (mkF m 48 #[.val (.ref a), .val (.int ai), .val (.int ti), .val (.int li), .val (.int acc), .val (.int iv), s6] [(.int ((f (A + i)) - (48 : Int32)))])) (fun _ k => XS.isub X0.here hx rfl (hb hby d3_47) rfl k) ?_
        refine own_go (g' := (mkF m 50 #[.val (.ref a), .val (.int ai), .val (.int ti), .val (.int li), .val (.int acc), .val (.int iv), .val (.int ((f (A + i)) - (48 : Int32)))] [])) (fun _ k => XS.istoreS X0.here hx rfl (hb hby d3_48) rfl (o := s6) rfl hs6 k) ?_
        obtain ⟨dg, hdg⟩ : ∃ z : Int32, z = ((f (A + i)) - (48 : Int32)) := ⟨_, rfl⟩
        rw [← hdg]
        show own_Go p e below _ T0 (mkF m 50 #[.val (.ref a), .val (.int ai), .val (.int ti), .val (.int li), .val (.int acc), .val (.int iv), .val (.int dg)] [])
        refine own_go (g' := (mkF m 52 #[.val (.ref a), .val (.int ai), .val (.int ti), .val (.int li), .val (.int acc), .val (.int iv), .val (.int dg)] [(.int dg)])) (fun _ k => XS.iload X0.here hx rfl (hb hby d3_50) rfl k) ?_
        by_cases c52 : dg < 0
        · refine own_go (g' := (mkF m 62 #[.val (.ref a), .val (.int ai), .val (.int ti), .val (.int li), .val (.int acc), .val (.int iv), .val (.int dg)] [])) (fun _ k => XS.ifYes X0.here hx rfl (pc0 := 52) (pc' := 62) rfl (hb hby d3_52) rfl (XT.i0_lt_t c52) (by decide) (by decide) k) ?_
          refine own_go (g' := (mkF m 63 #[.val (.ref a), .val (.int ai), .val (.int ti), .val (.int li), .val (.int acc), .val (.int iv), .val (.int dg)] [(.int (-1 : Int32))])) (fun _ k => XS.iconst X0.here hx rfl (hb hby d3_62) k) ?_
          exact own_retI X0 hx hlk hret e0 (hb hby d3_63) ⟨by rw [hc]; simp [own_nf, ← hdg, c52], rfl, rfl⟩ (by decide) (by decide)
        · refine own_go (g' := (mkF m 55 #[.val (.ref a), .val (.int ai), .val (.int ti), .val (.int li), .val (.int acc), .val (.int iv), .val (.int dg)] [])) (fun _ k => XS.ifNo X0.here hx rfl (hb hby d3_52) rfl (XT.i0_lt_f c52) k) ?_
          refine own_go (g' := (mkF m 57 #[.val (.ref a), .val (.int ai), .val (.int ti), .val (.int li), .val (.int acc), .val (.int iv), .val (.int dg)] [(.int dg)])) (fun _ k => XS.iload X0.here hx rfl (hb hby d3_55) rfl k) ?_
          refine own_go (g' := (mkF m 59 #[.val (.ref a), .val (.int ai), .val (.int ti), .val (.int li), .val (.int acc), .val (.int iv), .val (.int dg)] [(.int (9 : Int32)), (.int dg)])) (fun _ k => XS.bipush X0.here hx rfl (hb hby d3_57) k) ?_
          by_cases c59 : (9 : Int32) < dg
          · refine own_go (g' := (mkF m 62 #[.val (.ref a), .val (.int ai), .val (.int ti), .val (.int li), .val (.int acc), .val (.int iv), .val (.int dg)] [])) (fun _ k => XS.icmpNo X0.here hx rfl (hb hby d3_59) rfl (XT.ii_le_f c59) k) ?_
            refine own_go (g' := (mkF m 63 #[.val (.ref a), .val (.int ai), .val (.int ti), .val (.int li), .val (.int acc), .val (.int iv), .val (.int dg)] [(.int (-1 : Int32))])) (fun _ k => XS.iconst X0.here hx rfl (hb hby d3_62) k) ?_
            exact own_retI X0 hx hlk hret e0 (hb hby d3_63) ⟨by rw [hc]; simp [own_nf, ← hdg, c59], rfl, rfl⟩ (by decide) (by decide)
          · refine own_go (g' := (mkF m 64 #[.val (.ref a), .val (.int ai), .val (.int ti), .val (.int li), .val (.int acc), .val (.int iv), .val (.int dg)] [])) (fun _ k => XS.icmpYes X0.here hx rfl (pc0 := 59) (pc' := 64) rfl (hb hby d3_59) rfl (XT.ii_le_t c59) (by decide) (by decide) k) ?_
            refine own_go (g' := (mkF m 66 #[.val (.ref a), .val (.int ai), .val (.int ti), .val (.int li), .val (.int acc), .val (.int iv), .val (.int dg)] [(.int acc)])) (fun _ k => XS.iload X0.here hx rfl (hb hby d3_64) rfl k) ?_
            refine own_go (g' := (mkF m 68 #[.val (.ref a), .val (.int ai), .val (.int ti), .val (.int li), .val (.int acc), .val (.int iv), .val (.int dg)] [(.int (10 : Int32)), (.int acc)])) (fun _ k => XS.bipush X0.here hx rfl (hb hby d3_66) k) ?_
            refine own_go (g' := (mkF m 69 #[.val (.ref a), .val (.int ai), .val (.int ti), .val (.int li), .val (.int acc), .val (.int iv), .val (.int dg)] [(.int (acc * (10 : Int32)))])) (fun _ k => XS.imul X0.here hx rfl (hb hby d3_68) rfl k) ?_
            refine own_go (g' := (mkF m 71 #[.val (.ref a), .val (.int ai), .val (.int ti), .val (.int li), .val (.int acc), .val (.int iv), .val (.int dg)] [(.int dg), (.int (acc * (10 : Int32)))])) (fun _ k => XS.iload X0.here hx rfl (hb hby d3_69) rfl k) ?_
            refine own_go (g' := (mkF m 72 #[.val (.ref a), .val (.int ai), .val (.int ti), .val (.int li), .val (.int acc), .val (.int iv), .val (.int dg)] [(.int ((acc * (10 : Int32)) + dg))])) (fun _ k => XS.iadd X0.here hx rfl (hb hby d3_71) rfl k) ?_
            refine own_go (g' := (mkF m 74 #[.val (.ref a), .val (.int ai), .val (.int ti), .val (.int li), .val (.int ((acc * (10 : Int32)) + dg)), .val (.int iv), .val (.int dg)] [])) (fun _ k => XS.istore X0.here hx rfl (hb hby d3_72) rfl (l' := #[.val (.ref a), .val (.int ai), .val (.int ti), .val (.int li), .val (.int ((acc * (10 : Int32)) + dg)), .val (.int iv), .val (.int dg)]) rfl k) ?_
            refine own_go (g' := (mkF m 77 #[.val (.ref a), .val (.int ai), .val (.int ti), .val (.int li), .val (.int ((acc * (10 : Int32)) + dg)), .val (.int (iv + (1 : Int32))), .val (.int dg)] [])) (fun _ k => XS.iinc X0.here hx rfl (hb hby d3_74) rfl (l' := #[.val (.ref a), .val (.int ai), .val (.int ti), .val (.int li), .val (.int ((acc * (10 : Int32)) + dg)), .val (.int (iv + (1 : Int32))), .val (.int dg)]) rfl k) ?_
            refine own_go (g' := (mkF m 35 #[.val (.ref a), .val (.int ai), .val (.int ti), .val (.int li), .val (.int ((acc * (10 : Int32)) + dg)), .val (.int (iv + (1 : Int32))), .val (.int dg)] [])) (fun _ k => XS.goto X0.here hx rfl (pc0 := 77) (pc' := 35) rfl (hb hby d3_77) (by decide) (by decide) k) ?_
            exact ih (i + 1) _ _ _ (Or.inr ⟨_, rfl, rfl⟩) (by omega) (own_inc (i := A + i) hiv (by omega)) (by rw [hc]; simp [own_nf, ← hdg, c52, c59])
def own_Q0 (n0 : Nat) (v : Option Value) (h : Heap) (L : List Loc) : Prop := v = some (.int 1) ∧ Fr n0 L
set_option maxRecDepth 65536 in
set_option maxHeartbeats 40000000 in
theorem own_rm0 (l : Launch) (Z : State) (a0 : Array Value) (hw : ∀ d ∈ tables_1, d.before a0 Z = true) (ws : List Jvm.Cond) (pn pl pp pb pm pk : Int32) (h0 : Heap) (n0 : Nat) (Z0 : n0 ≤ h0.size) :
    own_Met l x code maxLocals ret ws room_1 Z #[(.int pn), (.int pl), (.int pp), (.int pb), (.int pm), (.int pk)] h0 (own_Q0 n0) := by
  refine own_enter (plainFor_of_name pn_0) ?_
  intro p e s m below meth c T0 X0 hx hby hml hZ hown e0 hret hlk hnm
  have hown : s.vm.findClass "org/kusuridana/CsvLineNumberPinLaw" = some m.cls := hown
  have hml : c.maxLocals = 19 := hml
  have N0 := Fr.nil n0
  refine own_start (ef_0 m pn pl pp pb pm pk) ?_
  show own_Go p e below _ T0 (mkF m 0 #[.val (.int pn), .val (.int pl), .val (.int pp), .val (.int pb), .val (.int pm), .val (.int pk), .unset, .unset, .unset, .unset, .unset, .unset, .unset, .unset, .unset, .unset, .unset, .unset, .unset] [])
  refine own_go (g' := (mkF m 2 #[.val (.int pn), .val (.int pl), .val (.int pp), .val (.int pb), .val (.int pm), .val (.int pk), .unset, .unset, .unset, .unset, .unset, .unset, .unset, .unset, .unset, .unset, .unset, .unset, .unset] [(.int (10 : Int32))])) (fun _ k => XS.bipush X0.here hx rfl (hb hby at_0) k) ?_
  refine own_newP X0 hx hZ e0 (aty := .int) (hw _ (List.mem_of_getElem? (i := 0) rfl)) 10 (by decide) (by decide) (by decide) (by decide) (by decide) (hb hby at_2) ?_
  intro T11 h11 b11 g11 X11 e11 E11 A11
  show own_Go p e below _ T11 (mkF m 4 #[.val (.int pn), .val (.int pl), .val (.int pp), .val (.int pb), .val (.int pm), .val (.int pk), .unset, .unset, .unset, .unset, .unset, .unset, .unset, .unset, .unset, .unset, .unset, .unset, .unset] [(.ref b11)])
  have gp : n0 ≤ b11 := Nat.le_trans Z0 (Nat.le_of_eq g11.symm)
  have P11 : own_Ai Z h11 b11 .int 10 (fun _ => 0) := A11
  have S11 : n0 ≤ h11.size := Nat.le_trans Z0 E11.1
  refine own_go (g' := (mkF m 5 #[.val (.int pn), .val (.int pl), .val (.int pp), .val (.int pb), .val (.int pm), .val (.int pk), .unset, .unset, .unset, .unset, .unset, .unset, .unset, .unset, .unset, .unset, .unset, .unset, .unset] [(.ref b11), (.ref b11)])) (fun _ k => XS.dup X11.here hx rfl (hb hby at_4) rfl rfl k) ?_
  refine own_go (g' := (mkF m 6 #[.val (.int pn), .val (.int pl), .val (.int pp), .val (.int pb), .val (.int pm), .val (.int pk), .unset, .unset, .unset, .unset, .unset, .unset, .unset, .unset, .unset, .unset, .unset, .unset, .unset] [(.int (0 : Int32)), (.ref b11), (.ref b11)])) (fun _ k => XS.iconst X11.here hx rfl (hb hby at_5) k) ?_
  refine own_go (g' := (mkF m 7 #[.val (.int pn), .val (.int pl), .val (.int pp), .val (.int pb), .val (.int pm), .val (.int pk), .unset, .unset, .unset, .unset, .unset, .unset, .unset, .unset, .unset, .unset, .unset, .unset, .unset] [(.int (1 : Int32)), (.int (0 : Int32)), (.ref b11), (.ref b11)])) (fun _ k => XS.iconst X11.here hx rfl (hb hby at_6) k) ?_
  refine own_iastore X11 hx hZ e11 P11 0 (by decide) (by decide) (hb hby at_7) ?_
  intro T12 h12 X12 e12 W12
  show own_Go p e below _ T12 (mkF m 8 #[.val (.int pn), .val (.int pl), .val (.int pp), .val (.int pb), .val (.int pm), .val (.int pk), .unset, .unset, .unset, .unset, .unset, .unset, .unset, .unset, .unset, .unset, .unset, .unset, .unset] [(.ref b11)])
  have P12 := own_Ai_set P11 W12
  have N12 := Fr.snoc X12 N0 gp
  have S12 : n0 ≤ h12.size := by rw [W12.size]; exact S11
  refine own_go (g' := (mkF m 9 #[.val (.int pn), .val (.int pl), .val (.int pp), .val (.int pb), .val (.int pm), .val (.int pk), .unset, .unset, .unset, .unset, .unset, .unset, .unset, .unset, .unset, .unset, .unset, .unset, .unset] [(.ref b11), (.ref b11)])) (fun _ k => XS.dup X12.here hx rfl (hb hby at_8) rfl rfl k) ?_
  refine own_go (g' := (mkF m 10 #[.val (.int pn), .val (.int pl), .val (.int pp), .val (.int pb), .val (.int pm), .val (.int pk), .unset, .unset, .unset, .unset, .unset, .unset, .unset, .unset, .unset, .unset, .unset, .unset, .unset] [(.int (1 : Int32)), (.ref b11), (.ref b11)])) (fun _ k => XS.iconst X12.here hx rfl (hb hby at_9) k) ?_
  refine own_go (g' := (mkF m 12 #[.val (.int pn), .val (.int pl), .val (.int pp), .val (.int pb), .val (.int pm), .val (.int pk), .unset, .unset, .unset, .unset, .unset, .unset, .unset, .unset, .unset, .unset, .unset, .unset, .unset] [(.int (10 : Int32)), (.int (1 : Int32)), (.ref b11), (.ref b11)])) (fun _ k => XS.bipush X12.here hx rfl (hb hby at_10) k) ?_
  refine own_iastore X12 hx hZ e12 P12 1 (by decide) (by decide) (hb hby at_12) ?_
  intro T13 h13 X13 e13 W13
  show own_Go p e below _ T13 (mkF m 13 #[.val (.int pn), .val (.int pl), .val (.int pp), .val (.int pb), .val (.int pm), .val (.int pk), .unset, .unset, .unset, .unset, .unset, .unset, .unset, .unset, .unset, .unset, .unset, .unset, .unset] [(.ref b11)])
  have P13 := own_Ai_set P12 W13
  have N13 := Fr.snoc X13 N12 gp
  have S13 : n0 ≤ h13.size := by rw [W13.size]; exact S12
  refine own_go (g' := (mkF m 14 #[.val (.int pn), .val (.int pl), .val (.int pp), .val (.int pb), .val (.int pm), .val (.int pk), .unset, .unset, .unset, .unset, .unset, .unset, .unset, .unset, .unset, .unset, .unset, .unset, .unset] [(.ref b11), (.ref b11)])) (fun _ k => XS.dup X13.here hx rfl (hb hby at_13) rfl rfl k) ?_
  refine own_go (g' := (mkF m 15 #[.val (.int pn), .val (.int pl), .val (.int pp), .val (.int pb), .val (.int pm), .val (.int pk), .unset, .unset, .unset, .unset, .unset, .unset, .unset, .unset, .unset, .unset, .unset, .unset, .unset] [(.int (2 : Int32)), (.ref b11), (.ref b11)])) (fun _ k => XS.iconst X13.here hx rfl (hb hby at_14) k) ?_
  refine own_go (g' := (mkF m 17 #[.val (.int pn), .val (.int pl), .val (.int pp), .val (.int pb), .val (.int pm), .val (.int pk), .unset, .unset, .unset, .unset, .unset, .unset, .unset, .unset, .unset, .unset, .unset, .unset, .unset] [(.int (100 : Int32)), (.int (2 : Int32)), (.ref b11), (.ref b11)])) (fun _ k => XS.bipush X13.here hx rfl (hb hby at_15) k) ?_
  refine own_iastore X13 hx hZ e13 P13 2 (by decide) (by decide) (hb hby at_17) ?_
  intro T14 h14 X14 e14 W14
  show own_Go p e below _ T14 (mkF m 18 #[.val (.int pn), .val (.int pl), .val (.int pp), .val (.int pb), .val (.int pm), .val (.int pk), .unset, .unset, .unset, .unset, .unset, .unset, .unset, .unset, .unset, .unset, .unset, .unset, .unset] [(.ref b11)])
  have P14 := own_Ai_set P13 W14
  have N14 := Fr.snoc X14 N13 gp
  have S14 : n0 ≤ h14.size := by rw [W14.size]; exact S13
  refine own_go (g' := (mkF m 19 #[.val (.int pn), .val (.int pl), .val (.int pp), .val (.int pb), .val (.int pm), .val (.int pk), .unset, .unset, .unset, .unset, .unset, .unset, .unset, .unset, .unset, .unset, .unset, .unset, .unset] [(.ref b11), (.ref b11)])) (fun _ k => XS.dup X14.here hx rfl (hb hby at_18) rfl rfl k) ?_
  refine own_go (g' := (mkF m 20 #[.val (.int pn), .val (.int pl), .val (.int pp), .val (.int pb), .val (.int pm), .val (.int pk), .unset, .unset, .unset, .unset, .unset, .unset, .unset, .unset, .unset, .unset, .unset, .unset, .unset] [(.int (3 : Int32)), (.ref b11), (.ref b11)])) (fun _ k => XS.iconst X14.here hx rfl (hb hby at_19) k) ?_
  refine own_go (g' := (mkF m 23 #[.val (.int pn), .val (.int pl), .val (.int pp), .val (.int pb), .val (.int pm), .val (.int pk), .unset, .unset, .unset, .unset, .unset, .unset, .unset, .unset, .unset, .unset, .unset, .unset, .unset] [(.int (1000 : Int32)), (.int (3 : Int32)), (.ref b11), (.ref b11)])) (fun _ k => XS.sipush X14.here hx rfl (hb hby at_20) k) ?_
  refine own_iastore X14 hx hZ e14 P14 3 (by decide) (by decide) (hb hby at_23) ?_
  intro T15 h15 X15 e15 W15
  show own_Go p e below _ T15 (mkF m 24 #[.val (.int pn), .val (.int pl), .val (.int pp), .val (.int pb), .val (.int pm), .val (.int pk), .unset, .unset, .unset, .unset, .unset, .unset, .unset, .unset, .unset, .unset, .unset, .unset, .unset] [(.ref b11)])
  have P15 := own_Ai_set P14 W15
  have N15 := Fr.snoc X15 N14 gp
  have S15 : n0 ≤ h15.size := by rw [W15.size]; exact S14
  refine own_go (g' := (mkF m 25 #[.val (.int pn), .val (.int pl), .val (.int pp), .val (.int pb), .val (.int pm), .val (.int pk), .unset, .unset, .unset, .unset, .unset, .unset, .unset, .unset, .unset, .unset, .unset, .unset, .unset] [(.ref b11), (.ref b11)])) (fun _ k => XS.dup X15.here hx rfl (hb hby at_24) rfl rfl k) ?_
  refine own_go (g' := (mkF m 26 #[.val (.int pn), .val (.int pl), .val (.int pp), .val (.int pb), .val (.int pm), .val (.int pk), .unset, .unset, .unset, .unset, .unset, .unset, .unset, .unset, .unset, .unset, .unset, .unset, .unset] [(.int (4 : Int32)), (.ref b11), (.ref b11)])) (fun _ k => XS.iconst X15.here hx rfl (hb hby at_25) k) ?_
  refine own_go (g' := (mkF m 29 #[.val (.int pn), .val (.int pl), .val (.int pp), .val (.int pb), .val (.int pm), .val (.int pk), .unset, .unset, .unset, .unset, .unset, .unset, .unset, .unset, .unset, .unset, .unset, .unset, .unset] [(.int (10000 : Int32)), (.int (4 : Int32)), (.ref b11), (.ref b11)])) (fun _ k => XS.sipush X15.here hx rfl (hb hby at_26) k) ?_
  refine own_iastore X15 hx hZ e15 P15 4 (by decide) (by decide) (hb hby at_29) ?_
  intro T16 h16 X16 e16 W16
  show own_Go p e below _ T16 (mkF m 30 #[.val (.int pn), .val (.int pl), .val (.int pp), .val (.int pb), .val (.int pm), .val (.int pk), .unset, .unset, .unset, .unset, .unset, .unset, .unset, .unset, .unset, .unset, .unset, .unset, .unset] [(.ref b11)])
  have P16 := own_Ai_set P15 W16
  have N16 := Fr.snoc X16 N15 gp
  have S16 : n0 ≤ h16.size := by rw [W16.size]; exact S15
  refine own_go (g' := (mkF m 31 #[.val (.int pn), .val (.int pl), .val (.int pp), .val (.int pb), .val (.int pm), .val (.int pk), .unset, .unset, .unset, .unset, .unset, .unset, .unset, .unset, .unset, .unset, .unset, .unset, .unset] [(.ref b11), (.ref b11)])) (fun _ k => XS.dup X16.here hx rfl (hb hby at_30) rfl rfl k) ?_
  refine own_go (g' := (mkF m 32 #[.val (.int pn), .val (.int pl), .val (.int pp), .val (.int pb), .val (.int pm), .val (.int pk), .unset, .unset, .unset, .unset, .unset, .unset, .unset, .unset, .unset, .unset, .unset, .unset, .unset] [(.int (5 : Int32)), (.ref b11), (.ref b11)])) (fun _ k => XS.iconst X16.here hx rfl (hb hby at_31) k) ?_
  refine own_go (g' := (mkF m 34 #[.val (.int pn), .val (.int pl), .val (.int pp), .val (.int pb), .val (.int pm), .val (.int pk), .unset, .unset, .unset, .unset, .unset, .unset, .unset, .unset, .unset, .unset, .unset, .unset, .unset] [(.int (100000 : Int32)), (.int (5 : Int32)), (.ref b11), (.ref b11)])) (fun _ k => X16.ldcInt hx hown (mvT hZ (hw _ (List.mem_of_getElem? (i := 1) rfl))) (g := (mkF m 32 #[.val (.int pn), .val (.int pl), .val (.int pp), .val (.int pb), .val (.int pm), .val (.int pk), .unset, .unset, .unset, .unset, .unset, .unset, .unset, .unset, .unset, .unset, .unset, .unset, .unset] [(.int (5 : Int32)), (.ref b11), (.ref b11)])) rfl (hb hby at_32) _ k) ?_
  refine own_iastore X16 hx hZ e16 P16 5 (by decide) (by decide) (hb hby at_34) ?_
  intro T17 h17 X17 e17 W17
  show own_Go p e below _ T17 (mkF m 35 #[.val (.int pn), .val (.int pl), .val (.int pp), .val (.int pb), .val (.int pm), .val (.int pk), .unset, .unset, .unset, .unset, .unset, .unset, .unset, .unset, .unset, .unset, .unset, .unset, .unset] [(.ref b11)])
  have P17 := own_Ai_set P16 W17
  have N17 := Fr.snoc X17 N16 gp
  have S17 : n0 ≤ h17.size := by rw [W17.size]; exact S16
  refine own_go (g' := (mkF m 36 #[.val (.int pn), .val (.int pl), .val (.int pp), .val (.int pb), .val (.int pm), .val (.int pk), .unset, .unset, .unset, .unset, .unset, .unset, .unset, .unset, .unset, .unset, .unset, .unset, .unset] [(.ref b11), (.ref b11)])) (fun _ k => XS.dup X17.here hx rfl (hb hby at_35) rfl rfl k) ?_
  refine own_go (g' := (mkF m 38 #[.val (.int pn), .val (.int pl), .val (.int pp), .val (.int pb), .val (.int pm), .val (.int pk), .unset, .unset, .unset, .unset, .unset, .unset, .unset, .unset, .unset, .unset, .unset, .unset, .unset] [(.int (6 : Int32)), (.ref b11), (.ref b11)])) (fun _ k => XS.bipush X17.here hx rfl (hb hby at_36) k) ?_
  refine own_go (g' := (mkF m 40 #[.val (.int pn), .val (.int pl), .val (.int pp), .val (.int pb), .val (.int pm), .val (.int pk), .unset, .unset, .unset, .unset, .unset, .unset, .unset, .unset, .unset, .unset, .unset, .unset, .unset] [(.int (1000000 : Int32)), (.int (6 : Int32)), (.ref b11), (.ref b11)])) (fun _ k => X17.ldcInt hx hown (mvT hZ (hw _ (List.mem_of_getElem? (i := 2) rfl))) (g := (mkF m 38 #[.val (.int pn), .val (.int pl), .val (.int pp), .val (.int pb), .val (.int pm), .val (.int pk), .unset, .unset, .unset, .unset, .unset, .unset, .unset, .unset, .unset, .unset, .unset, .unset, .unset] [(.int (6 : Int32)), (.ref b11), (.ref b11)])) rfl (hb hby at_38) _ k) ?_
  refine own_iastore X17 hx hZ e17 P17 6 (by decide) (by decide) (hb hby at_40) ?_
  intro T18 h18 X18 e18 W18
  show own_Go p e below _ T18 (mkF m 41 #[.val (.int pn), .val (.int pl), .val (.int pp), .val (.int pb), .val (.int pm), .val (.int pk), .unset, .unset, .unset, .unset, .unset, .unset, .unset, .unset, .unset, .unset, .unset, .unset, .unset] [(.ref b11)])
  have P18 := own_Ai_set P17 W18
  have N18 := Fr.snoc X18 N17 gp
  have S18 : n0 ≤ h18.size := by rw [W18.size]; exact S17
  refine own_go (g' := (mkF m 42 #[.val (.int pn), .val (.int pl), .val (.int pp), .val (.int pb), .val (.int pm), .val (.int pk), .unset, .unset, .unset, .unset, .unset, .unset, .unset, .unset, .unset, .unset, .unset, .unset, .unset] [(.ref b11), (.ref b11)])) (fun _ k => XS.dup X18.here hx rfl (hb hby at_41) rfl rfl k) ?_
  refine own_go (g' := (mkF m 44 #[.val (.int pn), .val (.int pl), .val (.int pp), .val (.int pb), .val (.int pm), .val (.int pk), .unset, .unset, .unset, .unset, .unset, .unset, .unset, .unset, .unset, .unset, .unset, .unset, .unset] [(.int (7 : Int32)), (.ref b11), (.ref b11)])) (fun _ k => XS.bipush X18.here hx rfl (hb hby at_42) k) ?_
  refine own_go (g' := (mkF m 46 #[.val (.int pn), .val (.int pl), .val (.int pp), .val (.int pb), .val (.int pm), .val (.int pk), .unset, .unset, .unset, .unset, .unset, .unset, .unset, .unset, .unset, .unset, .unset, .unset, .unset] [(.int (10000000 : Int32)), (.int (7 : Int32)), (.ref b11), (.ref b11)])) (fun _ k => X18.ldcInt hx hown (mvT hZ (hw _ (List.mem_of_getElem? (i := 3) rfl))) (g := (mkF m 44 #[.val (.int pn), .val (.int pl), .val (.int pp), .val (.int pb), .val (.int pm), .val (.int pk), .unset, .unset, .unset, .unset, .unset, .unset, .unset, .unset, .unset, .unset, .unset, .unset, .unset] [(.int (7 : Int32)), (.ref b11), (.ref b11)])) rfl (hb hby at_44) _ k) ?_
  refine own_iastore X18 hx hZ e18 P18 7 (by decide) (by decide) (hb hby at_46) ?_
  intro T19 h19 X19 e19 W19
  show own_Go p e below _ T19 (mkF m 47 #[.val (.int pn), .val (.int pl), .val (.int pp), .val (.int pb), .val (.int pm), .val (.int pk), .unset, .unset, .unset, .unset, .unset, .unset, .unset, .unset, .unset, .unset, .unset, .unset, .unset] [(.ref b11)])
  have P19 := own_Ai_set P18 W19
  have N19 := Fr.snoc X19 N18 gp
  have S19 : n0 ≤ h19.size := by rw [W19.size]; exact S18
  refine own_go (g' := (mkF m 48 #[.val (.int pn), .val (.int pl), .val (.int pp), .val (.int pb), .val (.int pm), .val (.int pk), .unset, .unset, .unset, .unset, .unset, .unset, .unset, .unset, .unset, .unset, .unset, .unset, .unset] [(.ref b11), (.ref b11)])) (fun _ k => XS.dup X19.here hx rfl (hb hby at_47) rfl rfl k) ?_
  refine own_go (g' := (mkF m 50 #[.val (.int pn), .val (.int pl), .val (.int pp), .val (.int pb), .val (.int pm), .val (.int pk), .unset, .unset, .unset, .unset, .unset, .unset, .unset, .unset, .unset, .unset, .unset, .unset, .unset] [(.int (8 : Int32)), (.ref b11), (.ref b11)])) (fun _ k => XS.bipush X19.here hx rfl (hb hby at_48) k) ?_
  refine own_go (g' := (mkF m 52 #[.val (.int pn), .val (.int pl), .val (.int pp), .val (.int pb), .val (.int pm), .val (.int pk), .unset, .unset, .unset, .unset, .unset, .unset, .unset, .unset, .unset, .unset, .unset, .unset, .unset] [(.int (100000000 : Int32)), (.int (8 : Int32)), (.ref b11), (.ref b11)])) (fun _ k => X19.ldcInt hx hown (mvT hZ (hw _ (List.mem_of_getElem? (i := 4) rfl))) (g := (mkF m 50 #[.val (.int pn), .val (.int pl), .val (.int pp), .val (.int pb), .val (.int pm), .val (.int pk), .unset, .unset, .unset, .unset, .unset, .unset, .unset, .unset, .unset, .unset, .unset, .unset, .unset] [(.int (8 : Int32)), (.ref b11), (.ref b11)])) rfl (hb hby at_50) _ k) ?_
  refine own_iastore X19 hx hZ e19 P19 8 (by decide) (by decide) (hb hby at_52) ?_
  intro T20 h20 X20 e20 W20
  show own_Go p e below _ T20 (mkF m 53 #[.val (.int pn), .val (.int pl), .val (.int pp), .val (.int pb), .val (.int pm), .val (.int pk), .unset, .unset, .unset, .unset, .unset, .unset, .unset, .unset, .unset, .unset, .unset, .unset, .unset] [(.ref b11)])
  have P20 := own_Ai_set P19 W20
  have N20 := Fr.snoc X20 N19 gp
  have S20 : n0 ≤ h20.size := by rw [W20.size]; exact S19
  refine own_go (g' := (mkF m 54 #[.val (.int pn), .val (.int pl), .val (.int pp), .val (.int pb), .val (.int pm), .val (.int pk), .unset, .unset, .unset, .unset, .unset, .unset, .unset, .unset, .unset, .unset, .unset, .unset, .unset] [(.ref b11), (.ref b11)])) (fun _ k => XS.dup X20.here hx rfl (hb hby at_53) rfl rfl k) ?_
  refine own_go (g' := (mkF m 56 #[.val (.int pn), .val (.int pl), .val (.int pp), .val (.int pb), .val (.int pm), .val (.int pk), .unset, .unset, .unset, .unset, .unset, .unset, .unset, .unset, .unset, .unset, .unset, .unset, .unset] [(.int (9 : Int32)), (.ref b11), (.ref b11)])) (fun _ k => XS.bipush X20.here hx rfl (hb hby at_54) k) ?_
  refine own_go (g' := (mkF m 58 #[.val (.int pn), .val (.int pl), .val (.int pp), .val (.int pb), .val (.int pm), .val (.int pk), .unset, .unset, .unset, .unset, .unset, .unset, .unset, .unset, .unset, .unset, .unset, .unset, .unset] [(.int (1000000000 : Int32)), (.int (9 : Int32)), (.ref b11), (.ref b11)])) (fun _ k => X20.ldcInt hx hown (mvT hZ (hw _ (List.mem_of_getElem? (i := 5) rfl))) (g := (mkF m 56 #[.val (.int pn), .val (.int pl), .val (.int pp), .val (.int pb), .val (.int pm), .val (.int pk), .unset, .unset, .unset, .unset, .unset, .unset, .unset, .unset, .unset, .unset, .unset, .unset, .unset] [(.int (9 : Int32)), (.ref b11), (.ref b11)])) rfl (hb hby at_56) _ k) ?_
  refine own_iastore X20 hx hZ e20 P20 9 (by decide) (by decide) (hb hby at_58) ?_
  intro T21 h21 X21 e21 W21
  show own_Go p e below _ T21 (mkF m 59 #[.val (.int pn), .val (.int pl), .val (.int pp), .val (.int pb), .val (.int pm), .val (.int pk), .unset, .unset, .unset, .unset, .unset, .unset, .unset, .unset, .unset, .unset, .unset, .unset, .unset] [(.ref b11)])
  have P21 := own_Ai_set P20 W21
  have N21 := Fr.snoc X21 N20 gp
  have S21 : n0 ≤ h21.size := by rw [W21.size]; exact S20
  replace P21 : own_Ai Z h21 b11 .int 10 own_p10 := own_Ai_eq P21 own_p10_eq
  refine own_go (g' := (mkF m 61 #[.val (.int pn), .val (.int pl), .val (.int pp), .val (.int pb), .val (.int pm), .val (.int pk), .val (.ref b11), .unset, .unset, .unset, .unset, .unset, .unset, .unset, .unset, .unset, .unset, .unset, .unset] [])) (fun _ k => XS.astore X21.here hx rfl (hb hby at_59) rfl rfl (l' := #[.val (.int pn), .val (.int pl), .val (.int pp), .val (.int pb), .val (.int pm), .val (.int pk), .val (.ref b11), .unset, .unset, .unset, .unset, .unset, .unset, .unset, .unset, .unset, .unset, .unset, .unset]) rfl k) ?_
  refine own_go (g' := (mkF m 63 #[.val (.int pn), .val (.int pl), .val (.int pp), .val (.int pb), .val (.int pm), .val (.int pk), .val (.ref b11), .unset, .unset, .unset, .unset, .unset, .unset, .unset, .unset, .unset, .unset, .unset, .unset] [(.int pm)])) (fun _ k => XS.iload X21.here hx rfl (hb hby at_61) rfl k) ?_
  refine own_go (g' := (mkF m 64 #[.val (.int pn), .val (.int pl), .val (.int pp), .val (.int pb), .val (.int pm), .val (.int pk), .val (.ref b11), .unset, .unset, .unset, .unset, .unset, .unset, .unset, .unset, .unset, .unset, .unset, .unset] [(.int (3 : Int32)), (.int pm)])) (fun _ k => XS.iconst X21.here hx rfl (hb hby at_63) k) ?_
  refine own_go (g' := (mkF m 65 #[.val (.int pn), .val (.int pl), .val (.int pp), .val (.int pb), .val (.int pm), .val (.int pk), .val (.ref b11), .unset, .unset, .unset, .unset, .unset, .unset, .unset, .unset, .unset, .unset, .unset, .unset] [(.int (pm &&& (3 : Int32)))])) (fun _ k => XS.iand X21.here hx rfl (hb hby at_64) rfl k) ?_
  refine own_go (g' := (mkF m 67 #[.val (.int pn), .val (.int pl), .val (.int pp), .val (.int pb), .val (.int pm), .val (.int pk), .val (.ref b11), .val (.int (pm &&& (3 : Int32))), .unset, .unset, .unset, .unset, .unset, .unset, .unset, .unset, .unset, .unset, .unset] [])) (fun _ k => XS.istore X21.here hx rfl (hb hby at_65) rfl (l' := #[.val (.int pn), .val (.int pl), .val (.int pp), .val (.int pb), .val (.int pm), .val (.int pk), .val (.ref b11), .val (.int (pm &&& (3 : Int32))), .unset, .unset, .unset, .unset, .unset, .unset, .unset, .unset, .unset, .unset, .unset]) rfl k) ?_
  obtain ⟨mi, hmi⟩ : ∃ z : Int32, z = (pm &&& (3 : Int32)) := ⟨_, rfl⟩
  rw [← hmi]
  show own_Go p e below _ T21 (mkF m 67 #[.val (.int pn), .val (.int pl), .val (.int pp), .val (.int pb), .val (.int pm), .val (.int pk), .val (.ref b11), .val (.int mi), .unset, .unset, .unset, .unset, .unset, .unset, .unset, .unset, .unset, .unset, .unset] [])
  refine own_go (g' := (mkF m 69 #[.val (.int pn), .val (.int pl), .val (.int pp), .val (.int pb), .val (.int pm), .val (.int pk), .val (.ref b11), .val (.int mi), .unset, .unset, .unset, .unset, .unset, .unset, .unset, .unset, .unset, .unset, .unset] [(.int pm)])) (fun _ k => XS.iload X21.here hx rfl (hb hby at_67) rfl k) ?_
  refine own_go (g' := (mkF m 70 #[.val (.int pn), .val (.int pl), .val (.int pp), .val (.int pb), .val (.int pm), .val (.int pk), .val (.ref b11), .val (.int mi), .unset, .unset, .unset, .unset, .unset, .unset, .unset, .unset, .unset, .unset, .unset] [(.int (2 : Int32)), (.int pm)])) (fun _ k => XS.iconst X21.here hx rfl (hb hby at_69) k) ?_
  refine own_go (g' := (mkF m 71 #[.val (.int pn), .val (.int pl), .val (.int pp), .val (.int pb), .val (.int pm), .val (.int pk), .val (.ref b11), .val (.int mi), .unset, .unset, .unset, .unset, .unset, .unset, .unset, .unset, .unset, .unset, .unset] [(.int (XT.ushr pm (2 : Int32)))])) (fun _ k => XT.iushr X21.here hx rfl (hb hby at_70) rfl k) ?_
  refine own_go (g' := (mkF m 72 #[.val (.int pn), .val (.int pl), .val (.int pp), .val (.int pb), .val (.int pm), .val (.int pk), .val (.ref b11), .val (.int mi), .unset, .unset, .unset, .unset, .unset, .unset, .unset, .unset, .unset, .unset, .unset] [(.int (3 : Int32)), (.int (XT.ushr pm (2 : Int32)))])) (fun _ k => XS.iconst X21.here hx rfl (hb hby at_71) k) ?_
  refine own_go (g' := (mkF m 73 #[.val (.int pn), .val (.int pl), .val (.int pp), .val (.int pb), .val (.int pm), .val (.int pk), .val (.ref b11), .val (.int mi), .unset, .unset, .unset, .unset, .unset, .unset, .unset, .unset, .unset, .unset, .unset] [(.int ((XT.ushr pm (2 : Int32)) &&& (3 : Int32)))])) (fun _ k => XS.iand X21.here hx rfl (hb hby at_72) rfl k) ?_
  refine own_go (g' := (mkF m 75 #[.val (.int pn), .val (.int pl), .val (.int pp), .val (.int pb), .val (.int pm), .val (.int pk), .val (.ref b11), .val (.int mi), .val (.int ((XT.ushr pm (2 : Int32)) &&& (3 : Int32))), .unset, .unset, .unset, .unset, .unset, .unset, .unset, .unset, .unset, .unset] [])) (fun _ k => XS.istore X21.here hx rfl (hb hby at_73) rfl (l' := #[.val (.int pn), .val (.int pl), .val (.int pp), .val (.int pb), .val (.int pm), .val (.int pk), .val (.ref b11), .val (.int mi), .val (.int ((XT.ushr pm (2 : Int32)) &&& (3 : Int32))), .unset, .unset, .unset, .unset, .unset, .unset, .unset, .unset, .unset, .unset]) rfl k) ?_
  obtain ⟨oi, hoi⟩ : ∃ z : Int32, z = ((XT.ushr pm (2 : Int32)) &&& (3 : Int32)) := ⟨_, rfl⟩
  rw [← hoi]
  show own_Go p e below _ T21 (mkF m 75 #[.val (.int pn), .val (.int pl), .val (.int pp), .val (.int pb), .val (.int pm), .val (.int pk), .val (.ref b11), .val (.int mi), .val (.int oi), .unset, .unset, .unset, .unset, .unset, .unset, .unset, .unset, .unset, .unset] [])
  obtain ⟨A, hA, hA3⟩ : ∃ A : Nat, oi.toInt = (A : Int) ∧ A ≤ 3 := hoi ▸ own_at pm
  refine own_go (g' := (mkF m 77 #[.val (.int pn), .val (.int pl), .val (.int pp), .val (.int pb), .val (.int pm), .val (.int pk), .val (.ref b11), .val (.int mi), .val (.int oi), .unset, .unset, .unset, .unset, .unset, .unset, .unset, .unset, .unset, .unset] [(.int pk)])) (fun _ k => XS.iload X21.here hx rfl (hb hby at_75) rfl k) ?_
  refine own_go (g' := (mkF m 78 #[.val (.int pn), .val (.int pl), .val (.int pp), .val (.int pb), .val (.int pm), .val (.int pk), .val (.ref b11), .val (.int mi), .val (.int oi), .unset, .unset, .unset, .unset, .unset, .unset, .unset, .unset, .unset, .unset] [(.int (1 : Int32)), (.int pk)])) (fun _ k => XS.iconst X21.here hx rfl (hb hby at_77) k) ?_
  refine own_go (g' := (mkF m 79 #[.val (.int pn), .val (.int pl), .val (.int pp), .val (.int pb), .val (.int pm), .val (.int pk), .val (.ref b11), .val (.int mi), .val (.int oi), .unset, .unset, .unset, .unset, .unset, .unset, .unset, .unset, .unset, .unset] [(.int (pk >>> ((1 : Int32) &&& 31)))])) (fun _ k => XT.ishr X21.here hx rfl (hb hby at_78) rfl k) ?_
  refine own_go (g' := (mkF m 80 #[.val (.int pn), .val (.int pl), .val (.int pp), .val (.int pb), .val (.int pm), .val (.int pk), .val (.ref b11), .val (.int mi), .val (.int oi), .unset, .unset, .unset, .unset, .unset, .unset, .unset, .unset, .unset, .unset] [(.int (((pk >>> ((1 : Int32) &&& 31))).toInt8.toInt32))])) (fun _ k => XT.i2b X21.here hx rfl (hb hby at_79) rfl k) ?_
  refine own_go (g' := (mkF m 82 #[.val (.int pn), .val (.int pl), .val (.int pp), .val (.int pb), .val (.int pm), .val (.int pk), .val (.ref b11), .val (.int mi), .val (.int oi), .val (.int (((pk >>> ((1 : Int32) &&& 31))).toInt8.toInt32)), .unset, .unset, .unset, .unset, .unset, .unset, .unset, .unset, .unset] [])) (fun _ k => XS.istore X21.here hx rfl (hb hby at_80) rfl (l' := #[.val (.int pn), .val (.int pl), .val (.int pp), .val (.int pb), .val (.int pm), .val (.int pk), .val (.ref b11), .val (.int mi), .val (.int oi), .val (.int (((pk >>> ((1 : Int32) &&& 31))).toInt8.toInt32)), .unset, .unset, .unset, .unset, .unset, .unset, .unset, .unset, .unset]) rfl k) ?_
  obtain ⟨fi, hfi⟩ : ∃ z : Int32, z = (((pk >>> ((1 : Int32) &&& 31))).toInt8.toInt32) := ⟨_, rfl⟩
  rw [← hfi]
  show own_Go p e below _ T21 (mkF m 82 #[.val (.int pn), .val (.int pl), .val (.int pp), .val (.int pb), .val (.int pm), .val (.int pk), .val (.ref b11), .val (.int mi), .val (.int oi), .val (.int fi), .unset, .unset, .unset, .unset, .unset, .unset, .unset, .unset, .unset] [])
  refine own_go (g' := (mkF m 84 #[.val (.int pn), .val (.int pl), .val (.int pp), .val (.int pb), .val (.int pm), .val (.int pk), .val (.ref b11), .val (.int mi), .val (.int oi), .val (.int fi), .unset, .unset, .unset, .unset, .unset, .unset, .unset, .unset, .unset] [(.int (14 : Int32))])) (fun _ k => XS.bipush X21.here hx rfl (hb hby at_82) k) ?_
  refine own_newP X21 hx hZ e21 (aty := .byte) (hw _ (List.mem_of_getElem? (i := 6) rfl)) 14 (by decide) (by decide) (by decide) (by decide) (by decide) (hb hby at_84) ?_
  intro T22 h22 b22 g22 X22 e22 E22 A22
  show own_Go p e below _ T22 (mkF m 86 #[.val (.int pn), .val (.int pl), .val (.int pp), .val (.int pb), .val (.int pm), .val (.int pk), .val (.ref b11), .val (.int mi), .val (.int oi), .val (.int fi), .unset, .unset, .unset, .unset, .unset, .unset, .unset, .unset, .unset] [(.ref b22)])
  have ga : n0 ≤ b22 := Nat.le_trans S21 (Nat.le_of_eq g22.symm)
  have F22 : own_Ai Z h22 b22 .byte 14 (fun _ => 0) := A22
  have hap : b22 ≠ b11 := (Nat.ne_of_lt (Nat.lt_of_lt_of_le (own_Ar_lt P21) (Nat.le_of_eq g22.symm))).symm
  have P22 : own_Ai Z h22 b11 .int 10 own_p10 := own_Ar_ext P21 E22
  refine own_go (g' := (mkF m 87 #[.val (.int pn), .val (.int pl), .val (.int pp), .val (.int pb), .val (.int pm), .val (.int pk), .val (.ref b11), .val (.int mi), .val (.int oi), .val (.int fi), .unset, .unset, .unset, .unset, .unset, .unset, .unset, .unset, .unset] [(.ref b22), (.ref b22)])) (fun _ k => XS.dup X22.here hx rfl (hb hby at_86) rfl rfl k) ?_
  refine own_go (g' := (mkF m 88 #[.val (.int pn), .val (.int pl), .val (.int pp), .val (.int pb), .val (.int pm), .val (.int pk), .val (.ref b11), .val (.int mi), .val (.int oi), .val (.int fi), .unset, .unset, .unset, .unset, .unset, .unset, .unset, .unset, .unset] [(.int (0 : Int32)), (.ref b22), (.ref b22)])) (fun _ k => XS.iconst X22.here hx rfl (hb hby at_87) k) ?_
  refine own_go (g' := (mkF m 90 #[.val (.int pn), .val (.int pl), .val (.int pp), .val (.int pb), .val (.int pm), .val (.int pk), .val (.ref b11), .val (.int mi), .val (.int oi), .val (.int fi), .unset, .unset, .unset, .unset, .unset, .unset, .unset, .unset, .unset] [(.int fi), (.int (0 : Int32)), (.ref b22), (.ref b22)])) (fun _ k => XS.iload X22.here hx rfl (hb hby at_88) rfl k) ?_
  refine own_bastore X22 hx hZ e22 F22 0 (by decide) (by decide) (hb hby at_90) ?_
  intro T23 h23 X23 e23 W23
  show own_Go p e below _ T23 (mkF m 91 #[.val (.int pn), .val (.int pl), .val (.int pp), .val (.int pb), .val (.int pm), .val (.int pk), .val (.ref b11), .val (.int mi), .val (.int oi), .val (.int fi), .unset, .unset, .unset, .unset, .unset, .unset, .unset, .unset, .unset] [(.ref b22)])
  have F23 := own_Ai_set F22 W23
  have N23 := Fr.snoc X23 N21 ga
  have P23 : own_Ai Z h23 b11 .int 10 own_p10 := own_Ar_other P22 W23 (Ne.symm hap)
  refine own_go (g' := (mkF m 92 #[.val (.int pn), .val (.int pl), .val (.int pp), .val (.int pb), .val (.int pm), .val (.int pk), .val (.ref b11), .val (.int mi), .val (.int oi), .val (.int fi), .unset, .unset, .unset, .unset, .unset, .unset, .unset, .unset, .unset] [(.ref b22), (.ref b22)])) (fun _ k => XS.dup X23.here hx rfl (hb hby at_91) rfl rfl k) ?_
  refine own_go (g' := (mkF m 93 #[.val (.int pn), .val (.int pl), .val (.int pp), .val (.int pb), .val (.int pm), .val (.int pk), .val (.ref b11), .val (.int mi), .val (.int oi), .val (.int fi), .unset, .unset, .unset, .unset, .unset, .unset, .unset, .unset, .unset] [(.int (1 : Int32)), (.ref b22), (.ref b22)])) (fun _ k => XS.iconst X23.here hx rfl (hb hby at_92) k) ?_
  refine own_go (g' := (mkF m 95 #[.val (.int pn), .val (.int pl), .val (.int pp), .val (.int pb), .val (.int pm), .val (.int pk), .val (.ref b11), .val (.int mi), .val (.int oi), .val (.int fi), .unset, .unset, .unset, .unset, .unset, .unset, .unset, .unset, .unset] [(.int fi), (.int (1 : Int32)), (.ref b22), (.ref b22)])) (fun _ k => XS.iload X23.here hx rfl (hb hby at_93) rfl k) ?_
  refine own_bastore X23 hx hZ e23 F23 1 (by decide) (by decide) (hb hby at_95) ?_
  intro T24 h24 X24 e24 W24
  show own_Go p e below _ T24 (mkF m 96 #[.val (.int pn), .val (.int pl), .val (.int pp), .val (.int pb), .val (.int pm), .val (.int pk), .val (.ref b11), .val (.int mi), .val (.int oi), .val (.int fi), .unset, .unset, .unset, .unset, .unset, .unset, .unset, .unset, .unset] [(.ref b22)])
  have F24 := own_Ai_set F23 W24
  have N24 := Fr.snoc X24 N23 ga
  have P24 : own_Ai Z h24 b11 .int 10 own_p10 := own_Ar_other P23 W24 (Ne.symm hap)
  refine own_go (g' := (mkF m 97 #[.val (.int pn), .val (.int pl), .val (.int pp), .val (.int pb), .val (.int pm), .val (.int pk), .val (.ref b11), .val (.int mi), .val (.int oi), .val (.int fi), .unset, .unset, .unset, .unset, .unset, .unset, .unset, .unset, .unset] [(.ref b22), (.ref b22)])) (fun _ k => XS.dup X24.here hx rfl (hb hby at_96) rfl rfl k) ?_
  refine own_go (g' := (mkF m 98 #[.val (.int pn), .val (.int pl), .val (.int pp), .val (.int pb), .val (.int pm), .val (.int pk), .val (.ref b11), .val (.int mi), .val (.int oi), .val (.int fi), .unset, .unset, .unset, .unset, .unset, .unset, .unset, .unset, .unset] [(.int (2 : Int32)), (.ref b22), (.ref b22)])) (fun _ k => XS.iconst X24.here hx rfl (hb hby at_97) k) ?_
  refine own_go (g' := (mkF m 100 #[.val (.int pn), .val (.int pl), .val (.int pp), .val (.int pb), .val (.int pm), .val (.int pk), .val (.ref b11), .val (.int mi), .val (.int oi), .val (.int fi), .unset, .unset, .unset, .unset, .unset, .unset, .unset, .unset, .unset] [(.int fi), (.int (2 : Int32)), (.ref b22), (.ref b22)])) (fun _ k => XS.iload X24.here hx rfl (hb hby at_98) rfl k) ?_
  refine own_bastore X24 hx hZ e24 F24 2 (by decide) (by decide) (hb hby at_100) ?_
  intro T25 h25 X25 e25 W25
  show own_Go p e below _ T25 (mkF m 101 #[.val (.int pn), .val (.int pl), .val (.int pp), .val (.int pb), .val (.int pm), .val (.int pk), .val (.ref b11), .val (.int mi), .val (.int oi), .val (.int fi), .unset, .unset, .unset, .unset, .unset, .unset, .unset, .unset, .unset] [(.ref b22)])
  have F25 := own_Ai_set F24 W25
  have N25 := Fr.snoc X25 N24 ga
  have P25 : own_Ai Z h25 b11 .int 10 own_p10 := own_Ar_other P24 W25 (Ne.symm hap)
  refine own_go (g' := (mkF m 102 #[.val (.int pn), .val (.int pl), .val (.int pp), .val (.int pb), .val (.int pm), .val (.int pk), .val (.ref b11), .val (.int mi), .val (.int oi), .val (.int fi), .unset, .unset, .unset, .unset, .unset, .unset, .unset, .unset, .unset] [(.ref b22), (.ref b22)])) (fun _ k => XS.dup X25.here hx rfl (hb hby at_101) rfl rfl k) ?_
  refine own_go (g' := (mkF m 103 #[.val (.int pn), .val (.int pl), .val (.int pp), .val (.int pb), .val (.int pm), .val (.int pk), .val (.ref b11), .val (.int mi), .val (.int oi), .val (.int fi), .unset, .unset, .unset, .unset, .unset, .unset, .unset, .unset, .unset] [(.int (3 : Int32)), (.ref b22), (.ref b22)])) (fun _ k => XS.iconst X25.here hx rfl (hb hby at_102) k) ?_
  refine own_go (g' := (mkF m 105 #[.val (.int pn), .val (.int pl), .val (.int pp), .val (.int pb), .val (.int pm), .val (.int pk), .val (.ref b11), .val (.int mi), .val (.int oi), .val (.int fi), .unset, .unset, .unset, .unset, .unset, .unset, .unset, .unset, .unset] [(.int fi), (.int (3 : Int32)), (.ref b22), (.ref b22)])) (fun _ k => XS.iload X25.here hx rfl (hb hby at_103) rfl k) ?_
  refine own_bastore X25 hx hZ e25 F25 3 (by decide) (by decide) (hb hby at_105) ?_
  intro T26 h26 X26 e26 W26
  show own_Go p e below _ T26 (mkF m 106 #[.val (.int pn), .val (.int pl), .val (.int pp), .val (.int pb), .val (.int pm), .val (.int pk), .val (.ref b11), .val (.int mi), .val (.int oi), .val (.int fi), .unset, .unset, .unset, .unset, .unset, .unset, .unset, .unset, .unset] [(.ref b22)])
  have F26 := own_Ai_set F25 W26
  have N26 := Fr.snoc X26 N25 ga
  have P26 : own_Ai Z h26 b11 .int 10 own_p10 := own_Ar_other P25 W26 (Ne.symm hap)
  refine own_go (g' := (mkF m 107 #[.val (.int pn), .val (.int pl), .val (.int pp), .val (.int pb), .val (.int pm), .val (.int pk), .val (.ref b11), .val (.int mi), .val (.int oi), .val (.int fi), .unset, .unset, .unset, .unset, .unset, .unset, .unset, .unset, .unset] [(.ref b22), (.ref b22)])) (fun _ k => XS.dup X26.here hx rfl (hb hby at_106) rfl rfl k) ?_
  refine own_go (g' := (mkF m 108 #[.val (.int pn), .val (.int pl), .val (.int pp), .val (.int pb), .val (.int pm), .val (.int pk), .val (.ref b11), .val (.int mi), .val (.int oi), .val (.int fi), .unset, .unset, .unset, .unset, .unset, .unset, .unset, .unset, .unset] [(.int (4 : Int32)), (.ref b22), (.ref b22)])) (fun _ k => XS.iconst X26.here hx rfl (hb hby at_107) k) ?_
  refine own_go (g' := (mkF m 110 #[.val (.int pn), .val (.int pl), .val (.int pp), .val (.int pb), .val (.int pm), .val (.int pk), .val (.ref b11), .val (.int mi), .val (.int oi), .val (.int fi), .unset, .unset, .unset, .unset, .unset, .unset, .unset, .unset, .unset] [(.int fi), (.int (4 : Int32)), (.ref b22), (.ref b22)])) (fun _ k => XS.iload X26.here hx rfl (hb hby at_108) rfl k) ?_
  refine own_bastore X26 hx hZ e26 F26 4 (by decide) (by decide) (hb hby at_110) ?_
  intro T27 h27 X27 e27 W27
  show own_Go p e below _ T27 (mkF m 111 #[.val (.int pn), .val (.int pl), .val (.int pp), .val (.int pb), .val (.int pm), .val (.int pk), .val (.ref b11), .val (.int mi), .val (.int oi), .val (.int fi), .unset, .unset, .unset, .unset, .unset, .unset, .unset, .unset, .unset] [(.ref b22)])
  have F27 := own_Ai_set F26 W27
  have N27 := Fr.snoc X27 N26 ga
  have P27 : own_Ai Z h27 b11 .int 10 own_p10 := own_Ar_other P26 W27 (Ne.symm hap)
  refine own_go (g' := (mkF m 112 #[.val (.int pn), .val (.int pl), .val (.int pp), .val (.int pb), .val (.int pm), .val (.int pk), .val (.ref b11), .val (.int mi), .val (.int oi), .val (.int fi), .unset, .unset, .unset, .unset, .unset, .unset, .unset, .unset, .unset] [(.ref b22), (.ref b22)])) (fun _ k => XS.dup X27.here hx rfl (hb hby at_111) rfl rfl k) ?_
  refine own_go (g' := (mkF m 113 #[.val (.int pn), .val (.int pl), .val (.int pp), .val (.int pb), .val (.int pm), .val (.int pk), .val (.ref b11), .val (.int mi), .val (.int oi), .val (.int fi), .unset, .unset, .unset, .unset, .unset, .unset, .unset, .unset, .unset] [(.int (5 : Int32)), (.ref b22), (.ref b22)])) (fun _ k => XS.iconst X27.here hx rfl (hb hby at_112) k) ?_
  refine own_go (g' := (mkF m 115 #[.val (.int pn), .val (.int pl), .val (.int pp), .val (.int pb), .val (.int pm), .val (.int pk), .val (.ref b11), .val (.int mi), .val (.int oi), .val (.int fi), .unset, .unset, .unset, .unset, .unset, .unset, .unset, .unset, .unset] [(.int fi), (.int (5 : Int32)), (.ref b22), (.ref b22)])) (fun _ k => XS.iload X27.here hx rfl (hb hby at_113) rfl k) ?_
  refine own_bastore X27 hx hZ e27 F27 5 (by decide) (by decide) (hb hby at_115) ?_
  intro T28 h28 X28 e28 W28
  show own_Go p e below _ T28 (mkF m 116 #[.val (.int pn), .val (.int pl), .val (.int pp), .val (.int pb), .val (.int pm), .val (.int pk), .val (.ref b11), .val (.int mi), .val (.int oi), .val (.int fi), .unset, .unset, .unset, .unset, .unset, .unset, .unset, .unset, .unset] [(.ref b22)])
  have F28 := own_Ai_set F27 W28
  have N28 := Fr.snoc X28 N27 ga
  have P28 : own_Ai Z h28 b11 .int 10 own_p10 := own_Ar_other P27 W28 (Ne.symm hap)
  refine own_go (g' := (mkF m 117 #[.val (.int pn), .val (.int pl), .val (.int pp), .val (.int pb), .val (.int pm), .val (.int pk), .val (.ref b11), .val (.int mi), .val (.int oi), .val (.int fi), .unset, .unset, .unset, .unset, .unset, .unset, .unset, .unset, .unset] [(.ref b22), (.ref b22)])) (fun _ k => XS.dup X28.here hx rfl (hb hby at_116) rfl rfl k) ?_
  refine own_go (g' := (mkF m 119 #[.val (.int pn), .val (.int pl), .val (.int pp), .val (.int pb), .val (.int pm), .val (.int pk), .val (.ref b11), .val (.int mi), .val (.int oi), .val (.int fi), .unset, .unset, .unset, .unset, .unset, .unset, .unset, .unset, .unset] [(.int (6 : Int32)), (.ref b22), (.ref b22)])) (fun _ k => XS.bipush X28.here hx rfl (hb hby at_117) k) ?_
  refine own_go (g' := (mkF m 121 #[.val (.int pn), .val (.int pl), .val (.int pp), .val (.int pb), .val (.int pm), .val (.int pk), .val (.ref b11), .val (.int mi), .val (.int oi), .val (.int fi), .unset, .unset, .unset, .unset, .unset, .unset, .unset, .unset, .unset] [(.int fi), (.int (6 : Int32)), (.ref b22), (.ref b22)])) (fun _ k => XS.iload X28.here hx rfl (hb hby at_119) rfl k) ?_
  refine own_bastore X28 hx hZ e28 F28 6 (by decide) (by decide) (hb hby at_121) ?_
  intro T29 h29 X29 e29 W29
  show own_Go p e below _ T29 (mkF m 122 #[.val (.int pn), .val (.int pl), .val (.int pp), .val (.int pb), .val (.int pm), .val (.int pk), .val (.ref b11), .val (.int mi), .val (.int oi), .val (.int fi), .unset, .unset, .unset, .unset, .unset, .unset, .unset, .unset, .unset] [(.ref b22)])
  have F29 := own_Ai_set F28 W29
  have N29 := Fr.snoc X29 N28 ga
  have P29 : own_Ai Z h29 b11 .int 10 own_p10 := own_Ar_other P28 W29 (Ne.symm hap)
  refine own_go (g' := (mkF m 123 #[.val (.int pn), .val (.int pl), .val (.int pp), .val (.int pb), .val (.int pm), .val (.int pk), .val (.ref b11), .val (.int mi), .val (.int oi), .val (.int fi), .unset, .unset, .unset, .unset, .unset, .unset, .unset, .unset, .unset] [(.ref b22), (.ref b22)])) (fun _ k => XS.dup X29.here hx rfl (hb hby at_122) rfl rfl k) ?_
  refine own_go (g' := (mkF m 125 #[.val (.int pn), .val (.int pl), .val (.int pp), .val (.int pb), .val (.int pm), .val (.int pk), .val (.ref b11), .val (.int mi), .val (.int oi), .val (.int fi), .unset, .unset, .unset, .unset, .unset, .unset, .unset, .unset, .unset] [(.int (7 : Int32)), (.ref b22), (.ref b22)])) (fun _ k => XS.bipush X29.here hx rfl (hb hby at_123) k) ?_
  refine own_go (g' := (mkF m 127 #[.val (.int pn), .val (.int pl), .val (.int pp), .val (.int pb), .val (.int pm), .val (.int pk), .val (.ref b11), .val (.int mi), .val (.int oi), .val (.int fi), .unset, .unset, .unset, .unset, .unset, .unset, .unset, .unset, .unset] [(.int fi), (.int (7 : Int32)), (.ref b22), (.ref b22)])) (fun _ k => XS.iload X29.here hx rfl (hb hby at_125) rfl k) ?_
  refine own_bastore X29 hx hZ e29 F29 7 (by decide) (by decide) (hb hby at_127) ?_
  intro T30 h30 X30 e30 W30
  show own_Go p e below _ T30 (mkF m 128 #[.val (.int pn), .val (.int pl), .val (.int pp), .val (.int pb), .val (.int pm), .val (.int pk), .val (.ref b11), .val (.int mi), .val (.int oi), .val (.int fi), .unset, .unset, .unset, .unset, .unset, .unset, .unset, .unset, .unset] [(.ref b22)])
  have F30 := own_Ai_set F29 W30
  have N30 := Fr.snoc X30 N29 ga
  have P30 : own_Ai Z h30 b11 .int 10 own_p10 := own_Ar_other P29 W30 (Ne.symm hap)
  refine own_go (g' := (mkF m 129 #[.val (.int pn), .val (.int pl), .val (.int pp), .val (.int pb), .val (.int pm), .val (.int pk), .val (.ref b11), .val (.int mi), .val (.int oi), .val (.int fi), .unset, .unset, .unset, .unset, .unset, .unset, .unset, .unset, .unset] [(.ref b22), (.ref b22)])) (fun _ k => XS.dup X30.here hx rfl (hb hby at_128) rfl rfl k) ?_
  refine own_go (g' := (mkF m 131 #[.val (.int pn), .val (.int pl), .val (.int pp), .val (.int pb), .val (.int pm), .val (.int pk), .val (.ref b11), .val (.int mi), .val (.int oi), .val (.int fi), .unset, .unset, .unset, .unset, .unset, .unset, .unset, .unset, .unset] [(.int (8 : Int32)), (.ref b22), (.ref b22)])) (fun _ k => XS.bipush X30.here hx rfl (hb hby at_129) k) ?_
  refine own_go (g' := (mkF m 133 #[.val (.int pn), .val (.int pl), .val (.int pp), .val (.int pb), .val (.int pm), .val (.int pk), .val (.ref b11), .val (.int mi), .val (.int oi), .val (.int fi), .unset, .unset, .unset, .unset, .unset, .unset, .unset, .unset, .unset] [(.int fi), (.int (8 : Int32)), (.ref b22), (.ref b22)])) (fun _ k => XS.iload X30.here hx rfl (hb hby at_131) rfl k) ?_
  refine own_bastore X30 hx hZ e30 F30 8 (by decide) (by decide) (hb hby at_133) ?_
  intro T31 h31 X31 e31 W31
  show own_Go p e below _ T31 (mkF m 134 #[.val (.int pn), .val (.int pl), .val (.int pp), .val (.int pb), .val (.int pm), .val (.int pk), .val (.ref b11), .val (.int mi), .val (.int oi), .val (.int fi), .unset, .unset, .unset, .unset, .unset, .unset, .unset, .unset, .unset] [(.ref b22)])
  have F31 := own_Ai_set F30 W31
  have N31 := Fr.snoc X31 N30 ga
  have P31 : own_Ai Z h31 b11 .int 10 own_p10 := own_Ar_other P30 W31 (Ne.symm hap)
  refine own_go (g' := (mkF m 135 #[.val (.int pn), .val (.int pl), .val (.int pp), .val (.int pb), .val (.int pm), .val (.int pk), .val (.ref b11), .val (.int mi), .val (.int oi), .val (.int fi), .unset, .unset, .unset, .unset, .unset, .unset, .unset, .unset, .unset] [(.ref b22), (.ref b22)])) (fun _ k => XS.dup X31.here hx rfl (hb hby at_134) rfl rfl k) ?_
  refine own_go (g' := (mkF m 137 #[.val (.int pn), .val (.int pl), .val (.int pp), .val (.int pb), .val (.int pm), .val (.int pk), .val (.ref b11), .val (.int mi), .val (.int oi), .val (.int fi), .unset, .unset, .unset, .unset, .unset, .unset, .unset, .unset, .unset] [(.int (9 : Int32)), (.ref b22), (.ref b22)])) (fun _ k => XS.bipush X31.here hx rfl (hb hby at_135) k) ?_
  refine own_go (g' := (mkF m 139 #[.val (.int pn), .val (.int pl), .val (.int pp), .val (.int pb), .val (.int pm), .val (.int pk), .val (.ref b11), .val (.int mi), .val (.int oi), .val (.int fi), .unset, .unset, .unset, .unset, .unset, .unset, .unset, .unset, .unset] [(.int fi), (.int (9 : Int32)), (.ref b22), (.ref b22)])) (fun _ k => XS.iload X31.here hx rfl (hb hby at_137) rfl k) ?_
  refine own_bastore X31 hx hZ e31 F31 9 (by decide) (by decide) (hb hby at_139) ?_
  intro T32 h32 X32 e32 W32
  show own_Go p e below _ T32 (mkF m 140 #[.val (.int pn), .val (.int pl), .val (.int pp), .val (.int pb), .val (.int pm), .val (.int pk), .val (.ref b11), .val (.int mi), .val (.int oi), .val (.int fi), .unset, .unset, .unset, .unset, .unset, .unset, .unset, .unset, .unset] [(.ref b22)])
  have F32 := own_Ai_set F31 W32
  have N32 := Fr.snoc X32 N31 ga
  have P32 : own_Ai Z h32 b11 .int 10 own_p10 := own_Ar_other P31 W32 (Ne.symm hap)
  refine own_go (g' := (mkF m 141 #[.val (.int pn), .val (.int pl), .val (.int pp), .val (.int pb), .val (.int pm), .val (.int pk), .val (.ref b11), .val (.int mi), .val (.int oi), .val (.int fi), .unset, .unset, .unset, .unset, .unset, .unset, .unset, .unset, .unset] [(.ref b22), (.ref b22)])) (fun _ k => XS.dup X32.here hx rfl (hb hby at_140) rfl rfl k) ?_
  refine own_go (g' := (mkF m 143 #[.val (.int pn), .val (.int pl), .val (.int pp), .val (.int pb), .val (.int pm), .val (.int pk), .val (.ref b11), .val (.int mi), .val (.int oi), .val (.int fi), .unset, .unset, .unset, .unset, .unset, .unset, .unset, .unset, .unset] [(.int (10 : Int32)), (.ref b22), (.ref b22)])) (fun _ k => XS.bipush X32.here hx rfl (hb hby at_141) k) ?_
  refine own_go (g' := (mkF m 145 #[.val (.int pn), .val (.int pl), .val (.int pp), .val (.int pb), .val (.int pm), .val (.int pk), .val (.ref b11), .val (.int mi), .val (.int oi), .val (.int fi), .unset, .unset, .unset, .unset, .unset, .unset, .unset, .unset, .unset] [(.int fi), (.int (10 : Int32)), (.ref b22), (.ref b22)])) (fun _ k => XS.iload X32.here hx rfl (hb hby at_143) rfl k) ?_
  refine own_bastore X32 hx hZ e32 F32 10 (by decide) (by decide) (hb hby at_145) ?_
  intro T33 h33 X33 e33 W33
  show own_Go p e below _ T33 (mkF m 146 #[.val (.int pn), .val (.int pl), .val (.int pp), .val (.int pb), .val (.int pm), .val (.int pk), .val (.ref b11), .val (.int mi), .val (.int oi), .val (.int fi), .unset, .unset, .unset, .unset, .unset, .unset, .unset, .unset, .unset] [(.ref b22)])
  have F33 := own_Ai_set F32 W33
  have N33 := Fr.snoc X33 N32 ga
  have P33 : own_Ai Z h33 b11 .int 10 own_p10 := own_Ar_other P32 W33 (Ne.symm hap)
  refine own_go (g' := (mkF m 147 #[.val (.int pn), .val (.int pl), .val (.int pp), .val (.int pb), .val (.int pm), .val (.int pk), .val (.ref b11), .val (.int mi), .val (.int oi), .val (.int fi), .unset, .unset, .unset, .unset, .unset, .unset, .unset, .unset, .unset] [(.ref b22), (.ref b22)])) (fun _ k => XS.dup X33.here hx rfl (hb hby at_146) rfl rfl k) ?_
  refine own_go (g' := (mkF m 149 #[.val (.int pn), .val (.int pl), .val (.int pp), .val (.int pb), .val (.int pm), .val (.int pk), .val (.ref b11), .val (.int mi), .val (.int oi), .val (.int fi), .unset, .unset, .unset, .unset, .unset, .unset, .unset, .unset, .unset] [(.int (11 : Int32)), (.ref b22), (.ref b22)])) (fun _ k => XS.bipush X33.here hx rfl (hb hby at_147) k) ?_
  refine own_go (g' := (mkF m 151 #[.val (.int pn), .val (.int pl), .val (.int pp), .val (.int pb), .val (.int pm), .val (.int pk), .val (.ref b11), .val (.int mi), .val (.int oi), .val (.int fi), .unset, .unset, .unset, .unset, .unset, .unset, .unset, .unset, .unset] [(.int fi), (.int (11 : Int32)), (.ref b22), (.ref b22)])) (fun _ k => XS.iload X33.here hx rfl (hb hby at_149) rfl k) ?_
  refine own_bastore X33 hx hZ e33 F33 11 (by decide) (by decide) (hb hby at_151) ?_
  intro T34 h34 X34 e34 W34
  show own_Go p e below _ T34 (mkF m 152 #[.val (.int pn), .val (.int pl), .val (.int pp), .val (.int pb), .val (.int pm), .val (.int pk), .val (.ref b11), .val (.int mi), .val (.int oi), .val (.int fi), .unset, .unset, .unset, .unset, .unset, .unset, .unset, .unset, .unset] [(.ref b22)])
  have F34 := own_Ai_set F33 W34
  have N34 := Fr.snoc X34 N33 ga
  have P34 : own_Ai Z h34 b11 .int 10 own_p10 := own_Ar_other P33 W34 (Ne.symm hap)
  refine own_go (g' := (mkF m 153 #[.val (.int pn), .val (.int pl), .val (.int pp), .val (.int pb), .val (.int pm), .val (.int pk), .val (.ref b11), .val (.int mi), .val (.int oi), .val (.int fi), .unset, .unset, .unset, .unset, .unset, .unset, .unset, .unset, .unset] [(.ref b22), (.ref b22)])) (fun _ k => XS.dup X34.here hx rfl (hb hby at_152) rfl rfl k) ?_
  refine own_go (g' := (mkF m 155 #[.val (.int pn), .val (.int pl), .val (.int pp), .val (.int pb), .val (.int pm), .val (.int pk), .val (.ref b11), .val (.int mi), .val (.int oi), .val (.int fi), .unset, .unset, .unset, .unset, .unset, .unset, .unset, .unset, .unset] [(.int (12 : Int32)), (.ref b22), (.ref b22)])) (fun _ k => XS.bipush X34.here hx rfl (hb hby at_153) k) ?_
  refine own_go (g' := (mkF m 157 #[.val (.int pn), .val (.int pl), .val (.int pp), .val (.int pb), .val (.int pm), .val (.int pk), .val (.ref b11), .val (.int mi), .val (.int oi), .val (.int fi), .unset, .unset, .unset, .unset, .unset, .unset, .unset, .unset, .unset] [(.int fi), (.int (12 : Int32)), (.ref b22), (.ref b22)])) (fun _ k => XS.iload X34.here hx rfl (hb hby at_155) rfl k) ?_
  refine own_bastore X34 hx hZ e34 F34 12 (by decide) (by decide) (hb hby at_157) ?_
  intro T35 h35 X35 e35 W35
  show own_Go p e below _ T35 (mkF m 158 #[.val (.int pn), .val (.int pl), .val (.int pp), .val (.int pb), .val (.int pm), .val (.int pk), .val (.ref b11), .val (.int mi), .val (.int oi), .val (.int fi), .unset, .unset, .unset, .unset, .unset, .unset, .unset, .unset, .unset] [(.ref b22)])
  have F35 := own_Ai_set F34 W35
  have N35 := Fr.snoc X35 N34 ga
  have P35 : own_Ai Z h35 b11 .int 10 own_p10 := own_Ar_other P34 W35 (Ne.symm hap)
  refine own_go (g' := (mkF m 159 #[.val (.int pn), .val (.int pl), .val (.int pp), .val (.int pb), .val (.int pm), .val (.int pk), .val (.ref b11), .val (.int mi), .val (.int oi), .val (.int fi), .unset, .unset, .unset, .unset, .unset, .unset, .unset, .unset, .unset] [(.ref b22), (.ref b22)])) (fun _ k => XS.dup X35.here hx rfl (hb hby at_158) rfl rfl k) ?_
  refine own_go (g' := (mkF m 161 #[.val (.int pn), .val (.int pl), .val (.int pp), .val (.int pb), .val (.int pm), .val (.int pk), .val (.ref b11), .val (.int mi), .val (.int oi), .val (.int fi), .unset, .unset, .unset, .unset, .unset, .unset, .unset, .unset, .unset] [(.int (13 : Int32)), (.ref b22), (.ref b22)])) (fun _ k => XS.bipush X35.here hx rfl (hb hby at_159) k) ?_
  refine own_go (g' := (mkF m 163 #[.val (.int pn), .val (.int pl), .val (.int pp), .val (.int pb), .val (.int pm), .val (.int pk), .val (.ref b11), .val (.int mi), .val (.int oi), .val (.int fi), .unset, .unset, .unset, .unset, .unset, .unset, .unset, .unset, .unset] [(.int fi), (.int (13 : Int32)), (.ref b22), (.ref b22)])) (fun _ k => XS.iload X35.here hx rfl (hb hby at_161) rfl k) ?_
  refine own_bastore X35 hx hZ e35 F35 13 (by decide) (by decide) (hb hby at_163) ?_
  intro T36 h36 X36 e36 W36
  show own_Go p e below _ T36 (mkF m 164 #[.val (.int pn), .val (.int pl), .val (.int pp), .val (.int pb), .val (.int pm), .val (.int pk), .val (.ref b11), .val (.int mi), .val (.int oi), .val (.int fi), .unset, .unset, .unset, .unset, .unset, .unset, .unset, .unset, .unset] [(.ref b22)])
  have F36 := own_Ai_set F35 W36
  have N36 := Fr.snoc X36 N35 ga
  have P36 : own_Ai Z h36 b11 .int 10 own_p10 := own_Ar_other P35 W36 (Ne.symm hap)
  obtain ⟨f0, F0⟩ : ∃ f, own_Ai Z h36 b22 .byte 14 f := ⟨_, F36⟩
  refine own_go (g' := (mkF m 166 #[.val (.int pn), .val (.int pl), .val (.int pp), .val (.int pb), .val (.int pm), .val (.int pk), .val (.ref b11), .val (.int mi), .val (.int oi), .val (.int fi), .val (.ref b22), .unset, .unset, .unset, .unset, .unset, .unset, .unset, .unset] [])) (fun _ k => XS.astore X36.here hx rfl (hb hby at_164) rfl rfl (l' := #[.val (.int pn), .val (.int pl), .val (.int pp), .val (.int pb), .val (.int pm), .val (.int pk), .val (.ref b11), .val (.int mi), .val (.int oi), .val (.int fi), .val (.ref b22), .unset, .unset, .unset, .unset, .unset, .unset, .unset, .unset]) rfl k) ?_
  refine own_go (g' := (mkF m 167 #[.val (.int pn), .val (.int pl), .val (.int pp), .val (.int pb), .val (.int pm), .val (.int pk), .val (.ref b11), .val (.int mi), .val (.int oi), .val (.int fi), .val (.ref b22), .unset, .unset, .unset, .unset, .unset, .unset, .unset, .unset] [(.int (1 : Int32))])) (fun _ k => XS.iconst X36.here hx rfl (hb hby at_166) k) ?_
  refine own_go (g' := (mkF m 168 #[.val (.int pn), .val (.int pl), .val (.int pp), .val (.int pb), .val (.int pm), .val (.int pk), .val (.ref b11), .val (.int mi), .val (.int oi), .val (.int fi), .val (.ref b22), .unset, .unset, .unset, .unset, .unset, .unset, .unset, .unset] [(.int pl), (.int (1 : Int32))])) (fun _ k => XS.iloadN X36.here hx rfl (hb hby at_167) rfl k) ?_
  refine own_go (g' := (mkF m 170 #[.val (.int pn), .val (.int pl), .val (.int pp), .val (.int pb), .val (.int pm), .val (.int pk), .val (.ref b11), .val (.int mi), .val (.int oi), .val (.int fi), .val (.ref b22), .unset, .unset, .unset, .unset, .unset, .unset, .unset, .unset] [(.int (2147483647 : Int32)), (.int pl), (.int (1 : Int32))])) (fun _ k => X36.ldcInt hx hown (mvT hZ (hw _ (List.mem_of_getElem? (i := 7) rfl))) (g := (mkF m 168 #[.val (.int pn), .val (.int pl), .val (.int pp), .val (.int pb), .val (.int pm), .val (.int pk), .val (.ref b11), .val (.int mi), .val (.int oi), .val (.int fi), .val (.ref b22), .unset, .unset, .unset, .unset, .unset, .unset, .unset, .unset] [(.int pl), (.int (1 : Int32))])) rfl (hb hby at_168) _ k) ?_
  refine own_go (g' := (mkF m 171 #[.val (.int pn), .val (.int pl), .val (.int pp), .val (.int pb), .val (.int pm), .val (.int pk), .val (.ref b11), .val (.int mi), .val (.int oi), .val (.int fi), .val (.ref b22), .unset, .unset, .unset, .unset, .unset, .unset, .unset, .unset] [(.int (pl &&& (2147483647 : Int32))), (.int (1 : Int32))])) (fun _ k => XS.iand X36.here hx rfl (hb hby at_170) rfl k) ?_
  refine own_go (g' := (mkF m 173 #[.val (.int pn), .val (.int pl), .val (.int pp), .val (.int pb), .val (.int pm), .val (.int pk), .val (.ref b11), .val (.int mi), .val (.int oi), .val (.int fi), .val (.ref b22), .unset, .unset, .unset, .unset, .unset, .unset, .unset, .unset] [(.int (9 : Int32)), (.int (pl &&& (2147483647 : Int32))), (.int (1 : Int32))])) (fun _ k => XS.bipush X36.here hx rfl (hb hby at_171) k) ?_
  refine own_go (g' := (mkF m 174 #[.val (.int pn), .val (.int pl), .val (.int pp), .val (.int pb), .val (.int pm), .val (.int pk), .val (.ref b11), .val (.int mi), .val (.int oi), .val (.int fi), .val (.ref b22), .unset, .unset, .unset, .unset, .unset, .unset, .unset, .unset] [(.int ((pl &&& (2147483647 : Int32)) % (9 : Int32))), (.int (1 : Int32))])) (fun _ k => Jvm.RoadKit.iremM X36 hx rfl (hb hby at_173) rfl (by decide) k) ?_
  refine own_go (g' := (mkF m 175 #[.val (.int pn), .val (.int pl), .val (.int pp), .val (.int pb), .val (.int pm), .val (.int pk), .val (.ref b11), .val (.int mi), .val (.int oi), .val (.int fi), .val (.ref b22), .unset, .unset, .unset, .unset, .unset, .unset, .unset, .unset] [(.int ((1 : Int32) + ((pl &&& (2147483647 : Int32)) % (9 : Int32))))])) (fun _ k => XS.iadd X36.here hx rfl (hb hby at_174) rfl k) ?_
  refine own_go (g' := (mkF m 177 #[.val (.int pn), .val (.int pl), .val (.int pp), .val (.int pb), .val (.int pm), .val (.int pk), .val (.ref b11), .val (.int mi), .val (.int oi), .val (.int fi), .val (.ref b22), .val (.int ((1 : Int32) + ((pl &&& (2147483647 : Int32)) % (9 : Int32)))), .unset, .unset, .unset, .unset, .unset, .unset, .unset] [])) (fun _ k => XS.istore X36.here hx rfl (hb hby at_175) rfl (l' := #[.val (.int pn), .val (.int pl), .val (.int pp), .val (.int pb), .val (.int pm), .val (.int pk), .val (.ref b11), .val (.int mi), .val (.int oi), .val (.int fi), .val (.ref b22), .val (.int ((1 : Int32) + ((pl &&& (2147483647 : Int32)) % (9 : Int32)))), .unset, .unset, .unset, .unset, .unset, .unset, .unset]) rfl k) ?_
  obtain ⟨di, hdi⟩ : ∃ z : Int32, z = ((1 : Int32) + ((pl &&& (2147483647 : Int32)) % (9 : Int32))) := ⟨_, rfl⟩
  rw [← hdi]
  show own_Go p e below _ T36 (mkF m 177 #[.val (.int pn), .val (.int pl), .val (.int pp), .val (.int pb), .val (.int pm), .val (.int pk), .val (.ref b11), .val (.int mi), .val (.int oi), .val (.int fi), .val (.ref b22), .val (.int di), .unset, .unset, .unset, .unset, .unset, .unset, .unset] [])
  obtain ⟨D, hD, hD1, hD9⟩ : ∃ D : Nat, di.toInt = (D : Int) ∧ 1 ≤ D ∧ D ≤ 9 := hdi ▸ own_d pl
  refine own_go (g' := (mkF m 179 #[.val (.int pn), .val (.int pl), .val (.int pp), .val (.int pb), .val (.int pm), .val (.int pk), .val (.ref b11), .val (.int mi), .val (.int oi), .val (.int fi), .val (.ref b22), .val (.int di), .unset, .unset, .unset, .unset, .unset, .unset, .unset] [(.int di)])) (fun _ k => XS.iload X36.here hx rfl (hb hby at_177) rfl k) ?_
  refine own_go (g' := (mkF m 180 #[.val (.int pn), .val (.int pl), .val (.int pp), .val (.int pb), .val (.int pm), .val (.int pk), .val (.ref b11), .val (.int mi), .val (.int oi), .val (.int fi), .val (.ref b22), .val (.int di), .unset, .unset, .unset, .unset, .unset, .unset, .unset] [(.int (1 : Int32)), (.int di)])) (fun _ k => XS.iconst X36.here hx rfl (hb hby at_179) k) ?_
  suffices J : ∀ lo : Int32, lo.toInt = ((own_lo D : Nat) : Int) → own_Go p e below (own_Po s (own_Q0 n0) 16 128) T36 (mkF m 194 #[.val (.int pn), .val (.int pl), .val (.int pp), .val (.int pb), .val (.int pm), .val (.int pk), .val (.ref b11), .val (.int mi), .val (.int oi), .val (.int fi), .val (.ref b22), .val (.int di), .unset, .unset, .unset, .unset, .unset, .unset, .unset] [(.int lo)]) by
    by_cases c180 : di = (1 : Int32)
    · refine own_go (g' := (mkF m 183 #[.val (.int pn), .val (.int pl), .val (.int pp), .val (.int pb), .val (.int pm), .val (.int pk), .val (.ref b11), .val (.int mi), .val (.int oi), .val (.int fi), .val (.ref b22), .val (.int di), .unset, .unset, .unset, .unset, .unset, .unset, .unset] [])) (fun _ k => XS.icmpNo X36.here hx rfl (hb hby at_180) rfl (XT.ii_ne_f c180) k) ?_
      refine own_go (g' := (mkF m 184 #[.val (.int pn), .val (.int pl), .val (.int pp), .val (.int pb), .val (.int pm), .val (.int pk), .val (.ref b11), .val (.int mi), .val (.int oi), .val (.int fi), .val (.ref b22), .val (.int di), .unset, .unset, .unset, .unset, .unset, .unset, .unset] [(.int (0 : Int32))])) (fun _ k => XS.iconst X36.here hx rfl (hb hby at_183) k) ?_
      refine own_go (g' := (mkF m 194 #[.val (.int pn), .val (.int pl), .val (.int pp), .val (.int pb), .val (.int pm), .val (.int pk), .val (.ref b11), .val (.int mi), .val (.int oi), .val (.int fi), .val (.ref b22), .val (.int di), .unset, .unset, .unset, .unset, .unset, .unset, .unset] [(.int (0 : Int32))])) (fun _ k => XS.goto X36.here hx rfl (pc0 := 184) (pc' := 194) rfl (hb hby at_184) (by decide) (by decide) k) ?_
      exact J 0 (own_lo_b hD c180)
    · refine own_go (g' := (mkF m 187 #[.val (.int pn), .val (.int pl), .val (.int pp), .val (.int pb), .val (.int pm), .val (.int pk), .val (.ref b11), .val (.int mi), .val (.int oi), .val (.int fi), .val (.ref b22), .val (.int di), .unset, .unset, .unset, .unset, .unset, .unset, .unset] [])) (fun _ k => XS.icmpYes X36.here hx rfl (pc0 := 180) (pc' := 187) rfl (hb hby at_180) rfl (XT.ii_ne_t c180) (by decide) (by decide) k) ?_
      refine own_go (g' := (mkF m 189 #[.val (.int pn), .val (.int pl), .val (.int pp), .val (.int pb), .val (.int pm), .val (.int pk), .val (.ref b11), .val (.int mi), .val (.int oi), .val (.int fi), .val (.ref b22), .val (.int di), .unset, .unset, .unset, .unset, .unset, .unset, .unset] [(.ref b11)])) (fun _ k => XS.aload X36.here hx rfl (hb hby at_187) rfl rfl k) ?_
      refine own_go (g' := (mkF m 191 #[.val (.int pn), .val (.int pl), .val (.int pp), .val (.int pb), .val (.int pm), .val (.int pk), .val (.ref b11), .val (.int mi), .val (.int oi), .val (.int fi), .val (.ref b22), .val (.int di), .unset, .unset, .unset, .unset, .unset, .unset, .unset] [(.int di), (.ref b11)])) (fun _ k => XS.iload X36.here hx rfl (hb hby at_189) rfl k) ?_
      refine own_go (g' := (mkF m 192 #[.val (.int pn), .val (.int pl), .val (.int pp), .val (.int pb), .val (.int pm), .val (.int pk), .val (.ref b11), .val (.int mi), .val (.int oi), .val (.int fi), .val (.ref b22), .val (.int di), .unset, .unset, .unset, .unset, .unset, .unset, .unset] [(.int (1 : Int32)), (.int di), (.ref b11)])) (fun _ k => XS.iconst X36.here hx rfl (hb hby at_191) k) ?_
      refine own_go (g' := (mkF m 193 #[.val (.int pn), .val (.int pl), .val (.int pp), .val (.int pb), .val (.int pm), .val (.int pk), .val (.ref b11), .val (.int mi), .val (.int oi), .val (.int fi), .val (.ref b22), .val (.int di), .unset, .unset, .unset, .unset, .unset, .unset, .unset] [(.int (di - (1 : Int32))), (.ref b11)])) (fun _ k => XS.isub X36.here hx rfl (hb hby at_192) rfl k) ?_
      refine own_iaload X36 hx hZ e36 P36 (D - 1) (own_sub1 hD hD1 (by omega)) (by omega) (hb hby at_193) ?_
      show own_Go p e below _ T36 (mkF m 194 #[.val (.int pn), .val (.int pl), .val (.int pp), .val (.int pb), .val (.int pm), .val (.int pk), .val (.ref b11), .val (.int mi), .val (.int oi), .val (.int fi), .val (.ref b22), .val (.int di), .unset, .unset, .unset, .unset, .unset, .unset, .unset] [(.int (own_p10 (D - 1)))])
      exact J _ (own_lo_a hD hD9 c180)
  intro lo hlo
  refine own_go (g' := (mkF m 196 #[.val (.int pn), .val (.int pl), .val (.int pp), .val (.int pb), .val (.int pm), .val (.int pk), .val (.ref b11), .val (.int mi), .val (.int oi), .val (.int fi), .val (.ref b22), .val (.int di), .val (.int lo), .unset, .unset, .unset, .unset, .unset, .unset] [])) (fun _ k => XS.istore X36.here hx rfl (hb hby at_194) rfl (l' := #[.val (.int pn), .val (.int pl), .val (.int pp), .val (.int pb), .val (.int pm), .val (.int pk), .val (.ref b11), .val (.int mi), .val (.int oi), .val (.int fi), .val (.ref b22), .val (.int di), .val (.int lo), .unset, .unset, .unset, .unset, .unset, .unset]) rfl k) ?_
  refine own_go (g' := (mkF m 198 #[.val (.int pn), .val (.int pl), .val (.int pp), .val (.int pb), .val (.int pm), .val (.int pk), .val (.ref b11), .val (.int mi), .val (.int oi), .val (.int fi), .val (.ref b22), .val (.int di), .val (.int lo), .unset, .unset, .unset, .unset, .unset, .unset] [(.int lo)])) (fun _ k => XS.iload X36.here hx rfl (hb hby at_196) rfl k) ?_
  refine own_go (g' := (mkF m 199 #[.val (.int pn), .val (.int pl), .val (.int pp), .val (.int pb), .val (.int pm), .val (.int pk), .val (.ref b11), .val (.int mi), .val (.int oi), .val (.int fi), .val (.ref b22), .val (.int di), .val (.int lo), .unset, .unset, .unset, .unset, .unset, .unset] [(.int pn), (.int lo)])) (fun _ k => XS.iloadN X36.here hx rfl (hb hby at_198) rfl k) ?_
  refine own_go (g' := (mkF m 201 #[.val (.int pn), .val (.int pl), .val (.int pp), .val (.int pb), .val (.int pm), .val (.int pk), .val (.ref b11), .val (.int mi), .val (.int oi), .val (.int fi), .val (.ref b22), .val (.int di), .val (.int lo), .unset, .unset, .unset, .unset, .unset, .unset] [(.int (2147483647 : Int32)), (.int pn), (.int lo)])) (fun _ k => X36.ldcInt hx hown (mvT hZ (hw _ (List.mem_of_getElem? (i := 7) rfl))) (g := (mkF m 199 #[.val (.int pn), .val (.int pl), .val (.int pp), .val (.int pb), .val (.int pm), .val (.int pk), .val (.ref b11), .val (.int mi), .val (.int oi), .val (.int fi), .val (.ref b22), .val (.int di), .val (.int lo), .unset, .unset, .unset, .unset, .unset, .unset] [(.int pn), (.int lo)])) rfl (hb hby at_199) _ k) ?_
  refine own_go (g' := (mkF m 202 #[.val (.int pn), .val (.int pl), .val (.int pp), .val (.int pb), .val (.int pm), .val (.int pk), .val (.ref b11), .val (.int mi), .val (.int oi), .val (.int fi), .val (.ref b22), .val (.int di), .val (.int lo), .unset, .unset, .unset, .unset, .unset, .unset] [(.int (pn &&& (2147483647 : Int32))), (.int lo)])) (fun _ k => XS.iand X36.here hx rfl (hb hby at_201) rfl k) ?_
  refine own_go (g' := (mkF m 204 #[.val (.int pn), .val (.int pl), .val (.int pp), .val (.int pb), .val (.int pm), .val (.int pk), .val (.ref b11), .val (.int mi), .val (.int oi), .val (.int fi), .val (.ref b22), .val (.int di), .val (.int lo), .unset, .unset, .unset, .unset, .unset, .unset] [(.ref b11), (.int (pn &&& (2147483647 : Int32))), (.int lo)])) (fun _ k => XS.aload X36.here hx rfl (hb hby at_202) rfl rfl k) ?_
  refine own_go (g' := (mkF m 206 #[.val (.int pn), .val (.int pl), .val (.int pp), .val (.int pb), .val (.int pm), .val (.int pk), .val (.ref b11), .val (.int mi), .val (.int oi), .val (.int fi), .val (.ref b22), .val (.int di), .val (.int lo), .unset, .unset, .unset, .unset, .unset, .unset] [(.int di), (.ref b11), (.int (pn &&& (2147483647 : Int32))), (.int lo)])) (fun _ k => XS.iload X36.here hx rfl (hb hby at_204) rfl k) ?_
  refine own_iaload X36 hx hZ e36 P36 D hD (by omega) (hb hby at_206) ?_
  show own_Go p e below _ T36 (mkF m 207 #[.val (.int pn), .val (.int pl), .val (.int pp), .val (.int pb), .val (.int pm), .val (.int pk), .val (.ref b11), .val (.int mi), .val (.int oi), .val (.int fi), .val (.ref b22), .val (.int di), .val (.int lo), .unset, .unset, .unset, .unset, .unset, .unset] [(.int (own_p10 D)), (.int (pn &&& (2147483647 : Int32))), (.int lo)])
  refine own_go (g' := (mkF m 209 #[.val (.int pn), .val (.int pl), .val (.int pp), .val (.int pb), .val (.int pm), .val (.int pk), .val (.ref b11), .val (.int mi), .val (.int oi), .val (.int fi), .val (.ref b22), .val (.int di), .val (.int lo), .unset, .unset, .unset, .unset, .unset, .unset] [(.int lo), (.int (own_p10 D)), (.int (pn &&& (2147483647 : Int32))), (.int lo)])) (fun _ k => XS.iload X36.here hx rfl (hb hby at_207) rfl k) ?_
  refine own_go (g' := (mkF m 210 #[.val (.int pn), .val (.int pl), .val (.int pp), .val (.int pb), .val (.int pm), .val (.int pk), .val (.ref b11), .val (.int mi), .val (.int oi), .val (.int fi), .val (.ref b22), .val (.int di), .val (.int lo), .unset, .unset, .unset, .unset, .unset, .unset] [(.int ((own_p10 D) - lo)), (.int (pn &&& (2147483647 : Int32))), (.int lo)])) (fun _ k => XS.isub X36.here hx rfl (hb hby at_209) rfl k) ?_
  refine own_go (g' := (mkF m 211 #[.val (.int pn), .val (.int pl), .val (.int pp), .val (.int pb), .val (.int pm), .val (.int pk), .val (.ref b11), .val (.int mi), .val (.int oi), .val (.int fi), .val (.ref b22), .val (.int di), .val (.int lo), .unset, .unset, .unset, .unset, .unset, .unset] [(.int ((pn &&& (2147483647 : Int32)) % ((own_p10 D) - lo))), (.int lo)])) (fun _ k => Jvm.RoadKit.iremM X36 hx rfl (hb hby at_210) rfl (own_pd_ne hlo hD1 hD9) k) ?_
  refine own_go (g' := (mkF m 212 #[.val (.int pn), .val (.int pl), .val (.int pp), .val (.int pb), .val (.int pm), .val (.int pk), .val (.ref b11), .val (.int mi), .val (.int oi), .val (.int fi), .val (.ref b22), .val (.int di), .val (.int lo), .unset, .unset, .unset, .unset, .unset, .unset] [(.int (lo + ((pn &&& (2147483647 : Int32)) % ((own_p10 D) - lo))))])) (fun _ k => XS.iadd X36.here hx rfl (hb hby at_211) rfl k) ?_
  refine own_go (g' := (mkF m 214 #[.val (.int pn), .val (.int pl), .val (.int pp), .val (.int pb), .val (.int pm), .val (.int pk), .val (.ref b11), .val (.int mi), .val (.int oi), .val (.int fi), .val (.ref b22), .val (.int di), .val (.int lo), .val (.int (lo + ((pn &&& (2147483647 : Int32)) % ((own_p10 D) - lo)))), .unset, .unset, .unset, .unset, .unset] [])) (fun _ k => XS.istore X36.here hx rfl (hb hby at_212) rfl (l' := #[.val (.int pn), .val (.int pl), .val (.int pp), .val (.int pb), .val (.int pm), .val (.int pk), .val (.ref b11), .val (.int mi), .val (.int oi), .val (.int fi), .val (.ref b22), .val (.int di), .val (.int lo), .val (.int (lo + ((pn &&& (2147483647 : Int32)) % ((own_p10 D) - lo)))), .unset, .unset, .unset, .unset, .unset]) rfl k) ?_
  obtain ⟨vi, hvi⟩ : ∃ z : Int32, z = (lo + ((pn &&& (2147483647 : Int32)) % ((own_p10 D) - lo))) := ⟨_, rfl⟩
  rw [← hvi]
  show own_Go p e below _ T36 (mkF m 214 #[.val (.int pn), .val (.int pl), .val (.int pp), .val (.int pb), .val (.int pm), .val (.int pk), .val (.ref b11), .val (.int mi), .val (.int oi), .val (.int fi), .val (.ref b22), .val (.int di), .val (.int lo), .val (.int vi), .unset, .unset, .unset, .unset, .unset] [])
  obtain ⟨V, hV, hV1, hV2⟩ : ∃ V : Nat, vi.toInt = (V : Int) ∧ own_lo D ≤ V ∧ V < 10 ^ D := hvi ▸ own_v pn hlo hD1 hD9
  have hV9 : V < 10 ^ 9 := Nat.lt_of_lt_of_le hV2 (Nat.pow_le_pow_right (by decide) hD9)
  refine own_go (g' := (mkF m 216 #[.val (.int pn), .val (.int pl), .val (.int pp), .val (.int pb), .val (.int pm), .val (.int pk), .val (.ref b11), .val (.int mi), .val (.int oi), .val (.int fi), .val (.ref b22), .val (.int di), .val (.int lo), .val (.int vi), .unset, .unset, .unset, .unset, .unset] [(.int mi)])) (fun _ k => XS.iload X36.here hx rfl (hb hby at_214) rfl k) ?_
  refine own_go (g' := (mkF m 217 #[.val (.int pn), .val (.int pl), .val (.int pp), .val (.int pb), .val (.int pm), .val (.int pk), .val (.ref b11), .val (.int mi), .val (.int oi), .val (.int fi), .val (.ref b22), .val (.int di), .val (.int lo), .val (.int vi), .unset, .unset, .unset, .unset, .unset] [(.int (3 : Int32)), (.int mi)])) (fun _ k => XS.iconst X36.here hx rfl (hb hby at_216) k) ?_
  by_cases cm3 : mi = (3 : Int32)
  · refine own_go (g' := (mkF m 220 #[.val (.int pn), .val (.int pl), .val (.int pp), .val (.int pb), .val (.int pm), .val (.int pk), .val (.ref b11), .val (.int mi), .val (.int oi), .val (.int fi), .val (.ref b22), .val (.int di), .val (.int lo), .val (.int vi), .unset, .unset, .unset, .unset, .unset] [])) (fun _ k => XS.icmpNo X36.here hx rfl (hb hby at_217) rfl (XT.ii_ne_f cm3) k) ?_
    refine own_go (g' := (mkF m 222 #[.val (.int pn), .val (.int pl), .val (.int pp), .val (.int pb), .val (.int pm), .val (.int pk), .val (.ref b11), .val (.int mi), .val (.int oi), .val (.int fi), .val (.ref b22), .val (.int di), .val (.int lo), .val (.int vi), .unset, .unset, .unset, .unset, .unset] [(.int pk)])) (fun _ k => XS.iload X36.here hx rfl (hb hby at_220) rfl k) ?_
    refine own_go (g' := (mkF m 223 #[.val (.int pn), .val (.int pl), .val (.int pp), .val (.int pb), .val (.int pm), .val (.int pk), .val (.ref b11), .val (.int mi), .val (.int oi), .val (.int fi), .val (.ref b22), .val (.int di), .val (.int lo), .val (.int vi), .unset, .unset, .unset, .unset, .unset] [(.int (1 : Int32)), (.int pk)])) (fun _ k => XS.iconst X36.here hx rfl (hb hby at_222) k) ?_
    refine own_go (g' := (mkF m 224 #[.val (.int pn), .val (.int pl), .val (.int pp), .val (.int pb), .val (.int pm), .val (.int pk), .val (.ref b11), .val (.int mi), .val (.int oi), .val (.int fi), .val (.ref b22), .val (.int di), .val (.int lo), .val (.int vi), .unset, .unset, .unset, .unset, .unset] [(.int (pk &&& (1 : Int32)))])) (fun _ k => XS.iand X36.here hx rfl (hb hby at_223) rfl k) ?_
    by_cases ck : (pk &&& (1 : Int32)) = 0
    · refine own_go (g' := (mkF m 227 #[.val (.int pn), .val (.int pl), .val (.int pp), .val (.int pb), .val (.int pm), .val (.int pk), .val (.ref b11), .val (.int mi), .val (.int oi), .val (.int fi), .val (.ref b22), .val (.int di), .val (.int lo), .val (.int vi), .unset, .unset, .unset, .unset, .unset] [])) (fun _ k => XS.ifNo X36.here hx rfl (hb hby at_224) rfl (XT.i0_ne_f ck) k) ?_
      refine own_go (g' := (mkF m 229 #[.val (.int pn), .val (.int pl), .val (.int pp), .val (.int pb), .val (.int pm), .val (.int pk), .val (.ref b11), .val (.int mi), .val (.int oi), .val (.int fi), .val (.ref b22), .val (.int di), .val (.int lo), .val (.int vi), .unset, .unset, .unset, .unset, .unset] [(.ref b22)])) (fun _ k => XS.aload X36.here hx rfl (hb hby at_227) rfl rfl k) ?_
      refine own_go (g' := (mkF m 231 #[.val (.int pn), .val (.int pl), .val (.int pp), .val (.int pb), .val (.int pm), .val (.int pk), .val (.ref b11), .val (.int mi), .val (.int oi), .val (.int fi), .val (.ref b22), .val (.int di), .val (.int lo), .val (.int vi), .unset, .unset, .unset, .unset, .unset] [(.int oi), (.ref b22)])) (fun _ k => XS.iload X36.here hx rfl (hb hby at_229) rfl k) ?_
      refine own_go (g' := (mkF m 233 #[.val (.int pn), .val (.int pl), .val (.int pp), .val (.int pb), .val (.int pm), .val (.int pk), .val (.ref b11), .val (.int mi), .val (.int oi), .val (.int fi), .val (.ref b22), .val (.int di), .val (.int lo), .val (.int vi), .unset, .unset, .unset, .unset, .unset] [(.int oi), (.int oi), (.ref b22)])) (fun _ k => XS.iload X36.here hx rfl (hb hby at_231) rfl k) ?_
      refine own_callS X36 hx hZ hown e36 (y := (⟨"org/kusuridana/CsvLine", "number", "([BII)I"⟩ : MethodName)) (rm := ({ frames := 0, cells := 0, slots := 0, locals := 0 } : Room)) (hw _ (List.mem_of_getElem? (i := 15) rfl)) (hw _ (List.mem_of_getElem? (i := 16) rfl)) (hw _ (List.mem_of_getElem? (i := 17) rfl)) (hw _ (List.mem_of_getElem? (i := 18) rfl)) (by decide) (argsL := [(.ref b22), (.int oi), (.int oi)]) (rest := []) (own_rmN l Z a0 hw [] b22 oi oi f0 A 0 h36 n0 hA hA (by omega) F0) (by rw [hml]; rfl) pd_3 rfl rfl (hb hby at_233) (W := 0) (Nat.le_of_eq rfl) (by decide) (by decide) (by decide) (by decide) ?_
      intro v37 T37 L37 X37 hQ37
      obtain ⟨hv37, e37, rfl⟩ := hQ37
      obtain ⟨r, hr⟩ : ∃ z : Int32, z = own_num f0 A 0 := ⟨_, rfl⟩
      rw [← hr] at hv37
      subst hv37
      rw [List.append_nil] at X37
      show own_Go p e below _ T37 (mkF m 236 #[.val (.int pn), .val (.int pl), .val (.int pp), .val (.int pb), .val (.int pm), .val (.int pk), .val (.ref b11), .val (.int mi), .val (.int oi), .val (.int fi), .val (.ref b22), .val (.int di), .val (.int lo), .val (.int vi), .unset, .unset, .unset, .unset, .unset] [(.int r)])
      have hr1 : r = -1 := by rw [hr]; simp [own_num]
      refine own_go (g' := (mkF m 237 #[.val (.int pn), .val (.int pl), .val (.int pp), .val (.int pb), .val (.int pm), .val (.int pk), .val (.ref b11), .val (.int mi), .val (.int oi), .val (.int fi), .val (.ref b22), .val (.int di), .val (.int lo), .val (.int vi), .unset, .unset, .unset, .unset, .unset] [(.int (-1 : Int32)), (.int r)])) (fun _ k => XS.iconst X37.here hx rfl (hb hby at_236) k) ?_
      refine own_go (g' := (mkF m 240 #[.val (.int pn), .val (.int pl), .val (.int pp), .val (.int pb), .val (.int pm), .val (.int pk), .val (.ref b11), .val (.int mi), .val (.int oi), .val (.int fi), .val (.ref b22), .val (.int di), .val (.int lo), .val (.int vi), .unset, .unset, .unset, .unset, .unset] [])) (fun _ k => XS.icmpNo X37.here hx rfl (hb hby at_237) rfl (XT.ii_ne_f hr1) k) ?_
      refine own_go (g' := (mkF m 241 #[.val (.int pn), .val (.int pl), .val (.int pp), .val (.int pb), .val (.int pm), .val (.int pk), .val (.ref b11), .val (.int mi), .val (.int oi), .val (.int fi), .val (.ref b22), .val (.int di), .val (.int lo), .val (.int vi), .unset, .unset, .unset, .unset, .unset] [(.int (1 : Int32))])) (fun _ k => XS.iconst X37.here hx rfl (hb hby at_240) k) ?_
      refine own_go (g' := (mkF m 245 #[.val (.int pn), .val (.int pl), .val (.int pp), .val (.int pb), .val (.int pm), .val (.int pk), .val (.ref b11), .val (.int mi), .val (.int oi), .val (.int fi), .val (.ref b22), .val (.int di), .val (.int lo), .val (.int vi), .unset, .unset, .unset, .unset, .unset] [(.int (1 : Int32))])) (fun _ k => XS.goto X37.here hx rfl (pc0 := 241) (pc' := 245) rfl (hb hby at_241) (by decide) (by decide) k) ?_
      exact own_retZ X37 hx hlk hret e37 (hb hby at_245) ⟨rfl, N36⟩ (by decide) (by decide)
    · refine own_go (g' := (mkF m 246 #[.val (.int pn), .val (.int pl), .val (.int pp), .val (.int pb), .val (.int pm), .val (.int pk), .val (.ref b11), .val (.int mi), .val (.int oi), .val (.int fi), .val (.ref b22), .val (.int di), .val (.int lo), .val (.int vi), .unset, .unset, .unset, .unset, .unset] [])) (fun _ k => XS.ifYes X36.here hx rfl (pc0 := 224) (pc' := 246) rfl (hb hby at_224) rfl (XT.i0_ne_t ck) (by decide) (by decide) k) ?_
      refine own_go (g' := (mkF m 248 #[.val (.int pn), .val (.int pl), .val (.int pp), .val (.int pb), .val (.int pm), .val (.int pk), .val (.ref b11), .val (.int mi), .val (.int oi), .val (.int fi), .val (.ref b22), .val (.int di), .val (.int lo), .val (.int vi), .unset, .unset, .unset, .unset, .unset] [(.ref b22)])) (fun _ k => XS.aload X36.here hx rfl (hb hby at_246) rfl rfl k) ?_
      refine own_go (g' := (mkF m 250 #[.val (.int pn), .val (.int pl), .val (.int pp), .val (.int pb), .val (.int pm), .val (.int pk), .val (.ref b11), .val (.int mi), .val (.int oi), .val (.int fi), .val (.ref b22), .val (.int di), .val (.int lo), .val (.int vi), .unset, .unset, .unset, .unset, .unset] [(.int oi), (.ref b22)])) (fun _ k => XS.iload X36.here hx rfl (hb hby at_248) rfl k) ?_
      refine own_go (g' := (mkF m 252 #[.val (.int pn), .val (.int pl), .val (.int pp), .val (.int pb), .val (.int pm), .val (.int pk), .val (.ref b11), .val (.int mi), .val (.int oi), .val (.int fi), .val (.ref b22), .val (.int di), .val (.int lo), .val (.int vi), .unset, .unset, .unset, .unset, .unset] [(.int (49 : Int32)), (.int oi), (.ref b22)])) (fun _ k => XS.bipush X36.here hx rfl (hb hby at_250) k) ?_
      refine own_go (g' := (mkF m 253 #[.val (.int pn), .val (.int pl), .val (.int pp), .val (.int pb), .val (.int pm), .val (.int pk), .val (.ref b11), .val (.int mi), .val (.int oi), .val (.int fi), .val (.ref b22), .val (.int di), .val (.int lo), .val (.int vi), .unset, .unset, .unset, .unset, .unset] [(.int pb), (.int (49 : Int32)), (.int oi), (.ref b22)])) (fun _ k => XS.iloadN X36.here hx rfl (hb hby at_252) rfl k) ?_
      refine own_go (g' := (mkF m 255 #[.val (.int pn), .val (.int pl), .val (.int pp), .val (.int pb), .val (.int pm), .val (.int pk), .val (.ref b11), .val (.int mi), .val (.int oi), .val (.int fi), .val (.ref b22), .val (.int di), .val (.int lo), .val (.int vi), .unset, .unset, .unset, .unset, .unset] [(.int (2147483647 : Int32)), (.int pb), (.int (49 : Int32)), (.int oi), (.ref b22)])) (fun _ k => X36.ldcInt hx hown (mvT hZ (hw _ (List.mem_of_getElem? (i := 7) rfl))) (g := (mkF m 253 #[.val (.int pn), .val (.int pl), .val (.int pp), .val (.int pb), .val (.int pm), .val (.int pk), .val (.ref b11), .val (.int mi), .val (.int oi), .val (.int fi), .val (.ref b22), .val (.int di), .val (.int lo), .val (.int vi), .unset, .unset, .unset, .unset, .unset] [(.int pb), (.int (49 : Int32)), (.int oi), (.ref b22)])) rfl (hb hby at_253) _ k) ?_
      refine own_go (g' := (mkF m 256 #[.val (.int pn), .val (.int pl), .val (.int pp), .val (.int pb), .val (.int pm), .val (.int pk), .val (.ref b11), .val (.int mi), .val (.int oi), .val (.int fi), .val (.ref b22), .val (.int di), .val (.int lo), .val (.int vi), .unset, .unset, .unset, .unset, .unset] [(.int (pb &&& (2147483647 : Int32))), (.int (49 : Int32)), (.int oi), (.ref b22)])) (fun _ k => XS.iand X36.here hx rfl (hb hby at_255) rfl k) ?_
      refine own_go (g' := (mkF m 258 #[.val (.int pn), .val (.int pl), .val (.int pp), .val (.int pb), .val (.int pm), .val (.int pk), .val (.ref b11), .val (.int mi), .val (.int oi), .val (.int fi), .val (.ref b22), .val (.int di), .val (.int lo), .val (.int vi), .unset, .unset, .unset, .unset, .unset] [(.int (9 : Int32)), (.int (pb &&& (2147483647 : Int32))), (.int (49 : Int32)), (.int oi), (.ref b22)])) (fun _ k => XS.bipush X36.here hx rfl (hb hby at_256) k) ?_
      refine own_go (g' := (mkF m 259 #[.val (.int pn), .val (.int pl), .val (.int pp), .val (.int pb), .val (.int pm), .val (.int pk), .val (.ref b11), .val (.int mi), .val (.int oi), .val (.int fi), .val (.ref b22), .val (.int di), .val (.int lo), .val (.int vi), .unset, .unset, .unset, .unset, .unset] [(.int ((pb &&& (2147483647 : Int32)) % (9 : Int32))), (.int (49 : Int32)), (.int oi), (.ref b22)])) (fun _ k => Jvm.RoadKit.iremM X36 hx rfl (hb hby at_258) rfl (by decide) k) ?_
      refine own_go (g' := (mkF m 260 #[.val (.int pn), .val (.int pl), .val (.int pp), .val (.int pb), .val (.int pm), .val (.int pk), .val (.ref b11), .val (.int mi), .val (.int oi), .val (.int fi), .val (.ref b22), .val (.int di), .val (.int lo), .val (.int vi), .unset, .unset, .unset, .unset, .unset] [(.int ((49 : Int32) + ((pb &&& (2147483647 : Int32)) % (9 : Int32)))), (.int oi), (.ref b22)])) (fun _ k => XS.iadd X36.here hx rfl (hb hby at_259) rfl k) ?_
      refine own_go (g' := (mkF m 261 #[.val (.int pn), .val (.int pl), .val (.int pp), .val (.int pb), .val (.int pm), .val (.int pk), .val (.ref b11), .val (.int mi), .val (.int oi), .val (.int fi), .val (.ref b22), .val (.int di), .val (.int lo), .val (.int vi), .unset, .unset, .unset, .unset, .unset] [(.int ((((49 : Int32) + ((pb &&& (2147483647 : Int32)) % (9 : Int32)))).toInt8.toInt32)), (.int oi), (.ref b22)])) (fun _ k => XT.i2b X36.here hx rfl (hb hby at_260) rfl k) ?_
      refine own_bastore X36 hx hZ e36 F0 A hA (by omega) (hb hby at_261) ?_
      intro T38 h38 X38 e38 W38
      show own_Go p e below _ T38 (mkF m 262 #[.val (.int pn), .val (.int pl), .val (.int pp), .val (.int pb), .val (.int pm), .val (.int pk), .val (.ref b11), .val (.int mi), .val (.int oi), .val (.int fi), .val (.ref b22), .val (.int di), .val (.int lo), .val (.int vi), .unset, .unset, .unset, .unset, .unset] [])
      have F38 := own_Ai_set F0 W38
      have N38 := Fr.snoc X38 N36 ga
      have P38 : own_Ai Z h38 b11 .int 10 own_p10 := own_Ar_other P36 W38 (Ne.symm hap)
      refine own_go (g' := (mkF m 263 #[.val (.int pn), .val (.int pl), .val (.int pp), .val (.int pb), .val (.int pm), .val (.int pk), .val (.ref b11), .val (.int mi), .val (.int oi), .val (.int fi), .val (.ref b22), .val (.int di), .val (.int lo), .val (.int vi), .unset, .unset, .unset, .unset, .unset] [(.int pn)])) (fun _ k => XS.iloadN X38.here hx rfl (hb hby at_262) rfl k) ?_
      refine own_go (g' := (mkF m 265 #[.val (.int pn), .val (.int pl), .val (.int pp), .val (.int pb), .val (.int pm), .val (.int pk), .val (.ref b11), .val (.int mi), .val (.int oi), .val (.int fi), .val (.ref b22), .val (.int di), .val (.int lo), .val (.int vi), .unset, .unset, .unset, .unset, .unset] [(.int (2147483647 : Int32)), (.int pn)])) (fun _ k => X38.ldcInt hx hown (mvT hZ (hw _ (List.mem_of_getElem? (i := 7) rfl))) (g := (mkF m 263 #[.val (.int pn), .val (.int pl), .val (.int pp), .val (.int pb), .val (.int pm), .val (.int pk), .val (.ref b11), .val (.int mi), .val (.int oi), .val (.int fi), .val (.ref b22), .val (.int di), .val (.int lo), .val (.int vi), .unset, .unset, .unset, .unset, .unset] [(.int pn)])) rfl (hb hby at_263) _ k) ?_
      refine own_go (g' := (mkF m 266 #[.val (.int pn), .val (.int pl), .val (.int pp), .val (.int pb), .val (.int pm), .val (.int pk), .val (.ref b11), .val (.int mi), .val (.int oi), .val (.int fi), .val (.ref b22), .val (.int di), .val (.int lo), .val (.int vi), .unset, .unset, .unset, .unset, .unset] [(.int (pn &&& (2147483647 : Int32)))])) (fun _ k => XS.iand X38.here hx rfl (hb hby at_265) rfl k) ?_
      refine own_go (g' := (mkF m 268 #[.val (.int pn), .val (.int pl), .val (.int pp), .val (.int pb), .val (.int pm), .val (.int pk), .val (.ref b11), .val (.int mi), .val (.int oi), .val (.int fi), .val (.ref b22), .val (.int di), .val (.int lo), .val (.int vi), .unset, .unset, .unset, .unset, .unset] [(.int (1000000000 : Int32)), (.int (pn &&& (2147483647 : Int32)))])) (fun _ k => X38.ldcInt hx hown (mvT hZ (hw _ (List.mem_of_getElem? (i := 5) rfl))) (g := (mkF m 266 #[.val (.int pn), .val (.int pl), .val (.int pp), .val (.int pb), .val (.int pm), .val (.int pk), .val (.ref b11), .val (.int mi), .val (.int oi), .val (.int fi), .val (.ref b22), .val (.int di), .val (.int lo), .val (.int vi), .unset, .unset, .unset, .unset, .unset] [(.int (pn &&& (2147483647 : Int32)))])) rfl (hb hby at_266) _ k) ?_
      refine own_go (g' := (mkF m 269 #[.val (.int pn), .val (.int pl), .val (.int pp), .val (.int pb), .val (.int pm), .val (.int pk), .val (.ref b11), .val (.int mi), .val (.int oi), .val (.int fi), .val (.ref b22), .val (.int di), .val (.int lo), .val (.int vi), .unset, .unset, .unset, .unset, .unset] [(.int ((pn &&& (2147483647 : Int32)) % (1000000000 : Int32)))])) (fun _ k => Jvm.RoadKit.iremM X38 hx rfl (hb hby at_268) rfl (by decide) k) ?_
      refine own_go (g' := (mkF m 271 #[.val (.int pn), .val (.int pl), .val (.int pp), .val (.int pb), .val (.int pm), .val (.int pk), .val (.ref b11), .val (.int mi), .val (.int oi), .val (.int fi), .val (.ref b22), .val (.int di), .val (.int lo), .val (.int vi), .val (.int ((pn &&& (2147483647 : Int32)) % (1000000000 : Int32))), .unset, .unset, .unset, .unset] [])) (fun _ k => XS.istore X38.here hx rfl (hb hby at_269) rfl (l' := #[.val (.int pn), .val (.int pl), .val (.int pp), .val (.int pb), .val (.int pm), .val (.int pk), .val (.ref b11), .val (.int mi), .val (.int oi), .val (.int fi), .val (.ref b22), .val (.int di), .val (.int lo), .val (.int vi), .val (.int ((pn &&& (2147483647 : Int32)) % (1000000000 : Int32))), .unset, .unset, .unset, .unset]) rfl k) ?_
      obtain ⟨wi, hwi⟩ : ∃ z : Int32, z = ((pn &&& (2147483647 : Int32)) % (1000000000 : Int32)) := ⟨_, rfl⟩
      rw [← hwi]
      show own_Go p e below _ T38 (mkF m 271 #[.val (.int pn), .val (.int pl), .val (.int pp), .val (.int pb), .val (.int pm), .val (.int pk), .val (.ref b11), .val (.int mi), .val (.int oi), .val (.int fi), .val (.ref b22), .val (.int di), .val (.int lo), .val (.int vi), .val (.int wi), .unset, .unset, .unset, .unset] [])
      obtain ⟨U, hU, hU9⟩ : ∃ U : Nat, wi.toInt = (U : Int) ∧ U < 10 ^ 9 := hwi ▸ own_w pn
      refine own_go (g' := (mkF m 273 #[.val (.int pn), .val (.int pl), .val (.int pp), .val (.int pb), .val (.int pm), .val (.int pk), .val (.ref b11), .val (.int mi), .val (.int oi), .val (.int fi), .val (.ref b22), .val (.int di), .val (.int lo), .val (.int vi), .val (.int wi), .unset, .unset, .unset, .unset] [(.ref b22)])) (fun _ k => XS.aload X38.here hx rfl (hb hby at_271) rfl rfl k) ?_
      refine own_go (g' := (mkF m 275 #[.val (.int pn), .val (.int pl), .val (.int pp), .val (.int pb), .val (.int pm), .val (.int pk), .val (.ref b11), .val (.int mi), .val (.int oi), .val (.int fi), .val (.ref b22), .val (.int di), .val (.int lo), .val (.int vi), .val (.int wi), .unset, .unset, .unset, .unset] [(.int oi), (.ref b22)])) (fun _ k => XS.iload X38.here hx rfl (hb hby at_273) rfl k) ?_
      refine own_go (g' := (mkF m 276 #[.val (.int pn), .val (.int pl), .val (.int pp), .val (.int pb), .val (.int pm), .val (.int pk), .val (.ref b11), .val (.int mi), .val (.int oi), .val (.int fi), .val (.ref b22), .val (.int di), .val (.int lo), .val (.int vi), .val (.int wi), .unset, .unset, .unset, .unset] [(.int (1 : Int32)), (.int oi), (.ref b22)])) (fun _ k => XS.iconst X38.here hx rfl (hb hby at_275) k) ?_
      refine own_go (g' := (mkF m 277 #[.val (.int pn), .val (.int pl), .val (.int pp), .val (.int pb), .val (.int pm), .val (.int pk), .val (.ref b11), .val (.int mi), .val (.int oi), .val (.int fi), .val (.ref b22), .val (.int di), .val (.int lo), .val (.int vi), .val (.int wi), .unset, .unset, .unset, .unset] [(.int (oi + (1 : Int32))), (.ref b22)])) (fun _ k => XS.iadd X38.here hx rfl (hb hby at_276) rfl k) ?_
      refine own_go (g' := (mkF m 279 #[.val (.int pn), .val (.int pl), .val (.int pp), .val (.int pb), .val (.int pm), .val (.int pk), .val (.ref b11), .val (.int mi), .val (.int oi), .val (.int fi), .val (.ref b22), .val (.int di), .val (.int lo), .val (.int vi), .val (.int wi), .unset, .unset, .unset, .unset] [(.int wi), (.int (oi + (1 : Int32))), (.ref b22)])) (fun _ k => XS.iload X38.here hx rfl (hb hby at_277) rfl k) ?_
      refine own_go (g' := (mkF m 281 #[.val (.int pn), .val (.int pl), .val (.int pp), .val (.int pb), .val (.int pm), .val (.int pk), .val (.ref b11), .val (.int mi), .val (.int oi), .val (.int fi), .val (.ref b22), .val (.int di), .val (.int lo), .val (.int vi), .val (.int wi), .unset, .unset, .unset, .unset] [(.int (9 : Int32)), (.int wi), (.int (oi + (1 : Int32))), (.ref b22)])) (fun _ k => XS.bipush X38.here hx rfl (hb hby at_279) k) ?_
      refine own_go (g' := (mkF m 283 #[.val (.int pn), .val (.int pl), .val (.int pp), .val (.int pb), .val (.int pm), .val (.int pk), .val (.ref b11), .val (.int mi), .val (.int oi), .val (.int fi), .val (.ref b22), .val (.int di), .val (.int lo), .val (.int vi), .val (.int wi), .unset, .unset, .unset, .unset] [(.ref b11), (.int (9 : Int32)), (.int wi), (.int (oi + (1 : Int32))), (.ref b22)])) (fun _ k => XS.aload X38.here hx rfl (hb hby at_281) rfl rfl k) ?_
      refine own_callS X38 hx hZ hown e38 (y := (⟨"org/kusuridana/CsvLineNumberPinLaw", "writeAll", "([BIII[I)V"⟩ : MethodName)) (rm := ({ frames := 1, cells := 0, slots := 0, locals := 17 } : Room)) (hw _ (List.mem_of_getElem? (i := 8) rfl)) (hw _ (List.mem_of_getElem? (i := 9) rfl)) (hw _ (List.mem_of_getElem? (i := 10) rfl)) (hw _ (List.mem_of_getElem? (i := 11) rfl)) (by decide) (argsL := [(.ref b22), (.int (oi + (1 : Int32))), (.int wi), (.int (9 : Int32)), (.ref b11)]) (rest := []) (own_rmW l Z a0 hw [] b22 b11 (oi + (1 : Int32)) wi (9 : Int32) _ (A + 1) U 9 h38 n0 (own_inc hA (by omega)) hU hU9 rfl (by decide) (by decide) (by omega) F38 P38 ga hap) (by rw [hml]; rfl) pd_1 rfl rfl (hb hby at_283) (W := 0) (Nat.le_of_eq rfl) (by decide) (by decide) (by decide) (by decide) ?_
      intro v39 T39 L39 X39 hQ39
      obtain ⟨rfl, N39q, K39, F39⟩ := hQ39
      have N39 := Fr.app N38 N39q
      have P39 : own_Ai Z T39.heap b11 .int 10 own_p10 := own_Ar_keep P38 K39 (by simpa using Ne.symm hap)
      show own_Go p e below _ T39 (mkF m 286 #[.val (.int pn), .val (.int pl), .val (.int pp), .val (.int pb), .val (.int pm), .val (.int pk), .val (.ref b11), .val (.int mi), .val (.int oi), .val (.int fi), .val (.ref b22), .val (.int di), .val (.int lo), .val (.int vi), .val (.int wi), .unset, .unset, .unset, .unset] [])
      obtain ⟨f1, hf1, Ff1⟩ : ∃ g : Nat → Int32, (True) ∧ own_Ai Z T39.heap b22 .byte 14 g := ⟨_, trivial, F39⟩
      refine own_go (g' := (mkF m 288 #[.val (.int pn), .val (.int pl), .val (.int pp), .val (.int pb), .val (.int pm), .val (.int pk), .val (.ref b11), .val (.int mi), .val (.int oi), .val (.int fi), .val (.ref b22), .val (.int di), .val (.int lo), .val (.int vi), .val (.int wi), .unset, .unset, .unset, .unset] [(.ref b22)])) (fun _ k => XS.aload X39.here hx rfl (hb hby at_286) rfl rfl k) ?_
      refine own_go (g' := (mkF m 290 #[.val (.int pn), .val (.int pl), .val (.int pp), .val (.int pb), .val (.int pm), .val (.int pk), .val (.ref b11), .val (.int mi), .val (.int oi), .val (.int fi), .val (.ref b22), .val (.int di), .val (.int lo), .val (.int vi), .val (.int wi), .unset, .unset, .unset, .unset] [(.int oi), (.ref b22)])) (fun _ k => XS.iload X39.here hx rfl (hb hby at_288) rfl k) ?_
      refine own_go (g' := (mkF m 292 #[.val (.int pn), .val (.int pl), .val (.int pp), .val (.int pb), .val (.int pm), .val (.int pk), .val (.ref b11), .val (.int mi), .val (.int oi), .val (.int fi), .val (.ref b22), .val (.int di), .val (.int lo), .val (.int vi), .val (.int wi), .unset, .unset, .unset, .unset] [(.int oi), (.int oi), (.ref b22)])) (fun _ k => XS.iload X39.here hx rfl (hb hby at_290) rfl k) ?_
      refine own_go (g' := (mkF m 294 #[.val (.int pn), .val (.int pl), .val (.int pp), .val (.int pb), .val (.int pm), .val (.int pk), .val (.ref b11), .val (.int mi), .val (.int oi), .val (.int fi), .val (.ref b22), .val (.int di), .val (.int lo), .val (.int vi), .val (.int wi), .unset, .unset, .unset, .unset] [(.int (10 : Int32)), (.int oi), (.int oi), (.ref b22)])) (fun _ k => XS.bipush X39.here hx rfl (hb hby at_292) k) ?_
      refine own_go (g' := (mkF m 295 #[.val (.int pn), .val (.int pl), .val (.int pp), .val (.int pb), .val (.int pm), .val (.int pk), .val (.ref b11), .val (.int mi), .val (.int oi), .val (.int fi), .val (.ref b22), .val (.int di), .val (.int lo), .val (.int vi), .val (.int wi), .unset, .unset, .unset, .unset] [(.int (oi + (10 : Int32))), (.int oi), (.ref b22)])) (fun _ k => XS.iadd X39.here hx rfl (hb hby at_294) rfl k) ?_
      refine own_callS X39 hx hZ hown rfl (y := (⟨"org/kusuridana/CsvLine", "number", "([BII)I"⟩ : MethodName)) (rm := ({ frames := 0, cells := 0, slots := 0, locals := 0 } : Room)) (hw _ (List.mem_of_getElem? (i := 15) rfl)) (hw _ (List.mem_of_getElem? (i := 16) rfl)) (hw _ (List.mem_of_getElem? (i := 17) rfl)) (hw _ (List.mem_of_getElem? (i := 18) rfl)) (by decide) (argsL := [(.ref b22), (.int oi), (.int (oi + (10 : Int32)))]) (rest := []) (own_rmN l Z a0 hw [] b22 oi (oi + (10 : Int32)) f1 A 10 T39.heap n0 hA (own_addi hA (k := 10) rfl (by omega)) (by omega) Ff1) (by rw [hml]; rfl) pd_3 rfl rfl (hb hby at_295) (W := 0) (Nat.le_of_eq rfl) (by decide) (by decide) (by decide) (by decide) ?_
      intro v40 T40 L40 X40 hQ40
      obtain ⟨hv40, e40, rfl⟩ := hQ40
      obtain ⟨r, hr⟩ : ∃ z : Int32, z = own_num f1 A 10 := ⟨_, rfl⟩
      rw [← hr] at hv40
      subst hv40
      rw [List.append_nil] at X40
      show own_Go p e below _ T40 (mkF m 298 #[.val (.int pn), .val (.int pl), .val (.int pp), .val (.int pb), .val (.int pm), .val (.int pk), .val (.ref b11), .val (.int mi), .val (.int oi), .val (.int fi), .val (.ref b22), .val (.int di), .val (.int lo), .val (.int vi), .val (.int wi), .unset, .unset, .unset, .unset] [(.int r)])
      have hr1 : r = -1 := by rw [hr]; simp [own_num]
      refine own_go (g' := (mkF m 299 #[.val (.int pn), .val (.int pl), .val (.int pp), .val (.int pb), .val (.int pm), .val (.int pk), .val (.ref b11), .val (.int mi), .val (.int oi), .val (.int fi), .val (.ref b22), .val (.int di), .val (.int lo), .val (.int vi), .val (.int wi), .unset, .unset, .unset, .unset] [(.int (-1 : Int32)), (.int r)])) (fun _ k => XS.iconst X40.here hx rfl (hb hby at_298) k) ?_
      refine own_go (g' := (mkF m 302 #[.val (.int pn), .val (.int pl), .val (.int pp), .val (.int pb), .val (.int pm), .val (.int pk), .val (.ref b11), .val (.int mi), .val (.int oi), .val (.int fi), .val (.ref b22), .val (.int di), .val (.int lo), .val (.int vi), .val (.int wi), .unset, .unset, .unset, .unset] [])) (fun _ k => XS.icmpNo X40.here hx rfl (hb hby at_299) rfl (XT.ii_ne_f hr1) k) ?_
      refine own_go (g' := (mkF m 303 #[.val (.int pn), .val (.int pl), .val (.int pp), .val (.int pb), .val (.int pm), .val (.int pk), .val (.ref b11), .val (.int mi), .val (.int oi), .val (.int fi), .val (.ref b22), .val (.int di), .val (.int lo), .val (.int vi), .val (.int wi), .unset, .unset, .unset, .unset] [(.int (1 : Int32))])) (fun _ k => XS.iconst X40.here hx rfl (hb hby at_302) k) ?_
      refine own_go (g' := (mkF m 307 #[.val (.int pn), .val (.int pl), .val (.int pp), .val (.int pb), .val (.int pm), .val (.int pk), .val (.ref b11), .val (.int mi), .val (.int oi), .val (.int fi), .val (.ref b22), .val (.int di), .val (.int lo), .val (.int vi), .val (.int wi), .unset, .unset, .unset, .unset] [(.int (1 : Int32))])) (fun _ k => XS.goto X40.here hx rfl (pc0 := 303) (pc' := 307) rfl (hb hby at_303) (by decide) (by decide) k) ?_
      exact own_retZ X40 hx hlk hret e40 (hb hby at_307) ⟨rfl, N39⟩ (by decide) (by decide)
  · refine own_go (g' := (mkF m 308 #[.val (.int pn), .val (.int pl), .val (.int pp), .val (.int pb), .val (.int pm), .val (.int pk), .val (.ref b11), .val (.int mi), .val (.int oi), .val (.int fi), .val (.ref b22), .val (.int di), .val (.int lo), .val (.int vi), .unset, .unset, .unset, .unset, .unset] [])) (fun _ k => XS.icmpYes X36.here hx rfl (pc0 := 217) (pc' := 308) rfl (hb hby at_217) rfl (XT.ii_ne_t cm3) (by decide) (by decide) k) ?_
    refine own_go (g' := (mkF m 310 #[.val (.int pn), .val (.int pl), .val (.int pp), .val (.int pb), .val (.int pm), .val (.int pk), .val (.ref b11), .val (.int mi), .val (.int oi), .val (.int fi), .val (.ref b22), .val (.int di), .val (.int lo), .val (.int vi), .unset, .unset, .unset, .unset, .unset] [(.int mi)])) (fun _ k => XS.iload X36.here hx rfl (hb hby at_308) rfl k) ?_
    refine own_go (g' := (mkF m 311 #[.val (.int pn), .val (.int pl), .val (.int pp), .val (.int pb), .val (.int pm), .val (.int pk), .val (.ref b11), .val (.int mi), .val (.int oi), .val (.int fi), .val (.ref b22), .val (.int di), .val (.int lo), .val (.int vi), .unset, .unset, .unset, .unset, .unset] [(.int (2 : Int32)), (.int mi)])) (fun _ k => XS.iconst X36.here hx rfl (hb hby at_310) k) ?_
    by_cases cm2 : mi = (2 : Int32)
    · refine own_go (g' := (mkF m 314 #[.val (.int pn), .val (.int pl), .val (.int pp), .val (.int pb), .val (.int pm), .val (.int pk), .val (.ref b11), .val (.int mi), .val (.int oi), .val (.int fi), .val (.ref b22), .val (.int di), .val (.int lo), .val (.int vi), .unset, .unset, .unset, .unset, .unset] [])) (fun _ k => XS.icmpNo X36.here hx rfl (hb hby at_311) rfl (XT.ii_ne_f cm2) k) ?_
      refine own_go (g' := (mkF m 316 #[.val (.int pn), .val (.int pl), .val (.int pp), .val (.int pb), .val (.int pm), .val (.int pk), .val (.ref b11), .val (.int mi), .val (.int oi), .val (.int fi), .val (.ref b22), .val (.int di), .val (.int lo), .val (.int vi), .unset, .unset, .unset, .unset, .unset] [(.ref b22)])) (fun _ k => XS.aload X36.here hx rfl (hb hby at_314) rfl rfl k) ?_
      refine own_go (g' := (mkF m 318 #[.val (.int pn), .val (.int pl), .val (.int pp), .val (.int pb), .val (.int pm), .val (.int pk), .val (.ref b11), .val (.int mi), .val (.int oi), .val (.int fi), .val (.ref b22), .val (.int di), .val (.int lo), .val (.int vi), .unset, .unset, .unset, .unset, .unset] [(.int oi), (.ref b22)])) (fun _ k => XS.iload X36.here hx rfl (hb hby at_316) rfl k) ?_
      refine own_go (g' := (mkF m 320 #[.val (.int pn), .val (.int pl), .val (.int pp), .val (.int pb), .val (.int pm), .val (.int pk), .val (.ref b11), .val (.int mi), .val (.int oi), .val (.int fi), .val (.ref b22), .val (.int di), .val (.int lo), .val (.int vi), .unset, .unset, .unset, .unset, .unset] [(.int (48 : Int32)), (.int oi), (.ref b22)])) (fun _ k => XS.bipush X36.here hx rfl (hb hby at_318) k) ?_
      refine own_bastore X36 hx hZ e36 F0 A hA (by omega) (hb hby at_320) ?_
      intro T41 h41 X41 e41 W41
      show own_Go p e below _ T41 (mkF m 321 #[.val (.int pn), .val (.int pl), .val (.int pp), .val (.int pb), .val (.int pm), .val (.int pk), .val (.ref b11), .val (.int mi), .val (.int oi), .val (.int fi), .val (.ref b22), .val (.int di), .val (.int lo), .val (.int vi), .unset, .unset, .unset, .unset, .unset] [])
      have F41 := own_Ai_set F0 W41
      have N41 := Fr.snoc X41 N36 ga
      have P41 : own_Ai Z h41 b11 .int 10 own_p10 := own_Ar_other P36 W41 (Ne.symm hap)
      refine own_go (g' := (mkF m 323 #[.val (.int pn), .val (.int pl), .val (.int pp), .val (.int pb), .val (.int pm), .val (.int pk), .val (.ref b11), .val (.int mi), .val (.int oi), .val (.int fi), .val (.ref b22), .val (.int di), .val (.int lo), .val (.int vi), .unset, .unset, .unset, .unset, .unset] [(.ref b22)])) (fun _ k => XS.aload X41.here hx rfl (hb hby at_321) rfl rfl k) ?_
      refine own_go (g' := (mkF m 325 #[.val (.int pn), .val (.int pl), .val (.int pp), .val (.int pb), .val (.int pm), .val (.int pk), .val (.ref b11), .val (.int mi), .val (.int oi), .val (.int fi), .val (.ref b22), .val (.int di), .val (.int lo), .val (.int vi), .unset, .unset, .unset, .unset, .unset] [(.int oi), (.ref b22)])) (fun _ k => XS.iload X41.here hx rfl (hb hby at_323) rfl k) ?_
      refine own_go (g' := (mkF m 326 #[.val (.int pn), .val (.int pl), .val (.int pp), .val (.int pb), .val (.int pm), .val (.int pk), .val (.ref b11), .val (.int mi), .val (.int oi), .val (.int fi), .val (.ref b22), .val (.int di), .val (.int lo), .val (.int vi), .unset, .unset, .unset, .unset, .unset] [(.int (1 : Int32)), (.int oi), (.ref b22)])) (fun _ k => XS.iconst X41.here hx rfl (hb hby at_325) k) ?_
      refine own_go (g' := (mkF m 327 #[.val (.int pn), .val (.int pl), .val (.int pp), .val (.int pb), .val (.int pm), .val (.int pk), .val (.ref b11), .val (.int mi), .val (.int oi), .val (.int fi), .val (.ref b22), .val (.int di), .val (.int lo), .val (.int vi), .unset, .unset, .unset, .unset, .unset] [(.int (oi + (1 : Int32))), (.ref b22)])) (fun _ k => XS.iadd X41.here hx rfl (hb hby at_326) rfl k) ?_
      refine own_go (g' := (mkF m 329 #[.val (.int pn), .val (.int pl), .val (.int pp), .val (.int pb), .val (.int pm), .val (.int pk), .val (.ref b11), .val (.int mi), .val (.int oi), .val (.int fi), .val (.ref b22), .val (.int di), .val (.int lo), .val (.int vi), .unset, .unset, .unset, .unset, .unset] [(.int vi), (.int (oi + (1 : Int32))), (.ref b22)])) (fun _ k => XS.iload X41.here hx rfl (hb hby at_327) rfl k) ?_
      refine own_go (g' := (mkF m 331 #[.val (.int pn), .val (.int pl), .val (.int pp), .val (.int pb), .val (.int pm), .val (.int pk), .val (.ref b11), .val (.int mi), .val (.int oi), .val (.int fi), .val (.ref b22), .val (.int di), .val (.int lo), .val (.int vi), .unset, .unset, .unset, .unset, .unset] [(.int di), (.int vi), (.int (oi + (1 : Int32))), (.ref b22)])) (fun _ k => XS.iload X41.here hx rfl (hb hby at_329) rfl k) ?_
      refine own_go (g' := (mkF m 333 #[.val (.int pn), .val (.int pl), .val (.int pp), .val (.int pb), .val (.int pm), .val (.int pk), .val (.ref b11), .val (.int mi), .val (.int oi), .val (.int fi), .val (.ref b22), .val (.int di), .val (.int lo), .val (.int vi), .unset, .unset, .unset, .unset, .unset] [(.ref b11), (.int di), (.int vi), (.int (oi + (1 : Int32))), (.ref b22)])) (fun _ k => XS.aload X41.here hx rfl (hb hby at_331) rfl rfl k) ?_
      refine own_callS X41 hx hZ hown e41 (y := (⟨"org/kusuridana/CsvLineNumberPinLaw", "writeAll", "([BIII[I)V"⟩ : MethodName)) (rm := ({ frames := 1, cells := 0, slots := 0, locals := 17 } : Room)) (hw _ (List.mem_of_getElem? (i := 8) rfl)) (hw _ (List.mem_of_getElem? (i := 9) rfl)) (hw _ (List.mem_of_getElem? (i := 10) rfl)) (hw _ (List.mem_of_getElem? (i := 11) rfl)) (by decide) (argsL := [(.ref b22), (.int (oi + (1 : Int32))), (.int vi), (.int di), (.ref b11)]) (rest := []) (own_rmW l Z a0 hw [] b22 b11 (oi + (1 : Int32)) vi di _ (A + 1) V D h41 n0 (own_inc hA (by omega)) hV hV9 hD hD1 hD9 (by omega) F41 P41 ga hap) (by rw [hml]; rfl) pd_1 rfl rfl (hb hby at_333) (W := 0) (Nat.le_of_eq rfl) (by decide) (by decide) (by decide) (by decide) ?_
      intro v42 T42 L42 X42 hQ42
      obtain ⟨rfl, N42q, K42, F42⟩ := hQ42
      have N42 := Fr.app N41 N42q
      have P42 : own_Ai Z T42.heap b11 .int 10 own_p10 := own_Ar_keep P41 K42 (by simpa using Ne.symm hap)
      show own_Go p e below _ T42 (mkF m 336 #[.val (.int pn), .val (.int pl), .val (.int pp), .val (.int pb), .val (.int pm), .val (.int pk), .val (.ref b11), .val (.int mi), .val (.int oi), .val (.int fi), .val (.ref b22), .val (.int di), .val (.int lo), .val (.int vi), .unset, .unset, .unset, .unset, .unset] [])
      obtain ⟨f1, hf1, Ff1⟩ : ∃ g : Nat → Int32, (g A = 48) ∧ own_Ai Z T42.heap b22 .byte 14 g := ⟨_, own_wr_48 _ _ _ _, F42⟩
      refine own_go (g' := (mkF m 338 #[.val (.int pn), .val (.int pl), .val (.int pp), .val (.int pb), .val (.int pm), .val (.int pk), .val (.ref b11), .val (.int mi), .val (.int oi), .val (.int fi), .val (.ref b22), .val (.int di), .val (.int lo), .val (.int vi), .unset, .unset, .unset, .unset, .unset] [(.ref b22)])) (fun _ k => XS.aload X42.here hx rfl (hb hby at_336) rfl rfl k) ?_
      refine own_go (g' := (mkF m 340 #[.val (.int pn), .val (.int pl), .val (.int pp), .val (.int pb), .val (.int pm), .val (.int pk), .val (.ref b11), .val (.int mi), .val (.int oi), .val (.int fi), .val (.ref b22), .val (.int di), .val (.int lo), .val (.int vi), .unset, .unset, .unset, .unset, .unset] [(.int oi), (.ref b22)])) (fun _ k => XS.iload X42.here hx rfl (hb hby at_338) rfl k) ?_
      refine own_go (g' := (mkF m 342 #[.val (.int pn), .val (.int pl), .val (.int pp), .val (.int pb), .val (.int pm), .val (.int pk), .val (.ref b11), .val (.int mi), .val (.int oi), .val (.int fi), .val (.ref b22), .val (.int di), .val (.int lo), .val (.int vi), .unset, .unset, .unset, .unset, .unset] [(.int oi), (.int oi), (.ref b22)])) (fun _ k => XS.iload X42.here hx rfl (hb hby at_340) rfl k) ?_
      refine own_go (g' := (mkF m 344 #[.val (.int pn), .val (.int pl), .val (.int pp), .val (.int pb), .val (.int pm), .val (.int pk), .val (.ref b11), .val (.int mi), .val (.int oi), .val (.int fi), .val (.ref b22), .val (.int di), .val (.int lo), .val (.int vi), .unset, .unset, .unset, .unset, .unset] [(.int di), (.int oi), (.int oi), (.ref b22)])) (fun _ k => XS.iload X42.here hx rfl (hb hby at_342) rfl k) ?_
      refine own_go (g' := (mkF m 345 #[.val (.int pn), .val (.int pl), .val (.int pp), .val (.int pb), .val (.int pm), .val (.int pk), .val (.ref b11), .val (.int mi), .val (.int oi), .val (.int fi), .val (.ref b22), .val (.int di), .val (.int lo), .val (.int vi), .unset, .unset, .unset, .unset, .unset] [(.int (oi + di)), (.int oi), (.ref b22)])) (fun _ k => XS.iadd X42.here hx rfl (hb hby at_344) rfl k) ?_
      refine own_go (g' := (mkF m 346 #[.val (.int pn), .val (.int pl), .val (.int pp), .val (.int pb), .val (.int pm), .val (.int pk), .val (.ref b11), .val (.int mi), .val (.int oi), .val (.int fi), .val (.ref b22), .val (.int di), .val (.int lo), .val (.int vi), .unset, .unset, .unset, .unset, .unset] [(.int (1 : Int32)), (.int (oi + di)), (.int oi), (.ref b22)])) (fun _ k => XS.iconst X42.here hx rfl (hb hby at_345) k) ?_
      refine own_go (g' := (mkF m 347 #[.val (.int pn), .val (.int pl), .val (.int pp), .val (.int pb), .val (.int pm), .val (.int pk), .val (.ref b11), .val (.int mi), .val (.int oi), .val (.int fi), .val (.ref b22), .val (.int di), .val (.int lo), .val (.int vi), .unset, .unset, .unset, .unset, .unset] [(.int ((oi + di) + (1 : Int32))), (.int oi), (.ref b22)])) (fun _ k => XS.iadd X42.here hx rfl (hb hby at_346) rfl k) ?_
      refine own_callS X42 hx hZ hown rfl (y := (⟨"org/kusuridana/CsvLine", "number", "([BII)I"⟩ : MethodName)) (rm := ({ frames := 0, cells := 0, slots := 0, locals := 0 } : Room)) (hw _ (List.mem_of_getElem? (i := 15) rfl)) (hw _ (List.mem_of_getElem? (i := 16) rfl)) (hw _ (List.mem_of_getElem? (i := 17) rfl)) (hw _ (List.mem_of_getElem? (i := 18) rfl)) (by decide) (argsL := [(.ref b22), (.int oi), (.int ((oi + di) + (1 : Int32)))]) (rest := []) (own_rmN l Z a0 hw [] b22 oi ((oi + di) + (1 : Int32)) f1 A (D + 1) T42.heap n0 hA (own_addi1 hA hD (by omega)) (by omega) Ff1) (by rw [hml]; rfl) pd_3 rfl rfl (hb hby at_347) (W := 0) (Nat.le_of_eq rfl) (by decide) (by decide) (by decide) (by decide) ?_
      intro v43 T43 L43 X43 hQ43
      obtain ⟨hv43, e43, rfl⟩ := hQ43
      obtain ⟨r, hr⟩ : ∃ z : Int32, z = own_num f1 A (D + 1) := ⟨_, rfl⟩
      rw [← hr] at hv43
      subst hv43
      rw [List.append_nil] at X43
      show own_Go p e below _ T43 (mkF m 350 #[.val (.int pn), .val (.int pl), .val (.int pp), .val (.int pb), .val (.int pm), .val (.int pk), .val (.ref b11), .val (.int mi), .val (.int oi), .val (.int fi), .val (.ref b22), .val (.int di), .val (.int lo), .val (.int vi), .unset, .unset, .unset, .unset, .unset] [(.int r)])
      have hr1 : r = -1 := by rw [hr]; exact own_N3 hf1 hD1
      refine own_go (g' := (mkF m 351 #[.val (.int pn), .val (.int pl), .val (.int pp), .val (.int pb), .val (.int pm), .val (.int pk), .val (.ref b11), .val (.int mi), .val (.int oi), .val (.int fi), .val (.ref b22), .val (.int di), .val (.int lo), .val (.int vi), .unset, .unset, .unset, .unset, .unset] [(.int (-1 : Int32)), (.int r)])) (fun _ k => XS.iconst X43.here hx rfl (hb hby at_350) k) ?_
      refine own_go (g' := (mkF m 354 #[.val (.int pn), .val (.int pl), .val (.int pp), .val (.int pb), .val (.int pm), .val (.int pk), .val (.ref b11), .val (.int mi), .val (.int oi), .val (.int fi), .val (.ref b22), .val (.int di), .val (.int lo), .val (.int vi), .unset, .unset, .unset, .unset, .unset] [])) (fun _ k => XS.icmpNo X43.here hx rfl (hb hby at_351) rfl (XT.ii_ne_f hr1) k) ?_
      refine own_go (g' := (mkF m 355 #[.val (.int pn), .val (.int pl), .val (.int pp), .val (.int pb), .val (.int pm), .val (.int pk), .val (.ref b11), .val (.int mi), .val (.int oi), .val (.int fi), .val (.ref b22), .val (.int di), .val (.int lo), .val (.int vi), .unset, .unset, .unset, .unset, .unset] [(.int (1 : Int32))])) (fun _ k => XS.iconst X43.here hx rfl (hb hby at_354) k) ?_
      refine own_go (g' := (mkF m 359 #[.val (.int pn), .val (.int pl), .val (.int pp), .val (.int pb), .val (.int pm), .val (.int pk), .val (.ref b11), .val (.int mi), .val (.int oi), .val (.int fi), .val (.ref b22), .val (.int di), .val (.int lo), .val (.int vi), .unset, .unset, .unset, .unset, .unset] [(.int (1 : Int32))])) (fun _ k => XS.goto X43.here hx rfl (pc0 := 355) (pc' := 359) rfl (hb hby at_355) (by decide) (by decide) k) ?_
      exact own_retZ X43 hx hlk hret e43 (hb hby at_359) ⟨rfl, N42⟩ (by decide) (by decide)
    · refine own_go (g' := (mkF m 360 #[.val (.int pn), .val (.int pl), .val (.int pp), .val (.int pb), .val (.int pm), .val (.int pk), .val (.ref b11), .val (.int mi), .val (.int oi), .val (.int fi), .val (.ref b22), .val (.int di), .val (.int lo), .val (.int vi), .unset, .unset, .unset, .unset, .unset] [])) (fun _ k => XS.icmpYes X36.here hx rfl (pc0 := 311) (pc' := 360) rfl (hb hby at_311) rfl (XT.ii_ne_t cm2) (by decide) (by decide) k) ?_
      refine own_go (g' := (mkF m 362 #[.val (.int pn), .val (.int pl), .val (.int pp), .val (.int pb), .val (.int pm), .val (.int pk), .val (.ref b11), .val (.int mi), .val (.int oi), .val (.int fi), .val (.ref b22), .val (.int di), .val (.int lo), .val (.int vi), .unset, .unset, .unset, .unset, .unset] [(.ref b22)])) (fun _ k => XS.aload X36.here hx rfl (hb hby at_360) rfl rfl k) ?_
      refine own_go (g' := (mkF m 364 #[.val (.int pn), .val (.int pl), .val (.int pp), .val (.int pb), .val (.int pm), .val (.int pk), .val (.ref b11), .val (.int mi), .val (.int oi), .val (.int fi), .val (.ref b22), .val (.int di), .val (.int lo), .val (.int vi), .unset, .unset, .unset, .unset, .unset] [(.int oi), (.ref b22)])) (fun _ k => XS.iload X36.here hx rfl (hb hby at_362) rfl k) ?_
      refine own_go (g' := (mkF m 366 #[.val (.int pn), .val (.int pl), .val (.int pp), .val (.int pb), .val (.int pm), .val (.int pk), .val (.ref b11), .val (.int mi), .val (.int oi), .val (.int fi), .val (.ref b22), .val (.int di), .val (.int lo), .val (.int vi), .unset, .unset, .unset, .unset, .unset] [(.int vi), (.int oi), (.ref b22)])) (fun _ k => XS.iload X36.here hx rfl (hb hby at_364) rfl k) ?_
      refine own_go (g' := (mkF m 368 #[.val (.int pn), .val (.int pl), .val (.int pp), .val (.int pb), .val (.int pm), .val (.int pk), .val (.ref b11), .val (.int mi), .val (.int oi), .val (.int fi), .val (.ref b22), .val (.int di), .val (.int lo), .val (.int vi), .unset, .unset, .unset, .unset, .unset] [(.int di), (.int vi), (.int oi), (.ref b22)])) (fun _ k => XS.iload X36.here hx rfl (hb hby at_366) rfl k) ?_
      refine own_go (g' := (mkF m 370 #[.val (.int pn), .val (.int pl), .val (.int pp), .val (.int pb), .val (.int pm), .val (.int pk), .val (.ref b11), .val (.int mi), .val (.int oi), .val (.int fi), .val (.ref b22), .val (.int di), .val (.int lo), .val (.int vi), .unset, .unset, .unset, .unset, .unset] [(.ref b11), (.int di), (.int vi), (.int oi), (.ref b22)])) (fun _ k => XS.aload X36.here hx rfl (hb hby at_368) rfl rfl k) ?_
      refine own_callS X36 hx hZ hown e36 (y := (⟨"org/kusuridana/CsvLineNumberPinLaw", "writeAll", "([BIII[I)V"⟩ : MethodName)) (rm := ({ frames := 1, cells := 0, slots := 0, locals := 17 } : Room)) (hw _ (List.mem_of_getElem? (i := 8) rfl)) (hw _ (List.mem_of_getElem? (i := 9) rfl)) (hw _ (List.mem_of_getElem? (i := 10) rfl)) (hw _ (List.mem_of_getElem? (i := 11) rfl)) (by decide) (argsL := [(.ref b22), (.int oi), (.int vi), (.int di), (.ref b11)]) (rest := []) (own_rmW l Z a0 hw [] b22 b11 oi vi di _ A V D h36 n0 hA hV hV9 hD hD1 hD9 (by omega) F0 P36 ga hap) (by rw [hml]; rfl) pd_1 rfl rfl (hb hby at_370) (W := 0) (Nat.le_of_eq rfl) (by decide) (by decide) (by decide) (by decide) ?_
      intro v44 T44 L44 X44 hQ44
      obtain ⟨rfl, N44q, K44, F44⟩ := hQ44
      have N44 := Fr.app N36 N44q
      have P44 : own_Ai Z T44.heap b11 .int 10 own_p10 := own_Ar_keep P36 K44 (by simpa using Ne.symm hap)
      show own_Go p e below _ T44 (mkF m 373 #[.val (.int pn), .val (.int pl), .val (.int pp), .val (.int pb), .val (.int pm), .val (.int pk), .val (.ref b11), .val (.int mi), .val (.int oi), .val (.int fi), .val (.ref b22), .val (.int di), .val (.int lo), .val (.int vi), .unset, .unset, .unset, .unset, .unset] [])
      obtain ⟨f1, hf1, Ff1⟩ : ∃ g : Nat → Int32, (∀ i, i < D → g (A + i) = own_dg V (D - 1 - i)) ∧ own_Ai Z T44.heap b22 .byte 14 g := ⟨_, own_wr_at _ _ _ _, F44⟩
      refine own_go (g' := (mkF m 375 #[.val (.int pn), .val (.int pl), .val (.int pp), .val (.int pb), .val (.int pm), .val (.int pk), .val (.ref b11), .val (.int mi), .val (.int oi), .val (.int fi), .val (.ref b22), .val (.int di), .val (.int lo), .val (.int vi), .unset, .unset, .unset, .unset, .unset] [(.int mi)])) (fun _ k => XS.iload X44.here hx rfl (hb hby at_373) rfl k) ?_
      by_cases cm0 : mi = 0
      · refine own_go (g' := (mkF m 378 #[.val (.int pn), .val (.int pl), .val (.int pp), .val (.int pb), .val (.int pm), .val (.int pk), .val (.ref b11), .val (.int mi), .val (.int oi), .val (.int fi), .val (.ref b22), .val (.int di), .val (.int lo), .val (.int vi), .unset, .unset, .unset, .unset, .unset] [])) (fun _ k => XS.ifNo X44.here hx rfl (hb hby at_375) rfl (XT.i0_ne_f cm0) k) ?_
        refine own_go (g' := (mkF m 380 #[.val (.int pn), .val (.int pl), .val (.int pp), .val (.int pb), .val (.int pm), .val (.int pk), .val (.ref b11), .val (.int mi), .val (.int oi), .val (.int fi), .val (.ref b22), .val (.int di), .val (.int lo), .val (.int vi), .unset, .unset, .unset, .unset, .unset] [(.ref b22)])) (fun _ k => XS.aload X44.here hx rfl (hb hby at_378) rfl rfl k) ?_
        refine own_go (g' := (mkF m 382 #[.val (.int pn), .val (.int pl), .val (.int pp), .val (.int pb), .val (.int pm), .val (.int pk), .val (.ref b11), .val (.int mi), .val (.int oi), .val (.int fi), .val (.ref b22), .val (.int di), .val (.int lo), .val (.int vi), .unset, .unset, .unset, .unset, .unset] [(.int oi), (.ref b22)])) (fun _ k => XS.iload X44.here hx rfl (hb hby at_380) rfl k) ?_
        refine own_go (g' := (mkF m 384 #[.val (.int pn), .val (.int pl), .val (.int pp), .val (.int pb), .val (.int pm), .val (.int pk), .val (.ref b11), .val (.int mi), .val (.int oi), .val (.int fi), .val (.ref b22), .val (.int di), .val (.int lo), .val (.int vi), .unset, .unset, .unset, .unset, .unset] [(.int oi), (.int oi), (.ref b22)])) (fun _ k => XS.iload X44.here hx rfl (hb hby at_382) rfl k) ?_
        refine own_go (g' := (mkF m 386 #[.val (.int pn), .val (.int pl), .val (.int pp), .val (.int pb), .val (.int pm), .val (.int pk), .val (.ref b11), .val (.int mi), .val (.int oi), .val (.int fi), .val (.ref b22), .val (.int di), .val (.int lo), .val (.int vi), .unset, .unset, .unset, .unset, .unset] [(.int di), (.int oi), (.int oi), (.ref b22)])) (fun _ k => XS.iload X44.here hx rfl (hb hby at_384) rfl k) ?_
        refine own_go (g' := (mkF m 387 #[.val (.int pn), .val (.int pl), .val (.int pp), .val (.int pb), .val (.int pm), .val (.int pk), .val (.ref b11), .val (.int mi), .val (.int oi), .val (.int fi), .val (.ref b22), .val (.int di), .val (.int lo), .val (.int vi), .unset, .unset, .unset, .unset, .unset] [(.int (oi + di)), (.int oi), (.ref b22)])) (fun _ k => XS.iadd X44.here hx rfl (hb hby at_386) rfl k) ?_
        refine own_callS X44 hx hZ hown rfl (y := (⟨"org/kusuridana/CsvLine", "number", "([BII)I"⟩ : MethodName)) (rm := ({ frames := 0, cells := 0, slots := 0, locals := 0 } : Room)) (hw _ (List.mem_of_getElem? (i := 15) rfl)) (hw _ (List.mem_of_getElem? (i := 16) rfl)) (hw _ (List.mem_of_getElem? (i := 17) rfl)) (hw _ (List.mem_of_getElem? (i := 18) rfl)) (by decide) (argsL := [(.ref b22), (.int oi), (.int (oi + di))]) (rest := []) (own_rmN l Z a0 hw [] b22 oi (oi + di) f1 A D T44.heap n0 hA (own_addi hA hD (by omega)) (by omega) Ff1) (by rw [hml]; rfl) pd_3 rfl rfl (hb hby at_387) (W := 0) (Nat.le_of_eq rfl) (by decide) (by decide) (by decide) (by decide) ?_
        intro v45 T45 L45 X45 hQ45
        obtain ⟨hv45, e45, rfl⟩ := hQ45
        obtain ⟨r, hr⟩ : ∃ z : Int32, z = own_num f1 A D := ⟨_, rfl⟩
        rw [← hr] at hv45
        subst hv45
        rw [List.append_nil] at X45
        show own_Go p e below _ T45 (mkF m 390 #[.val (.int pn), .val (.int pl), .val (.int pp), .val (.int pb), .val (.int pm), .val (.int pk), .val (.ref b11), .val (.int mi), .val (.int oi), .val (.int fi), .val (.ref b22), .val (.int di), .val (.int lo), .val (.int vi), .unset, .unset, .unset, .unset, .unset] [(.int r)])
        have hr1 : r = vi := by rw [hr]; exact own_N4 hf1 hV hV1 hV2 hD1 hD9
        refine own_go (g' := (mkF m 392 #[.val (.int pn), .val (.int pl), .val (.int pp), .val (.int pb), .val (.int pm), .val (.int pk), .val (.ref b11), .val (.int mi), .val (.int oi), .val (.int fi), .val (.ref b22), .val (.int di), .val (.int lo), .val (.int vi), .unset, .unset, .unset, .unset, .unset] [(.int vi), (.int r)])) (fun _ k => XS.iload X45.here hx rfl (hb hby at_390) rfl k) ?_
        refine own_go (g' := (mkF m 395 #[.val (.int pn), .val (.int pl), .val (.int pp), .val (.int pb), .val (.int pm), .val (.int pk), .val (.ref b11), .val (.int mi), .val (.int oi), .val (.int fi), .val (.ref b22), .val (.int di), .val (.int lo), .val (.int vi), .unset, .unset, .unset, .unset, .unset] [])) (fun _ k => XS.icmpNo X45.here hx rfl (hb hby at_392) rfl (XT.ii_ne_f hr1) k) ?_
        refine own_go (g' := (mkF m 396 #[.val (.int pn), .val (.int pl), .val (.int pp), .val (.int pb), .val (.int pm), .val (.int pk), .val (.ref b11), .val (.int mi), .val (.int oi), .val (.int fi), .val (.ref b22), .val (.int di), .val (.int lo), .val (.int vi), .unset, .unset, .unset, .unset, .unset] [(.int (1 : Int32))])) (fun _ k => XS.iconst X45.here hx rfl (hb hby at_395) k) ?_
        refine own_go (g' := (mkF m 400 #[.val (.int pn), .val (.int pl), .val (.int pp), .val (.int pb), .val (.int pm), .val (.int pk), .val (.ref b11), .val (.int mi), .val (.int oi), .val (.int fi), .val (.ref b22), .val (.int di), .val (.int lo), .val (.int vi), .unset, .unset, .unset, .unset, .unset] [(.int (1 : Int32))])) (fun _ k => XS.goto X45.here hx rfl (pc0 := 396) (pc' := 400) rfl (hb hby at_396) (by decide) (by decide) k) ?_
        exact own_retZ X45 hx hlk hret e45 (hb hby at_400) ⟨rfl, N44⟩ (by decide) (by decide)
      · refine own_go (g' := (mkF m 401 #[.val (.int pn), .val (.int pl), .val (.int pp), .val (.int pb), .val (.int pm), .val (.int pk), .val (.ref b11), .val (.int mi), .val (.int oi), .val (.int fi), .val (.ref b22), .val (.int di), .val (.int lo), .val (.int vi), .unset, .unset, .unset, .unset, .unset] [])) (fun _ k => XS.ifYes X44.here hx rfl (pc0 := 375) (pc' := 401) rfl (hb hby at_375) rfl (XT.i0_ne_t cm0) (by decide) (by decide) k) ?_
        refine own_go (g' := (mkF m 402 #[.val (.int pn), .val (.int pl), .val (.int pp), .val (.int pb), .val (.int pm), .val (.int pk), .val (.ref b11), .val (.int mi), .val (.int oi), .val (.int fi), .val (.ref b22), .val (.int di), .val (.int lo), .val (.int vi), .unset, .unset, .unset, .unset, .unset] [(.int pp)])) (fun _ k => XS.iloadN X44.here hx rfl (hb hby at_401) rfl k) ?_
        refine own_go (g' := (mkF m 404 #[.val (.int pn), .val (.int pl), .val (.int pp), .val (.int pb), .val (.int pm), .val (.int pk), .val (.ref b11), .val (.int mi), .val (.int oi), .val (.int fi), .val (.ref b22), .val (.int di), .val (.int lo), .val (.int vi), .unset, .unset, .unset, .unset, .unset] [(.int (2147483647 : Int32)), (.int pp)])) (fun _ k => X44.ldcInt hx hown (mvT hZ (hw _ (List.mem_of_getElem? (i := 7) rfl))) (g := (mkF m 402 #[.val (.int pn), .val (.int pl), .val (.int pp), .val (.int pb), .val (.int pm), .val (.int pk), .val (.ref b11), .val (.int mi), .val (.int oi), .val (.int fi), .val (.ref b22), .val (.int di), .val (.int lo), .val (.int vi), .unset, .unset, .unset, .unset, .unset] [(.int pp)])) rfl (hb hby at_402) _ k) ?_
        refine own_go (g' := (mkF m 405 #[.val (.int pn), .val (.int pl), .val (.int pp), .val (.int pb), .val (.int pm), .val (.int pk), .val (.ref b11), .val (.int mi), .val (.int oi), .val (.int fi), .val (.ref b22), .val (.int di), .val (.int lo), .val (.int vi), .unset, .unset, .unset, .unset, .unset] [(.int (pp &&& (2147483647 : Int32)))])) (fun _ k => XS.iand X44.here hx rfl (hb hby at_404) rfl k) ?_
        refine own_go (g' := (mkF m 407 #[.val (.int pn), .val (.int pl), .val (.int pp), .val (.int pb), .val (.int pm), .val (.int pk), .val (.ref b11), .val (.int mi), .val (.int oi), .val (.int fi), .val (.ref b22), .val (.int di), .val (.int lo), .val (.int vi), .unset, .unset, .unset, .unset, .unset] [(.int di), (.int (pp &&& (2147483647 : Int32)))])) (fun _ k => XS.iload X44.here hx rfl (hb hby at_405) rfl k) ?_
        refine own_go (g' := (mkF m 408 #[.val (.int pn), .val (.int pl), .val (.int pp), .val (.int pb), .val (.int pm), .val (.int pk), .val (.ref b11), .val (.int mi), .val (.int oi), .val (.int fi), .val (.ref b22), .val (.int di), .val (.int lo), .val (.int vi), .unset, .unset, .unset, .unset, .unset] [(.int ((pp &&& (2147483647 : Int32)) % di))])) (fun _ k => Jvm.RoadKit.iremM X44 hx rfl (hb hby at_407) rfl (own_ne0 hD hD1) k) ?_
        refine own_go (g' := (mkF m 410 #[.val (.int pn), .val (.int pl), .val (.int pp), .val (.int pb), .val (.int pm), .val (.int pk), .val (.ref b11), .val (.int mi), .val (.int oi), .val (.int fi), .val (.ref b22), .val (.int di), .val (.int lo), .val (.int vi), .val (.int ((pp &&& (2147483647 : Int32)) % di)), .unset, .unset, .unset, .unset] [])) (fun _ k => XS.istore X44.here hx rfl (hb hby at_408) rfl (l' := #[.val (.int pn), .val (.int pl), .val (.int pp), .val (.int pb), .val (.int pm), .val (.int pk), .val (.ref b11), .val (.int mi), .val (.int oi), .val (.int fi), .val (.ref b22), .val (.int di), .val (.int lo), .val (.int vi), .val (.int ((pp &&& (2147483647 : Int32)) % di)), .unset, .unset, .unset, .unset]) rfl k) ?_
        obtain ⟨ji, hji⟩ : ∃ z : Int32, z = ((pp &&& (2147483647 : Int32)) % di) := ⟨_, rfl⟩
        rw [← hji]
        show own_Go p e below _ T44 (mkF m 410 #[.val (.int pn), .val (.int pl), .val (.int pp), .val (.int pb), .val (.int pm), .val (.int pk), .val (.ref b11), .val (.int mi), .val (.int oi), .val (.int fi), .val (.ref b22), .val (.int di), .val (.int lo), .val (.int vi), .val (.int ji), .unset, .unset, .unset, .unset] [])
        obtain ⟨J, hJ, hJD⟩ : ∃ J : Nat, ji.toInt = (J : Int) ∧ J < D := hji ▸ own_p pp hD hD1
        refine own_go (g' := (mkF m 412 #[.val (.int pn), .val (.int pl), .val (.int pp), .val (.int pb), .val (.int pm), .val (.int pk), .val (.ref b11), .val (.int mi), .val (.int oi), .val (.int fi), .val (.ref b22), .val (.int di), .val (.int lo), .val (.int vi), .val (.int ji), .unset, .unset, .unset, .unset] [(.int vi)])) (fun _ k => XS.iload X44.here hx rfl (hb hby at_410) rfl k) ?_
        refine own_go (g' := (mkF m 414 #[.val (.int pn), .val (.int pl), .val (.int pp), .val (.int pb), .val (.int pm), .val (.int pk), .val (.ref b11), .val (.int mi), .val (.int oi), .val (.int fi), .val (.ref b22), .val (.int di), .val (.int lo), .val (.int vi), .val (.int ji), .unset, .unset, .unset, .unset] [(.ref b11), (.int vi)])) (fun _ k => XS.aload X44.here hx rfl (hb hby at_412) rfl rfl k) ?_
        refine own_go (g' := (mkF m 416 #[.val (.int pn), .val (.int pl), .val (.int pp), .val (.int pb), .val (.int pm), .val (.int pk), .val (.ref b11), .val (.int mi), .val (.int oi), .val (.int fi), .val (.ref b22), .val (.int di), .val (.int lo), .val (.int vi), .val (.int ji), .unset, .unset, .unset, .unset] [(.int di), (.ref b11), (.int vi)])) (fun _ k => XS.iload X44.here hx rfl (hb hby at_414) rfl k) ?_
        refine own_go (g' := (mkF m 417 #[.val (.int pn), .val (.int pl), .val (.int pp), .val (.int pb), .val (.int pm), .val (.int pk), .val (.ref b11), .val (.int mi), .val (.int oi), .val (.int fi), .val (.ref b22), .val (.int di), .val (.int lo), .val (.int vi), .val (.int ji), .unset, .unset, .unset, .unset] [(.int (1 : Int32)), (.int di), (.ref b11), (.int vi)])) (fun _ k => XS.iconst X44.here hx rfl (hb hby at_416) k) ?_
        refine own_go (g' := (mkF m 418 #[.val (.int pn), .val (.int pl), .val (.int pp), .val (.int pb), .val (.int pm), .val (.int pk), .val (.ref b11), .val (.int mi), .val (.int oi), .val (.int fi), .val (.ref b22), .val (.int di), .val (.int lo), .val (.int vi), .val (.int ji), .unset, .unset, .unset, .unset] [(.int (di - (1 : Int32))), (.ref b11), (.int vi)])) (fun _ k => XS.isub X44.here hx rfl (hb hby at_417) rfl k) ?_
        refine own_go (g' := (mkF m 420 #[.val (.int pn), .val (.int pl), .val (.int pp), .val (.int pb), .val (.int pm), .val (.int pk), .val (.ref b11), .val (.int mi), .val (.int oi), .val (.int fi), .val (.ref b22), .val (.int di), .val (.int lo), .val (.int vi), .val (.int ji), .unset, .unset, .unset, .unset] [(.int ji), (.int (di - (1 : Int32))), (.ref b11), (.int vi)])) (fun _ k => XS.iload X44.here hx rfl (hb hby at_418) rfl k) ?_
        refine own_go (g' := (mkF m 421 #[.val (.int pn), .val (.int pl), .val (.int pp), .val (.int pb), .val (.int pm), .val (.int pk), .val (.ref b11), .val (.int mi), .val (.int oi), .val (.int fi), .val (.ref b22), .val (.int di), .val (.int lo), .val (.int vi), .val (.int ji), .unset, .unset, .unset, .unset] [(.int ((di - (1 : Int32)) - ji)), (.ref b11), (.int vi)])) (fun _ k => XS.isub X44.here hx rfl (hb hby at_420) rfl k) ?_
        refine own_iaload X44 hx hZ rfl P44 (D - 1 - J) (own_sub2 hD hJ hJD (by omega)) (by omega) (hb hby at_421) ?_
        show own_Go p e below _ T44 (mkF m 422 #[.val (.int pn), .val (.int pl), .val (.int pp), .val (.int pb), .val (.int pm), .val (.int pk), .val (.ref b11), .val (.int mi), .val (.int oi), .val (.int fi), .val (.ref b22), .val (.int di), .val (.int lo), .val (.int vi), .val (.int ji), .unset, .unset, .unset, .unset] [(.int (own_p10 (D - 1 - J))), (.int vi)])
        refine own_go (g' := (mkF m 423 #[.val (.int pn), .val (.int pl), .val (.int pp), .val (.int pb), .val (.int pm), .val (.int pk), .val (.ref b11), .val (.int mi), .val (.int oi), .val (.int fi), .val (.ref b22), .val (.int di), .val (.int lo), .val (.int vi), .val (.int ji), .unset, .unset, .unset, .unset] [(.int (vi / (own_p10 (D - 1 - J))))])) (fun _ k => XS.idiv X44.here hx rfl (hb hby at_422) rfl (own_p10_ne (by omega)) k) ?_
        refine own_go (g' := (mkF m 425 #[.val (.int pn), .val (.int pl), .val (.int pp), .val (.int pb), .val (.int pm), .val (.int pk), .val (.ref b11), .val (.int mi), .val (.int oi), .val (.int fi), .val (.ref b22), .val (.int di), .val (.int lo), .val (.int vi), .val (.int ji), .unset, .unset, .unset, .unset] [(.int (10 : Int32)), (.int (vi / (own_p10 (D - 1 - J))))])) (fun _ k => XS.bipush X44.here hx rfl (hb hby at_423) k) ?_
        refine own_go (g' := (mkF m 426 #[.val (.int pn), .val (.int pl), .val (.int pp), .val (.int pb), .val (.int pm), .val (.int pk), .val (.ref b11), .val (.int mi), .val (.int oi), .val (.int fi), .val (.ref b22), .val (.int di), .val (.int lo), .val (.int vi), .val (.int ji), .unset, .unset, .unset, .unset] [(.int ((vi / (own_p10 (D - 1 - J))) % (10 : Int32)))])) (fun _ k => Jvm.RoadKit.iremM X44 hx rfl (hb hby at_425) rfl (by decide) k) ?_
        refine own_go (g' := (mkF m 428 #[.val (.int pn), .val (.int pl), .val (.int pp), .val (.int pb), .val (.int pm), .val (.int pk), .val (.ref b11), .val (.int mi), .val (.int oi), .val (.int fi), .val (.ref b22), .val (.int di), .val (.int lo), .val (.int vi), .val (.int ji), .val (.int ((vi / (own_p10 (D - 1 - J))) % (10 : Int32))), .unset, .unset, .unset] [])) (fun _ k => XS.istore X44.here hx rfl (hb hby at_426) rfl (l' := #[.val (.int pn), .val (.int pl), .val (.int pp), .val (.int pb), .val (.int pm), .val (.int pk), .val (.ref b11), .val (.int mi), .val (.int oi), .val (.int fi), .val (.ref b22), .val (.int di), .val (.int lo), .val (.int vi), .val (.int ji), .val (.int ((vi / (own_p10 (D - 1 - J))) % (10 : Int32))), .unset, .unset, .unset]) rfl k) ?_
        obtain ⟨od, hod⟩ : ∃ z : Int32, z = ((vi / (own_p10 (D - 1 - J))) % (10 : Int32)) := ⟨_, rfl⟩
        rw [← hod]
        show own_Go p e below _ T44 (mkF m 428 #[.val (.int pn), .val (.int pl), .val (.int pp), .val (.int pb), .val (.int pm), .val (.int pk), .val (.ref b11), .val (.int mi), .val (.int oi), .val (.int fi), .val (.ref b22), .val (.int di), .val (.int lo), .val (.int vi), .val (.int ji), .val (.int od), .unset, .unset, .unset] [])
        have hod1 : od.toInt = ((V / 10 ^ (D - 1 - J) % 10 : Nat) : Int) := hod ▸ own_odv hV hV9 (by omega)
        refine own_go (g' := (mkF m 429 #[.val (.int pn), .val (.int pl), .val (.int pp), .val (.int pb), .val (.int pm), .val (.int pk), .val (.ref b11), .val (.int mi), .val (.int oi), .val (.int fi), .val (.ref b22), .val (.int di), .val (.int lo), .val (.int vi), .val (.int ji), .val (.int od), .unset, .unset, .unset] [(.int pb)])) (fun _ k => XS.iloadN X44.here hx rfl (hb hby at_428) rfl k) ?_
        refine own_go (g' := (mkF m 430 #[.val (.int pn), .val (.int pl), .val (.int pp), .val (.int pb), .val (.int pm), .val (.int pk), .val (.ref b11), .val (.int mi), .val (.int oi), .val (.int fi), .val (.ref b22), .val (.int di), .val (.int lo), .val (.int vi), .val (.int ji), .val (.int od), .unset, .unset, .unset] [(.int ((pb).toInt8.toInt32))])) (fun _ k => XT.i2b X44.here hx rfl (hb hby at_429) rfl k) ?_
        refine own_go (g' := (mkF m 432 #[.val (.int pn), .val (.int pl), .val (.int pp), .val (.int pb), .val (.int pm), .val (.int pk), .val (.ref b11), .val (.int mi), .val (.int oi), .val (.int fi), .val (.ref b22), .val (.int di), .val (.int lo), .val (.int vi), .val (.int ji), .val (.int od), .val (.int ((pb).toInt8.toInt32)), .unset, .unset] [])) (fun _ k => XS.istore X44.here hx rfl (hb hby at_430) rfl (l' := #[.val (.int pn), .val (.int pl), .val (.int pp), .val (.int pb), .val (.int pm), .val (.int pk), .val (.ref b11), .val (.int mi), .val (.int oi), .val (.int fi), .val (.ref b22), .val (.int di), .val (.int lo), .val (.int vi), .val (.int ji), .val (.int od), .val (.int ((pb).toInt8.toInt32)), .unset, .unset]) rfl k) ?_
        obtain ⟨cb, hcb⟩ : ∃ z : Int32, z = ((pb).toInt8.toInt32) := ⟨_, rfl⟩
        rw [← hcb]
        show own_Go p e below _ T44 (mkF m 432 #[.val (.int pn), .val (.int pl), .val (.int pp), .val (.int pb), .val (.int pm), .val (.int pk), .val (.ref b11), .val (.int mi), .val (.int oi), .val (.int fi), .val (.ref b22), .val (.int di), .val (.int lo), .val (.int vi), .val (.int ji), .val (.int od), .val (.int cb), .unset, .unset] [])
        refine own_go (g' := (mkF m 434 #[.val (.int pn), .val (.int pl), .val (.int pp), .val (.int pb), .val (.int pm), .val (.int pk), .val (.ref b11), .val (.int mi), .val (.int oi), .val (.int fi), .val (.ref b22), .val (.int di), .val (.int lo), .val (.int vi), .val (.int ji), .val (.int od), .val (.int cb), .unset, .unset] [(.int cb)])) (fun _ k => XS.iload X44.here hx rfl (hb hby at_432) rfl k) ?_
        refine own_go (g' := (mkF m 436 #[.val (.int pn), .val (.int pl), .val (.int pp), .val (.int pb), .val (.int pm), .val (.int pk), .val (.ref b11), .val (.int mi), .val (.int oi), .val (.int fi), .val (.ref b22), .val (.int di), .val (.int lo), .val (.int vi), .val (.int ji), .val (.int od), .val (.int cb), .unset, .unset] [(.int (48 : Int32)), (.int cb)])) (fun _ k => XS.bipush X44.here hx rfl (hb hby at_434) k) ?_
        refine own_go (g' := (mkF m 437 #[.val (.int pn), .val (.int pl), .val (.int pp), .val (.int pb), .val (.int pm), .val (.int pk), .val (.ref b11), .val (.int mi), .val (.int oi), .val (.int fi), .val (.ref b22), .val (.int di), .val (.int lo), .val (.int vi), .val (.int ji), .val (.int od), .val (.int cb), .unset, .unset] [(.int (cb - (48 : Int32)))])) (fun _ k => XS.isub X44.here hx rfl (hb hby at_436) rfl k) ?_
        refine own_go (g' := (mkF m 439 #[.val (.int pn), .val (.int pl), .val (.int pp), .val (.int pb), .val (.int pm), .val (.int pk), .val (.ref b11), .val (.int mi), .val (.int oi), .val (.int fi), .val (.ref b22), .val (.int di), .val (.int lo), .val (.int vi), .val (.int ji), .val (.int od), .val (.int cb), .val (.int (cb - (48 : Int32))), .unset] [])) (fun _ k => XS.istore X44.here hx rfl (hb hby at_437) rfl (l' := #[.val (.int pn), .val (.int pl), .val (.int pp), .val (.int pb), .val (.int pm), .val (.int pk), .val (.ref b11), .val (.int mi), .val (.int oi), .val (.int fi), .val (.ref b22), .val (.int di), .val (.int lo), .val (.int vi), .val (.int ji), .val (.int od), .val (.int cb), .val (.int (cb - (48 : Int32))), .unset]) rfl k) ?_
        obtain ⟨ci, hci⟩ : ∃ z : Int32, z = (cb - (48 : Int32)) := ⟨_, rfl⟩
        rw [← hci]
        show own_Go p e below _ T44 (mkF m 439 #[.val (.int pn), .val (.int pl), .val (.int pp), .val (.int pb), .val (.int pm), .val (.int pk), .val (.ref b11), .val (.int mi), .val (.int oi), .val (.int fi), .val (.ref b22), .val (.int di), .val (.int lo), .val (.int vi), .val (.int ji), .val (.int od), .val (.int cb), .val (.int ci), .unset] [])
        refine own_go (g' := (mkF m 441 #[.val (.int pn), .val (.int pl), .val (.int pp), .val (.int pb), .val (.int pm), .val (.int pk), .val (.ref b11), .val (.int mi), .val (.int oi), .val (.int fi), .val (.ref b22), .val (.int di), .val (.int lo), .val (.int vi), .val (.int ji), .val (.int od), .val (.int cb), .val (.int ci), .unset] [(.ref b22)])) (fun _ k => XS.aload X44.here hx rfl (hb hby at_439) rfl rfl k) ?_
        refine own_go (g' := (mkF m 443 #[.val (.int pn), .val (.int pl), .val (.int pp), .val (.int pb), .val (.int pm), .val (.int pk), .val (.ref b11), .val (.int mi), .val (.int oi), .val (.int fi), .val (.ref b22), .val (.int di), .val (.int lo), .val (.int vi), .val (.int ji), .val (.int od), .val (.int cb), .val (.int ci), .unset] [(.int oi), (.ref b22)])) (fun _ k => XS.iload X44.here hx rfl (hb hby at_441) rfl k) ?_
        refine own_go (g' := (mkF m 445 #[.val (.int pn), .val (.int pl), .val (.int pp), .val (.int pb), .val (.int pm), .val (.int pk), .val (.ref b11), .val (.int mi), .val (.int oi), .val (.int fi), .val (.ref b22), .val (.int di), .val (.int lo), .val (.int vi), .val (.int ji), .val (.int od), .val (.int cb), .val (.int ci), .unset] [(.int ji), (.int oi), (.ref b22)])) (fun _ k => XS.iload X44.here hx rfl (hb hby at_443) rfl k) ?_
        refine own_go (g' := (mkF m 446 #[.val (.int pn), .val (.int pl), .val (.int pp), .val (.int pb), .val (.int pm), .val (.int pk), .val (.ref b11), .val (.int mi), .val (.int oi), .val (.int fi), .val (.ref b22), .val (.int di), .val (.int lo), .val (.int vi), .val (.int ji), .val (.int od), .val (.int cb), .val (.int ci), .unset] [(.int (oi + ji)), (.ref b22)])) (fun _ k => XS.iadd X44.here hx rfl (hb hby at_445) rfl k) ?_
        refine own_go (g' := (mkF m 448 #[.val (.int pn), .val (.int pl), .val (.int pp), .val (.int pb), .val (.int pm), .val (.int pk), .val (.ref b11), .val (.int mi), .val (.int oi), .val (.int fi), .val (.ref b22), .val (.int di), .val (.int lo), .val (.int vi), .val (.int ji), .val (.int od), .val (.int cb), .val (.int ci), .unset] [(.int cb), (.int (oi + ji)), (.ref b22)])) (fun _ k => XS.iload X44.here hx rfl (hb hby at_446) rfl k) ?_
        refine own_bastore X44 hx hZ rfl Ff1 (A + J) (own_addi hA hJ (by omega)) (by omega) (hb hby at_448) ?_
        intro T46 h46 X46 e46 W46
        show own_Go p e below _ T46 (mkF m 449 #[.val (.int pn), .val (.int pl), .val (.int pp), .val (.int pb), .val (.int pm), .val (.int pk), .val (.ref b11), .val (.int mi), .val (.int oi), .val (.int fi), .val (.ref b22), .val (.int di), .val (.int lo), .val (.int vi), .val (.int ji), .val (.int od), .val (.int cb), .val (.int ci), .unset] [])
        have F46 := own_Ai_set Ff1 W46
        have N46 := Fr.snoc X46 N44 ga
        have P46 : own_Ai Z h46 b11 .int 10 own_p10 := own_Ar_other P44 W46 (Ne.symm hap)
        obtain ⟨f2, hf2, Ff2⟩ : ∃ g : Nat → Int32, (∀ i, i < D → g (A + i) = if i = J then cb else own_dg V (D - 1 - i)) ∧ own_Ai Z h46 b22 .byte 14 g := ⟨_, own_upi_at hf1 (own_bb hcb), F46⟩
        refine own_go (g' := (mkF m 451 #[.val (.int pn), .val (.int pl), .val (.int pp), .val (.int pb), .val (.int pm), .val (.int pk), .val (.ref b11), .val (.int mi), .val (.int oi), .val (.int fi), .val (.ref b22), .val (.int di), .val (.int lo), .val (.int vi), .val (.int ji), .val (.int od), .val (.int cb), .val (.int ci), .unset] [(.int ci)])) (fun _ k => XS.iload X46.here hx rfl (hb hby at_449) rfl k) ?_
        suffices K : ∀ ex : Int32, own_num f2 A D = ex → own_Go p e below (own_Po s (own_Q0 n0) 16 128) T46 (mkF m 510 #[.val (.int pn), .val (.int pl), .val (.int pp), .val (.int pb), .val (.int pm), .val (.int pk), .val (.ref b11), .val (.int mi), .val (.int oi), .val (.int fi), .val (.ref b22), .val (.int di), .val (.int lo), .val (.int vi), .val (.int ji), .val (.int od), .val (.int cb), .val (.int ci), .val (.int ex)] []) by
          suffices K2 : ¬ ci < 0 → ¬ 9 < ci → ¬ (J = 0 ∧ 1 < D ∧ ci = 0) → own_Go p e below (own_Po s (own_Q0 n0) 16 128) T46 (mkF m 489 #[.val (.int pn), .val (.int pl), .val (.int pp), .val (.int pb), .val (.int pm), .val (.int pk), .val (.ref b11), .val (.int mi), .val (.int oi), .val (.int fi), .val (.ref b22), .val (.int di), .val (.int lo), .val (.int vi), .val (.int ji), .val (.int od), .val (.int cb), .val (.int ci), .unset] []) by
            by_cases c1 : ci < 0
            · refine own_go (g' := (mkF m 461 #[.val (.int pn), .val (.int pl), .val (.int pp), .val (.int pb), .val (.int pm), .val (.int pk), .val (.ref b11), .val (.int mi), .val (.int oi), .val (.int fi), .val (.ref b22), .val (.int di), .val (.int lo), .val (.int vi), .val (.int ji), .val (.int od), .val (.int cb), .val (.int ci), .unset] [])) (fun _ k => XS.ifYes X46.here hx rfl (pc0 := 451) (pc' := 461) rfl (hb hby at_451) rfl (XT.i0_lt_t c1) (by decide) (by decide) k) ?_
              refine own_go (g' := (mkF m 462 #[.val (.int pn), .val (.int pl), .val (.int pp), .val (.int pb), .val (.int pm), .val (.int pk), .val (.ref b11), .val (.int mi), .val (.int oi), .val (.int fi), .val (.ref b22), .val (.int di), .val (.int lo), .val (.int vi), .val (.int ji), .val (.int od), .val (.int cb), .val (.int ci), .unset] [(.int (-1 : Int32))])) (fun _ k => XS.iconst X46.here hx rfl (hb hby at_461) k) ?_
              refine own_go (g' := (mkF m 464 #[.val (.int pn), .val (.int pl), .val (.int pp), .val (.int pb), .val (.int pm), .val (.int pk), .val (.ref b11), .val (.int mi), .val (.int oi), .val (.int fi), .val (.ref b22), .val (.int di), .val (.int lo), .val (.int vi), .val (.int ji), .val (.int od), .val (.int cb), .val (.int ci), .val (.int (-1 : Int32))] [])) (fun _ k => XS.istore X46.here hx rfl (hb hby at_462) rfl (l' := #[.val (.int pn), .val (.int pl), .val (.int pp), .val (.int pb), .val (.int pm), .val (.int pk), .val (.ref b11), .val (.int mi), .val (.int oi), .val (.int fi), .val (.ref b22), .val (.int di), .val (.int lo), .val (.int vi), .val (.int ji), .val (.int od), .val (.int cb), .val (.int ci), .val (.int (-1 : Int32))]) rfl k) ?_
              refine own_go (g' := (mkF m 510 #[.val (.int pn), .val (.int pl), .val (.int pp), .val (.int pb), .val (.int pm), .val (.int pk), .val (.ref b11), .val (.int mi), .val (.int oi), .val (.int fi), .val (.ref b22), .val (.int di), .val (.int lo), .val (.int vi), .val (.int ji), .val (.int od), .val (.int cb), .val (.int ci), .val (.int (-1 : Int32))] [])) (fun _ k => XS.goto X46.here hx rfl (pc0 := 464) (pc' := 510) rfl (hb hby at_464) (by decide) (by decide) k) ?_
              exact K _ (own_N5a hf2 hJD hD9 hci (Or.inl c1))
            · refine own_go (g' := (mkF m 454 #[.val (.int pn), .val (.int pl), .val (.int pp), .val (.int pb), .val (.int pm), .val (.int pk), .val (.ref b11), .val (.int mi), .val (.int oi), .val (.int fi), .val (.ref b22), .val (.int di), .val (.int lo), .val (.int vi), .val (.int ji), .val (.int od), .val (.int cb), .val (.int ci), .unset] [])) (fun _ k => XS.ifNo X46.here hx rfl (hb hby at_451) rfl (XT.i0_lt_f c1) k) ?_
              refine own_go (g' := (mkF m 456 #[.val (.int pn), .val (.int pl), .val (.int pp), .val (.int pb), .val (.int pm), .val (.int pk), .val (.ref b11), .val (.int mi), .val (.int oi), .val (.int fi), .val (.ref b22), .val (.int di), .val (.int lo), .val (.int vi), .val (.int ji), .val (.int od), .val (.int cb), .val (.int ci), .unset] [(.int ci)])) (fun _ k => XS.iload X46.here hx rfl (hb hby at_454) rfl k) ?_
              refine own_go (g' := (mkF m 458 #[.val (.int pn), .val (.int pl), .val (.int pp), .val (.int pb), .val (.int pm), .val (.int pk), .val (.ref b11), .val (.int mi), .val (.int oi), .val (.int fi), .val (.ref b22), .val (.int di), .val (.int lo), .val (.int vi), .val (.int ji), .val (.int od), .val (.int cb), .val (.int ci), .unset] [(.int (9 : Int32)), (.int ci)])) (fun _ k => XS.bipush X46.here hx rfl (hb hby at_456) k) ?_
              by_cases c2 : (9 : Int32) < ci
              · refine own_go (g' := (mkF m 461 #[.val (.int pn), .val (.int pl), .val (.int pp), .val (.int pb), .val (.int pm), .val (.int pk), .val (.ref b11), .val (.int mi), .val (.int oi), .val (.int fi), .val (.ref b22), .val (.int di), .val (.int lo), .val (.int vi), .val (.int ji), .val (.int od), .val (.int cb), .val (.int ci), .unset] [])) (fun _ k => XS.icmpNo X46.here hx rfl (hb hby at_458) rfl (XT.ii_le_f c2) k) ?_
                refine own_go (g' := (mkF m 462 #[.val (.int pn), .val (.int pl), .val (.int pp), .val (.int pb), .val (.int pm), .val (.int pk), .val (.ref b11), .val (.int mi), .val (.int oi), .val (.int fi), .val (.ref b22), .val (.int di), .val (.int lo), .val (.int vi), .val (.int ji), .val (.int od), .val (.int cb), .val (.int ci), .unset] [(.int (-1 : Int32))])) (fun _ k => XS.iconst X46.here hx rfl (hb hby at_461) k) ?_
                refine own_go (g' := (mkF m 464 #[.val (.int pn), .val (.int pl), .val (.int pp), .val (.int pb), .val (.int pm), .val (.int pk), .val (.ref b11), .val (.int mi), .val (.int oi), .val (.int fi), .val (.ref b22), .val (.int di), .val (.int lo), .val (.int vi), .val (.int ji), .val (.int od), .val (.int cb), .val (.int ci), .val (.int (-1 : Int32))] [])) (fun _ k => XS.istore X46.here hx rfl (hb hby at_462) rfl (l' := #[.val (.int pn), .val (.int pl), .val (.int pp), .val (.int pb), .val (.int pm), .val (.int pk), .val (.ref b11), .val (.int mi), .val (.int oi), .val (.int fi), .val (.ref b22), .val (.int di), .val (.int lo), .val (.int vi), .val (.int ji), .val (.int od), .val (.int cb), .val (.int ci), .val (.int (-1 : Int32))]) rfl k) ?_
                refine own_go (g' := (mkF m 510 #[.val (.int pn), .val (.int pl), .val (.int pp), .val (.int pb), .val (.int pm), .val (.int pk), .val (.ref b11), .val (.int mi), .val (.int oi), .val (.int fi), .val (.ref b22), .val (.int di), .val (.int lo), .val (.int vi), .val (.int ji), .val (.int od), .val (.int cb), .val (.int ci), .val (.int (-1 : Int32))] [])) (fun _ k => XS.goto X46.here hx rfl (pc0 := 464) (pc' := 510) rfl (hb hby at_464) (by decide) (by decide) k) ?_
                exact K _ (own_N5a hf2 hJD hD9 hci (Or.inr c2))
              · refine own_go (g' := (mkF m 467 #[.val (.int pn), .val (.int pl), .val (.int pp), .val (.int pb), .val (.int pm), .val (.int pk), .val (.ref b11), .val (.int mi), .val (.int oi), .val (.int fi), .val (.ref b22), .val (.int di), .val (.int lo), .val (.int vi), .val (.int ji), .val (.int od), .val (.int cb), .val (.int ci), .unset] [])) (fun _ k => XS.icmpYes X46.here hx rfl (pc0 := 458) (pc' := 467) rfl (hb hby at_458) rfl (XT.ii_le_t c2) (by decide) (by decide) k) ?_
                refine own_go (g' := (mkF m 469 #[.val (.int pn), .val (.int pl), .val (.int pp), .val (.int pb), .val (.int pm), .val (.int pk), .val (.ref b11), .val (.int mi), .val (.int oi), .val (.int fi), .val (.ref b22), .val (.int di), .val (.int lo), .val (.int vi), .val (.int ji), .val (.int od), .val (.int cb), .val (.int ci), .unset] [(.int ji)])) (fun _ k => XS.iload X46.here hx rfl (hb hby at_467) rfl k) ?_
                by_cases c3 : ji = 0
                · refine own_go (g' := (mkF m 472 #[.val (.int pn), .val (.int pl), .val (.int pp), .val (.int pb), .val (.int pm), .val (.int pk), .val (.ref b11), .val (.int mi), .val (.int oi), .val (.int fi), .val (.ref b22), .val (.int di), .val (.int lo), .val (.int vi), .val (.int ji), .val (.int od), .val (.int cb), .val (.int ci), .unset] [])) (fun _ k => XS.ifNo X46.here hx rfl (hb hby at_469) rfl (XT.i0_ne_f c3) k) ?_
                  refine own_go (g' := (mkF m 474 #[.val (.int pn), .val (.int pl), .val (.int pp), .val (.int pb), .val (.int pm), .val (.int pk), .val (.ref b11), .val (.int mi), .val (.int oi), .val (.int fi), .val (.ref b22), .val (.int di), .val (.int lo), .val (.int vi), .val (.int ji), .val (.int od), .val (.int cb), .val (.int ci), .unset] [(.int di)])) (fun _ k => XS.iload X46.here hx rfl (hb hby at_472) rfl k) ?_
                  refine own_go (g' := (mkF m 475 #[.val (.int pn), .val (.int pl), .val (.int pp), .val (.int pb), .val (.int pm), .val (.int pk), .val (.ref b11), .val (.int mi), .val (.int oi), .val (.int fi), .val (.ref b22), .val (.int di), .val (.int lo), .val (.int vi), .val (.int ji), .val (.int od), .val (.int cb), .val (.int ci), .unset] [(.int (1 : Int32)), (.int di)])) (fun _ k => XS.iconst X46.here hx rfl (hb hby at_474) k) ?_
                  by_cases c4 : (1 : Int32) < di
                  · refine own_go (g' := (mkF m 478 #[.val (.int pn), .val (.int pl), .val (.int pp), .val (.int pb), .val (.int pm), .val (.int pk), .val (.ref b11), .val (.int mi), .val (.int oi), .val (.int fi), .val (.ref b22), .val (.int di), .val (.int lo), .val (.int vi), .val (.int ji), .val (.int od), .val (.int cb), .val (.int ci), .unset] [])) (fun _ k => XS.icmpNo X46.here hx rfl (hb hby at_475) rfl (XT.ii_le_f c4) k) ?_
                    refine own_go (g' := (mkF m 480 #[.val (.int pn), .val (.int pl), .val (.int pp), .val (.int pb), .val (.int pm), .val (.int pk), .val (.ref b11), .val (.int mi), .val (.int oi), .val (.int fi), .val (.ref b22), .val (.int di), .val (.int lo), .val (.int vi), .val (.int ji), .val (.int od), .val (.int cb), .val (.int ci), .unset] [(.int ci)])) (fun _ k => XS.iload X46.here hx rfl (hb hby at_478) rfl k) ?_
                    by_cases c5 : ci = 0
                    · refine own_go (g' := (mkF m 483 #[.val (.int pn), .val (.int pl), .val (.int pp), .val (.int pb), .val (.int pm), .val (.int pk), .val (.ref b11), .val (.int mi), .val (.int oi), .val (.int fi), .val (.ref b22), .val (.int di), .val (.int lo), .val (.int vi), .val (.int ji), .val (.int od), .val (.int cb), .val (.int ci), .unset] [])) (fun _ k => XS.ifNo X46.here hx rfl (hb hby at_480) rfl (XT.i0_ne_f c5) k) ?_
                      refine own_go (g' := (mkF m 484 #[.val (.int pn), .val (.int pl), .val (.int pp), .val (.int pb), .val (.int pm), .val (.int pk), .val (.ref b11), .val (.int mi), .val (.int oi), .val (.int fi), .val (.ref b22), .val (.int di), .val (.int lo), .val (.int vi), .val (.int ji), .val (.int od), .val (.int cb), .val (.int ci), .unset] [(.int (-1 : Int32))])) (fun _ k => XS.iconst X46.here hx rfl (hb hby at_483) k) ?_
                      refine own_go (g' := (mkF m 486 #[.val (.int pn), .val (.int pl), .val (.int pp), .val (.int pb), .val (.int pm), .val (.int pk), .val (.ref b11), .val (.int mi), .val (.int oi), .val (.int fi), .val (.ref b22), .val (.int di), .val (.int lo), .val (.int vi), .val (.int ji), .val (.int od), .val (.int cb), .val (.int ci), .val (.int (-1 : Int32))] [])) (fun _ k => XS.istore X46.here hx rfl (hb hby at_484) rfl (l' := #[.val (.int pn), .val (.int pl), .val (.int pp), .val (.int pb), .val (.int pm), .val (.int pk), .val (.ref b11), .val (.int mi), .val (.int oi), .val (.int fi), .val (.ref b22), .val (.int di), .val (.int lo), .val (.int vi), .val (.int ji), .val (.int od), .val (.int cb), .val (.int ci), .val (.int (-1 : Int32))]) rfl k) ?_
                      refine own_go (g' := (mkF m 510 #[.val (.int pn), .val (.int pl), .val (.int pp), .val (.int pb), .val (.int pm), .val (.int pk), .val (.ref b11), .val (.int mi), .val (.int oi), .val (.int fi), .val (.ref b22), .val (.int di), .val (.int lo), .val (.int vi), .val (.int ji), .val (.int od), .val (.int cb), .val (.int ci), .val (.int (-1 : Int32))] [])) (fun _ k => XS.goto X46.here hx rfl (pc0 := 486) (pc' := 510) rfl (hb hby at_486) (by decide) (by decide) k) ?_
                      exact K _ (own_N5b hf2 (own_eq0 hJ c3) (own_ltN hD (k := 1) (by decide) c4) hci c5)
                    · refine own_go (g' := (mkF m 489 #[.val (.int pn), .val (.int pl), .val (.int pp), .val (.int pb), .val (.int pm), .val (.int pk), .val (.ref b11), .val (.int mi), .val (.int oi), .val (.int fi), .val (.ref b22), .val (.int di), .val (.int lo), .val (.int vi), .val (.int ji), .val (.int od), .val (.int cb), .val (.int ci), .unset] [])) (fun _ k => XS.ifYes X46.here hx rfl (pc0 := 480) (pc' := 489) rfl (hb hby at_480) rfl (XT.i0_ne_t c5) (by decide) (by decide) k) ?_
                      exact K2 c1 c2 (fun q => c5 q.2.2)
                  · refine own_go (g' := (mkF m 489 #[.val (.int pn), .val (.int pl), .val (.int pp), .val (.int pb), .val (.int pm), .val (.int pk), .val (.ref b11), .val (.int mi), .val (.int oi), .val (.int fi), .val (.ref b22), .val (.int di), .val (.int lo), .val (.int vi), .val (.int ji), .val (.int od), .val (.int cb), .val (.int ci), .unset] [])) (fun _ k => XS.icmpYes X46.here hx rfl (pc0 := 475) (pc' := 489) rfl (hb hby at_475) rfl (XT.ii_le_t c4) (by decide) (by decide) k) ?_
                    exact K2 c1 c2 (fun q => own_nltN hD (k := 1) (by decide) c4 q.2.1)
                · refine own_go (g' := (mkF m 489 #[.val (.int pn), .val (.int pl), .val (.int pp), .val (.int pb), .val (.int pm), .val (.int pk), .val (.ref b11), .val (.int mi), .val (.int oi), .val (.int fi), .val (.ref b22), .val (.int di), .val (.int lo), .val (.int vi), .val (.int ji), .val (.int od), .val (.int cb), .val (.int ci), .unset] [])) (fun _ k => XS.ifYes X46.here hx rfl (pc0 := 469) (pc' := 489) rfl (hb hby at_469) rfl (XT.i0_ne_t c3) (by decide) (by decide) k) ?_
                  exact K2 c1 c2 (fun q => c3 (own_eq0' hJ q.1))
          intro q1 q2 q3
          refine own_go (g' := (mkF m 491 #[.val (.int pn), .val (.int pl), .val (.int pp), .val (.int pb), .val (.int pm), .val (.int pk), .val (.ref b11), .val (.int mi), .val (.int oi), .val (.int fi), .val (.ref b22), .val (.int di), .val (.int lo), .val (.int vi), .val (.int ji), .val (.int od), .val (.int cb), .val (.int ci), .unset] [(.int vi)])) (fun _ k => XS.iload X46.here hx rfl (hb hby at_489) rfl k) ?_
          refine own_go (g' := (mkF m 493 #[.val (.int pn), .val (.int pl), .val (.int pp), .val (.int pb), .val (.int pm), .val (.int pk), .val (.ref b11), .val (.int mi), .val (.int oi), .val (.int fi), .val (.ref b22), .val (.int di), .val (.int lo), .val (.int vi), .val (.int ji), .val (.int od), .val (.int cb), .val (.int ci), .unset] [(.int ci), (.int vi)])) (fun _ k => XS.iload X46.here hx rfl (hb hby at_491) rfl k) ?_
          refine own_go (g' := (mkF m 495 #[.val (.int pn), .val (.int pl), .val (.int pp), .val (.int pb), .val (.int pm), .val (.int pk), .val (.ref b11), .val (.int mi), .val (.int oi), .val (.int fi), .val (.ref b22), .val (.int di), .val (.int lo), .val (.int vi), .val (.int ji), .val (.int od), .val (.int cb), .val (.int ci), .unset] [(.int od), (.int ci), (.int vi)])) (fun _ k => XS.iload X46.here hx rfl (hb hby at_493) rfl k) ?_
          refine own_go (g' := (mkF m 496 #[.val (.int pn), .val (.int pl), .val (.int pp), .val (.int pb), .val (.int pm), .val (.int pk), .val (.ref b11), .val (.int mi), .val (.int oi), .val (.int fi), .val (.ref b22), .val (.int di), .val (.int lo), .val (.int vi), .val (.int ji), .val (.int od), .val (.int cb), .val (.int ci), .unset] [(.int (ci - od)), (.int vi)])) (fun _ k => XS.isub X46.here hx rfl (hb hby at_495) rfl k) ?_
          refine own_go (g' := (mkF m 498 #[.val (.int pn), .val (.int pl), .val (.int pp), .val (.int pb), .val (.int pm), .val (.int pk), .val (.ref b11), .val (.int mi), .val (.int oi), .val (.int fi), .val (.ref b22), .val (.int di), .val (.int lo), .val (.int vi), .val (.int ji), .val (.int od), .val (.int cb), .val (.int ci), .unset] [(.ref b11), (.int (ci - od)), (.int vi)])) (fun _ k => XS.aload X46.here hx rfl (hb hby at_496) rfl rfl k) ?_
          refine own_go (g' := (mkF m 500 #[.val (.int pn), .val (.int pl), .val (.int pp), .val (.int pb), .val (.int pm), .val (.int pk), .val (.ref b11), .val (.int mi), .val (.int oi), .val (.int fi), .val (.ref b22), .val (.int di), .val (.int lo), .val (.int vi), .val (.int ji), .val (.int od), .val (.int cb), .val (.int ci), .unset] [(.int di), (.ref b11), (.int (ci - od)), (.int vi)])) (fun _ k => XS.iload X46.here hx rfl (hb hby at_498) rfl k) ?_
          refine own_go (g' := (mkF m 501 #[.val (.int pn), .val (.int pl), .val (.int pp), .val (.int pb), .val (.int pm), .val (.int pk), .val (.ref b11), .val (.int mi), .val (.int oi), .val (.int fi), .val (.ref b22), .val (.int di), .val (.int lo), .val (.int vi), .val (.int ji), .val (.int od), .val (.int cb), .val (.int ci), .unset] [(.int (1 : Int32)), (.int di), (.ref b11), (.int (ci - od)), (.int vi)])) (fun _ k => XS.iconst X46.here hx rfl (hb hby at_500) k) ?_
          refine own_go (g' := (mkF m 502 #[.val (.int pn), .val (.int pl), .val (.int pp), .val (.int pb), .val (.int pm), .val (.int pk), .val (.ref b11), .val (.int mi), .val (.int oi), .val (.int fi), .val (.ref b22), .val (.int di), .val (.int lo), .val (.int vi), .val (.int ji), .val (.int od), .val (.int cb), .val (.int ci), .unset] [(.int (di - (1 : Int32))), (.ref b11), (.int (ci - od)), (.int vi)])) (fun _ k => XS.isub X46.here hx rfl (hb hby at_501) rfl k) ?_
          refine own_go (g' := (mkF m 504 #[.val (.int pn), .val (.int pl), .val (.int pp), .val (.int pb), .val (.int pm), .val (.int pk), .val (.ref b11), .val (.int mi), .val (.int oi), .val (.int fi), .val (.ref b22), .val (.int di), .val (.int lo), .val (.int vi), .val (.int ji), .val (.int od), .val (.int cb), .val (.int ci), .unset] [(.int ji), (.int (di - (1 : Int32))), (.ref b11), (.int (ci - od)), (.int vi)])) (fun _ k => XS.iload X46.here hx rfl (hb hby at_502) rfl k) ?_
          refine own_go (g' := (mkF m 505 #[.val (.int pn), .val (.int pl), .val (.int pp), .val (.int pb), .val (.int pm), .val (.int pk), .val (.ref b11), .val (.int mi), .val (.int oi), .val (.int fi), .val (.ref b22), .val (.int di), .val (.int lo), .val (.int vi), .val (.int ji), .val (.int od), .val (.int cb), .val (.int ci), .unset] [(.int ((di - (1 : Int32)) - ji)), (.ref b11), (.int (ci - od)), (.int vi)])) (fun _ k => XS.isub X46.here hx rfl (hb hby at_504) rfl k) ?_
          refine own_iaload X46 hx hZ e46 P46 (D - 1 - J) (own_sub2 hD hJ hJD (by omega)) (by omega) (hb hby at_505) ?_
          show own_Go p e below _ T46 (mkF m 506 #[.val (.int pn), .val (.int pl), .val (.int pp), .val (.int pb), .val (.int pm), .val (.int pk), .val (.ref b11), .val (.int mi), .val (.int oi), .val (.int fi), .val (.ref b22), .val (.int di), .val (.int lo), .val (.int vi), .val (.int ji), .val (.int od), .val (.int cb), .val (.int ci), .unset] [(.int (own_p10 (D - 1 - J))), (.int (ci - od)), (.int vi)])
          refine own_go (g' := (mkF m 507 #[.val (.int pn), .val (.int pl), .val (.int pp), .val (.int pb), .val (.int pm), .val (.int pk), .val (.ref b11), .val (.int mi), .val (.int oi), .val (.int fi), .val (.ref b22), .val (.int di), .val (.int lo), .val (.int vi), .val (.int ji), .val (.int od), .val (.int cb), .val (.int ci), .unset] [(.int ((ci - od) * (own_p10 (D - 1 - J)))), (.int vi)])) (fun _ k => XS.imul X46.here hx rfl (hb hby at_506) rfl k) ?_
          refine own_go (g' := (mkF m 508 #[.val (.int pn), .val (.int pl), .val (.int pp), .val (.int pb), .val (.int pm), .val (.int pk), .val (.ref b11), .val (.int mi), .val (.int oi), .val (.int fi), .val (.ref b22), .val (.int di), .val (.int lo), .val (.int vi), .val (.int ji), .val (.int od), .val (.int cb), .val (.int ci), .unset] [(.int (vi + ((ci - od) * (own_p10 (D - 1 - J)))))])) (fun _ k => XS.iadd X46.here hx rfl (hb hby at_507) rfl k) ?_
          refine own_go (g' := (mkF m 510 #[.val (.int pn), .val (.int pl), .val (.int pp), .val (.int pb), .val (.int pm), .val (.int pk), .val (.ref b11), .val (.int mi), .val (.int oi), .val (.int fi), .val (.ref b22), .val (.int di), .val (.int lo), .val (.int vi), .val (.int ji), .val (.int od), .val (.int cb), .val (.int ci), .val (.int (vi + ((ci - od) * (own_p10 (D - 1 - J)))))] [])) (fun _ k => XS.istore X46.here hx rfl (hb hby at_508) rfl (l' := #[.val (.int pn), .val (.int pl), .val (.int pp), .val (.int pb), .val (.int pm), .val (.int pk), .val (.ref b11), .val (.int mi), .val (.int oi), .val (.int fi), .val (.ref b22), .val (.int di), .val (.int lo), .val (.int vi), .val (.int ji), .val (.int od), .val (.int cb), .val (.int ci), .val (.int (vi + ((ci - od) * (own_p10 (D - 1 - J)))))]) rfl k) ?_
          exact K _ (own_N5c hf2 hV hV1 hV2 hD1 hD9 hJD hod1 hci q1 q2 q3)
        intro ex hex
        refine own_go (g' := (mkF m 512 #[.val (.int pn), .val (.int pl), .val (.int pp), .val (.int pb), .val (.int pm), .val (.int pk), .val (.ref b11), .val (.int mi), .val (.int oi), .val (.int fi), .val (.ref b22), .val (.int di), .val (.int lo), .val (.int vi), .val (.int ji), .val (.int od), .val (.int cb), .val (.int ci), .val (.int ex)] [(.ref b22)])) (fun _ k => XS.aload X46.here hx rfl (hb hby at_510) rfl rfl k) ?_
        refine own_go (g' := (mkF m 514 #[.val (.int pn), .val (.int pl), .val (.int pp), .val (.int pb), .val (.int pm), .val (.int pk), .val (.ref b11), .val (.int mi), .val (.int oi), .val (.int fi), .val (.ref b22), .val (.int di), .val (.int lo), .val (.int vi), .val (.int ji), .val (.int od), .val (.int cb), .val (.int ci), .val (.int ex)] [(.int oi), (.ref b22)])) (fun _ k => XS.iload X46.here hx rfl (hb hby at_512) rfl k) ?_
        refine own_go (g' := (mkF m 516 #[.val (.int pn), .val (.int pl), .val (.int pp), .val (.int pb), .val (.int pm), .val (.int pk), .val (.ref b11), .val (.int mi), .val (.int oi), .val (.int fi), .val (.ref b22), .val (.int di), .val (.int lo), .val (.int vi), .val (.int ji), .val (.int od), .val (.int cb), .val (.int ci), .val (.int ex)] [(.int oi), (.int oi), (.ref b22)])) (fun _ k => XS.iload X46.here hx rfl (hb hby at_514) rfl k) ?_
        refine own_go (g' := (mkF m 518 #[.val (.int pn), .val (.int pl), .val (.int pp), .val (.int pb), .val (.int pm), .val (.int pk), .val (.ref b11), .val (.int mi), .val (.int oi), .val (.int fi), .val (.ref b22), .val (.int di), .val (.int lo), .val (.int vi), .val (.int ji), .val (.int od), .val (.int cb), .val (.int ci), .val (.int ex)] [(.int di), (.int oi), (.int oi), (.ref b22)])) (fun _ k => XS.iload X46.here hx rfl (hb hby at_516) rfl k) ?_
        refine own_go (g' := (mkF m 519 #[.val (.int pn), .val (.int pl), .val (.int pp), .val (.int pb), .val (.int pm), .val (.int pk), .val (.ref b11), .val (.int mi), .val (.int oi), .val (.int fi), .val (.ref b22), .val (.int di), .val (.int lo), .val (.int vi), .val (.int ji), .val (.int od), .val (.int cb), .val (.int ci), .val (.int ex)] [(.int (oi + di)), (.int oi), (.ref b22)])) (fun _ k => XS.iadd X46.here hx rfl (hb hby at_518) rfl k) ?_
        refine own_callS X46 hx hZ hown e46 (y := (⟨"org/kusuridana/CsvLine", "number", "([BII)I"⟩ : MethodName)) (rm := ({ frames := 0, cells := 0, slots := 0, locals := 0 } : Room)) (hw _ (List.mem_of_getElem? (i := 15) rfl)) (hw _ (List.mem_of_getElem? (i := 16) rfl)) (hw _ (List.mem_of_getElem? (i := 17) rfl)) (hw _ (List.mem_of_getElem? (i := 18) rfl)) (by decide) (argsL := [(.ref b22), (.int oi), (.int (oi + di))]) (rest := []) (own_rmN l Z a0 hw [] b22 oi (oi + di) f2 A D h46 n0 hA (own_addi hA hD (by omega)) (by omega) Ff2) (by rw [hml]; rfl) pd_3 rfl rfl (hb hby at_519) (W := 0) (Nat.le_of_eq rfl) (by decide) (by decide) (by decide) (by decide) ?_
        intro v47 T47 L47 X47 hQ47
        obtain ⟨hv47, e47, rfl⟩ := hQ47
        obtain ⟨r, hr⟩ : ∃ z : Int32, z = own_num f2 A D := ⟨_, rfl⟩
        rw [← hr] at hv47
        subst hv47
        rw [List.append_nil] at X47
        show own_Go p e below _ T47 (mkF m 522 #[.val (.int pn), .val (.int pl), .val (.int pp), .val (.int pb), .val (.int pm), .val (.int pk), .val (.ref b11), .val (.int mi), .val (.int oi), .val (.int fi), .val (.ref b22), .val (.int di), .val (.int lo), .val (.int vi), .val (.int ji), .val (.int od), .val (.int cb), .val (.int ci), .val (.int ex)] [(.int r)])
        refine own_go (g' := (mkF m 524 #[.val (.int pn), .val (.int pl), .val (.int pp), .val (.int pb), .val (.int pm), .val (.int pk), .val (.ref b11), .val (.int mi), .val (.int oi), .val (.int fi), .val (.ref b22), .val (.int di), .val (.int lo), .val (.int vi), .val (.int ji), .val (.int od), .val (.int cb), .val (.int ci), .val (.int ex)] [(.int ex), (.int r)])) (fun _ k => XS.iload X47.here hx rfl (hb hby at_522) rfl k) ?_
        refine own_go (g' := (mkF m 527 #[.val (.int pn), .val (.int pl), .val (.int pp), .val (.int pb), .val (.int pm), .val (.int pk), .val (.ref b11), .val (.int mi), .val (.int oi), .val (.int fi), .val (.ref b22), .val (.int di), .val (.int lo), .val (.int vi), .val (.int ji), .val (.int od), .val (.int cb), .val (.int ci), .val (.int ex)] [])) (fun _ k => XS.icmpNo X47.here hx rfl (hb hby at_524) rfl (XT.ii_ne_f (hr.trans hex)) k) ?_
        refine own_go (g' := (mkF m 528 #[.val (.int pn), .val (.int pl), .val (.int pp), .val (.int pb), .val (.int pm), .val (.int pk), .val (.ref b11), .val (.int mi), .val (.int oi), .val (.int fi), .val (.ref b22), .val (.int di), .val (.int lo), .val (.int vi), .val (.int ji), .val (.int od), .val (.int cb), .val (.int ci), .val (.int ex)] [(.int (1 : Int32))])) (fun _ k => XS.iconst X47.here hx rfl (hb hby at_527) k) ?_
        refine own_go (g' := (mkF m 532 #[.val (.int pn), .val (.int pl), .val (.int pp), .val (.int pb), .val (.int pm), .val (.int pk), .val (.ref b11), .val (.int mi), .val (.int oi), .val (.int fi), .val (.ref b22), .val (.int di), .val (.int lo), .val (.int vi), .val (.int ji), .val (.int od), .val (.int cb), .val (.int ci), .val (.int ex)] [(.int (1 : Int32))])) (fun _ k => XS.goto X47.here hx rfl (pc0 := 528) (pc' := 532) rfl (hb hby at_528) (by decide) (by decide) k) ?_
        exact own_retZ X47 hx hlk hret e47 (hb hby at_532) ⟨rfl, N46⟩ (by decide) (by decide)
set_option maxRecDepth 65536 in
set_option maxHeartbeats 40000000 in
theorem comes_1 {Post : Tables → Env → Array Value → State → Outcome → State → Prop} (hpost : ∀ tb e args s v u, (limb_1_1.after args s (.returned v) u = true ∧ limb_1_2.after args s (.returned v) u = true ∧ True) → FrameEnd s (.returned v) u (Jvm.fieldLocs frame_1_writes args s ++ Jvm.arrayLocs frame_1_arrays args s ++ Jvm.staticLocs frame_1_statics s) 16 128 → Post tb e args s (.returned v) u) :
    ArmFor flags0 classFile x code maxLocals ret World_1 tables_1 room_1 Calls_1 rest_1 Pre_1 Post := by
  intro l hfl _ _ p e ha hc hk s m args below hf hA hF happ hP
  obtain ⟨hcalls, hrest, hpre⟩ := hP
  obtain ⟨-, -, -, hnamed, -, -, -, hat⟩ := (Spec.applies_iff hf).mp happ
  obtain ⟨hg, hn⟩ := and_e (Cond.before_iff.mp (show (Jvm.Cond.and given_1 narrow_1).before args s = true from hpre))
  obtain ⟨h1, g0⟩ := and_e hg
  obtain ⟨k0, g1⟩ := and_e g0
  obtain ⟨k1, g2⟩ := and_e g1
  obtain ⟨k2, g3⟩ := and_e g2
  obtain ⟨k3, g4⟩ := and_e g3
  obtain ⟨k4, g5⟩ := and_e g4
  have k5 := g5
  obtain ⟨w0, w1, w2, w3, w4, w5, rfl⟩ : ∃ w0 w1 w2 w3 w4 w5 : Value, args = #[w0, w1, w2, w3, w4, w5] := by
    have hs : args.size = 6 := by simpa [Cond.value, given_1] using h1
    obtain ⟨L⟩ := args
    match L, hs with
    | [w0, w1, w2, w3, w4, w5], _ => exact ⟨w0, w1, w2, w3, w4, w5, rfl⟩
  have hw := fun d (hd : d ∈ tables_1) => atoms_spec (ws := Jvm.Cond.code x code maxLocals ret :: tables_1) hat d (List.mem_cons_of_mem _ hd)
  obtain ⟨i0, e0⟩ := is_v k0
  obtain rfl : w0 = (.int i0) := Option.some.inj e0
  obtain ⟨i1, e1⟩ := is_v k1
  obtain rfl : w1 = (.int i1) := Option.some.inj e1
  obtain ⟨i2, e2⟩ := is_v k2
  obtain rfl : w2 = (.int i2) := Option.some.inj e2
  obtain ⟨i3, e3⟩ := is_v k3
  obtain rfl : w3 = (.int i3) := Option.some.inj e3
  obtain ⟨i4, e4⟩ := is_v k4
  obtain rfl : w4 = (.int i4) := Option.some.inj e4
  obtain ⟨i5, e5⟩ := is_v k5
  obtain rfl : w5 = (.int i5) := Option.some.inj e5
  obtain ⟨n, o, h1, h2, h3, _, L, rfl, ⟨rfl, N⟩, hq⟩ := own_rm0 l s _ hw tables_1 i0 i1 i2 i3 i4 i5 s.heap s.heap.size (Nat.le_refl _)  p e ha hc hk s m _ below hf ((Spec.applies_iff_loose hf).mp happ).1 ⟨rfl, State.Warmed39.refl s, rfl⟩ trivial
  refine ⟨n, _, h1, h2, h3, hpost _ _ _ _ _ _ ⟨Cond.after_iff.mpr rfl, Cond.after_iff.mpr (eq_i res_at (Term.int_eval (1)) rfl), trivial⟩ ⟨hq.1, hq.2.1, (hq.2.2.sift fun y hy => Or.inr (N y hy)).mono (by decide) (by decide)⟩⟩
theorem main_1_1 : Claimed_1_1 := comes_1 fun _ _ _ _ _ _ h hF => ⟨h.1, hF⟩
theorem main_1_2 : Claimed_1_2 := comes_1 fun _ _ _ _ _ _ h hF => ⟨h.2.1, hF⟩
end Jvm.Pilot.@@N@@
namespace Jvm.Pilot.@@N@@
open Jvm Jvm.ClassFile Sem Op Lib Jvm.Free Jvm.Stand Jvm.Pilot.@@N@@.Jvm.D
/-! MADE BY PROGRAM (witnessworld.py) out of the Statement's table words and the real class files: 9 classes; the members and pool entries that the words name. The judged class is class 1, her method 3. -/
namespace start1
open Jvm.ClassFile
def u (s : String) : CpInfo := .utf8 (stringToUtf16 s)
/-- a pool by its gaps: so many unusable entries, then the entry; so many at the end -/
def gap : Nat → List CpInfo → List CpInfo
  | 0, r => r
  | n + 1, r => .unusable :: gap n r
def poolList (es : List (Nat × CpInfo)) (last : Nat) : List CpInfo := es.foldr (fun e r => gap e.1 (e.2 :: r)) (gap last [])
def pool (es : List (Nat × CpInfo)) (last : Nat) : Array CpInfo := ⟨poolList es last⟩
def fileOf (pool : Array CpInfo) (this : Nat) (attrs : Array Attribute := #[]) (ms : Array MethodInfo := #[]) (fl : Nat := 33) (sup : Nat := 0) (ifs : Array Nat := #[]) (fds : Array FieldInfo := #[]) : ClassFile where
  minorVersion := 0
  majorVersion := 65
  constantPool := pool
  accessFlags := fl
  thisClass := this
  superClass := sup
  interfaces := ifs
  fields := fds
  methods := ms
  attributes := attrs
def plain (name : String) (sup : Option ClassId) : Class where
  name := name
  kind := .ordinary
  loader := none
  accessFlags := 33
  super := sup
  interfaces := #[]
  cf := none
  fields := #[]
  methods := #[]
  instanceTypes := #[]
  staticTypes := #[]
  resolved := #[]
  callSites := []
  init := .initialized
  statics := none
  mirror := none

def pool0 : Array CpInfo := pool [(5, u "<init>"), (0, u "()V"), (1, .class_ 10), (1, u "java/lang/Object")] 113

def k0m0 : Method := { name := "<init>", desc := "()V", sig := { parameters := [], returnType := none }, accessFlags := 1, code := none }
/-- java/lang/Object -/
def k0 : Class := { plain "java/lang/Object" none with
  accessFlags := 33
  interfaces := #[]
  cf := some (fileOf pool0 8 #[] #[{ accessFlags := 1, nameIndex := 5, descriptorIndex := 6, attributes := #[] }] 33 0 #[] #[])
  fields := #[]
  methods := #[k0m0]
  instanceTypes := #[]
  staticTypes := #[]
  resolved := Array.replicate 124 none
  statics := none }

def pool1 : Array CpInfo := pool [(2, .class_ 4), (1, u "java/lang/Object"), (0, u "<init>"), (0, u "()V"), (0, .methodref 8 9), (0, .class_ 10), (0, .nameAndType 11 12), (0, u "org/kusuridana/CsvLineNumberPinLaw"), (0, u "put"), (0, u "([BIIII[I)V"), (0, .integer 100000), (0, .integer 1000000), (0, .integer 10000000), (0, .integer 100000000), (0, .integer 1000000000), (0, .integer 2147483647), (0, .methodref 20 21), (0, .class_ 22), (0, .nameAndType 23 24), (0, u "org/kusuridana/CsvLine"), (0, u "number"), (0, u "([BII)I"), (0, .methodref 8 26), (0, .nameAndType 27 28), (0, u "writeAll"), (0, u "([BIII[I)V"), (3, u "law"), (0, u "(IIIIII)Z")] 6

def k1m0 : Method := { name := "<init>", desc := "()V", sig := { parameters := [], returnType := none }, accessFlags := 2, code := none }
def k1c1 : Code := { maxStack := 7, maxLocals := 6, code := method_2_code, exceptionTable := #[], attributes := #[] }
def k1m1 : Method := { name := "put", desc := "([BIIII[I)V", sig := { parameters := [(.array .byte), .int, .int, .int, .int, (.array .int)], returnType := none }, accessFlags := 10, code := some k1c1 }
def k1c2 : Code := { maxStack := 6, maxLocals := 5, code := method_3_code, exceptionTable := #[], attributes := #[] }
def k1m2 : Method := { name := "writeAll", desc := "([BIII[I)V", sig := { parameters := [(.array .byte), .int, .int, .int, (.array .int)], returnType := none }, accessFlags := 10, code := some k1c2 }
def k1c3 : Code := { maxStack := 5, maxLocals := 19, code := code, exceptionTable := #[], attributes := #[] }
def k1m3 : Method := { name := "law", desc := "(IIIIII)Z", sig := { parameters := [.int, .int, .int, .int, .int, .int], returnType := some .boolean }, accessFlags := 9, code := some k1c3 }
/-- org/kusuridana/CsvLineNumberPinLaw -/
def k1 : Class := { plain "org/kusuridana/CsvLineNumberPinLaw" (some 0) with
  accessFlags := 49
  interfaces := #[]
  cf := some (fileOf pool1 8 #[] #[{ accessFlags := 2, nameIndex := 5, descriptorIndex := 6, attributes := #[] }, { accessFlags := 10, nameIndex := 11, descriptorIndex := 12, attributes := #[] }, { accessFlags := 10, nameIndex := 27, descriptorIndex := 28, attributes := #[] }, { accessFlags := 9, nameIndex := 32, descriptorIndex := 33, attributes := #[] }] 49 2 #[] #[])
  fields := #[]
  methods := #[k1m0, k1m1, k1m2, k1m3]
  instanceTypes := #[]
  staticTypes := #[]
  resolved := Array.replicate 40 none
  statics := none }

def pool2 : Array CpInfo := pool [(2, .class_ 4), (1, u "java/lang/Object"), (0, u "<init>"), (0, u "()V"), (0, .class_ 8), (0, u "org/kusuridana/CsvLine$Ascii"), (2, .class_ 13), (1, u "org/kusuridana/CsvLine"), (0, u "ascii"), (0, u "Lorg/kusuridana/CsvLine$Ascii;"), (6, u "content"), (0, u "[B"), (2, u "encoding"), (0, u "Lorg/kusuridana/Encoding;"), (2, u "index"), (0, u "I"), (2, u "starts"), (0, u "[I"), (2, u "base"), (2, u "values"), (2, u "start"), (2, u "end"), (2, u "next"), (2, u "number"), (64, u "([BII)I"), (81, u "decoded"), (30, u "window"), (0, u "Ljava/nio/CharBuffer;"), (25, u "decoding"), (2, u "decoder"), (3, u "Ljava/nio/charset/CharsetDecoder;"), (2, u "Ljava/nio/ByteBuffer;"), (35, u "COMMA"), (0, u "B"), (2, u "MAX_DIGITS")] 72

def k2m0 : Method := { name := "<init>", desc := "()V", sig := { parameters := [], returnType := none }, accessFlags := 0, code := none }
def k2c1 : Code := { maxStack := 2, maxLocals := 7, code := prog_25_method_31_code, exceptionTable := #[], attributes := #[] }
def k2m1 : Method := { name := "number", desc := "([BII)I", sig := { parameters := [(.array .byte), .int, .int], returnType := some .int }, accessFlags := 8, code := some k2c1 }
/-- org/kusuridana/CsvLine -/
def k2 : Class := { plain "org/kusuridana/CsvLine" (some 0) with
  accessFlags := 48
  interfaces := #[]
  cf := some (fileOf pool2 11 #[.nestMembers #[7]] #[{ accessFlags := 0, nameIndex := 5, descriptorIndex := 6, attributes := #[] }, { accessFlags := 8, nameIndex := 53, descriptorIndex := 118, attributes := #[] }] 48 2 #[] #[{ accessFlags := 26, nameIndex := 304, descriptorIndex := 305, attributes := #[] }, { accessFlags := 26, nameIndex := 308, descriptorIndex := 31, attributes := #[] }, { accessFlags := 2, nameIndex := 22, descriptorIndex := 23, attributes := #[] }, { accessFlags := 2, nameIndex := 26, descriptorIndex := 27, attributes := #[] }, { accessFlags := 2, nameIndex := 30, descriptorIndex := 31, attributes := #[] }, { accessFlags := 2, nameIndex := 44, descriptorIndex := 31, attributes := #[] }, { accessFlags := 2, nameIndex := 47, descriptorIndex := 31, attributes := #[] }, { accessFlags := 2, nameIndex := 50, descriptorIndex := 31, attributes := #[] }, { accessFlags := 2, nameIndex := 34, descriptorIndex := 35, attributes := #[] }, { accessFlags := 2, nameIndex := 38, descriptorIndex := 31, attributes := #[] }, { accessFlags := 2, nameIndex := 41, descriptorIndex := 31, attributes := #[] }, { accessFlags := 2, nameIndex := 53, descriptorIndex := 31, attributes := #[] }, { accessFlags := 18, nameIndex := 14, descriptorIndex := 15, attributes := #[] }, { accessFlags := 2, nameIndex := 231, descriptorIndex := 232, attributes := #[] }, { accessFlags := 2, nameIndex := 200, descriptorIndex := 268, attributes := #[] }, { accessFlags := 2, nameIndex := 261, descriptorIndex := 265, attributes := #[] }, { accessFlags := 2, nameIndex := 258, descriptorIndex := 27, attributes := #[] }])
  fields := #[{ name := "COMMA", type := .byte, accessFlags := 26, slot := 0, constantValue := 0 }, { name := "MAX_DIGITS", type := .int, accessFlags := 26, slot := 1, constantValue := 0 }, { name := "content", type := (.array .byte), accessFlags := 2, slot := 0, constantValue := 0 }, { name := "encoding", type := (.object "org/kusuridana/Encoding"), accessFlags := 2, slot := 1, constantValue := 0 }, { name := "index", type := .int, accessFlags := 2, slot := 2, constantValue := 0 }, { name := "start", type := .int, accessFlags := 2, slot := 3, constantValue := 0 }, { name := "end", type := .int, accessFlags := 2, slot := 4, constantValue := 0 }, { name := "next", type := .int, accessFlags := 2, slot := 5, constantValue := 0 }, { name := "starts", type := (.array .int), accessFlags := 2, slot := 6, constantValue := 0 }, { name := "base", type := .int, accessFlags := 2, slot := 7, constantValue := 0 }, { name := "values", type := .int, accessFlags := 2, slot := 8, constantValue := 0 }, { name := "number", type := .int, accessFlags := 2, slot := 9, constantValue := 0 }, { name := "ascii", type := (.object "org/kusuridana/CsvLine$Ascii"), accessFlags := 18, slot := 10, constantValue := 0 }, { name := "window", type := (.object "java/nio/CharBuffer"), accessFlags := 2, slot := 11, constantValue := 0 }, { name := "decoded", type := (.object "java/nio/ByteBuffer"), accessFlags := 2, slot := 12, constantValue := 0 }, { name := "decoder", type := (.object "java/nio/charset/CharsetDecoder"), accessFlags := 2, slot := 13, constantValue := 0 }, { name := "decoding", type := (.object "org/kusuridana/Encoding"), accessFlags := 2, slot := 14, constantValue := 0 }]
  methods := #[k2m0, k2m1]
  instanceTypes := #[(.array .byte), (.object "org/kusuridana/Encoding"), .int, .int, .int, .int, (.array .int), .int, .int, .int, (.object "org/kusuridana/CsvLine$Ascii"), (.object "java/nio/CharBuffer"), (.object "java/nio/ByteBuffer"), (.object "java/nio/charset/CharsetDecoder"), (.object "org/kusuridana/Encoding")]
  staticTypes := #[.byte, .int]
  resolved := Array.replicate 381 none
  statics := none }

def pool3 : Array CpInfo := pool [(1, u "java/lang/Cloneable"), (0, .class_ 1), (0, u "java/lang/Object"), (0, .class_ 3)] 3

/-- java/lang/Cloneable -/
def k3 : Class := { plain "java/lang/Cloneable" (some 0) with
  accessFlags := 1537
  interfaces := #[]
  cf := some (fileOf pool3 2 #[] #[] 1537 4 #[] #[])
  fields := #[]
  methods := #[]
  instanceTypes := #[]
  staticTypes := #[]
  resolved := Array.replicate 8 none
  statics := none }

def pool4 : Array CpInfo := pool [(1, u "java/io/Serializable"), (0, .class_ 1), (0, u "java/lang/Object"), (0, .class_ 3)] 3

/-- java/io/Serializable -/
def k4 : Class := { plain "java/io/Serializable" (some 0) with
  accessFlags := 1537
  interfaces := #[]
  cf := some (fileOf pool4 2 #[] #[] 1537 4 #[] #[])
  fields := #[]
  methods := #[]
  instanceTypes := #[]
  staticTypes := #[]
  resolved := Array.replicate 8 none
  statics := none }

/-- the primitive byte -/
def k5 : Class := { plain "byte" none with kind := .primitive 'B', accessFlags := 0x411 }
/-- [B -/
def k6 : Class := { plain "[B" (some 0) with kind := .array 5 .byte, interfaces := #[3, 4], accessFlags := 1041 }

/-- the primitive int -/
def k7 : Class := { plain "int" none with kind := .primitive 'I', accessFlags := 0x411 }
/-- [I -/
def k8 : Class := { plain "[I" (some 0) with kind := .array 7 .int, interfaces := #[3, 4], accessFlags := 1041 }

def heap : Heap := #[]
def classes : Array Class := #[k0, k1, k2, k3, k4, k5, k6, k7, k8]
def interned : List (Array UInt16 × Addr) := []
def slotsUsed : Nat := 0
def theMethod : MethodId := ⟨1, 3⟩
def args0 : Array Value := #[.int 12, .int 65, .int 5, .int 50, .int 1, .int 2]
def aboutOver (below : List Frame) : State where
  vm := { classes := classes, interned := interned.toArray }
  heap := heap
  slotsUsed := slotsUsed
  threads := #[{ frames := .invoking theMethod args0 :: below }]
def below0 : List Frame := [.native { method := ⟨0, 0⟩, args := #[] }]
def about1 : State := aboutOver below0
def p0 : Program := .bare "" "" ""
def e0 : Env := launch0.env 0 0 0
theorem w_frames : about1.frames = Frame.invoking theMethod args0 :: below0 := rfl
set_option maxRecDepth 65536 in
theorem w_args : argsFit about1.vm theMethod args0 = true := by decide +kernel
set_option maxRecDepth 65536 in
theorem w_heap : heapFits about1 = true := by decide +kernel
set_option maxRecDepth 65536 in
theorem w_runnable : about1.curStatus? = some .runnable := by decide +kernel
set_option maxRecDepth 65536 in
theorem w_alone : about1.alone = true := by decide +kernel
set_option maxRecDepth 65536 in
theorem w_named : about1.methodNamed? x = some theMethod := by decide +kernel
set_option maxRecDepth 65536 in
theorem w_hears : about1.hears theMethod below0 = true := by decide +kernel
set_option maxRecDepth 65536 in
theorem w_ripe : about1.ripe theMethod args0 below0 = true := by decide +kernel
theorem w_running : about1.status = .running := rfl
set_option maxRecDepth 65536 in
theorem w_room : about1.hasRoom e0.platform room_1 = true :=
  launch0.hasRoom_least _ room_1 (by decide +kernel) (by decide +kernel) (by decide +kernel) (by decide +kernel) (by decide +kernel) (by decide +kernel)
theorem allAtoms_all (ts : List Jvm.Cond) (a : Array Jvm.Value) (st : Jvm.State) : (allAtoms ts).before a st = ts.all (fun c => c.before a st) := by
  induction ts with
  | nil => rfl
  | cons c t ih =>
    show (Jvm.Cond.and c (allAtoms t)).before a st = _
    rw [Jvm.Cond.before_and, ih, List.all_cons]
def words1 : List Jvm.Cond := Jvm.Cond.code x code maxLocals ret :: tables_1
/-- a 'code' word, met by the world's own term for the bytes: nothing is compared byte by byte -/
theorem code_word {y : MethodName} {bytes : ByteArray} {mx : Nat} {rt : Option FieldType} {a : Array Value} {s : State} {m : MethodId} {meth : Method} {c : Code} (h1 : s.methodNamed? y = some m) (h2 : s.vm.method? m = some meth) (h3 : meth.code = some c) (h4 : c.code = bytes)
    (h5 : (c.maxLocals == mx && c.exceptionTable.isEmpty && decide (c.maxStack ≤ mostOperands) && decide (meth.sig.returnType = rt) && !meth.locks && decide (parseMethodDescriptor y.desc = some meth.sig)) = true) : (Jvm.Cond.code y bytes mx rt).before a s = true := by
  simp only [Bool.and_eq_true, beq_iff_eq, Bool.not_eq_true', decide_eq_true_eq] at h5
  obtain ⟨⟨⟨⟨⟨g1, g2⟩, g3⟩, g4⟩, g5⟩, g6⟩ := h5
  simp [Cond.before, Cond.holds, Cond.value, h1, h2, h3, h4, g1, g2, g3, g4, g5, g6]
def isCode : Jvm.Cond → Bool
  | .code _ _ _ _ => true
  | _ => false
theorem all_split {L : List Jvm.Cond} {P : Jvm.Cond → Bool} (h1 : L.all (fun c => isCode c || P c) = true) (h2 : ∀ c ∈ L.filter isCode, P c = true) : L.all P = true := by
  refine List.all_eq_true.mpr fun c hc => ?_
  have h := List.all_eq_true.mp h1 c hc
  rcases Bool.eq_false_or_eq_true (isCode c) with hi | hi
  · exact h2 c (List.mem_filter.mpr ⟨hc, hi⟩)
  · simpa [hi] using h
set_option maxRecDepth 65536 in
theorem w_c0 : (Jvm.Cond.code x code maxLocals ret).before args0 about1 = true := code_word (m := ⟨1, 3⟩) (meth := k1m3) (c := k1c3) (by decide +kernel) rfl rfl rfl (by decide +kernel)
set_option maxRecDepth 65536 in
theorem w_c1 : (Jvm.Cond.code ({ cls := "org/kusuridana/CsvLineNumberPinLaw", name := "writeAll", desc := "([BIII[I)V" } : Jvm.MethodName) method_3_code (5 : Nat) (Option.none : Option Jvm.ClassFile.FieldType)).before args0 about1 = true := code_word (m := ⟨1, 2⟩) (meth := k1m2) (c := k1c2) (by decide +kernel) rfl rfl rfl (by decide +kernel)
set_option maxRecDepth 65536 in
theorem w_c2 : (Jvm.Cond.code ({ cls := "org/kusuridana/CsvLineNumberPinLaw", name := "put", desc := "([BIIII[I)V" } : Jvm.MethodName) method_2_code (6 : Nat) (Option.none : Option Jvm.ClassFile.FieldType)).before args0 about1 = true := code_word (m := ⟨1, 1⟩) (meth := k1m1) (c := k1c1) (by decide +kernel) rfl rfl rfl (by decide +kernel)
set_option maxRecDepth 65536 in
theorem w_c3 : (Jvm.Cond.code ({ cls := "org/kusuridana/CsvLine", name := "number", desc := "([BII)I" } : Jvm.MethodName) prog_25_method_31_code (7 : Nat) (Option.some Jvm.ClassFile.FieldType.int)).before args0 about1 = true := code_word (m := ⟨2, 1⟩) (meth := k2m1) (c := k2c1) (by decide +kernel) rfl rfl rfl (by decide +kernel)
def codes1 : List Jvm.Cond := [Jvm.Cond.code x code maxLocals ret, Jvm.Cond.code ({ cls := "org/kusuridana/CsvLineNumberPinLaw", name := "writeAll", desc := "([BIII[I)V" } : Jvm.MethodName) method_3_code (5 : Nat) (Option.none : Option Jvm.ClassFile.FieldType), Jvm.Cond.code ({ cls := "org/kusuridana/CsvLineNumberPinLaw", name := "put", desc := "([BIIII[I)V" } : Jvm.MethodName) method_2_code (6 : Nat) (Option.none : Option Jvm.ClassFile.FieldType), Jvm.Cond.code ({ cls := "org/kusuridana/CsvLine", name := "number", desc := "([BII)I" } : Jvm.MethodName) prog_25_method_31_code (7 : Nat) (Option.some Jvm.ClassFile.FieldType.int)]
set_option maxRecDepth 65536 in
theorem codes_eq : words1.filter isCode = codes1 := rfl
theorem w_codes : ∀ c ∈ words1.filter isCode, c.before args0 about1 = true := by
  rw [codes_eq]
  intro c hc
  simp only [codes1, List.mem_cons, List.not_mem_nil, or_false] at hc
  rcases hc with rfl | rfl | rfl | rfl
  · exact w_c0
  · exact w_c1
  · exact w_c2
  · exact w_c3
set_option maxRecDepth 65536 in
theorem w_t1 : words1.all (fun c => isCode c || c.before args0 about1) = true := by decide +kernel
theorem w_tables : (allAtoms (Jvm.Cond.code x code maxLocals ret :: tables_1)).before args0 about1 = true := by
  rw [allAtoms_all]
  show words1.all (fun c => c.before args0 about1) = true
  refine all_split ?_ w_codes
  rw [w_t1]
set_option maxRecDepth 65536 in
theorem w_case : (Jvm.Cond.and given_1 narrow_1).before args0 about1 = true := by decide +kernel
theorem w_applies : (headSpec (Jvm.Cond.code x code maxLocals ret :: tables_1) room_1).applies x e0.platform about1 = true :=
  (Spec.applies_iff w_frames).mpr ⟨w_running, w_runnable, w_alone, w_named, w_hears, w_ripe, w_room, w_tables⟩
theorem atStart : AtStart classFile x code maxLocals ret World_1 tables_1 room_1 Calls_1 rest_1 Pre_1 launch0 p0 e0 about1 theMethod args0 below0 :=
  ⟨lists_1, trivial, launch0.admits_env _ _ _, launch0.least_env, fairChoices_fair.cas, fairChoices_fair.clock, w_frames, w_args, w_heap, w_applies, trivial, trivial, w_case⟩
end start1
theorem witness_1 : WitnessClaimed_1 := ⟨start1.p0, start1.e0, start1.about1, start1.theMethod, start1.args0, start1.below0, start1.atStart⟩
end Jvm.Pilot.@@N@@
