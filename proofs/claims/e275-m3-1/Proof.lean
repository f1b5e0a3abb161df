import JvmDerived
import JvmDerived.Pilot.@@N@@Statement
import JvmDerived.Pilot.@@N@@Code
set_option linter.unusedVariables false
set_option linter.unusedSimpArgs false
@@BLOCK:NumsL.lean.txt@@
namespace Jvm.Pilot.@@N@@
open Jvm Jvm.ClassFile Sem Op Lib Jvm.Free Jvm.Stand Jvm.LawKit Jvm.RoadKit Bundle Jvm.Pilot.@@N@@.Jvm.D
section Own
variable {p : Program} {l : Launch} {e : Env} {R : Room} {s : State} {m : MethodId} {args : Array Value} {below : List Frame} {meth : Method} {c : Code} {T : State} {locs : List Loc} {cells slots : Nat} {Z : State} {a0 : Array Value} {h h' : Heap} {Po : Outcome → State → Prop}
/-- from the frame g on top of T the run comes to an end of which Po holds -/
def own_Go (p : Program) (e : Env) (below : List Frame) (Po : Outcome → State → Prop) (T : State) (g : JFrame) : Prop :=
  ∃ U o, Steps p.tables e below (T.setTop g) U ∧ U.status = .running ∧ Ended U below o ∧ Po o U
theorem own_go {T T' : State} {g g' : JFrame} (st : ∀ t, Steps p.tables e below (T'.setTop g') t → Steps p.tables e below (T.setTop g) t) (k : own_Go p e below Po T' g') : own_Go p e below Po T g := by
  obtain ⟨U, o, h1, h2⟩ := k
  exact ⟨U, o, st U h1, h2⟩
/-- what a body leaves: it returned v, Q holds of v, of the heap at its end and of the places written -/
def own_Po (s : State) (Q : Option Value → Heap → List Loc → Prop) (C S : Nat) (o : Outcome) (U : State) : Prop :=
  ∃ v L, o = .returned v ∧ Q v U.heap L ∧ FrameEnd s o U L C S
theorem own_end (X : Stand p l e R s m args below meth c T locs cells slots) (hlk : meth.locks = false) {g : JFrame} {v : Option Value} (hv : meth.sig.returnType = none → v = none) {Q : Option Value → Heap → List Loc → Prop} {C S : Nat}
    (st : ∀ fs, (∀ (f : JFrame) (acts : List Action), f.method = m → f.locked = none → f.entered = [] → (doReturn e (T.setTop f) acts v).1 = T.setFrames fs) → Steps p.tables e below (T.setTop g) (T.setFrames fs))
    (hq : Q v T.heap locs) (hc : cells ≤ C) (hs : slots ≤ S) : own_Go p e below (own_Po s Q C S) T g := by
  obtain ⟨fs, hr, hrun, hended, hW, hsame⟩ := X.leave (v := v) hv hlk
  exact ⟨_, _, st fs hr, hrun, hended, _, _, rfl, hq, ⟨_, rfl⟩, hW, hsame.mono hc hs⟩
theorem own_retI (X : Stand p l e R s m args below meth c T locs cells slots) (hx : p.tables.exec = Jvm.exec) (hlk : meth.locks = false) (hret : meth.sig.returnType = some .int) (eT : T.heap = h) {pc : Nat} {Ls : Array Slot} {z : Int32} {rest : List Value} (hd : decode c.code pc = .ok (.ireturn, 1)) {Q : Option Value → Heap → List Loc → Prop} {C S : Nat}
    (hq : Q (some (.int z)) h locs) (hc : cells ≤ C) (hs : slots ≤ S) : own_Go p e below (own_Po s Q C S) T (mkF m pc Ls (.int z :: rest)) :=
  own_end X hlk (v := some (.int z)) (fun q => by rw [hret] at q; cases q) (fun _ hr => retOut X hx hret rfl (Or.inl ⟨rfl, Or.inl rfl, _, rfl⟩) hd hr) (by rw [eT]; exact hq) hc hs
theorem own_retZ (X : Stand p l e R s m args below meth c T locs cells slots) (hx : p.tables.exec = Jvm.exec) (hlk : meth.locks = false) (hret : meth.sig.returnType = some .boolean) (eT : T.heap = h) {pc : Nat} {Ls : Array Slot} {z : Int32} {rest : List Value} (hd : decode c.code pc = .ok (.ireturn, 1)) {Q : Option Value → Heap → List Loc → Prop} {C S : Nat}
    (hq : Q (some (.int (z &&& 1))) h locs) (hc : cells ≤ C) (hs : slots ≤ S) : own_Go p e below (own_Po s Q C S) T (mkF m pc Ls (.int z :: rest)) :=
  own_end X hlk (v := some (.int (nar .boolean z))) (fun q => by rw [hret] at q; cases q) (fun _ hr => retN X hx (t := .boolean) hret (Or.inl rfl) hd hr) (by rw [eT]; exact hq) hc hs
theorem own_retJ (X : Stand p l e R s m args below meth c T locs cells slots) (hx : p.tables.exec = Jvm.exec) (hlk : meth.locks = false) (hret : meth.sig.returnType = some .long) (eT : T.heap = h) {pc : Nat} {Ls : Array Slot} {z : Int64} {rest : List Value} (hd : decode c.code pc = .ok (.lreturn, 1)) {Q : Option Value → Heap → List Loc → Prop} {C S : Nat}
    (hq : Q (some (.long z)) h locs) (hc : cells ≤ C) (hs : slots ≤ S) : own_Go p e below (own_Po s Q C S) T (mkF m pc Ls (.long z :: rest)) :=
  own_end X hlk (v := some (.long z)) (fun q => by rw [hret] at q; cases q) (fun _ hr => retOut X hx hret rfl (Or.inr (Or.inl ⟨rfl, rfl, _, rfl⟩)) hd hr) (by rw [eT]; exact hq) hc hs
theorem own_retA (X : Stand p l e R s m args below meth c T locs cells slots) (hx : p.tables.exec = Jvm.exec) (hlk : meth.locks = false) {t : FieldType} (ht : t.isReference = true) (hret : meth.sig.returnType = some t) (eT : T.heap = h) {pc : Nat} {Ls : Array Slot} {z : Value} (hz : z.isRef = true) (hn : narrow t z = z) {rest : List Value} (hd : decode c.code pc = .ok (.areturn, 1)) {Q : Option Value → Heap → List Loc → Prop} {C S : Nat}
    (hq : Q (some z) h locs) (hc : cells ≤ C) (hs : slots ≤ S) : own_Go p e below (own_Po s Q C S) T (mkF m pc Ls (z :: rest)) :=
  own_end X hlk (v := some z) (fun q => by rw [hret] at q; cases q) (fun _ hr => retOut X hx hret hn (Or.inr (Or.inr (Or.inr (Or.inr ⟨rfl, ht, hz⟩)))) hd hr) (by rw [eT]; exact hq) hc hs
theorem own_ret0 (X : Stand p l e R s m args below meth c T locs cells slots) (hx : p.tables.exec = Jvm.exec) (hlk : meth.locks = false) (hret : meth.sig.returnType = none) (eT : T.heap = h) {pc : Nat} {Ls : Array Slot} (hd : decode c.code pc = .ok (.return_, 1)) {Q : Option Value → Heap → List Loc → Prop} {C S : Nat}
    (hq : Q none h locs) (hc : cells ≤ C) (hs : slots ≤ S) : own_Go p e below (own_Po s Q C S) T (mkF m pc Ls []) :=
  own_end X hlk (v := none) (fun _ => rfl) (fun _ hr => X.returnOut hx hret hd hr) (by rw [eT]; exact hq) hc hs
/-- a body's contract -/
def own_Met (l : Launch) (y : MethodName) (bytes : ByteArray) (maxL : Nat) (ret : Option FieldType) (ws : List Jvm.Cond) (rm : Room) (Z : State) (as' : Array Value) (h0 : Heap) (Q : Option Value → Heap → List Loc → Prop) : Prop :=
  MetFree l y (head1 (Jvm.Cond.code y bytes maxL ret :: ws) rm) (fun a U => a = as' ∧ Z.Warmed39 U.vm ∧ U.heap = h0) (fun _ _ _ _ _ => True) (fun _ U o U' => ∃ v L, o = .returned v ∧ Q v U'.heap L ∧ FrameEnd U o U' L rm.cells rm.slots)
theorem own_enter {y : MethodName} {bytes : ByteArray} {maxL : Nat} {ret : Option FieldType} {ws : List Jvm.Cond} {rm : Room} {as' : Array Value} {h0 : Heap} {Q : Option Value → Heap → List Loc → Prop} (hp : plainFor y = true)
    (body : ∀ (p : Program) (e : Env) (s : State) (m : MethodId) (below : List Frame) (meth : Method) (c : Code) (T : State), Stand p l e rm s m as' below meth c T [] 0 0 → p.tables.exec = Jvm.exec → c.code = bytes → c.maxLocals = maxL → Z.Warmed39 s.vm → s.vm.findClass y.cls = some m.cls → T.heap = h0 → meth.sig.returnType = ret → meth.locks = false → meth.name = y.name →
      own_Go p e below (own_Po s Q rm.cells rm.slots) T (entryFrame m as' maxL)) : own_Met l y bytes maxL ret ws rm Z as' h0 Q := by
  refine MetFree.of_bodySF hp hisR ?_
  intro p e s m args below meth c s₁ Bd hml0 hP hK
  obtain ⟨rfl, hZ, hh⟩ := hP
  exact body p e s m below meth c s₁ (Stand.of_body Bd) Bd.exec Bd.bytes hml0 hZ (findClass_of_methodNamed Bd.named) (by rw [← hh, Bd.state]; rfl) Bd.returns Bd.notSynchronized (name_of_methodNamed Bd.named Bd.method).1
theorem own_start {g g' : JFrame} (q : g = g') (k : own_Go p e below Po T g') : own_Go p e below Po T g := q ▸ k
theorem own_callS (X : Stand p l e R s m args below meth c T locs cells slots) (hx : p.tables.exec = Jvm.exec) (hZ : Z.Warmed39 s.vm) {own : String} (hown : s.vm.findClass own = some m.cls) (eT : T.heap = h) {index : Nat} {y : MethodName} {bytes : ByteArray} {maxL : Nat} {ret : Option FieldType} {rm : Room} {Q : Option Value → Heap → List Loc → Prop}
    (w1 : (Jvm.Cond.methodLink own index y).before a0 Z = true) (w2 : (Jvm.Cond.static y).before a0 Z = true) (w3 : (Jvm.Cond.initialized y.cls).before a0 Z = true) (w4 : (Jvm.Cond.code y bytes maxL ret).before a0 Z = true) (hy : y.cls ≠ "java/lang/invoke/MethodHandle" ∧ y.cls ≠ "java/lang/invoke/VarHandle")
    {pc : Nat} {Ls : Array Slot} {argsL rest st : List Value} (M : own_Met l y bytes maxL ret [] rm Z argsL.toArray h Q) (hml : Ls.size = c.maxLocals) {ps : List FieldType} {r : Option FieldType} (hps : parseMethodDescriptor y.desc = some ⟨ps, r⟩) (hl : argsL.length = ps.length) (hst : st = argsL.reverse ++ rest)
    (hd : decode c.code pc = .ok (.invokestatic index, 3)) {W : Nat} (hW : (rest.map fun v => v.category).sum ≤ W) (hf : rm.frames + 1 ≤ R.frames) (hlo : W + (maxL + 11) + rm.locals ≤ R.locals) (hc : cells + rm.cells ≤ R.cells) (hs : slots + rm.slots ≤ R.slots)
    (k : ∀ v T' L, Stand p l e R s m args below meth c T' (locs ++ L) (cells + rm.cells) (slots + rm.slots) → Q v T'.heap L → own_Go p e below Po T' (mkF m (pc + 3) Ls (v.toList ++ rest))) : own_Go p e below Po T (mkF m pc Ls st) := by
  subst hst
  obtain ⟨v, vm₁, ⟨T', L', k', n'⟩, -, X', ⟨L, hQ, l1, y1, z1⟩, st⟩ := Jvm.LawKit.callS X hx hown (mvT hZ w1) (mvT hZ w2) (mvT hZ w3) (mvT hZ w4) hy (backOf (W := W) M hZ w4 w3 hf hlo) (g := mkF m pc Ls (argsL.reverse ++ rest)) rfl hml (argsL := argsL) (rest := rest) (lenOf hps hl) rfl (by show 2 * 0 + _ ≤ _; simpa using hW) hd (fun _ _ => ⟨rfl, eT, hc, hs⟩)
  dsimp only [Pt.U, Pt.locs, Pt.cells, Pt.slots] at X' l1 y1 z1 st hQ
  subst l1 y1 z1
  exact own_go st (k v T' L X' hQ)
theorem own_callC (X : Stand p l e R s m args below meth c T locs cells slots) (hx : p.tables.exec = Jvm.exec) (hZ : Z.Warmed39 s.vm) {own : String} (hown : s.vm.findClass own = some m.cls) (eT : T.heap = h) {index : Nat} {y : MethodName} {bytes : ByteArray} {maxL : Nat} {rm : Room} {Q : Option Value → Heap → List Loc → Prop} (hy1 : y.name = "<init>")
    (w1 : (Jvm.Cond.methodLink own index y).before a0 Z = true) (w2 : (Jvm.Cond.instanceMethod y).before a0 Z = true) (w3 : (Jvm.Cond.initialized y.cls).before a0 Z = true) (w4 : (Jvm.Cond.code y bytes maxL none).before a0 Z = true) (hy : y.cls ≠ "java/lang/invoke/MethodHandle" ∧ y.cls ≠ "java/lang/invoke/VarHandle")
    {pc : Nat} {Ls : Array Slot} {a : Addr} {argsL rest st : List Value} (M : own_Met l y bytes maxL none [] rm Z (.ref a :: argsL).toArray h Q) (hml : Ls.size = c.maxLocals) {ps : List FieldType} {r : Option FieldType} (hps : parseMethodDescriptor y.desc = some ⟨ps, r⟩) (hl : argsL.length = ps.length) (hst : st = argsL.reverse ++ .ref a :: rest)
    (hd : decode c.code pc = .ok (.invokespecial index, 3)) {W : Nat} (hW : (rest.map fun v => v.category).sum ≤ W) (hf : rm.frames + 1 ≤ R.frames) (hlo : W + (maxL + 11) + rm.locals ≤ R.locals) (hc : cells + rm.cells ≤ R.cells) (hs : slots + rm.slots ≤ R.slots)
    (k : ∀ v T' L, Stand p l e R s m args below meth c T' (locs ++ L) (cells + rm.cells) (slots + rm.slots) → Q v T'.heap L → own_Go p e below Po T' (mkF m (pc + 3) Ls (v.toList ++ rest))) : own_Go p e below Po T (mkF m pc Ls st) := by
  subst hst
  obtain ⟨v, vm₁, ⟨T', L', k', n'⟩, -, X', ⟨L, hQ, l1, y1, z1⟩, st⟩ := X.specialBack hx (y := y) hy1 hown (mvT hZ w1) (mvT hZ w2) (mvT hZ w4) hy (backOf (W := W) M hZ w4 w3 hf hlo) (g := mkF m pc Ls (argsL.reverse ++ .ref a :: rest)) rfl hml (Steps.refl _) (a := a) (argsL := argsL) (rest := rest) (lenOf hps hl) rfl (by show 2 * 0 + _ ≤ _; simpa using hW) hd (fun _ _ => ⟨rfl, eT, hc, hs⟩)
  dsimp only [Pt.U, Pt.locs, Pt.cells, Pt.slots] at X' l1 y1 z1 st hQ
  subst l1 y1 z1
  exact own_go (fun _ kk => st.trans kk) (k v T' L X' hQ)
theorem own_callV (X : Stand p l e R s m args below meth c T locs cells slots) (hx : p.tables.exec = Jvm.exec) (hZ : Z.Warmed39 s.vm) {own C : String} (hown : s.vm.findClass own = some m.cls) (eT : T.heap = h) {index : Nat} {y : MethodName} {bytes : ByteArray} {maxL : Nat} {ret : Option FieldType} {rm : Room} {Q : Option Value → Heap → List Loc → Prop}
    (w1 : (Jvm.Cond.methodLink own index y).before a0 Z = true) (w2 : (Jvm.Cond.declares y).before a0 Z = true) (w5 : (Jvm.Cond.selects C y y).before a0 Z = true) (w6 : (Jvm.Cond.instanceMethod y).before a0 Z = true) (w3 : (Jvm.Cond.initialized y.cls).before a0 Z = true) (w4 : (Jvm.Cond.code y bytes maxL ret).before a0 Z = true) (hy : y.cls ≠ "java/lang/invoke/MethodHandle" ∧ y.cls ≠ "java/lang/invoke/VarHandle")
    {pc : Nat} {Ls : Array Slot} {a : Addr} (E : Exa Z h a C) {argsL rest st : List Value} (M : own_Met l y bytes maxL ret [] rm Z (.ref a :: argsL).toArray h Q) (hml : Ls.size = c.maxLocals) {ps : List FieldType} {r : Option FieldType} (hps : parseMethodDescriptor y.desc = some ⟨ps, r⟩) (hl : argsL.length = ps.length) (hst : st = argsL.reverse ++ .ref a :: rest)
    (hd : decode c.code pc = .ok (.invokevirtual index, 3)) {W : Nat} (hW : (rest.map fun v => v.category).sum ≤ W) (hf : rm.frames + 1 ≤ R.frames) (hlo : W + (maxL + 11) + rm.locals ≤ R.locals) (hc : cells + rm.cells ≤ R.cells) (hs : slots + rm.slots ≤ R.slots)
    (k : ∀ v T' L, Stand p l e R s m args below meth c T' (locs ++ L) (cells + rm.cells) (slots + rm.slots) → Q v T'.heap L → own_Go p e below Po T' (mkF m (pc + 3) Ls (v.toList ++ rest))) : own_Go p e below Po T (mkF m pc Ls st) := by
  subst hst
  obtain ⟨cq, kq, qa, qb, qc⟩ := isOf hZ eT E
  obtain ⟨v, vm₁, ⟨T', L', k', n'⟩, -, X', ⟨L, hQ, l1, y1, z1⟩, st⟩ := X.virtualBack hx (y := y) (z := y) hown (mvT hZ w1) (mvT hZ w2) (notFace_of_selects (args := #[]) (mvT hZ w5)) (mvT hZ w5) (mvT hZ w6) hy (backOf (W := W) M hZ w4 w3 hf hlo) qa qc (g := mkF m pc Ls (argsL.reverse ++ .ref a :: rest)) rfl hml (Steps.refl _) (argsL := argsL) (rest := rest) (lenOf hps hl) rfl (by show 2 * 0 + _ ≤ _; simpa using hW) hd (fun _ _ => ⟨rfl, eT, hc, hs⟩)
  dsimp only [Pt.U, Pt.locs, Pt.cells, Pt.slots] at X' l1 y1 z1 st hQ
  subst l1 y1 z1
  exact own_go (fun _ kk => st.trans kk) (k v T' L X' hQ)
/-- an array of n places, place j holds f j -/
def own_Ar (Z : State) (h : Heap) (a : Addr) (ty : FieldType) (n : Nat) (f : Nat → Value) : Prop := ∃ cl : Cell, Arr Z h a cl ty ∧ cl.slots.size = n ∧ ∀ j, j < n → cl.slots[j]? = some (f j)
def own_up (f : Nat → Value) (k : Nat) (v : Value) : Nat → Value := fun i => if i = k then v else f i
theorem own_up_eq (f : Nat → Value) (k : Nat) (v : Value) : own_up f k v k = v := if_pos rfl
theorem own_up_ne (f : Nat → Value) {k j : Nat} (v : Value) (q : j ≠ k) : own_up f k v j = f j := if_neg q
variable {a b : Addr} {ty : FieldType} {n sl : Nat} {f : Nat → Value} {v : Value} {wl : List Addr}
theorem own_Ar_lt (F : own_Ar Z h a ty n f) : a < h.size := by
  obtain ⟨_, A, _⟩ := F
  exact A.lt
theorem own_Ar_ext (F : own_Ar Z h a ty n f) (E : Ext h h') : own_Ar Z h' a ty n f := by
  obtain ⟨cl, A, r⟩ := F
  exact ⟨cl, A.ext E, r⟩
theorem own_Ar_other (F : own_Ar Z h b ty n f) (W : Wr h h' a sl v) (q : b ≠ a) : own_Ar Z h' b ty n f := by
  obtain ⟨cl, A, r⟩ := F
  exact ⟨cl, A.other W q, r⟩
theorem own_Ar_keep (F : own_Ar Z h a ty n f) (K : Keep h h' wl) (q : a ∉ wl) : own_Ar Z h' a ty n f := by
  obtain ⟨cl, A, r⟩ := F
  exact ⟨cl, ⟨K.2.1 _ _ A.1 q, A.2⟩, r⟩
theorem own_Ar_new {cA : ClassId} {z : Int32} (A : Arr Z h a (newA cA ty z) ty) (q : z.toNatClampNeg = n) : own_Ar Z h a ty n (fun _ => defaultValue ty) := by
  refine ⟨_, A, (sz_new cA ty z).trans q, fun j hj => ?_⟩
  simp [newA, q, hj]
theorem own_Ar_set (F : own_Ar Z h a ty n f) (W : Wr h h' a sl v) : own_Ar Z h' a ty n (own_up f sl v) := by
  obtain ⟨cl, A, r, g⟩ := F
  refine ⟨_, A.same W, (sz_set cl sl v).trans r, fun j hj => ?_⟩
  show (cl.slots.setIfInBounds sl v)[j]? = some (if j = sl then v else f j)
  rw [Array.getElem?_setIfInBounds]
  by_cases q : sl = j
  · subst q
    simp [r, hj]
  · rw [if_neg q, if_neg (Ne.symm q)]
    exact g j hj
theorem own_Ar_eq {g : Nat → Value} (F : own_Ar Z h a ty n f) (q : ∀ i, i < n → f i = g i) : own_Ar Z h a ty n g := by
  obtain ⟨cl, A, r, w⟩ := F
  exact ⟨cl, A, r, fun j hj => (w j hj).trans (congrArg some (q j hj))⟩
theorem own_idx {j : Int32} {k n : Nat} (hj : j.toInt = (k : Int)) (hk : k < n) : j.toNatClampNeg = k ∧ ¬ (j < 0 ∨ n ≤ j.toNatClampNeg) := by
  have h1 : j.toNatClampNeg = k := by
    show j.toInt.toNat = k
    rw [hj]; rfl
  refine ⟨h1, ?_⟩
  have h0 : (0 : Int32).toInt = 0 := rfl
  rw [h1, Int32.lt_iff_toInt_lt, hj, h0]
  omega
theorem own_iaload (X : Stand p l e R s m args below meth c T locs cells slots) (hx : p.tables.exec = Jvm.exec) (hZ : Z.Warmed39 s.vm) (eT : T.heap = h) (A : own_Ar Z h a .int n f) {j : Int32} (k : Nat) (hj : j.toInt = (k : Int)) (hk : k < n) {pc : Nat} {Ls : Array Slot} {st : List Value} (hd : decode c.code pc = .ok (.iaload, 1))
    (go : own_Go p e below Po T (mkF m (pc + 1) Ls (f k :: st))) : own_Go p e below Po T (mkF m pc Ls (.int j :: .ref a :: st)) := by
  obtain ⟨cl, A, r, w⟩ := A
  obtain ⟨q1, q2⟩ := own_idx hj hk
  exact own_go (fun _ kk => X.iaload hx (j := j) (v := f k) (by rw [eT]; exact A.1) (State.isArrayOf_alike hZ.alike A.2.1) A.2.2 (by rw [r]; exact q2) (by rw [q1]; exact w k hk) (g := mkF m pc Ls (.int j :: .ref a :: st)) rfl rfl hd _ kk) go
theorem own_laload (X : Stand p l e R s m args below meth c T locs cells slots) (hx : p.tables.exec = Jvm.exec) (hZ : Z.Warmed39 s.vm) (eT : T.heap = h) (A : own_Ar Z h a .long n f) {j : Int32} (k : Nat) (hj : j.toInt = (k : Int)) (hk : k < n) {pc : Nat} {Ls : Array Slot} {st : List Value} (hd : decode c.code pc = .ok (.laload, 1))
    (go : own_Go p e below Po T (mkF m (pc + 1) Ls (f k :: st))) : own_Go p e below Po T (mkF m pc Ls (.int j :: .ref a :: st)) := by
  obtain ⟨cl, A, r, w⟩ := A
  obtain ⟨q1, q2⟩ := own_idx hj hk
  exact own_go (fun _ kk => X.laload hx (j := j) (v := f k) (by rw [eT]; exact A.1) (State.isArrayOf_alike hZ.alike A.2.1) A.2.2 (by rw [r]; exact q2) (by rw [q1]; exact w k hk) (g := mkF m pc Ls (.int j :: .ref a :: st)) rfl rfl hd _ kk) go
theorem own_baload (X : Stand p l e R s m args below meth c T locs cells slots) (hx : p.tables.exec = Jvm.exec) (hZ : Z.Warmed39 s.vm) (eT : T.heap = h) (A : own_Ar Z h a .byte n f) {j : Int32} (k : Nat) (hj : j.toInt = (k : Int)) (hk : k < n) {pc : Nat} {Ls : Array Slot} {st : List Value} (hd : decode c.code pc = .ok (.baload, 1))
    (go : own_Go p e below Po T (mkF m (pc + 1) Ls (f k :: st))) : own_Go p e below Po T (mkF m pc Ls (.int j :: .ref a :: st)) := by
  obtain ⟨cl, A, r, w⟩ := A
  obtain ⟨q1, q2⟩ := own_idx hj hk
  exact own_go (fun _ kk => X.baloadBytes hx (j := j) (v := f k) (by rw [eT]; exact A.1) (State.isArrayOf_alike hZ.alike A.2.1) A.2.2 (by rw [r]; exact q2) (by rw [q1]; exact w k hk) (g := mkF m pc Ls (.int j :: .ref a :: st)) rfl rfl hd _ kk) go
theorem own_aaload (X : Stand p l e R s m args below meth c T locs cells slots) (hx : p.tables.exec = Jvm.exec) (hZ : Z.Warmed39 s.vm) (eT : T.heap = h) (A : own_Ar Z h a ty n f) (hty : ty.isReference = true) {j : Int32} (k : Nat) (hj : j.toInt = (k : Int)) (hk : k < n) {pc : Nat} {Ls : Array Slot} {st : List Value} (hd : decode c.code pc = .ok (.aaload, 1))
    (go : own_Go p e below Po T (mkF m (pc + 1) Ls (f k :: st))) : own_Go p e below Po T (mkF m pc Ls (.int j :: .ref a :: st)) := by
  obtain ⟨cl, A, r, w⟩ := A
  obtain ⟨q1, q2⟩ := own_idx hj hk
  exact own_go (fun _ kk => X.aaload hx (j := j) (v := f k) (by rw [eT]; exact A.1) (State.isArrayOf_alike hZ.alike A.2.1) hty A.2.2 (by rw [r]; exact q2) (by rw [q1]; exact w k hk) (g := mkF m pc Ls (.int j :: .ref a :: st)) rfl rfl hd _ kk) go
theorem own_len (X : Stand p l e R s m args below meth c T locs cells slots) (hx : p.tables.exec = Jvm.exec) (hZ : Z.Warmed39 s.vm) (eT : T.heap = h) (A : own_Ar Z h a ty n f) {pc : Nat} {Ls : Array Slot} {st : List Value} (hd : decode c.code pc = .ok (.arraylength, 1)) (z : Int32) (hz : n.toInt32 = z)
    (go : own_Go p e below Po T (mkF m (pc + 1) Ls (.int z :: st))) : own_Go p e below Po T (mkF m pc Ls (.ref a :: st)) := by
  obtain ⟨cl, A, r, w⟩ := A
  refine own_go (fun _ kk => X.arraylength hx (by rw [eT]; exact A.1) (State.isArrayOf_alike hZ.alike A.2.1) (g := mkF m pc Ls (.ref a :: st)) rfl rfl hd _ kk) ?_
  rw [r, hz]
  exact go
theorem own_iastore (X : Stand p l e R s m args below meth c T locs cells slots) (hx : p.tables.exec = Jvm.exec) (hZ : Z.Warmed39 s.vm) (eT : T.heap = h) (A : own_Ar Z h a .int n f) {j x : Int32} (k : Nat) (hj : j.toInt = (k : Int)) (hk : k < n) {pc : Nat} {Ls : Array Slot} {st : List Value} (hd : decode c.code pc = .ok (.iastore, 1))
    (go : ∀ T' h', Stand p l e R s m args below meth c T' (locs ++ [⟨a, k⟩]) cells slots → T'.heap = h' → Wr h h' a k (.int x) → own_Go p e below Po T' (mkF m (pc + 1) Ls st)) : own_Go p e below Po T (mkF m pc Ls (.int x :: .int j :: .ref a :: st)) := by
  obtain ⟨cl, A, r, w⟩ := A
  obtain ⟨q1, q2⟩ := own_idx hj hk
  obtain ⟨T', h', X', e', W, st'⟩ := stI X hx hZ eT A (j := j) (x := x) (by rw [r]; exact q2) (g := mkF m pc Ls (.int x :: .int j :: .ref a :: st)) rfl rfl hd
  rw [q1] at X' W
  exact own_go st' (go T' h' X' e' W)
theorem own_lastore (X : Stand p l e R s m args below meth c T locs cells slots) (hx : p.tables.exec = Jvm.exec) (hZ : Z.Warmed39 s.vm) (eT : T.heap = h) (A : own_Ar Z h a .long n f) {j : Int32} {x : Int64} (k : Nat) (hj : j.toInt = (k : Int)) (hk : k < n) {pc : Nat} {Ls : Array Slot} {st : List Value} (hd : decode c.code pc = .ok (.lastore, 1))
    (go : ∀ T' h', Stand p l e R s m args below meth c T' (locs ++ [⟨a, k⟩]) cells slots → T'.heap = h' → Wr h h' a k (.long x) → own_Go p e below Po T' (mkF m (pc + 1) Ls st)) : own_Go p e below Po T (mkF m pc Ls (.long x :: .int j :: .ref a :: st)) := by
  obtain ⟨cl, A, r, w⟩ := A
  obtain ⟨q1, q2⟩ := own_idx hj hk
  obtain ⟨T', h', X', e', W, st'⟩ := stJ X hx hZ eT A (j := j) (x := x) (by rw [r]; exact q2) (g := mkF m pc Ls (.long x :: .int j :: .ref a :: st)) rfl rfl hd
  rw [q1] at X' W
  exact own_go st' (go T' h' X' e' W)
theorem own_bastore (X : Stand p l e R s m args below meth c T locs cells slots) (hx : p.tables.exec = Jvm.exec) (hZ : Z.Warmed39 s.vm) (eT : T.heap = h) (A : own_Ar Z h a .byte n f) {j x : Int32} (k : Nat) (hj : j.toInt = (k : Int)) (hk : k < n) {pc : Nat} {Ls : Array Slot} {st : List Value} (hd : decode c.code pc = .ok (.bastore, 1))
    (go : ∀ T' h', Stand p l e R s m args below meth c T' (locs ++ [⟨a, k⟩]) cells slots → T'.heap = h' → Wr h h' a k (.int x.toInt8.toInt32) → own_Go p e below Po T' (mkF m (pc + 1) Ls st)) : own_Go p e below Po T (mkF m pc Ls (.int x :: .int j :: .ref a :: st)) := by
  obtain ⟨cl, A, r, w⟩ := A
  obtain ⟨q1, q2⟩ := own_idx hj hk
  obtain ⟨T', h', X', e', W, st'⟩ := stB X hx hZ eT A (j := j) (x := x) (by rw [r]; exact q2) (g := mkF m pc Ls (.int x :: .int j :: .ref a :: st)) rfl rfl hd
  rw [q1] at X' W
  exact own_go st' (go T' h' X' e' W)
theorem own_newP (X : Stand p l e R s m args below meth c T locs cells slots) (hx : p.tables.exec = Jvm.exec) (hZ : Z.Warmed39 s.vm) (eT : T.heap = h) {aty : ArrayType} (w : (Jvm.Cond.arrayClass (newarray.typeOf aty)).before a0 Z = true) {z : Int32} (n : Nat) (hz : z.toNatClampNeg = n) (hz0 : ¬ z < 0) (hb8 : n * 8 ≤ 536870912) (hc : cells + 1 ≤ R.cells) (hs : slots + n ≤ R.slots) {pc : Nat} {Ls : Array Slot} {st : List Value} (hd : decode c.code pc = .ok (.newarray aty, 2))
    (go : ∀ T' h' b, b = h.size → Stand p l e R s m args below meth c T' locs (cells + 1) (slots + n) → T'.heap = h' → Ext h h' → own_Ar Z h' b (newarray.typeOf aty) n (fun _ => defaultValue (newarray.typeOf aty)) → own_Go p e below Po T' (mkF m (pc + 2) Ls (.ref b :: st))) : own_Go p e below Po T (mkF m pc Ls (.int z :: st)) := by
  obtain ⟨T', h', cA, X', e', E, A, st'⟩ := newP X hx hZ w eT (g := mkF m pc Ls (.int z :: st)) rfl hd rfl hz0 (cap := n) (Nat.le_of_eq hz) hb8 hc hs
  exact own_go st' (go T' h' _ rfl X' e' E (own_Ar_new A hz))
end Own
section OwnI
variable {Z : State} {h h' : Heap} {a b : Addr} {ty : FieldType} {n sl : Nat} {f : Nat → Int32} {v : Value} {wl : List Addr} {x : Int32}
/-- an array of ints (bytes): place j holds f j -/
def own_Ai (Z : State) (h : Heap) (a : Addr) (ty : FieldType) (n : Nat) (f : Nat → Int32) : Prop := own_Ar Z h a ty n (fun i => .int (f i))
def own_upi (f : Nat → Int32) (k : Nat) (x : Int32) : Nat → Int32 := fun i => if i = k then x else f i
theorem own_Ai_set (F : own_Ai Z h a ty n f) (W : Wr h h' a sl (.int x)) : own_Ai Z h' a ty n (own_upi f sl x) :=
  own_Ar_eq (own_Ar_set F W) (fun i _ => by unfold own_up own_upi; split <;> rfl)
theorem own_Ai_eq {g : Nat → Int32} (F : own_Ai Z h a ty n f) (q : ∀ i, i < n → f i = g i) : own_Ai Z h a ty n g := own_Ar_eq F fun i hi => by rw [q i hi]
end OwnI
section OwnO
variable {p : Program} {l : Launch} {e : Env} {R : Room} {s : State} {m : MethodId} {args : Array Value} {below : List Frame} {meth : Method} {c : Code} {T : State} {locs : List Loc} {cells slots : Nat} {Z : State} {a0 : Array Value} {h h' : Heap} {Po : Outcome → State → Prop} {a b : Addr} {n sl : Nat} {v : Value} {wl : List Addr} {C : String} {fs : List (String × String × String)} {g : Nat → Value}
/-- the fields of a class, as the sheet lays them -/
def own_Lds (Z : State) (a0 : Array Value) (C : String) : List (String × String × String) → Prop
  | [] => True
  | x :: r => Laid Z a0 C x.1 x.2.1 x.2.2 ∧ own_Lds Z a0 C r
def own_okFs (fs : List (String × String × String)) : Bool := fs.all (fun x => (parseFieldDescriptor x.2.2).isSome) && decide ((fs.map fun x => x.2.1).Nodup)
/-- an object of the class C whose i-th field (of the list fs) holds g i -/
def own_Ob (Z : State) (h : Heap) (a : Addr) (C : String) (fs : List (String × String × String)) (g : Nat → Value) : Prop := Exa Z h a C ∧ ∀ i x, fs[i]? = some x → Fld Z h a x.1 x.2.1 x.2.2 (g i)
theorem own_Lds_at : ∀ {fs : List (String × String × String)} {i : Nat} {x : String × String × String}, own_Lds Z a0 C fs → fs[i]? = some x → Laid Z a0 C x.1 x.2.1 x.2.2
  | [], _, _, _, q => by simp at q
  | y :: r, 0, x, H, q => by
    obtain rfl : y = x := by simpa using q
    exact H.1
  | y :: r, i + 1, x, H, q => own_Lds_at (fs := r) (i := i) H.2 (by simpa using q)
theorem own_ok_desc (ok : own_okFs fs = true) {i : Nat} {x : String × String × String} (q : fs[i]? = some x) : ∃ t, parseFieldDescriptor x.2.2 = some t := by
  have h := (Bool.and_eq_true _ _ ▸ ok : _ ∧ _).1
  exact Option.isSome_iff_exists.mp (List.all_eq_true.mp h x (List.mem_of_getElem? q))
theorem own_ok_ne (ok : own_okFs fs = true) {i j : Nat} {x y : String × String × String} (qx : fs[i]? = some x) (qy : fs[j]? = some y) (hij : i ≠ j) : x.2.1 ≠ y.2.1 := by
  have h := of_decide_eq_true (Bool.and_eq_true _ _ ▸ ok : _ ∧ _).2
  intro e
  have h1 : (fs.map fun x => x.2.1)[i]? = some x.2.1 := by simp [qx]
  have h2 : (fs.map fun x => x.2.1)[j]? = some x.2.1 := by simp [qy, e]
  obtain ⟨l1, e1⟩ := List.getElem?_eq_some_iff.mp h1
  obtain ⟨l2, e2⟩ := List.getElem?_eq_some_iff.mp h2
  exact hij ((List.getElem_inj h).mp (e1.trans e2.symm))
theorem own_Ob_lt (B : own_Ob Z h a C fs g) : a < h.size := B.1.lt
theorem own_Ob_fld (B : own_Ob Z h a C fs g) (i : Nat) {O nm d : String} (q : fs[i]? = some (O, nm, d)) : Fld Z h a O nm d (g i) := B.2 i _ q
theorem own_Ob_ext (B : own_Ob Z h a C fs g) (E : Ext h h') : own_Ob Z h' a C fs g := ⟨B.1.ext E, fun i x q => (B.2 i x q).ext E⟩
theorem own_Ob_other (B : own_Ob Z h b C fs g) (W : Wr h h' a sl v) (q : b ≠ a) : own_Ob Z h' b C fs g := ⟨B.1.wr W, fun i x r => (B.2 i x r).other W (Or.inl q)⟩
theorem own_Ob_keep (B : own_Ob Z h a C fs g) (K : Keep h h' wl) (q : a ∉ wl) : own_Ob Z h' a C fs g := ⟨B.1.keep K, fun i x r => (B.2 i x r).keep K q⟩
theorem own_Ob_put (B : own_Ob Z h a C fs g) (ok : own_okFs fs = true) (Ld : own_Lds Z a0 C fs) (i : Nat) {O nm d : String} (q : fs[i]? = some (O, nm, d)) (W : Wr h h' a (Jvm.RoadKit.slotOf Z O nm d) v) : own_Ob Z h' a C fs (own_up g i v) := by
  refine ⟨B.1.wr W, fun j x r => ?_⟩
  obtain ⟨xO, xn, xd⟩ := x
  have Fj : Fld Z h a xO xn xd (g j) := B.2 j _ r
  by_cases hj : j = i
  · subst hj
    have q2 := Option.some.inj (r.symm.trans q)
    have e1 : xO = O := congrArg (fun z => z.1) q2
    have e2 : xn = nm := congrArg (fun z => z.2.1) q2
    have e3 : xd = d := congrArg (fun z => z.2.2) q2
    subst e1 e2 e3
    rw [own_up_eq]
    exact Fj.same W
  · rw [own_up_ne _ _ hj]
    obtain ⟨t, ht⟩ := own_ok_desc ok r
    obtain ⟨t', ht'⟩ := own_ok_desc ok q
    have L1 : Laid Z a0 C xO xn xd := own_Lds_at (x := (xO, xn, xd)) Ld r
    have L2 : Laid Z a0 C O nm d := own_Lds_at (x := (O, nm, d)) Ld q
    have hne : xn ≠ nm := own_ok_ne (x := (xO, xn, xd)) (y := (O, nm, d)) ok r q hj
    have hsl : Jvm.RoadKit.slotOf Z xO xn xd ≠ Jvm.RoadKit.slotOf Z O nm d := slot_ne L1 L2 hne ht ht'
    exact Fj.other W (Or.inr hsl)
theorem own_Ob_eq {g' : Nat → Value} (B : own_Ob Z h a C fs g) (q : ∀ i, i < fs.length → g i = g' i) : own_Ob Z h a C fs g' :=
  ⟨B.1, fun i x r => q i (List.getElem?_eq_some_iff.mp r).1 ▸ B.2 i x r⟩
theorem own_getF (X : Stand p l e R s m args below meth c T locs cells slots) (hx : p.tables.exec = Jvm.exec) (hZ : Z.Warmed39 s.vm) {own R0 O nm d host : String} {index : Nat} (hown : s.vm.findClass own = some m.cls) (eT : T.heap = h) (w : (Jvm.Cond.fieldLink own index R0 nm d).before a0 Z = true ∨ (Jvm.Cond.fieldLinkNest own index R0 nm d host).before a0 Z = true) (via : Via Z R0 O nm d)
    (F : Fld Z h a O nm d v) {pc : Nat} {Ls : Array Slot} {st : List Value} (hd : decode c.code pc = .ok (.getfield index, 3))
    (go : ∀ T', Stand p l e R s m args below meth c T' locs cells slots → T'.heap = h → own_Go p e below Po T' (mkF m (pc + 3) Ls (v :: st))) : own_Go p e below Po T (mkF m pc Ls (.ref a :: st)) := by
  obtain ⟨T', X', e', st'⟩ := getF X hx hZ hown w via eT F (g := mkF m pc Ls (.ref a :: st)) rfl rfl hd
  exact own_go st' (go T' X' e')
theorem own_getS (X : Stand p l e R s m args below meth c T locs cells slots) (hx : p.tables.exec = Jvm.exec) (hZ : Z.Warmed39 s.vm) {own R0 O nm d host : String} {index : Nat} (hown : s.vm.findClass own = some m.cls) (eT : T.heap = h) (w : (Jvm.Cond.fieldLink own index R0 nm d).before a0 Z = true ∨ (Jvm.Cond.fieldLinkNest own index R0 nm d host).before a0 Z = true) (via : Via Z R0 O nm d)
    (F : Sta Z h O nm d v) {pc : Nat} {Ls : Array Slot} {st : List Value} (hd : decode c.code pc = .ok (.getstatic index, 3))
    (go : ∀ T', Stand p l e R s m args below meth c T' locs cells slots → T'.heap = h → own_Go p e below Po T' (mkF m (pc + 3) Ls (v :: st))) : own_Go p e below Po T (mkF m pc Ls st) := by
  obtain ⟨T', X', e', st'⟩ := getS2 X hx hZ hown w via eT F (g := mkF m pc Ls st) rfl hd
  exact own_go st' (go T' X' e')
theorem own_putF (X : Stand p l e R s m args below meth c T locs cells slots) (hx : p.tables.exec = Jvm.exec) (hZ : Z.Warmed39 s.vm) {own R0 O nm d host : String} {index kk : Nat} {ty : FieldType} (hown : s.vm.findClass own = some m.cls) (eT : T.heap = h) (w : (Jvm.Cond.fieldLink own index R0 nm d).before a0 Z = true ∨ (Jvm.Cond.fieldLinkNest own index R0 nm d host).before a0 Z = true) (via : Via Z R0 O nm d)
    {old : Value} (F : Fld Z h a O nm d old) (E : Exa Z h a C) (L : (Jvm.Cond.lays C O nm d).before a0 Z = true ∨ ((Jvm.Cond.laysFinal C O nm d).before a0 Z = true ∧ own = O ∧ meth.name = "<init>")) (wi : (Jvm.Cond.instantiable C kk).before a0 Z = true) (hty : parseFieldDescriptor d = some ty) (hn : narrow ty v = v) (hf : fits ty v = true)
    {pc : Nat} {Ls : Array Slot} {st : List Value} (hd : decode c.code pc = .ok (.putfield index, 3))
    (go : ∀ T' h', Stand p l e R s m args below meth c T' (locs ++ [⟨a, Jvm.RoadKit.slotOf Z O nm d⟩]) cells slots → T'.heap = h' → Wr h h' a (Jvm.RoadKit.slotOf Z O nm d) v → own_Go p e below Po T' (mkF m (pc + 3) Ls st)) : own_Go p e below Po T (mkF m pc Ls (v :: .ref a :: st)) := by
  obtain ⟨T', h', X', e', W, st'⟩ := putF X hx hZ hown w via eT F E L wi hty hn hf (g := mkF m pc Ls (v :: .ref a :: st)) rfl rfl hd
  exact own_go st' (go T' h' X' e' W)
theorem own_putFN (X : Stand p l e R s m args below meth c T locs cells slots) (hx : p.tables.exec = Jvm.exec) (hZ : Z.Warmed39 s.vm) {own R0 O nm d : String} {index kk : Nat} {ty : FieldType} (hown : s.vm.findClass own = some m.cls) (eT : T.heap = h) (w : (Jvm.Cond.fieldLink own index R0 nm d).before a0 Z = true) (via : Via Z R0 O nm d)
    {old v' : Value} (F : Fld Z h a O nm d old) (E : Exa Z h a C) (L : (Jvm.Cond.lays C O nm d).before a0 Z = true ∨ ((Jvm.Cond.laysFinal C O nm d).before a0 Z = true ∧ own = O ∧ meth.name = "<init>")) (wi : (Jvm.Cond.instantiable C kk).before a0 Z = true) (hty : parseFieldDescriptor d = some ty) (hn : narrow ty v = v') (hf : fits ty v' = true)
    {pc : Nat} {Ls : Array Slot} {st : List Value} (hd : decode c.code pc = .ok (.putfield index, 3))
    (go : ∀ T' h', Stand p l e R s m args below meth c T' (locs ++ [⟨a, Jvm.RoadKit.slotOf Z O nm d⟩]) cells slots → T'.heap = h' → Wr h h' a (Jvm.RoadKit.slotOf Z O nm d) v' → own_Go p e below Po T' (mkF m (pc + 3) Ls st)) : own_Go p e below Po T (mkF m pc Ls (v :: .ref a :: st)) := by
  obtain ⟨T', h', X', e', W, st'⟩ := putFN X hx hZ hown w via eT F E L wi hty hn hf (g := mkF m pc Ls (v :: .ref a :: st)) rfl rfl hd
  exact own_go st' (go T' h' X' e' W)
/-- the fields' first values -/
def own_Dfs : List (String × String × String) → List Value → Prop
  | [], [] => True
  | x :: r, v :: q => (∃ t, parseFieldDescriptor x.2.2 = some t ∧ v = defaultValue t) ∧ own_Dfs r q
  | _, _ => False
theorem own_Dfs_at : ∀ {fs : List (String × String × String)} {gl : List Value} {i : Nat} {x : String × String × String}, own_Dfs fs gl → fs[i]? = some x → ∃ t, parseFieldDescriptor x.2.2 = some t ∧ gl.getD i .null = defaultValue t
  | [], _, _, _, _, q => by simp at q
  | _ :: _, [], _, _, H, _ => H.elim
  | y :: r, v :: q, 0, x, H, e => by
    obtain rfl : y = x := by simpa using e
    exact H.1
  | y :: r, v :: q, i + 1, x, H, e => own_Dfs_at (fs := r) (gl := q) (i := i) H.2 (by simpa using e)
def own_gl (gl : List Value) : Nat → Value := fun i => gl.getD i .null
theorem own_newO (X : Stand p l e R s m args below meth c T locs cells slots) (hx : p.tables.exec = Jvm.exec) (hZ : Z.Warmed39 s.vm) {own : String} {index kk : Nat} (hown : s.vm.findClass own = some m.cls) (eT : T.heap = h) (w : (Jvm.Cond.classLink own index C).before a0 Z = true) (wi : (Jvm.Cond.instantiable C kk).before a0 Z = true) (wz : (Jvm.Cond.initialized C).before a0 Z = true)
    (Ld : own_Lds Z a0 C fs) {gl : List Value} (Df : own_Dfs fs gl) (hc : cells + 1 ≤ R.cells) (hs : slots + kk ≤ R.slots) {pc : Nat} {Ls : Array Slot} {st : List Value} (hd : decode c.code pc = .ok (.new index, 3))
    (go : ∀ T' h' b, b = h.size → Stand p l e R s m args below meth c T' locs (cells + 1) (slots + kk) → T'.heap = h' → Ext h h' → own_Ob Z h' b C fs (own_gl gl) → own_Go p e below Po T' (mkF m (pc + 3) Ls (.ref b :: st))) : own_Go p e below Po T (mkF m pc Ls st) := by
  obtain ⟨T', h', X', e', E, A, D, -, st'⟩ := newO X hx hZ hown w wi wz eT (g := mkF m pc Ls st) rfl hd hc hs
  refine own_go st' (go T' h' _ rfl X' e' E ⟨A, fun i x q => ?_⟩)
  obtain ⟨t, ht, hgt⟩ := own_Dfs_at Df q
  show Fld Z h' _ x.1 x.2.1 x.2.2 (gl.getD i .null)
  rw [hgt]
  exact D (own_Lds_at Ld q) ht
theorem own_initO (X : Stand p l e R s m args below meth c T locs cells slots) (hx : p.tables.exec = Jvm.exec) (hZ : Z.Warmed39 s.vm) {own : String} {index : Nat} (hown : s.vm.findClass own = some m.cls) (eT : T.heap = h) (w1 : (Jvm.Cond.methodLink own index Lib.objectInit).before a0 Z = true) (w2 : (Jvm.Cond.instanceMethod Lib.objectInit).before a0 Z = true)
    (w3 : (Jvm.Cond.code Lib.objectInit object_method_1_code 1 none).before a0 Z = true) {pc : Nat} {Ls : Array Slot} {st : List Value} (hml : Ls.size = c.maxLocals) (hd : decode c.code pc = .ok (.invokespecial index, 3)) (hf : 1 ≤ R.frames) {W : Nat} (hW : (st.map fun v => v.category).sum ≤ W) (hl : W + 12 ≤ R.locals)
    (go : ∀ T', Stand p l e R s m args below meth c T' locs cells slots → T'.heap = h → own_Go p e below Po T' (mkF m (pc + 3) Ls st)) : own_Go p e below Po T (mkF m pc Ls (.ref a :: st)) := by
  obtain ⟨T', X', e', st'⟩ := initO X hx hZ hown w1 w2 w3 eT (g := mkF m pc Ls (.ref a :: st)) rfl hml rfl hd hf (W := W) (by show 2 * 0 + _ ≤ _; simpa using hW) hl
  exact own_go st' (go T' X' e')
end OwnO
section OwnR
variable {p : Program} {l : Launch} {e : Env} {R : Room} {s : State} {m : MethodId} {args : Array Value} {below : List Frame} {meth : Method} {c : Code} {T : State} {locs : List Loc} {cells slots : Nat} {Z : State} {a0 : Array Value} {h h' : Heap} {Po : Outcome → State → Prop}
theorem own_ready {vm' : Vm} (hZ : Z.Warmed39 vm') {d i : Nat} {r : Resolved} {k : Class} (hk : Z.vm.classes[d]? = some k) (hr : k.resolved[i]? = some (some r)) : ∃ k', vm'.classes[d]? = some k' ∧ k'.resolved[i]? = some (some r) := by
  obtain ⟨k', h1, h2, -, h3, -⟩ := hZ.2.2.2 d k hk
  rcases h3 i with q | ⟨q, -⟩
  · exact ⟨k', h1, q.trans hr⟩
  · rw [hr] at q
    cases q
/-- a constructor by its contract, through a pool entry that is resolved already -/
theorem own_callR (X : Stand p l e R s m args below meth c T locs cells slots) (hx : p.tables.exec = Jvm.exec) (hZ : Z.Warmed39 s.vm) {own : String} (hown : s.vm.findClass own = some m.cls) (eT : T.heap = h) {index : Nat} {y : MethodName} {bytes : ByteArray} {maxL : Nat} {rm : Room} {Q : Option Value → Heap → List Loc → Prop} (hy1 : y.name = "<init>")
    (w1 : (Jvm.Cond.methodRef own index y).before a0 Z = true) (w2 : (Jvm.Cond.instanceMethod y).before a0 Z = true) (w3 : (Jvm.Cond.initialized y.cls).before a0 Z = true) (w4 : (Jvm.Cond.code y bytes maxL none).before a0 Z = true) (hy : y.cls ≠ "java/lang/invoke/MethodHandle" ∧ y.cls ≠ "java/lang/invoke/VarHandle")
    {pc : Nat} {Ls : Array Slot} {a : Addr} {argsL rest st : List Value} (M : own_Met l y bytes maxL none [] rm Z (.ref a :: argsL).toArray h Q) (hml : Ls.size = c.maxLocals) {ps : List FieldType} {r : Option FieldType} (hps : parseMethodDescriptor y.desc = some ⟨ps, r⟩) (hl : argsL.length = ps.length) (hst : st = argsL.reverse ++ .ref a :: rest)
    (hd : decode c.code pc = .ok (.invokespecial index, 3)) {W : Nat} (hW : (rest.map fun v => v.category).sum ≤ W) (hf : rm.frames + 1 ≤ R.frames) (hlo : W + (maxL + 11) + rm.locals ≤ R.locals) (hc : cells + rm.cells ≤ R.cells) (hs : slots + rm.slots ≤ R.slots)
    (k : ∀ v T' L, Stand p l e R s m args below meth c T' (locs ++ L) (cells + rm.cells) (slots + rm.slots) → Q v T'.heap L → own_Go p e below Po T' (mkF m (pc + 3) Ls (v.toList ++ rest))) : own_Go p e below Po T (mkF m pc Ls st) := by
  subst hst
  have hZT : Z.Warmed39 T.vm := State.Warmed39.trans hZ X.warmed.wide
  have hownZ : Z.vm.findClass own = some m.cls := by rw [← hZ.alike.findClass]; exact hown
  obtain ⟨obj, methO, hnO, hmO, hstO, habO⟩ := Cond.instanceMethod_spec w2
  obtain ⟨methO', cO, hmO', hcO, hbO, hlO, -, hlockO, -, hsigO⟩ := Cond.code_spec hnO w4
  cases hmO.symm.trans hmO'
  obtain ⟨mF, c', hf1, ⟨kr, hkr, hrr⟩, hfind, ⟨kc, cf, ci, nt, hkc, hcf, hcp, ⟨kq, hkq, hrq⟩⟩⟩ := Cond.methodRef_named e hownZ w1
  cases (State.methodFound?_of_named hnO hy).symm.trans hf1
  cases (findClass_of_methodNamed hnO).symm.trans hfind
  obtain ⟨kO, hkO, hnameO⟩ := className_of_methodNamed hnO
  obtain ⟨hnameMO, hdescO⟩ := name_of_methodNamed hnO hmO
  obtain ⟨kr', hkr', hrr'⟩ := own_ready hZT hkr hrr
  obtain ⟨kq', hkq', hrq'⟩ := own_ready hZT hkq hrq
  obtain ⟨kc', hkc', hec⟩ := hZT.alike.2.2 _ _ hkc
  obtain ⟨kO', hkO', heO⟩ := hZT.alike.2.2 _ _ hkO
  have hmT : T.vm.method? obj = some methO := by rw [hZT.alike.method?]; exact hmO
  have hfoundT : lookupSpecial T.vm obj.cls "<init>" methO.desc = .method obj := by
    rw [hZT.alike.lookupSpecial, hdescO, ← hy1]; exact lookupSpecial_of_named hnO hmO hstO
  have hnS : s.methodNamed? y = some obj := by
    have q := State.methodNamed?_setVm (s := Z) hZ.alike y
    rw [hnO] at q
    exact q
  have hstep : ∀ target, (∀ acts, Steps p.tables e below (doInvoke e (T.setTop (mkF m pc Ls rest)) acts obj (.ref a :: argsL).toArray).1 target) → Steps p.tables e below (T.setTop (mkF m pc Ls (argsL.reverse ++ .ref a :: rest))) target := by
    intro target hrest
    jvm_step X.here [hx, hd, invokespecial.wp_init (e := e) (s := T) (k := kO') (meth := methO) (m := obj) (a := a) (args := argsL) (rest := rest) (f := mkF m pc Ls (argsL.reverse ++ .ref a :: rest)) X.here.top ⟨kc', cf, ci, nt, hkc', by rw [hec]; exact hcf, hcp, ⟨kq', hkq', hrq'⟩⟩ ⟨kr', hkr', hrr'⟩ hkO' hmT (by rw [hnameMO]; exact hy1) hstO habO hfoundT (lenOf hps hl _ hsigO) rfl]
    exact hrest
  obtain ⟨v, ⟨T', L', k', n'⟩, X', ⟨L, hQ, l1, y1, z1⟩, st⟩ := (backOf (W := W) M hZ w4 w3 hf hlo) m meth c ⟨T, locs, cells, slots⟩ (mkF m pc Ls rest) (.invokespecial index) obj (.ref a :: argsL).toArray X rfl hml hd (by show 2 * 0 + _ ≤ _; simpa using hW) (X.named hnS) ⟨rfl, eT, hc, hs⟩
  dsimp only [Pt.U, Pt.locs, Pt.cells, Pt.slots] at X' l1 y1 z1 st hQ
  subst l1 y1 z1
  exact own_go (fun _ kk => (hstep _ fun acts => by rw [doInvoke_state]; exact Steps.refl _).trans (st.trans kk)) (k v T' L X' hQ)
end OwnR
theorem pn_0 : plainName "org/kusuridana/CsvLinePointPinLaw" = true := by first | (simp [plainName, overriddenIn]; done) | decide +kernel
theorem pd_0 : parseMethodDescriptor "(IIIJJI)Z" = some ⟨[.int, .int, .int, .long, .long, .int], some .boolean⟩ := by decide +kernel
theorem ef_0 (m : MethodId) (x0 : Int32) (x1 : Int32) (x2 : Int32) (x3 : Int64) (x4 : Int64) (x5 : Int32) : entryFrame m #[(.int x0), (.int x1), (.int x2), (.long x3), (.long x4), (.int x5)] maxLocals = mkF m 0 #[.val (.int x0), .val (.int x1), .val (.int x2), .val (.long x3), .second, .val (.long x4), .second, .val (.int x5), .unset, .unset, .unset, .unset, .unset, .unset, .unset, .unset, .unset, .unset, .unset, .unset] [] := by first | (simp [entryFrame, mkF, argsToLocals, Value.category, maxLocals]; done) | rfl
theorem d1_0 : decode prog_25_method_1_code 0 = .ok (.aload_n 0, 1) := by decide +kernel
theorem d1_1 : decode prog_25_method_1_code 1 = .ok (.invokespecial 1, 3) := by decide +kernel
theorem d1_4 : decode prog_25_method_1_code 4 = .ok (.aload_n 0, 1) := by decide +kernel
theorem d1_5 : decode prog_25_method_1_code 5 = .ok (.new 7, 3) := by decide +kernel
theorem d1_8 : decode prog_25_method_1_code 8 = .ok (.dup, 1) := by decide +kernel
theorem d1_9 : decode prog_25_method_1_code 9 = .ok (.invokespecial 9, 3) := by decide +kernel
theorem d1_12 : decode prog_25_method_1_code 12 = .ok (.putfield 10, 3) := by decide +kernel
theorem d1_15 : decode prog_25_method_1_code 15 = .ok (.return_, 1) := by decide +kernel
theorem pn_1 : plainName "org/kusuridana/CsvLine" = true := by first | (simp [plainName, overriddenIn]; done) | decide +kernel
theorem pd_1 : parseMethodDescriptor "()V" = some ⟨[], none⟩ := by decide +kernel
theorem ef_1 (m : MethodId) (x0 : Addr) : entryFrame m #[(.ref x0)] 1 = mkF m 0 #[.val (.ref x0)] [] := by first | (simp [entryFrame, mkF, argsToLocals, Value.category]; done) | rfl
theorem d3_0 : decode prog_26_method_1_code 0 = .ok (.aload_n 0, 1) := by decide +kernel
theorem d3_1 : decode prog_26_method_1_code 1 = .ok (.invokespecial 1, 3) := by decide +kernel
theorem d3_4 : decode prog_26_method_1_code 4 = .ok (.aload_n 0, 1) := by decide +kernel
theorem d3_5 : decode prog_26_method_1_code 5 = .ok (.iconst 0, 1) := by decide +kernel
theorem d3_6 : decode prog_26_method_1_code 6 = .ok (.newarray .byte, 2) := by decide +kernel
theorem d3_8 : decode prog_26_method_1_code 8 = .ok (.putfield 7, 3) := by decide +kernel
theorem d3_11 : decode prog_26_method_1_code 11 = .ok (.return_, 1) := by decide +kernel
theorem pn_3 : plainName "org/kusuridana/CsvLine$Ascii" = true := by first | (simp [plainName, overriddenIn]; done) | decide +kernel
theorem pd_3 : parseMethodDescriptor "()V" = some ⟨[], none⟩ := by decide +kernel
theorem ef_3 (m : MethodId) (x0 : Addr) : entryFrame m #[(.ref x0)] 1 = mkF m 0 #[.val (.ref x0)] [] := by first | (simp [entryFrame, mkF, argsToLocals, Value.category]; done) | rfl
theorem d4_0 : decode prog_25_method_3_code 0 = .ok (.aload_n 0, 1) := by decide +kernel
theorem d4_1 : decode prog_25_method_3_code 1 = .ok (.aload_n 1, 1) := by decide +kernel
theorem d4_2 : decode prog_25_method_3_code 2 = .ok (.putfield 20, 3) := by decide +kernel
theorem d4_5 : decode prog_25_method_3_code 5 = .ok (.aload_n 0, 1) := by decide +kernel
theorem d4_6 : decode prog_25_method_3_code 6 = .ok (.aload_n 2, 1) := by decide +kernel
theorem d4_7 : decode prog_25_method_3_code 7 = .ok (.putfield 24, 3) := by decide +kernel
theorem d4_10 : decode prog_25_method_3_code 10 = .ok (.aload_n 0, 1) := by decide +kernel
theorem d4_11 : decode prog_25_method_3_code 11 = .ok (.iload_n 3, 1) := by decide +kernel
theorem d4_12 : decode prog_25_method_3_code 12 = .ok (.putfield 28, 3) := by decide +kernel
theorem d4_15 : decode prog_25_method_3_code 15 = .ok (.aload_n 0, 1) := by decide +kernel
theorem d4_16 : decode prog_25_method_3_code 16 = .ok (.aload 4, 2) := by decide +kernel
theorem d4_18 : decode prog_25_method_3_code 18 = .ok (.putfield 32, 3) := by decide +kernel
theorem d4_21 : decode prog_25_method_3_code 21 = .ok (.aload_n 0, 1) := by decide +kernel
theorem d4_22 : decode prog_25_method_3_code 22 = .ok (.iload 5, 2) := by decide +kernel
theorem d4_24 : decode prog_25_method_3_code 24 = .ok (.putfield 36, 3) := by decide +kernel
theorem d4_27 : decode prog_25_method_3_code 27 = .ok (.aload_n 0, 1) := by decide +kernel
theorem d4_28 : decode prog_25_method_3_code 28 = .ok (.iload 6, 2) := by decide +kernel
theorem d4_30 : decode prog_25_method_3_code 30 = .ok (.putfield 39, 3) := by decide +kernel
theorem d4_33 : decode prog_25_method_3_code 33 = .ok (.aload_n 0, 1) := by decide +kernel
theorem d4_34 : decode prog_25_method_3_code 34 = .ok (.aload 4, 2) := by decide +kernel
theorem d4_36 : decode prog_25_method_3_code 36 = .ok (.iload 5, 2) := by decide +kernel
theorem d4_38 : decode prog_25_method_3_code 38 = .ok (.iaload, 1) := by decide +kernel
theorem d4_39 : decode prog_25_method_3_code 39 = .ok (.putfield 42, 3) := by decide +kernel
theorem d4_42 : decode prog_25_method_3_code 42 = .ok (.aload_n 0, 1) := by decide +kernel
theorem d4_43 : decode prog_25_method_3_code 43 = .ok (.aload 4, 2) := by decide +kernel
theorem d4_45 : decode prog_25_method_3_code 45 = .ok (.iload 5, 2) := by decide +kernel
theorem d4_47 : decode prog_25_method_3_code 47 = .ok (.iload 6, 2) := by decide +kernel
theorem d4_49 : decode prog_25_method_3_code 49 = .ok (.iadd, 1) := by decide +kernel
theorem d4_50 : decode prog_25_method_3_code 50 = .ok (.iaload, 1) := by decide +kernel
theorem d4_51 : decode prog_25_method_3_code 51 = .ok (.iconst 1, 1) := by decide +kernel
theorem d4_52 : decode prog_25_method_3_code 52 = .ok (.isub, 1) := by decide +kernel
theorem d4_53 : decode prog_25_method_3_code 53 = .ok (.putfield 45, 3) := by decide +kernel
theorem d4_56 : decode prog_25_method_3_code 56 = .ok (.aload_n 0, 1) := by decide +kernel
theorem d4_57 : decode prog_25_method_3_code 57 = .ok (.iload 7, 2) := by decide +kernel
theorem d4_59 : decode prog_25_method_3_code 59 = .ok (.putfield 48, 3) := by decide +kernel
theorem d4_62 : decode prog_25_method_3_code 62 = .ok (.aload_n 0, 1) := by decide +kernel
theorem d4_63 : decode prog_25_method_3_code 63 = .ok (.iload 8, 2) := by decide +kernel
theorem d4_65 : decode prog_25_method_3_code 65 = .ok (.putfield 51, 3) := by decide +kernel
theorem d4_68 : decode prog_25_method_3_code 68 = .ok (.return_, 1) := by decide +kernel
theorem pn_4 : plainName "org/kusuridana/CsvLine" = true := by first | (simp [plainName, overriddenIn]; done) | decide +kernel
theorem pd_4 : parseMethodDescriptor "([BLorg/kusuridana/Encoding;I[IIIII)V" = some ⟨[(.array .byte), (.object "org/kusuridana/Encoding"), .int, (.array .int), .int, .int, .int, .int], none⟩ := by decide +kernel
theorem ef_4 (m : MethodId) (x0 : Addr) (x1 : Addr) (x3 : Int32) (x4 : Addr) (x5 : Int32) (x6 : Int32) (x7 : Int32) (x8 : Int32) : entryFrame m #[(.ref x0), (.ref x1), .null, (.int x3), (.ref x4), (.int x5), (.int x6), (.int x7), (.int x8)] 9 = mkF m 0 #[.val (.ref x0), .val (.ref x1), .val .null, .val (.int x3), .val (.ref x4), .val (.int x5), .val (.int x6), .val (.int x7), .val (.int x8)] [] := by first | (simp [entryFrame, mkF, argsToLocals, Value.category]; done) | rfl
theorem d5_0 : decode prog_25_method_14_code 0 = .ok (.aload_n 0, 1) := by decide +kernel
theorem d5_1 : decode prog_25_method_14_code 1 = .ok (.getfield 20, 3) := by decide +kernel
theorem d5_4 : decode prog_25_method_14_code 4 = .ok (.areturn, 1) := by decide +kernel
theorem pn_5 : plainName "org/kusuridana/CsvLine" = true := by first | (simp [plainName, overriddenIn]; done) | decide +kernel
theorem pd_5 : parseMethodDescriptor "()[B" = some ⟨[], some (.array .byte)⟩ := by decide +kernel
theorem ef_5 (m : MethodId) (x0 : Addr) : entryFrame m #[(.ref x0)] 1 = mkF m 0 #[.val (.ref x0)] [] := by first | (simp [entryFrame, mkF, argsToLocals, Value.category]; done) | rfl
theorem d6_0 : decode prog_25_method_15_code 0 = .ok (.aload_n 0, 1) := by decide +kernel
theorem d6_1 : decode prog_25_method_15_code 1 = .ok (.getfield 32, 3) := by decide +kernel
theorem d6_4 : decode prog_25_method_15_code 4 = .ok (.areturn, 1) := by decide +kernel
theorem pn_6 : plainName "org/kusuridana/CsvLine" = true := by first | (simp [plainName, overriddenIn]; done) | decide +kernel
theorem pd_6 : parseMethodDescriptor "()[I" = some ⟨[], some (.array .int)⟩ := by decide +kernel
theorem ef_6 (m : MethodId) (x0 : Addr) : entryFrame m #[(.ref x0)] 1 = mkF m 0 #[.val (.ref x0)] [] := by first | (simp [entryFrame, mkF, argsToLocals, Value.category]; done) | rfl
theorem d7_0 : decode prog_25_method_10_code 0 = .ok (.aload_n 0, 1) := by decide +kernel
theorem d7_1 : decode prog_25_method_10_code 1 = .ok (.getfield 39, 3) := by decide +kernel
theorem d7_4 : decode prog_25_method_10_code 4 = .ok (.ireturn, 1) := by decide +kernel
theorem pn_7 : plainName "org/kusuridana/CsvLine" = true := by first | (simp [plainName, overriddenIn]; done) | decide +kernel
theorem pd_7 : parseMethodDescriptor "()I" = some ⟨[], some .int⟩ := by decide +kernel
theorem ef_7 (m : MethodId) (x0 : Addr) : entryFrame m #[(.ref x0)] 1 = mkF m 0 #[.val (.ref x0)] [] := by first | (simp [entryFrame, mkF, argsToLocals, Value.category]; done) | rfl
theorem d8_0 : decode prog_25_method_30_code 0 = .ok (.aload_n 0, 1) := by decide +kernel
theorem d8_1 : decode prog_25_method_30_code 1 = .ok (.getfield 51, 3) := by decide +kernel
theorem d8_4 : decode prog_25_method_30_code 4 = .ok (.ireturn, 1) := by decide +kernel
theorem pn_8 : plainName "org/kusuridana/CsvLine" = true := by first | (simp [plainName, overriddenIn]; done) | decide +kernel
theorem pd_8 : parseMethodDescriptor "()I" = some ⟨[], some .int⟩ := by decide +kernel
theorem ef_8 (m : MethodId) (x0 : Addr) : entryFrame m #[(.ref x0)] 1 = mkF m 0 #[.val (.ref x0)] [] := by first | (simp [entryFrame, mkF, argsToLocals, Value.category]; done) | rfl
theorem d9_0 : decode prog_25_method_5_code 0 = .ok (.aload_n 0, 1) := by decide +kernel
theorem d9_1 : decode prog_25_method_5_code 1 = .ok (.getfield 28, 3) := by decide +kernel
theorem d9_4 : decode prog_25_method_5_code 4 = .ok (.iconst 1, 1) := by decide +kernel
theorem d9_5 : decode prog_25_method_5_code 5 = .ok (.iadd, 1) := by decide +kernel
theorem d9_6 : decode prog_25_method_5_code 6 = .ok (.ireturn, 1) := by decide +kernel
theorem pn_9 : plainName "org/kusuridana/CsvLine" = true := by first | (simp [plainName, overriddenIn]; done) | decide +kernel
theorem pd_9 : parseMethodDescriptor "()I" = some ⟨[], some .int⟩ := by decide +kernel
theorem ef_9 (m : MethodId) (x0 : Addr) : entryFrame m #[(.ref x0)] 1 = mkF m 0 #[.val (.ref x0)] [] := by first | (simp [entryFrame, mkF, argsToLocals, Value.category]; done) | rfl
theorem d10_0 : decode prog_25_method_8_code 0 = .ok (.aload_n 0, 1) := by decide +kernel
theorem d10_1 : decode prog_25_method_8_code 1 = .ok (.getfield 45, 3) := by decide +kernel
theorem d10_4 : decode prog_25_method_8_code 4 = .ok (.aload_n 0, 1) := by decide +kernel
theorem d10_5 : decode prog_25_method_8_code 5 = .ok (.getfield 42, 3) := by decide +kernel
theorem d10_8 : decode prog_25_method_8_code 8 = .ok (.isub, 1) := by decide +kernel
theorem d10_9 : decode prog_25_method_8_code 9 = .ok (.ireturn, 1) := by decide +kernel
theorem pn_10 : plainName "org/kusuridana/CsvLine" = true := by first | (simp [plainName, overriddenIn]; done) | decide +kernel
theorem pd_10 : parseMethodDescriptor "()I" = some ⟨[], some .int⟩ := by decide +kernel
theorem ef_10 (m : MethodId) (x0 : Addr) : entryFrame m #[(.ref x0)] 1 = mkF m 0 #[.val (.ref x0)] [] := by first | (simp [entryFrame, mkF, argsToLocals, Value.category]; done) | rfl
theorem d11_0 : decode prog_25_method_7_code 0 = .ok (.aload_n 0, 1) := by decide +kernel
theorem d11_1 : decode prog_25_method_7_code 1 = .ok (.getfield 42, 3) := by decide +kernel
theorem d11_4 : decode prog_25_method_7_code 4 = .ok (.aload_n 0, 1) := by decide +kernel
theorem d11_5 : decode prog_25_method_7_code 5 = .ok (.getfield 45, 3) := by decide +kernel
theorem d11_8 : decode prog_25_method_7_code 8 = .ok (.if_icmp .ne 7, 3) := by decide +kernel
theorem d11_11 : decode prog_25_method_7_code 11 = .ok (.iconst 1, 1) := by decide +kernel
theorem d11_12 : decode prog_25_method_7_code 12 = .ok (.goto 4, 3) := by decide +kernel
theorem d11_15 : decode prog_25_method_7_code 15 = .ok (.iconst 0, 1) := by decide +kernel
theorem d11_16 : decode prog_25_method_7_code 16 = .ok (.ireturn, 1) := by decide +kernel
theorem pn_11 : plainName "org/kusuridana/CsvLine" = true := by first | (simp [plainName, overriddenIn]; done) | decide +kernel
theorem pd_11 : parseMethodDescriptor "()Z" = some ⟨[], some .boolean⟩ := by decide +kernel
theorem ef_11 (m : MethodId) (x0 : Addr) : entryFrame m #[(.ref x0)] 1 = mkF m 0 #[.val (.ref x0)] [] := by first | (simp [entryFrame, mkF, argsToLocals, Value.category]; done) | rfl
theorem d12_0 : decode prog_25_method_6_code 0 = .ok (.aload_n 0, 1) := by decide +kernel
theorem d12_1 : decode prog_25_method_6_code 1 = .ok (.getfield 48, 3) := by decide +kernel
theorem d12_4 : decode prog_25_method_6_code 4 = .ok (.aload_n 0, 1) := by decide +kernel
theorem d12_5 : decode prog_25_method_6_code 5 = .ok (.getfield 45, 3) := by decide +kernel
theorem d12_8 : decode prog_25_method_6_code 8 = .ok (.isub, 1) := by decide +kernel
theorem d12_9 : decode prog_25_method_6_code 9 = .ok (.lookupswitch 39 #[(0, 27), (1, 33)], 27) := by decide +kernel
theorem d12_36 : decode prog_25_method_6_code 36 = .ok (.getstatic 121, 3) := by decide +kernel
theorem d12_39 : decode prog_25_method_6_code 39 = .ok (.goto 12, 3) := by decide +kernel
theorem d12_42 : decode prog_25_method_6_code 42 = .ok (.getstatic 125, 3) := by decide +kernel
theorem d12_45 : decode prog_25_method_6_code 45 = .ok (.goto 6, 3) := by decide +kernel
theorem d12_48 : decode prog_25_method_6_code 48 = .ok (.getstatic 128, 3) := by decide +kernel
theorem d12_51 : decode prog_25_method_6_code 51 = .ok (.areturn, 1) := by decide +kernel
theorem pn_12 : plainName "org/kusuridana/CsvLine" = true := by first | (simp [plainName, overriddenIn]; done) | decide +kernel
theorem pd_12 : parseMethodDescriptor "()Lorg/kusuridana/Encoding$LineEnd;" = some ⟨[], some (.object "org/kusuridana/Encoding$LineEnd")⟩ := by decide +kernel
theorem ef_12 (m : MethodId) (x0 : Addr) : entryFrame m #[(.ref x0)] 1 = mkF m 0 #[.val (.ref x0)] [] := by first | (simp [entryFrame, mkF, argsToLocals, Value.category]; done) | rfl
theorem d13_0 : decode prog_25_method_13_code 0 = .ok (.iload_n 1, 1) := by decide +kernel
theorem d13_1 : decode prog_25_method_13_code 1 = .ok (.ifCond .lt 11, 3) := by decide +kernel
theorem d13_4 : decode prog_25_method_13_code 4 = .ok (.iload_n 1, 1) := by decide +kernel
theorem d13_5 : decode prog_25_method_13_code 5 = .ok (.aload_n 0, 1) := by decide +kernel
theorem d13_6 : decode prog_25_method_13_code 6 = .ok (.getfield 39, 3) := by decide +kernel
theorem d13_9 : decode prog_25_method_13_code 9 = .ok (.if_icmp .le 9, 3) := by decide +kernel
theorem d13_12 : decode prog_25_method_13_code 12 = .ok (.aload_n 0, 1) := by decide +kernel
theorem d13_13 : decode prog_25_method_13_code 13 = .ok (.iload_n 1, 1) := by decide +kernel
theorem d13_14 : decode prog_25_method_13_code 14 = .ok (.invokevirtual 140, 3) := by decide +kernel
theorem d13_17 : decode prog_25_method_13_code 17 = .ok (.athrow, 1) := by decide +kernel
theorem d13_18 : decode prog_25_method_13_code 18 = .ok (.aload_n 0, 1) := by decide +kernel
theorem d13_19 : decode prog_25_method_13_code 19 = .ok (.getfield 32, 3) := by decide +kernel
theorem d13_22 : decode prog_25_method_13_code 22 = .ok (.aload_n 0, 1) := by decide +kernel
theorem d13_23 : decode prog_25_method_13_code 23 = .ok (.getfield 36, 3) := by decide +kernel
theorem d13_26 : decode prog_25_method_13_code 26 = .ok (.iload_n 1, 1) := by decide +kernel
theorem d13_27 : decode prog_25_method_13_code 27 = .ok (.iadd, 1) := by decide +kernel
theorem d13_28 : decode prog_25_method_13_code 28 = .ok (.iaload, 1) := by decide +kernel
theorem d13_29 : decode prog_25_method_13_code 29 = .ok (.ireturn, 1) := by decide +kernel
theorem pn_13 : plainName "org/kusuridana/CsvLine" = true := by first | (simp [plainName, overriddenIn]; done) | decide +kernel
theorem pd_13 : parseMethodDescriptor "(I)I" = some ⟨[.int], some .int⟩ := by decide +kernel
theorem ef_13 (m : MethodId) (x0 : Addr) (x1 : Int32) : entryFrame m #[(.ref x0), (.int x1)] 2 = mkF m 0 #[.val (.ref x0), .val (.int x1)] [] := by first | (simp [entryFrame, mkF, argsToLocals, Value.category]; done) | rfl
def own_fs1 : List (String × String × String) := [("org/kusuridana/CsvLine", "ascii", "Lorg/kusuridana/CsvLine$Ascii;"), ("org/kusuridana/CsvLine", "content", "[B"), ("org/kusuridana/CsvLine", "encoding", "Lorg/kusuridana/Encoding;"), ("org/kusuridana/CsvLine", "index", "I"), ("org/kusuridana/CsvLine", "starts", "[I"), ("org/kusuridana/CsvLine", "base", "I"), ("org/kusuridana/CsvLine", "values", "I"), ("org/kusuridana/CsvLine", "start", "I"), ("org/kusuridana/CsvLine", "end", "I"), ("org/kusuridana/CsvLine", "next", "I"), ("org/kusuridana/CsvLine", "number", "I")]
theorem own_ok1 : own_okFs own_fs1 = true := by decide +kernel
theorem own_ld1 {Z : State} {a0 : Array Value} (hw : ∀ d ∈ tables_1, d.before a0 Z = true) : own_Lds Z a0 "org/kusuridana/CsvLine" own_fs1 := ⟨Or.inr (hw _ (List.mem_of_getElem? (i := 21) rfl)), Or.inl (hw _ (List.mem_of_getElem? (i := 28) rfl)), Or.inl (hw _ (List.mem_of_getElem? (i := 30) rfl)), Or.inl (hw _ (List.mem_of_getElem? (i := 32) rfl)), Or.inl (hw _ (List.mem_of_getElem? (i := 34) rfl)), Or.inl (hw _ (List.mem_of_getElem? (i := 36) rfl)), Or.inl (hw _ (List.mem_of_getElem? (i := 38) rfl)), Or.inl (hw _ (List.mem_of_getElem? (i := 40) rfl)), Or.inl (hw _ (List.mem_of_getElem? (i := 42) rfl)), Or.inl (hw _ (List.mem_of_getElem? (i := 44) rfl)), Or.inl (hw _ (List.mem_of_getElem? (i := 46) rfl)), trivial⟩
def own_dl1 : List Value := [.null, .null, .null, (.int (0 : Int32)), .null, (.int (0 : Int32)), (.int (0 : Int32)), (.int (0 : Int32)), (.int (0 : Int32)), (.int (0 : Int32)), (.int (0 : Int32))]
theorem own_df1 : own_Dfs own_fs1 own_dl1 := ⟨⟨(.object "org/kusuridana/CsvLine$Ascii"), by decide, rfl⟩, ⟨(.array .byte), by decide, rfl⟩, ⟨(.object "org/kusuridana/Encoding"), by decide, rfl⟩, ⟨.int, by decide, rfl⟩, ⟨(.array .int), by decide, rfl⟩, ⟨.int, by decide, rfl⟩, ⟨.int, by decide, rfl⟩, ⟨.int, by decide, rfl⟩, ⟨.int, by decide, rfl⟩, ⟨.int, by decide, rfl⟩, ⟨.int, by decide, rfl⟩, trivial⟩
def own_fs2 : List (String × String × String) := [("org/kusuridana/CsvLine$Ascii", "bytes", "[B")]
theorem own_ok2 : own_okFs own_fs2 = true := by decide +kernel
theorem own_ld2 {Z : State} {a0 : Array Value} (hw : ∀ d ∈ tables_1, d.before a0 Z = true) : own_Lds Z a0 "org/kusuridana/CsvLine$Ascii" own_fs2 := ⟨Or.inl (hw _ (List.mem_of_getElem? (i := 19) rfl)), trivial⟩
def own_dl2 : List Value := [.null]
theorem own_df2 : own_Dfs own_fs2 own_dl2 := ⟨⟨(.array .byte), by decide, rfl⟩, trivial⟩
theorem own_addi {ai j : Int32} {A k : Nat} (hA : ai.toInt = (A : Int)) (hj : j.toInt = (k : Int)) (h : A + k < 1000) : (ai + j).toInt = ((A + k : Nat) : Int) := by
  rw [Jvm.Kit.i32_add (by omega) (by omega), hA, hj]
  omega
theorem own_i0 : (0 : Int32).toInt = 0 := rfl
theorem own_i1 : (1 : Int32).toInt = 1 := rfl
theorem own_i3 : (3 : Int32).toInt = 3 := rfl
theorem own_nneg {x : Int32} {n : Nat} (h : x.toInt = (n : Int)) : ¬ x < 0 := by
  rw [Int32.lt_iff_toInt_lt, h, own_i0]
  omega
theorem own_ne0 {x : Int32} {n : Nat} (h : x.toInt = (n : Int)) (hn : 1 ≤ n) : x ≠ 0 := by
  intro q
  rw [q, own_i0] at h
  omega
theorem own_and3 (x : Int32) : ∃ n : Nat, (x &&& (3 : Int32)).toInt = (n : Int) ∧ n < 4 := by
  have h := Jvm.Kit.i32_mask x 3 (k := 2) (by decide) (by decide)
  refine ⟨(x &&& (3 : Int32)).toInt.toNat, ?_, ?_⟩ <;> omega
theorem own_rem {x y : Int32} {n m : Nat} (hx : x.toInt = (n : Int)) (hy : y.toInt = (m : Int)) (hm : 1 ≤ m) : (x % y).toInt = ((n % m : Nat) : Int) ∧ n % m < m := by
  refine ⟨?_, Nat.mod_lt _ (by omega)⟩
  rw [Jvm.Kit.i32_rem_nonneg (by omega), hx, hy]
  omega
theorem own_base (p : Int32) : ∃ B : Nat, ((p &&& (3 : Int32)) % (3 : Int32)).toInt = (B : Int) ∧ B ≤ 2 := by
  obtain ⟨n, hn, -⟩ := own_and3 p
  obtain ⟨h1, h2⟩ := own_rem hn (y := (3 : Int32)) (m := 3) rfl (by decide)
  exact ⟨_, h1, by omega⟩
theorem own_3b' {bs : Int32} {B : Nat} (h : bs.toInt = (B : Int)) (hB : B ≤ 2) : ((3 : Int32) - bs).toInt = ((3 - B : Nat) : Int) := by
  rw [Jvm.Kit.i32_sub (by rw [own_i3]; omega) (by rw [own_i3]; omega), h, own_i3]
  omega
theorem own_3b {bs : Int32} {B : Nat} (h : bs.toInt = (B : Int)) (hB : B ≤ 2) : (3 : Int32) - bs ≠ 0 := own_ne0 (own_3b' h hB) (by omega)
theorem own_vals (p : Int32) {bs : Int32} {B : Nat} (h : bs.toInt = (B : Int)) (hB : B ≤ 2) : ∃ V : Nat, ((1 : Int32) + ((XT.ushr p (2 : Int32) &&& (3 : Int32)) % ((3 : Int32) - bs))).toInt = (V : Int) ∧ 1 ≤ V ∧ B + V ≤ 3 := by
  obtain ⟨n, hn, -⟩ := own_and3 (XT.ushr p (2 : Int32))
  obtain ⟨h1, h2⟩ := own_rem hn (own_3b' h hB) (by omega)
  have h3 := own_addi (ai := (1 : Int32)) (A := 1) rfl h1 (by omega)
  exact ⟨_, h3, by omega, by omega⟩
theorem own_v1' {vs : Int32} {V : Nat} (h : vs.toInt = (V : Int)) (hV : V ≤ 3) : (vs + (1 : Int32)).toInt = ((V + 1 : Nat) : Int) := own_addi h (k := 1) rfl (by omega)
theorem own_v1 {vs : Int32} {V : Nat} (h : vs.toInt = (V : Int)) (hV : V ≤ 3) : vs + (1 : Int32) ≠ 0 := own_ne0 (own_v1' h hV) (by omega)
theorem own_k (p : Int32) {vs : Int32} {V : Nat} (h : vs.toInt = (V : Int)) (hV : V ≤ 3) : ∃ KK : Nat, ((XT.ushr p (4 : Int32) &&& (3 : Int32)) % (vs + (1 : Int32))).toInt = (KK : Int) ∧ KK ≤ V := by
  obtain ⟨n, hn, -⟩ := own_and3 (XT.ushr p (4 : Int32))
  obtain ⟨h1, h2⟩ := own_rem hn (own_v1' h hV) (by omega)
  exact ⟨_, h1, by omega⟩
theorem own_miss {k : Int32} (h0 : ¬ k = 0) (h1 : ¬ k = 1) : (#[((0 : Int), (27 : Int)), (1, 33)] : Array (Int × Int)).find? (·.1 == k.toInt) = none := by
  refine find_miss ?_
  intro q hq
  simp only [List.mem_cons, List.not_mem_nil, or_false] at hq
  rcases hq with rfl | rfl
  · exact fun e => h0 (Int32.toInt_inj.mp e.symm)
  · exact fun e => h1 (Int32.toInt_inj.mp e.symm)
def own_gv (as : Value) (ct st : Addr) (ix bs vs s0 en nx nu : Int32) : Nat → Value := own_gl [as, .ref ct, .null, .int ix, .ref st, .int bs, .int vs, .int s0, .int en, .int nx, .int nu]
def own_le (gap : Int32) (n1 n2 n3 : Addr) : Addr := if gap = 0 then n1 else if gap = 1 then n2 else n3
def own_QV (z : Value) (h0 : Heap) (v : Option Value) (h : Heap) (L : List Loc) : Prop := v = some z ∧ h = h0 ∧ L = []
def own_QK (a : Addr) (h0 : Heap) (n0 : Nat) (v : Option Value) (h : Heap) (L : List Loc) : Prop := v = none ∧ Fr n0 L ∧ Keep h0 h [a]
def own_QC (Z : State) (a : Addr) (h0 : Heap) (n0 : Nat) (v : Option Value) (h : Heap) (L : List Loc) : Prop := v = none ∧ Fr n0 L ∧ Keep h0 h [a] ∧ ∃ g, own_Ob Z h a "org/kusuridana/CsvLine" own_fs1 g
def own_QP (Z : State) (a : Addr) (g : Nat → Value) (h0 : Heap) (n0 : Nat) (v : Option Value) (h : Heap) (L : List Loc) : Prop := v = none ∧ Fr n0 L ∧ Keep h0 h [a] ∧ own_Ob Z h a "org/kusuridana/CsvLine" own_fs1 g
def own_Q0 (n0 : Nat) (v : Option Value) (h : Heap) (L : List Loc) : Prop := v = some (.int 1) ∧ Fr n0 L
set_option maxRecDepth 65536 in
set_option maxHeartbeats 40000000 in
theorem own_rmA (l : Launch) (Z : State) (a0 : Array Value) (hw : ∀ d ∈ tables_1, d.before a0 Z = true) (ws : List Jvm.Cond) (a : Addr) (g : Nat → Value) (h0 : Heap) (n0 : Nat) (Z0 : n0 ≤ h0.size) (ga : n0 ≤ a) (B0 : own_Ob Z h0 a "org/kusuridana/CsvLine$Ascii" own_fs2 g) :
    own_Met l (⟨"org/kusuridana/CsvLine$Ascii", "<init>", "()V"⟩ : MethodName) prog_26_method_1_code 1 none ws ({ frames := 1, cells := 1, slots := 0, locals := 12 } : Room) Z #[(.ref a)] h0 (own_QK a h0 n0) := by
  refine own_enter (plainFor_of_name pn_3) ?_
  intro p e s m below meth c T0 X0 hx hby hml hZ hown e0 hret hlk hnm
  have hown : s.vm.findClass "org/kusuridana/CsvLine$Ascii" = some m.cls := hown
  have hml : c.maxLocals = 1 := hml
  have N0 := Fr.nil n0
  refine own_start (ef_3 m a) ?_
  show own_Go p e below _ T0 (mkF m 0 #[.val (.ref a)] [])
  have K0 := Keep.refl h0 [a]
  refine own_go (g' := (mkF m 1 #[.val (.ref a)] [(.ref a)])) (fun _ k => XS.aloadN X0.here hx rfl (hb hby d3_0) rfl rfl k) ?_
  refine own_initO X0 hx hZ hown e0 (hw _ (List.mem_of_getElem? (i := 17) rfl)) (hw _ (List.mem_of_getElem? (i := 9) rfl)) (hw _ (List.mem_of_getElem? (i := 10) rfl)) (by rw [hml]; rfl) (hb hby d3_1) (by decide) (W := 0) (Nat.le_of_eq rfl) (by decide) ?_
  intro T1 X1 e1
  show own_Go p e below _ T1 (mkF m 4 #[.val (.ref a)] [])
  refine own_go (g' := (mkF m 5 #[.val (.ref a)] [(.ref a)])) (fun _ k => XS.aloadN X1.here hx rfl (hb hby d3_4) rfl rfl k) ?_
  refine own_go (g' := (mkF m 6 #[.val (.ref a)] [(.int (0 : Int32)), (.ref a)])) (fun _ k => XS.iconst X1.here hx rfl (hb hby d3_5) k) ?_
  refine own_newP X1 hx hZ e1 (aty := .byte) (hw _ (List.mem_of_getElem? (i := 1) rfl)) 0 (by decide) (by decide) (by decide) (by decide) (by decide) (hb hby d3_6) ?_
  intro T2 h2 b2 g2 X2 e2 E2 A2
  have ne3 : a ≠ b2 := Nat.ne_of_lt (Nat.lt_of_lt_of_le (own_Ob_lt B0) (Nat.le_of_eq g2.symm))
  have sz2 : h0.size ≤ b2 := Nat.le_trans K0.1 (Nat.le_of_eq g2.symm)
  have ge2 : n0 ≤ b2 := Nat.le_trans Z0 sz2
  have K2 := K0.ext E2
  show own_Go p e below _ T2 (mkF m 8 #[.val (.ref a)] [(.ref b2), (.ref a)])
  have f4 := (own_Ob_ext B0 E2)
  refine own_putF X2 hx hZ (host := "") (ty := (.array .byte)) hown e2 (Or.inl (hw _ (List.mem_of_getElem? (i := 18) rfl))) Via.refl (own_Ob_fld f4 0 rfl) f4.1 (Or.inl (hw _ (List.mem_of_getElem? (i := 19) rfl))) (hw _ (List.mem_of_getElem? (i := 12) rfl)) (by decide) rfl rfl (hb hby d3_8) ?_
  intro T5 h5 X5 e5 W5
  have B5 := own_Ob_put f4 own_ok2 (own_ld2 hw) 0 rfl W5
  have K5 := K2.wr W5 (Or.inl (List.mem_of_getElem? (i := 0) rfl))
  have N5 := Fr.snoc X5 N0 ga
  show own_Go p e below _ T5 (mkF m 11 #[.val (.ref a)] [])
  exact own_ret0 X5 hx hlk hret e5 (hb hby d3_11) ⟨rfl, N5, K5⟩ (by decide) (by decide)
set_option maxRecDepth 65536 in
set_option maxHeartbeats 40000000 in
theorem own_rmC (l : Launch) (Z : State) (a0 : Array Value) (hw : ∀ d ∈ tables_1, d.before a0 Z = true) (ws : List Jvm.Cond) (a : Addr) (g : Nat → Value) (h0 : Heap) (n0 : Nat) (Z0 : n0 ≤ h0.size) (ga : n0 ≤ a) (B0 : own_Ob Z h0 a "org/kusuridana/CsvLine" own_fs1 g) :
    own_Met l (⟨"org/kusuridana/CsvLine", "<init>", "()V"⟩ : MethodName) prog_25_method_1_code 1 none ws ({ frames := 2, cells := 2, slots := 3, locals := 26 } : Room) Z #[(.ref a)] h0 (own_QC Z a h0 n0) := by
  refine own_enter (plainFor_of_name pn_1) ?_
  intro p e s m below meth c T0 X0 hx hby hml hZ hown e0 hret hlk hnm
  have hown : s.vm.findClass "org/kusuridana/CsvLine" = some m.cls := hown
  have hml : c.maxLocals = 1 := hml
  have N0 := Fr.nil n0
  refine own_start (ef_1 m a) ?_
  show own_Go p e below _ T0 (mkF m 0 #[.val (.ref a)] [])
  have K0 := Keep.refl h0 [a]
  refine own_go (g' := (mkF m 1 #[.val (.ref a)] [(.ref a)])) (fun _ k => XS.aloadN X0.here hx rfl (hb hby d1_0) rfl rfl k) ?_
  refine own_initO X0 hx hZ hown e0 (hw _ (List.mem_of_getElem? (i := 8) rfl)) (hw _ (List.mem_of_getElem? (i := 9) rfl)) (hw _ (List.mem_of_getElem? (i := 10) rfl)) (by rw [hml]; rfl) (hb hby d1_1) (by decide) (W := 0) (Nat.le_of_eq rfl) (by decide) ?_
  intro T6 X6 e6
  show own_Go p e below _ T6 (mkF m 4 #[.val (.ref a)] [])
  refine own_go (g' := (mkF m 5 #[.val (.ref a)] [(.ref a)])) (fun _ k => XS.aloadN X6.here hx rfl (hb hby d1_4) rfl rfl k) ?_
  refine own_newO X6 hx hZ hown e6 (hw _ (List.mem_of_getElem? (i := 11) rfl)) (hw _ (List.mem_of_getElem? (i := 12) rfl)) (hw _ (List.mem_of_getElem? (i := 13) rfl)) (own_ld2 hw) own_df2 (by decide) (by decide) (hb hby d1_5) ?_
  intro T7 h7 b7 g7 X7 e7 E7 B7
  have ne8 : a ≠ b7 := Nat.ne_of_lt (Nat.lt_of_lt_of_le (own_Ob_lt B0) (Nat.le_of_eq g7.symm))
  have sz7 : h0.size ≤ b7 := Nat.le_trans K0.1 (Nat.le_of_eq g7.symm)
  have ge7 : n0 ≤ b7 := Nat.le_trans Z0 sz7
  have K7 := K0.ext E7
  show own_Go p e below _ T7 (mkF m 8 #[.val (.ref a)] [(.ref b7), (.ref a)])
  refine own_go (g' := (mkF m 9 #[.val (.ref a)] [(.ref b7), (.ref b7), (.ref a)])) (fun _ k => XS.dup X7.here hx rfl (hb hby d1_8) rfl rfl k) ?_
  refine own_callR X7 hx hZ hown e7 (y := (⟨"org/kusuridana/CsvLine$Ascii", "<init>", "()V"⟩ : MethodName)) (rm := ({ frames := 1, cells := 1, slots := 0, locals := 12 } : Room)) rfl (hw _ (List.mem_of_getElem? (i := 14) rfl)) (hw _ (List.mem_of_getElem? (i := 15) rfl)) (hw _ (List.mem_of_getElem? (i := 13) rfl)) (hw _ (List.mem_of_getElem? (i := 16) rfl)) (by decide) (a := b7) (argsL := []) (rest := [(.ref b7), (.ref a)]) (own_rmA l Z a0 hw [] b7 _ h7 n0 (Nat.le_trans Z0 K7.1) ge7 B7) (by rw [hml]; rfl) pd_3 rfl rfl (hb hby d1_9) (W := 2) (Nat.le_of_eq rfl) (by decide) (by decide) (by decide) (by decide) ?_
  intro v9 T9 L9 X9 hQ9
  obtain ⟨rfl, N9q, K9q⟩ := hQ9
  have K9 := K7.trans K9q (allS (Or.inr sz7) all0)
  have N9 := Fr.app N0 N9q
  show own_Go p e below _ T9 (mkF m 12 #[.val (.ref a)] [(.ref b7), (.ref a)])
  have f10 := (own_Ob_keep (own_Ob_ext B0 E7) K9q (ninS ne8 nin0))
  refine own_putF X9 hx hZ (host := "") (ty := (.object "org/kusuridana/CsvLine$Ascii")) hown rfl (Or.inl (hw _ (List.mem_of_getElem? (i := 20) rfl))) Via.refl (own_Ob_fld f10 0 rfl) f10.1 (Or.inr ⟨(hw _ (List.mem_of_getElem? (i := 21) rfl)), rfl, hnm⟩) (hw _ (List.mem_of_getElem? (i := 3) rfl)) (by decide) rfl rfl (hb hby d1_12) ?_
  intro T11 h11 X11 e11 W11
  have B11 := own_Ob_put f10 own_ok1 (own_ld1 hw) 0 rfl W11
  have K11 := K9.wr W11 (Or.inl (List.mem_of_getElem? (i := 0) rfl))
  have N11 := Fr.snoc X11 N9 ga
  show own_Go p e below _ T11 (mkF m 15 #[.val (.ref a)] [])
  exact own_ret0 X11 hx hlk hret e11 (hb hby d1_15) ⟨rfl, N11, K11, _, B11⟩ (by decide) (by decide)
set_option maxRecDepth 65536 in
set_option maxHeartbeats 40000000 in
theorem own_rmP (l : Launch) (Z : State) (a0 : Array Value) (hw : ∀ d ∈ tables_1, d.before a0 Z = true) (ws : List Jvm.Cond) (a ct st : Addr) (ix bs vs nx nu : Int32) (g : Nat → Value) (f : Nat → Int32) (B V : Nat) (h0 : Heap) (n0 : Nat) (ga : n0 ≤ a) (B0 : own_Ob Z h0 a "org/kusuridana/CsvLine" own_fs1 g) (A0 : own_Ai Z h0 st .int 4 f) (hsa : st ≠ a) (hbs : bs.toInt = (B : Int)) (hvs : vs.toInt = (V : Int)) (hBV : B + V ≤ 3) :
    own_Met l (⟨"org/kusuridana/CsvLine", "point", "([BLorg/kusuridana/Encoding;I[IIIII)V"⟩ : MethodName) prog_25_method_3_code 9 none ws ({ frames := 0, cells := 0, slots := 0, locals := 0 } : Room) Z #[(.ref a), (.ref ct), .null, (.int ix), (.ref st), (.int bs), (.int vs), (.int nx), (.int nu)] h0 (own_QP Z a (own_gv (g 0) ct st ix bs vs (f B) (f (B + V) - 1) nx nu) h0 n0) := by
  refine own_enter (plainFor_of_name pn_4) ?_
  intro p e s m below meth c T0 X0 hx hby hml hZ hown e0 hret hlk hnm
  have hown : s.vm.findClass "org/kusuridana/CsvLine" = some m.cls := hown
  have hml : c.maxLocals = 9 := hml
  have N0 := Fr.nil n0
  refine own_start (ef_4 m a ct ix st bs vs nx nu) ?_
  show own_Go p e below _ T0 (mkF m 0 #[.val (.ref a), .val (.ref ct), .val .null, .val (.int ix), .val (.ref st), .val (.int bs), .val (.int vs), .val (.int nx), .val (.int nu)] [])
  have K0 := Keep.refl h0 [a]
  refine own_go (g' := (mkF m 1 #[.val (.ref a), .val (.ref ct), .val .null, .val (.int ix), .val (.ref st), .val (.int bs), .val (.int vs), .val (.int nx), .val (.int nu)] [(.ref a)])) (fun _ k => XS.aloadN X0.here hx rfl (hb hby d4_0) rfl rfl k) ?_
  refine own_go (g' := (mkF m 2 #[.val (.ref a), .val (.ref ct), .val .null, .val (.int ix), .val (.ref st), .val (.int bs), .val (.int vs), .val (.int nx), .val (.int nu)] [(.ref ct), (.ref a)])) (fun _ k => XS.aloadN X0.here hx rfl (hb hby d4_1) rfl rfl k) ?_
  refine own_putF X0 hx hZ (host := "") (ty := (.array .byte)) hown e0 (Or.inl (hw _ (List.mem_of_getElem? (i := 27) rfl))) Via.refl (own_Ob_fld B0 1 rfl) B0.1 (Or.inl (hw _ (List.mem_of_getElem? (i := 28) rfl))) (hw _ (List.mem_of_getElem? (i := 3) rfl)) (by decide) rfl rfl (hb hby d4_2) ?_
  intro T12 h12 X12 e12 W12
  have B12 := own_Ob_put B0 own_ok1 (own_ld1 hw) 1 rfl W12
  have K12 := K0.wr W12 (Or.inl (List.mem_of_getElem? (i := 0) rfl))
  have N12 := Fr.snoc X12 N0 ga
  show own_Go p e below _ T12 (mkF m 5 #[.val (.ref a), .val (.ref ct), .val .null, .val (.int ix), .val (.ref st), .val (.int bs), .val (.int vs), .val (.int nx), .val (.int nu)] [])
  refine own_go (g' := (mkF m 6 #[.val (.ref a), .val (.ref ct), .val .null, .val (.int ix), .val (.ref st), .val (.int bs), .val (.int vs), .val (.int nx), .val (.int nu)] [(.ref a)])) (fun _ k => XS.aloadN X12.here hx rfl (hb hby d4_5) rfl rfl k) ?_
  refine own_go (g' := (mkF m 7 #[.val (.ref a), .val (.ref ct), .val .null, .val (.int ix), .val (.ref st), .val (.int bs), .val (.int vs), .val (.int nx), .val (.int nu)] [.null, (.ref a)])) (fun _ k => XS.aloadN X12.here hx rfl (hb hby d4_6) rfl rfl k) ?_
  refine own_putF X12 hx hZ (host := "") (ty := (.object "org/kusuridana/Encoding")) hown e12 (Or.inl (hw _ (List.mem_of_getElem? (i := 29) rfl))) Via.refl (own_Ob_fld B12 2 rfl) B12.1 (Or.inl (hw _ (List.mem_of_getElem? (i := 30) rfl))) (hw _ (List.mem_of_getElem? (i := 3) rfl)) (by decide) rfl rfl (hb hby d4_7) ?_
  intro T13 h13 X13 e13 W13
  have B13 := own_Ob_put B12 own_ok1 (own_ld1 hw) 2 rfl W13
  have K13 := K12.wr W13 (Or.inl (List.mem_of_getElem? (i := 0) rfl))
  have N13 := Fr.snoc X13 N12 ga
  show own_Go p e below _ T13 (mkF m 10 #[.val (.ref a), .val (.ref ct), .val .null, .val (.int ix), .val (.ref st), .val (.int bs), .val (.int vs), .val (.int nx), .val (.int nu)] [])
  refine own_go (g' := (mkF m 11 #[.val (.ref a), .val (.ref ct), .val .null, .val (.int ix), .val (.ref st), .val (.int bs), .val (.int vs), .val (.int nx), .val (.int nu)] [(.ref a)])) (fun _ k => XS.aloadN X13.here hx rfl (hb hby d4_10) rfl rfl k) ?_
  refine own_go (g' := (mkF m 12 #[.val (.ref a), .val (.ref ct), .val .null, .val (.int ix), .val (.ref st), .val (.int bs), .val (.int vs), .val (.int nx), .val (.int nu)] [(.int ix), (.ref a)])) (fun _ k => XS.iloadN X13.here hx rfl (hb hby d4_11) rfl k) ?_
  refine own_putF X13 hx hZ (host := "") (ty := .int) hown e13 (Or.inl (hw _ (List.mem_of_getElem? (i := 31) rfl))) Via.refl (own_Ob_fld B13 3 rfl) B13.1 (Or.inl (hw _ (List.mem_of_getElem? (i := 32) rfl))) (hw _ (List.mem_of_getElem? (i := 3) rfl)) (by decide) rfl rfl (hb hby d4_12) ?_
  intro T14 h14 X14 e14 W14
  have B14 := own_Ob_put B13 own_ok1 (own_ld1 hw) 3 rfl W14
  have K14 := K13.wr W14 (Or.inl (List.mem_of_getElem? (i := 0) rfl))
  have N14 := Fr.snoc X14 N13 ga
  show own_Go p e below _ T14 (mkF m 15 #[.val (.ref a), .val (.ref ct), .val .null, .val (.int ix), .val (.ref st), .val (.int bs), .val (.int vs), .val (.int nx), .val (.int nu)] [])
  refine own_go (g' := (mkF m 16 #[.val (.ref a), .val (.ref ct), .val .null, .val (.int ix), .val (.ref st), .val (.int bs), .val (.int vs), .val (.int nx), .val (.int nu)] [(.ref a)])) (fun _ k => XS.aloadN X14.here hx rfl (hb hby d4_15) rfl rfl k) ?_
  refine own_go (g' := (mkF m 18 #[.val (.ref a), .val (.ref ct), .val .null, .val (.int ix), .val (.ref st), .val (.int bs), .val (.int vs), .val (.int nx), .val (.int nu)] [(.ref st), (.ref a)])) (fun _ k => XS.aload X14.here hx rfl (hb hby d4_16) rfl rfl k) ?_
  refine own_putF X14 hx hZ (host := "") (ty := (.array .int)) hown e14 (Or.inl (hw _ (List.mem_of_getElem? (i := 33) rfl))) Via.refl (own_Ob_fld B14 4 rfl) B14.1 (Or.inl (hw _ (List.mem_of_getElem? (i := 34) rfl))) (hw _ (List.mem_of_getElem? (i := 3) rfl)) (by decide) rfl rfl (hb hby d4_18) ?_
  intro T15 h15 X15 e15 W15
  have B15 := own_Ob_put B14 own_ok1 (own_ld1 hw) 4 rfl W15
  have K15 := K14.wr W15 (Or.inl (List.mem_of_getElem? (i := 0) rfl))
  have N15 := Fr.snoc X15 N14 ga
  show own_Go p e below _ T15 (mkF m 21 #[.val (.ref a), .val (.ref ct), .val .null, .val (.int ix), .val (.ref st), .val (.int bs), .val (.int vs), .val (.int nx), .val (.int nu)] [])
  refine own_go (g' := (mkF m 22 #[.val (.ref a), .val (.ref ct), .val .null, .val (.int ix), .val (.ref st), .val (.int bs), .val (.int vs), .val (.int nx), .val (.int nu)] [(.ref a)])) (fun _ k => XS.aloadN X15.here hx rfl (hb hby d4_21) rfl rfl k) ?_
  refine own_go (g' := (mkF m 24 #[.val (.ref a), .val (.ref ct), .val .null, .val (.int ix), .val (.ref st), .val (.int bs), .val (.int vs), .val (.int nx), .val (.int nu)] [(.int bs), (.ref a)])) (fun _ k => XS.iload X15.here hx rfl (hb hby d4_22) rfl k) ?_
  refine own_putF X15 hx hZ (host := "") (ty := .int) hown e15 (Or.inl (hw _ (List.mem_of_getElem? (i := 35) rfl))) Via.refl (own_Ob_fld B15 5 rfl) B15.1 (Or.inl (hw _ (List.mem_of_getElem? (i := 36) rfl))) (hw _ (List.mem_of_getElem? (i := 3) rfl)) (by decide) rfl rfl (hb hby d4_24) ?_
  intro T16 h16 X16 e16 W16
  have B16 := own_Ob_put B15 own_ok1 (own_ld1 hw) 5 rfl W16
  have K16 := K15.wr W16 (Or.inl (List.mem_of_getElem? (i := 0) rfl))
  have N16 := Fr.snoc X16 N15 ga
  show own_Go p e below _ T16 (mkF m 27 #[.val (.ref a), .val (.ref ct), .val .null, .val (.int ix), .val (.ref st), .val (.int bs), .val (.int vs), .val (.int nx), .val (.int nu)] [])
  refine own_go (g' := (mkF m 28 #[.val (.ref a), .val (.ref ct), .val .null, .val (.int ix), .val (.ref st), .val (.int bs), .val (.int vs), .val (.int nx), .val (.int nu)] [(.ref a)])) (fun _ k => XS.aloadN X16.here hx rfl (hb hby d4_27) rfl rfl k) ?_
  refine own_go (g' := (mkF m 30 #[.val (.ref a), .val (.ref ct), .val .null, .val (.int ix), .val (.ref st), .val (.int bs), .val (.int vs), .val (.int nx), .val (.int nu)] [(.int vs), (.ref a)])) (fun _ k => XS.iload X16.here hx rfl (hb hby d4_28) rfl k) ?_
  refine own_putF X16 hx hZ (host := "") (ty := .int) hown e16 (Or.inl (hw _ (List.mem_of_getElem? (i := 37) rfl))) Via.refl (own_Ob_fld B16 6 rfl) B16.1 (Or.inl (hw _ (List.mem_of_getElem? (i := 38) rfl))) (hw _ (List.mem_of_getElem? (i := 3) rfl)) (by decide) rfl rfl (hb hby d4_30) ?_
  intro T17 h17 X17 e17 W17
  have B17 := own_Ob_put B16 own_ok1 (own_ld1 hw) 6 rfl W17
  have K17 := K16.wr W17 (Or.inl (List.mem_of_getElem? (i := 0) rfl))
  have N17 := Fr.snoc X17 N16 ga
  show own_Go p e below _ T17 (mkF m 33 #[.val (.ref a), .val (.ref ct), .val .null, .val (.int ix), .val (.ref st), .val (.int bs), .val (.int vs), .val (.int nx), .val (.int nu)] [])
  refine own_go (g' := (mkF m 34 #[.val (.ref a), .val (.ref ct), .val .null, .val (.int ix), .val (.ref st), .val (.int bs), .val (.int vs), .val (.int nx), .val (.int nu)] [(.ref a)])) (fun _ k => XS.aloadN X17.here hx rfl (hb hby d4_33) rfl rfl k) ?_
  refine own_go (g' := (mkF m 36 #[.val (.ref a), .val (.ref ct), .val .null, .val (.int ix), .val (.ref st), .val (.int bs), .val (.int vs), .val (.int nx), .val (.int nu)] [(.ref st), (.ref a)])) (fun _ k => XS.aload X17.here hx rfl (hb hby d4_34) rfl rfl k) ?_
  refine own_go (g' := (mkF m 38 #[.val (.ref a), .val (.ref ct), .val .null, .val (.int ix), .val (.ref st), .val (.int bs), .val (.int vs), .val (.int nx), .val (.int nu)] [(.int bs), (.ref st), (.ref a)])) (fun _ k => XS.iload X17.here hx rfl (hb hby d4_36) rfl k) ?_
  have f18 := (own_Ar_other (own_Ar_other (own_Ar_other (own_Ar_other (own_Ar_other (own_Ar_other A0 W12 hsa) W13 hsa) W14 hsa) W15 hsa) W16 hsa) W17 hsa)
  refine own_iaload X17 hx hZ e17 f18 B hbs (by omega) (hb hby d4_38) ?_
  show own_Go p e below _ T17 (mkF m 39 #[.val (.ref a), .val (.ref ct), .val .null, .val (.int ix), .val (.ref st), .val (.int bs), .val (.int vs), .val (.int nx), .val (.int nu)] [(.int (f B)), (.ref a)])
  refine own_putF X17 hx hZ (host := "") (ty := .int) hown e17 (Or.inl (hw _ (List.mem_of_getElem? (i := 39) rfl))) Via.refl (own_Ob_fld B17 7 rfl) B17.1 (Or.inl (hw _ (List.mem_of_getElem? (i := 40) rfl))) (hw _ (List.mem_of_getElem? (i := 3) rfl)) (by decide) rfl rfl (hb hby d4_39) ?_
  intro T19 h19 X19 e19 W19
  have B19 := own_Ob_put B17 own_ok1 (own_ld1 hw) 7 rfl W19
  have K19 := K17.wr W19 (Or.inl (List.mem_of_getElem? (i := 0) rfl))
  have N19 := Fr.snoc X19 N17 ga
  show own_Go p e below _ T19 (mkF m 42 #[.val (.ref a), .val (.ref ct), .val .null, .val (.int ix), .val (.ref st), .val (.int bs), .val (.int vs), .val (.int nx), .val (.int nu)] [])
  refine own_go (g' := (mkF m 43 #[.val (.ref a), .val (.ref ct), .val .null, .val (.int ix), .val (.ref st), .val (.int bs), .val (.int vs), .val (.int nx), .val (.int nu)] [(.ref a)])) (fun _ k => XS.aloadN X19.here hx rfl (hb hby d4_42) rfl rfl k) ?_
  refine own_go (g' := (mkF m 45 #[.val (.ref a), .val (.ref ct), .val .null, .val (.int ix), .val (.ref st), .val (.int bs), .val (.int vs), .val (.int nx), .val (.int nu)] [(.ref st), (.ref a)])) (fun _ k => XS.aload X19.here hx rfl (hb hby d4_43) rfl rfl k) ?_
  refine own_go (g' := (mkF m 47 #[.val (.ref a), .val (.ref ct), .val .null, .val (.int ix), .val (.ref st), .val (.int bs), .val (.int vs), .val (.int nx), .val (.int nu)] [(.int bs), (.ref st), (.ref a)])) (fun _ k => XS.iload X19.here hx rfl (hb hby d4_45) rfl k) ?_
  refine own_go (g' := (mkF m 49 #[.val (.ref a), .val (.ref ct), .val .null, .val (.int ix), .val (.ref st), .val (.int bs), .val (.int vs), .val (.int nx), .val (.int nu)] [(.int vs), (.int bs), (.ref st), (.ref a)])) (fun _ k => XS.iload X19.here hx rfl (hb hby d4_47) rfl k) ?_
  refine own_go (g' := (mkF m 50 #[.val (.ref a), .val (.ref ct), .val .null, .val (.int ix), .val (.ref st), .val (.int bs), .val (.int vs), .val (.int nx), .val (.int nu)] [(.int (bs + vs)), (.ref st), (.ref a)])) (fun _ k => XS.iadd X19.here hx rfl (hb hby d4_49) rfl k) ?_
  have f20 := (own_Ar_other f18 W19 hsa)
  refine own_iaload X19 hx hZ e19 f20 (B + V) (own_addi hbs hvs (by omega)) (by omega) (hb hby d4_50) ?_
  show own_Go p e below _ T19 (mkF m 51 #[.val (.ref a), .val (.ref ct), .val .null, .val (.int ix), .val (.ref st), .val (.int bs), .val (.int vs), .val (.int nx), .val (.int nu)] [(.int (f (B + V))), (.ref a)])
  refine own_go (g' := (mkF m 52 #[.val (.ref a), .val (.ref ct), .val .null, .val (.int ix), .val (.ref st), .val (.int bs), .val (.int vs), .val (.int nx), .val (.int nu)] [(.int (1 : Int32)), (.int (f (B + V))), (.ref a)])) (fun _ k => XS.iconst X19.here hx rfl (hb hby d4_51) k) ?_
  refine own_go (g' := (mkF m 53 #[.val (.ref a), .val (.ref ct), .val .null, .val (.int ix), .val (.ref st), .val (.int bs), .val (.int vs), .val (.int nx), .val (.int nu)] [(.int ((f (B + V)) - (1 : Int32))), (.ref a)])) (fun _ k => XS.isub X19.here hx rfl (hb hby d4_52) rfl k) ?_
  refine own_putF X19 hx hZ (host := "") (ty := .int) hown e19 (Or.inl (hw _ (List.mem_of_getElem? (i := 41) rfl))) Via.refl (own_Ob_fld B19 8 rfl) B19.1 (Or.inl (hw _ (List.mem_of_getElem? (i := 42) rfl))) (hw _ (List.mem_of_getElem? (i := 3) rfl)) (by decide) rfl rfl (hb hby d4_53) ?_
  intro T21 h21 X21 e21 W21
  have B21 := own_Ob_put B19 own_ok1 (own_ld1 hw) 8 rfl W21
  have K21 := K19.wr W21 (Or.inl (List.mem_of_getElem? (i := 0) rfl))
  have N21 := Fr.snoc X21 N19 ga
  show own_Go p e below _ T21 (mkF m 56 #[.val (.ref a), .val (.ref ct), .val .null, .val (.int ix), .val (.ref st), .val (.int bs), .val (.int vs), .val (.int nx), .val (.int nu)] [])
  refine own_go (g' := (mkF m 57 #[.val (.ref a), .val (.ref ct), .val .null, .val (.int ix), .val (.ref st), .val (.int bs), .val (.int vs), .val (.int nx), .val (.int nu)] [(.ref a)])) (fun _ k => XS.aloadN X21.here hx rfl (hb hby d4_56) rfl rfl k) ?_
  refine own_go (g' := (mkF m 59 #[.val (.ref a), .val (.ref ct), .val .null, .val (.int ix), .val (.ref st), .val (.int bs), .val (.int vs), .val (.int nx), .val (.int nu)] [(.int nx), (.ref a)])) (fun _ k => XS.iload X21.here hx rfl (hb hby d4_57) rfl k) ?_
  refine own_putF X21 hx hZ (host := "") (ty := .int) hown e21 (Or.inl (hw _ (List.mem_of_getElem? (i := 43) rfl))) Via.refl (own_Ob_fld B21 9 rfl) B21.1 (Or.inl (hw _ (List.mem_of_getElem? (i := 44) rfl))) (hw _ (List.mem_of_getElem? (i := 3) rfl)) (by decide) rfl rfl (hb hby d4_59) ?_
  intro T22 h22 X22 e22 W22
  have B22 := own_Ob_put B21 own_ok1 (own_ld1 hw) 9 rfl W22
  have K22 := K21.wr W22 (Or.inl (List.mem_of_getElem? (i := 0) rfl))
  have N22 := Fr.snoc X22 N21 ga
  show own_Go p e below _ T22 (mkF m 62 #[.val (.ref a), .val (.ref ct), .val .null, .val (.int ix), .val (.ref st), .val (.int bs), .val (.int vs), .val (.int nx), .val (.int nu)] [])
  refine own_go (g' := (mkF m 63 #[.val (.ref a), .val (.ref ct), .val .null, .val (.int ix), .val (.ref st), .val (.int bs), .val (.int vs), .val (.int nx), .val (.int nu)] [(.ref a)])) (fun _ k => XS.aloadN X22.here hx rfl (hb hby d4_62) rfl rfl k) ?_
  refine own_go (g' := (mkF m 65 #[.val (.ref a), .val (.ref ct), .val .null, .val (.int ix), .val (.ref st), .val (.int bs), .val (.int vs), .val (.int nx), .val (.int nu)] [(.int nu), (.ref a)])) (fun _ k => XS.iload X22.here hx rfl (hb hby d4_63) rfl k) ?_
  refine own_putF X22 hx hZ (host := "") (ty := .int) hown e22 (Or.inl (hw _ (List.mem_of_getElem? (i := 45) rfl))) Via.refl (own_Ob_fld B22 10 rfl) B22.1 (Or.inl (hw _ (List.mem_of_getElem? (i := 46) rfl))) (hw _ (List.mem_of_getElem? (i := 3) rfl)) (by decide) rfl rfl (hb hby d4_65) ?_
  intro T23 h23 X23 e23 W23
  have B23 := own_Ob_put B22 own_ok1 (own_ld1 hw) 10 rfl W23
  have K23 := K22.wr W23 (Or.inl (List.mem_of_getElem? (i := 0) rfl))
  have N23 := Fr.snoc X23 N22 ga
  show own_Go p e below _ T23 (mkF m 68 #[.val (.ref a), .val (.ref ct), .val .null, .val (.int ix), .val (.ref st), .val (.int bs), .val (.int vs), .val (.int nx), .val (.int nu)] [])
  exact own_ret0 X23 hx hlk hret e23 (hb hby d4_68) ⟨rfl, N23, K23, own_Ob_eq B23 (fun i hi => by have hi' : i < 11 := hi; match i, hi' with | 0, _ => rfl | 1, _ => rfl | 2, _ => rfl | 3, _ => rfl | 4, _ => rfl | 5, _ => rfl | 6, _ => rfl | 7, _ => rfl | 8, _ => rfl | 9, _ => rfl | 10, _ => rfl)⟩ (by decide) (by decide)
set_option maxRecDepth 65536 in
set_option maxHeartbeats 40000000 in
theorem own_rmG1 (l : Launch) (Z : State) (a0 : Array Value) (hw : ∀ d ∈ tables_1, d.before a0 Z = true) (ws : List Jvm.Cond) (a ct st : Addr) (as : Value) (ix bs vs s0 en nx nu : Int32) (h0 : Heap) (n0 : Nat) (B0 : own_Ob Z h0 a "org/kusuridana/CsvLine" own_fs1 (own_gv as ct st ix bs vs s0 en nx nu)) :
    own_Met l (⟨"org/kusuridana/CsvLine", "content", "()[B"⟩ : MethodName) prog_25_method_14_code 1 (some (.array .byte)) ws ({ frames := 0, cells := 0, slots := 0, locals := 0 } : Room) Z #[(.ref a)] h0 (own_QV (.ref ct) h0) := by
  refine own_enter (plainFor_of_name pn_5) ?_
  intro p e s m below meth c T0 X0 hx hby hml hZ hown e0 hret hlk hnm
  have hown : s.vm.findClass "org/kusuridana/CsvLine" = some m.cls := hown
  have hml : c.maxLocals = 1 := hml
  have N0 := Fr.nil n0
  refine own_start (ef_5 m a) ?_
  show own_Go p e below _ T0 (mkF m 0 #[.val (.ref a)] [])
  refine own_go (g' := (mkF m 1 #[.val (.ref a)] [(.ref a)])) (fun _ k => XS.aloadN X0.here hx rfl (hb hby d5_0) rfl rfl k) ?_
  refine own_getF X0 hx hZ (host := "") hown e0 (Or.inl (hw _ (List.mem_of_getElem? (i := 27) rfl))) Via.refl (own_Ob_fld B0 1 rfl) (hb hby d5_1) ?_
  intro T24 X24 e24
  show own_Go p e below _ T24 (mkF m 4 #[.val (.ref a)] [(.ref ct)])
  exact own_retA X24 hx hlk (t := (.array .byte)) rfl hret e24 rfl rfl (hb hby d5_4) ⟨rfl, rfl, rfl⟩ (by decide) (by decide)
set_option maxRecDepth 65536 in
set_option maxHeartbeats 40000000 in
theorem own_rmG2 (l : Launch) (Z : State) (a0 : Array Value) (hw : ∀ d ∈ tables_1, d.before a0 Z = true) (ws : List Jvm.Cond) (a ct st : Addr) (as : Value) (ix bs vs s0 en nx nu : Int32) (h0 : Heap) (n0 : Nat) (B0 : own_Ob Z h0 a "org/kusuridana/CsvLine" own_fs1 (own_gv as ct st ix bs vs s0 en nx nu)) :
    own_Met l (⟨"org/kusuridana/CsvLine", "starts", "()[I"⟩ : MethodName) prog_25_method_15_code 1 (some (.array .int)) ws ({ frames := 0, cells := 0, slots := 0, locals := 0 } : Room) Z #[(.ref a)] h0 (own_QV (.ref st) h0) := by
  refine own_enter (plainFor_of_name pn_6) ?_
  intro p e s m below meth c T0 X0 hx hby hml hZ hown e0 hret hlk hnm
  have hown : s.vm.findClass "org/kusuridana/CsvLine" = some m.cls := hown
  have hml : c.maxLocals = 1 := hml
  have N0 := Fr.nil n0
  refine own_start (ef_6 m a) ?_
  show own_Go p e below _ T0 (mkF m 0 #[.val (.ref a)] [])
  refine own_go (g' := (mkF m 1 #[.val (.ref a)] [(.ref a)])) (fun _ k => XS.aloadN X0.here hx rfl (hb hby d6_0) rfl rfl k) ?_
  refine own_getF X0 hx hZ (host := "") hown e0 (Or.inl (hw _ (List.mem_of_getElem? (i := 33) rfl))) Via.refl (own_Ob_fld B0 4 rfl) (hb hby d6_1) ?_
  intro T25 X25 e25
  show own_Go p e below _ T25 (mkF m 4 #[.val (.ref a)] [(.ref st)])
  exact own_retA X25 hx hlk (t := (.array .int)) rfl hret e25 rfl rfl (hb hby d6_4) ⟨rfl, rfl, rfl⟩ (by decide) (by decide)
set_option maxRecDepth 65536 in
set_option maxHeartbeats 40000000 in
theorem own_rmG3 (l : Launch) (Z : State) (a0 : Array Value) (hw : ∀ d ∈ tables_1, d.before a0 Z = true) (ws : List Jvm.Cond) (a ct st : Addr) (as : Value) (ix bs vs s0 en nx nu : Int32) (h0 : Heap) (n0 : Nat) (B0 : own_Ob Z h0 a "org/kusuridana/CsvLine" own_fs1 (own_gv as ct st ix bs vs s0 en nx nu)) :
    own_Met l (⟨"org/kusuridana/CsvLine", "count", "()I"⟩ : MethodName) prog_25_method_10_code 1 (some .int) ws ({ frames := 0, cells := 0, slots := 0, locals := 0 } : Room) Z #[(.ref a)] h0 (own_QV (.int vs) h0) := by
  refine own_enter (plainFor_of_name pn_7) ?_
  intro p e s m below meth c T0 X0 hx hby hml hZ hown e0 hret hlk hnm
  have hown : s.vm.findClass "org/kusuridana/CsvLine" = some m.cls := hown
  have hml : c.maxLocals = 1 := hml
  have N0 := Fr.nil n0
  refine own_start (ef_7 m a) ?_
  show own_Go p e below _ T0 (mkF m 0 #[.val (.ref a)] [])
  refine own_go (g' := (mkF m 1 #[.val (.ref a)] [(.ref a)])) (fun _ k => XS.aloadN X0.here hx rfl (hb hby d7_0) rfl rfl k) ?_
  refine own_getF X0 hx hZ (host := "") hown e0 (Or.inl (hw _ (List.mem_of_getElem? (i := 37) rfl))) Via.refl (own_Ob_fld B0 6 rfl) (hb hby d7_1) ?_
  intro T26 X26 e26
  show own_Go p e below _ T26 (mkF m 4 #[.val (.ref a)] [(.int vs)])
  exact own_retI X26 hx hlk hret e26 (hb hby d7_4) ⟨rfl, rfl, rfl⟩ (by decide) (by decide)
set_option maxRecDepth 65536 in
set_option maxHeartbeats 40000000 in
theorem own_rmG4 (l : Launch) (Z : State) (a0 : Array Value) (hw : ∀ d ∈ tables_1, d.before a0 Z = true) (ws : List Jvm.Cond) (a ct st : Addr) (as : Value) (ix bs vs s0 en nx nu : Int32) (h0 : Heap) (n0 : Nat) (B0 : own_Ob Z h0 a "org/kusuridana/CsvLine" own_fs1 (own_gv as ct st ix bs vs s0 en nx nu)) :
    own_Met l (⟨"org/kusuridana/CsvLine", "number", "()I"⟩ : MethodName) prog_25_method_30_code 1 (some .int) ws ({ frames := 0, cells := 0, slots := 0, locals := 0 } : Room) Z #[(.ref a)] h0 (own_QV (.int nu) h0) := by
  refine own_enter (plainFor_of_name pn_8) ?_
  intro p e s m below meth c T0 X0 hx hby hml hZ hown e0 hret hlk hnm
  have hown : s.vm.findClass "org/kusuridana/CsvLine" = some m.cls := hown
  have hml : c.maxLocals = 1 := hml
  have N0 := Fr.nil n0
  refine own_start (ef_8 m a) ?_
  show own_Go p e below _ T0 (mkF m 0 #[.val (.ref a)] [])
  refine own_go (g' := (mkF m 1 #[.val (.ref a)] [(.ref a)])) (fun _ k => XS.aloadN X0.here hx rfl (hb hby d8_0) rfl rfl k) ?_
  refine own_getF X0 hx hZ (host := "") hown e0 (Or.inl (hw _ (List.mem_of_getElem? (i := 45) rfl))) Via.refl (own_Ob_fld B0 10 rfl) (hb hby d8_1) ?_
  intro T27 X27 e27
  show own_Go p e below _ T27 (mkF m 4 #[.val (.ref a)] [(.int nu)])
  exact own_retI X27 hx hlk hret e27 (hb hby d8_4) ⟨rfl, rfl, rfl⟩ (by decide) (by decide)
set_option maxRecDepth 65536 in
set_option maxHeartbeats 40000000 in
theorem own_rmG5 (l : Launch) (Z : State) (a0 : Array Value) (hw : ∀ d ∈ tables_1, d.before a0 Z = true) (ws : List Jvm.Cond) (a ct st : Addr) (as : Value) (ix bs vs s0 en nx nu : Int32) (h0 : Heap) (n0 : Nat) (B0 : own_Ob Z h0 a "org/kusuridana/CsvLine" own_fs1 (own_gv as ct st ix bs vs s0 en nx nu)) :
    own_Met l (⟨"org/kusuridana/CsvLine", "lineNumber", "()I"⟩ : MethodName) prog_25_method_5_code 1 (some .int) ws ({ frames := 0, cells := 0, slots := 0, locals := 0 } : Room) Z #[(.ref a)] h0 (own_QV (.int (ix + 1)) h0) := by
  refine own_enter (plainFor_of_name pn_9) ?_
  intro p e s m below meth c T0 X0 hx hby hml hZ hown e0 hret hlk hnm
  have hown : s.vm.findClass "org/kusuridana/CsvLine" = some m.cls := hown
  have hml : c.maxLocals = 1 := hml
  have N0 := Fr.nil n0
  refine own_start (ef_9 m a) ?_
  show own_Go p e below _ T0 (mkF m 0 #[.val (.ref a)] [])
  refine own_go (g' := (mkF m 1 #[.val (.ref a)] [(.ref a)])) (fun _ k => XS.aloadN X0.here hx rfl (hb hby d9_0) rfl rfl k) ?_
  refine own_getF X0 hx hZ (host := "") hown e0 (Or.inl (hw _ (List.mem_of_getElem? (i := 31) rfl))) Via.refl (own_Ob_fld B0 3 rfl) (hb hby d9_1) ?_
  intro T28 X28 e28
  show own_Go p e below _ T28 (mkF m 4 #[.val (.ref a)] [(.int ix)])
  refine own_go (g' := (mkF m 5 #[.val (.ref a)] [(.int (1 : Int32)), (.int ix)])) (fun _ k => XS.iconst X28.here hx rfl (hb hby d9_4) k) ?_
  refine own_go (g' := (mkF m 6 #[.val (.ref a)] [(.int (ix + (1 : Int32)))])) (fun _ k => XS.iadd X28.here hx rfl (hb hby d9_5) rfl k) ?_
  exact own_retI X28 hx hlk hret e28 (hb hby d9_6) ⟨rfl, rfl, rfl⟩ (by decide) (by decide)
set_option maxRecDepth 65536 in
set_option maxHeartbeats 40000000 in
theorem own_rmG6 (l : Launch) (Z : State) (a0 : Array Value) (hw : ∀ d ∈ tables_1, d.before a0 Z = true) (ws : List Jvm.Cond) (a ct st : Addr) (as : Value) (ix bs vs s0 en nx nu : Int32) (h0 : Heap) (n0 : Nat) (B0 : own_Ob Z h0 a "org/kusuridana/CsvLine" own_fs1 (own_gv as ct st ix bs vs s0 en nx nu)) :
    own_Met l (⟨"org/kusuridana/CsvLine", "length", "()I"⟩ : MethodName) prog_25_method_8_code 1 (some .int) ws ({ frames := 0, cells := 0, slots := 0, locals := 0 } : Room) Z #[(.ref a)] h0 (own_QV (.int (en - s0)) h0) := by
  refine own_enter (plainFor_of_name pn_10) ?_
  intro p e s m below meth c T0 X0 hx hby hml hZ hown e0 hret hlk hnm
  have hown : s.vm.findClass "org/kusuridana/CsvLine" = some m.cls := hown
  have hml : c.maxLocals = 1 := hml
  have N0 := Fr.nil n0
  refine own_start (ef_10 m a) ?_
  show own_Go p e below _ T0 (mkF m 0 #[.val (.ref a)] [])
  refine own_go (g' := (mkF m 1 #[.val (.ref a)] [(.ref a)])) (fun _ k => XS.aloadN X0.here hx rfl (hb hby d10_0) rfl rfl k) ?_
  refine own_getF X0 hx hZ (host := "") hown e0 (Or.inl (hw _ (List.mem_of_getElem? (i := 41) rfl))) Via.refl (own_Ob_fld B0 8 rfl) (hb hby d10_1) ?_
  intro T29 X29 e29
  show own_Go p e below _ T29 (mkF m 4 #[.val (.ref a)] [(.int en)])
  refine own_go (g' := (mkF m 5 #[.val (.ref a)] [(.ref a), (.int en)])) (fun _ k => XS.aloadN X29.here hx rfl (hb hby d10_4) rfl rfl k) ?_
  refine own_getF X29 hx hZ (host := "") hown e29 (Or.inl (hw _ (List.mem_of_getElem? (i := 39) rfl))) Via.refl (own_Ob_fld B0 7 rfl) (hb hby d10_5) ?_
  intro T30 X30 e30
  show own_Go p e below _ T30 (mkF m 8 #[.val (.ref a)] [(.int s0), (.int en)])
  refine own_go (g' := (mkF m 9 #[.val (.ref a)] [(.int (en - s0))])) (fun _ k => XS.isub X30.here hx rfl (hb hby d10_8) rfl k) ?_
  exact own_retI X30 hx hlk hret e30 (hb hby d10_9) ⟨rfl, rfl, rfl⟩ (by decide) (by decide)
set_option maxRecDepth 65536 in
set_option maxHeartbeats 40000000 in
theorem own_rmG7 (l : Launch) (Z : State) (a0 : Array Value) (hw : ∀ d ∈ tables_1, d.before a0 Z = true) (ws : List Jvm.Cond) (a ct st : Addr) (as : Value) (ix bs vs s0 en nx nu : Int32) (h0 : Heap) (n0 : Nat) (B0 : own_Ob Z h0 a "org/kusuridana/CsvLine" own_fs1 (own_gv as ct st ix bs vs s0 en nx nu)) :
    own_Met l (⟨"org/kusuridana/CsvLine", "isEmpty", "()Z"⟩ : MethodName) prog_25_method_7_code 1 (some .boolean) ws ({ frames := 0, cells := 0, slots := 0, locals := 0 } : Room) Z #[(.ref a)] h0 (own_QV (.int (if s0 = en then 1 else 0)) h0) := by
  refine own_enter (plainFor_of_name pn_11) ?_
  intro p e s m below meth c T0 X0 hx hby hml hZ hown e0 hret hlk hnm
  have hown : s.vm.findClass "org/kusuridana/CsvLine" = some m.cls := hown
  have hml : c.maxLocals = 1 := hml
  have N0 := Fr.nil n0
  refine own_start (ef_11 m a) ?_
  show own_Go p e below _ T0 (mkF m 0 #[.val (.ref a)] [])
  refine own_go (g' := (mkF m 1 #[.val (.ref a)] [(.ref a)])) (fun _ k => XS.aloadN X0.here hx rfl (hb hby d11_0) rfl rfl k) ?_
  refine own_getF X0 hx hZ (host := "") hown e0 (Or.inl (hw _ (List.mem_of_getElem? (i := 39) rfl))) Via.refl (own_Ob_fld B0 7 rfl) (hb hby d11_1) ?_
  intro T31 X31 e31
  show own_Go p e below _ T31 (mkF m 4 #[.val (.ref a)] [(.int s0)])
  refine own_go (g' := (mkF m 5 #[.val (.ref a)] [(.ref a), (.int s0)])) (fun _ k => XS.aloadN X31.here hx rfl (hb hby d11_4) rfl rfl k) ?_
  refine own_getF X31 hx hZ (host := "") hown e31 (Or.inl (hw _ (List.mem_of_getElem? (i := 41) rfl))) Via.refl (own_Ob_fld B0 8 rfl) (hb hby d11_5) ?_
  intro T32 X32 e32
  show own_Go p e below _ T32 (mkF m 8 #[.val (.ref a)] [(.int en), (.int s0)])
  by_cases ce : s0 = en
  · refine own_go (g' := (mkF m 11 #[.val (.ref a)] [])) (fun _ k => XS.icmpNo X32.here hx rfl (hb hby d11_8) rfl (XT.ii_ne_f ce) k) ?_
    refine own_go (g' := (mkF m 12 #[.val (.ref a)] [(.int (1 : Int32))])) (fun _ k => XS.iconst X32.here hx rfl (hb hby d11_11) k) ?_
    refine own_go (g' := (mkF m 16 #[.val (.ref a)] [(.int (1 : Int32))])) (fun _ k => XS.goto X32.here hx rfl (pc0 := 12) (pc' := 16) rfl (hb hby d11_12) (by decide) (by decide) k) ?_
    exact own_retZ X32 hx hlk hret e32 (hb hby d11_16) ⟨by simp [ce], rfl, rfl⟩ (by decide) (by decide)
  · refine own_go (g' := (mkF m 15 #[.val (.ref a)] [])) (fun _ k => XS.icmpYes X32.here hx rfl (pc0 := 8) (pc' := 15) rfl (hb hby d11_8) rfl (XT.ii_ne_t ce) (by decide) (by decide) k) ?_
    refine own_go (g' := (mkF m 16 #[.val (.ref a)] [(.int (0 : Int32))])) (fun _ k => XS.iconst X32.here hx rfl (hb hby d11_15) k) ?_
    exact own_retZ X32 hx hlk hret e32 (hb hby d11_16) ⟨by simp [ce], rfl, rfl⟩ (by decide) (by decide)
set_option maxRecDepth 65536 in
set_option maxHeartbeats 40000000 in
theorem own_rmLE (l : Launch) (Z : State) (a0 : Array Value) (hw : ∀ d ∈ tables_1, d.before a0 Z = true) (ws : List Jvm.Cond) (a ct st : Addr) (as : Value) (ix bs vs s0 en nx nu : Int32) (n1 n2 n3 : Addr) (h0 : Heap) (n0 : Nat) (B0 : own_Ob Z h0 a "org/kusuridana/CsvLine" own_fs1 (own_gv as ct st ix bs vs s0 en nx nu)) (S1 : Sta Z h0 "org/kusuridana/Encoding$LineEnd" "NONE" "Lorg/kusuridana/Encoding$LineEnd;" (.ref n1)) (S2 : Sta Z h0 "org/kusuridana/Encoding$LineEnd" "LF" "Lorg/kusuridana/Encoding$LineEnd;" (.ref n2)) (S3 : Sta Z h0 "org/kusuridana/Encoding$LineEnd" "CR_LF" "Lorg/kusuridana/Encoding$LineEnd;" (.ref n3)) :
    own_Met l (⟨"org/kusuridana/CsvLine", "lineEnd", "()Lorg/kusuridana/Encoding$LineEnd;"⟩ : MethodName) prog_25_method_6_code 1 (some (.object "org/kusuridana/Encoding$LineEnd")) ws ({ frames := 0, cells := 0, slots := 0, locals := 0 } : Room) Z #[(.ref a)] h0 (own_QV (.ref (own_le (nx - en) n1 n2 n3)) h0) := by
  refine own_enter (plainFor_of_name pn_12) ?_
  intro p e s m below meth c T0 X0 hx hby hml hZ hown e0 hret hlk hnm
  have hown : s.vm.findClass "org/kusuridana/CsvLine" = some m.cls := hown
  have hml : c.maxLocals = 1 := hml
  have N0 := Fr.nil n0
  refine own_start (ef_12 m a) ?_
  show own_Go p e below _ T0 (mkF m 0 #[.val (.ref a)] [])
  refine own_go (g' := (mkF m 1 #[.val (.ref a)] [(.ref a)])) (fun _ k => XS.aloadN X0.here hx rfl (hb hby d12_0) rfl rfl k) ?_
  refine own_getF X0 hx hZ (host := "") hown e0 (Or.inl (hw _ (List.mem_of_getElem? (i := 43) rfl))) Via.refl (own_Ob_fld B0 9 rfl) (hb hby d12_1) ?_
  intro T33 X33 e33
  show own_Go p e below _ T33 (mkF m 4 #[.val (.ref a)] [(.int nx)])
  refine own_go (g' := (mkF m 5 #[.val (.ref a)] [(.ref a), (.int nx)])) (fun _ k => XS.aloadN X33.here hx rfl (hb hby d12_4) rfl rfl k) ?_
  refine own_getF X33 hx hZ (host := "") hown e33 (Or.inl (hw _ (List.mem_of_getElem? (i := 41) rfl))) Via.refl (own_Ob_fld B0 8 rfl) (hb hby d12_5) ?_
  intro T34 X34 e34
  show own_Go p e below _ T34 (mkF m 8 #[.val (.ref a)] [(.int en), (.int nx)])
  refine own_go (g' := (mkF m 9 #[.val (.ref a)] [(.int (nx - en))])) (fun _ k => XS.isub X34.here hx rfl (hb hby d12_8) rfl k) ?_
  obtain ⟨gp, hgp⟩ : ∃ z : Int32, z = (nx - en) := ⟨_, rfl⟩
  rw [← hgp]
  show own_Go p e below _ T34 (mkF m 9 #[.val (.ref a)] [(.int gp)])
  by_cases c0 : gp = 0
  · refine own_go (g' := (mkF m 36 #[.val (.ref a)] [])) (fun _ k => X34.lookupswitchHit hx (g := (mkF m 9 #[.val (.ref a)] [(.int gp)])) rfl rfl (hb hby d12_9) rfl (a := 0) (by rw [c0]; rfl) (by show (0 : Int) ≤ ((9 : Nat) : Int) + 27; decide) _ k) ?_
    refine own_getS X34 hx hZ (host := "") hown e34 (Or.inl (hw _ (List.mem_of_getElem? (i := 90) rfl))) Via.refl S1 (hb hby d12_36) ?_
    intro T35 X35 e35
    show own_Go p e below _ T35 (mkF m 39 #[.val (.ref a)] [(.ref n1)])
    refine own_go (g' := (mkF m 51 #[.val (.ref a)] [(.ref n1)])) (fun _ k => XS.goto X35.here hx rfl (pc0 := 39) (pc' := 51) rfl (hb hby d12_39) (by decide) (by decide) k) ?_
    exact own_retA X35 hx hlk (t := (.object "org/kusuridana/Encoding$LineEnd")) rfl hret e35 rfl rfl (hb hby d12_51) ⟨by simp [own_le, c0], rfl, rfl⟩ (by decide) (by decide)
  · by_cases c1 : gp = 1
    · refine own_go (g' := (mkF m 42 #[.val (.ref a)] [])) (fun _ k => X34.lookupswitchHit hx (g := (mkF m 9 #[.val (.ref a)] [(.int gp)])) rfl rfl (hb hby d12_9) rfl (a := 1) (by rw [c1]; rfl) (by show (0 : Int) ≤ ((9 : Nat) : Int) + 33; decide) _ k) ?_
      refine own_getS X34 hx hZ (host := "") hown e34 (Or.inl (hw _ (List.mem_of_getElem? (i := 98) rfl))) Via.refl S2 (hb hby d12_42) ?_
      intro T36 X36 e36
      show own_Go p e below _ T36 (mkF m 45 #[.val (.ref a)] [(.ref n2)])
      refine own_go (g' := (mkF m 51 #[.val (.ref a)] [(.ref n2)])) (fun _ k => XS.goto X36.here hx rfl (pc0 := 45) (pc' := 51) rfl (hb hby d12_45) (by decide) (by decide) k) ?_
      exact own_retA X36 hx hlk (t := (.object "org/kusuridana/Encoding$LineEnd")) rfl hret e36 rfl rfl (hb hby d12_51) ⟨by simp [own_le, c0, c1], rfl, rfl⟩ (by decide) (by decide)
    · refine own_go (g' := (mkF m 48 #[.val (.ref a)] [])) (fun _ k => X34.lookupswitchMiss hx (g := (mkF m 9 #[.val (.ref a)] [(.int gp)])) rfl rfl (hb hby d12_9) rfl (own_miss c0 c1) (by show (0 : Int) ≤ ((9 : Nat) : Int) + 39; decide) _ k) ?_
      refine own_getS X34 hx hZ (host := "") hown e34 (Or.inl (hw _ (List.mem_of_getElem? (i := 101) rfl))) Via.refl S3 (hb hby d12_48) ?_
      intro T37 X37 e37
      show own_Go p e below _ T37 (mkF m 51 #[.val (.ref a)] [(.ref n3)])
      exact own_retA X37 hx hlk (t := (.object "org/kusuridana/Encoding$LineEnd")) rfl hret e37 rfl rfl (hb hby d12_51) ⟨by simp [own_le, c0, c1], rfl, rfl⟩ (by decide) (by decide)
set_option maxRecDepth 65536 in
set_option maxHeartbeats 40000000 in
theorem own_rmS (l : Launch) (Z : State) (a0 : Array Value) (hw : ∀ d ∈ tables_1, d.before a0 Z = true) (ws : List Jvm.Cond) (a ct st : Addr) (as : Value) (ix bs vs s0 en nx nu : Int32) (ki : Int32) (f : Nat → Int32) (B V KK : Nat) (h0 : Heap) (n0 : Nat) (B0 : own_Ob Z h0 a "org/kusuridana/CsvLine" own_fs1 (own_gv as ct st ix bs vs s0 en nx nu)) (A0 : own_Ai Z h0 st .int 4 f) (hbs : bs.toInt = (B : Int)) (hvs : vs.toInt = (V : Int)) (hki : ki.toInt = (KK : Int)) (hKV : KK ≤ V) (hBV : B + V ≤ 3) :
    own_Met l (⟨"org/kusuridana/CsvLine", "start", "(I)I"⟩ : MethodName) prog_25_method_13_code 2 (some .int) ws ({ frames := 0, cells := 0, slots := 0, locals := 0 } : Room) Z #[(.ref a), (.int ki)] h0 (own_QV (.int (f (B + KK))) h0) := by
  refine own_enter (plainFor_of_name pn_13) ?_
  intro p e s m below meth c T0 X0 hx hby hml hZ hown e0 hret hlk hnm
  have hown : s.vm.findClass "org/kusuridana/CsvLine" = some m.cls := hown
  have hml : c.maxLocals = 2 := hml
  have N0 := Fr.nil n0
  refine own_start (ef_13 m a ki) ?_
  show own_Go p e below _ T0 (mkF m 0 #[.val (.ref a), .val (.int ki)] [])
  refine own_go (g' := (mkF m 1 #[.val (.ref a), .val (.int ki)] [(.int ki)])) (fun _ k => XS.iloadN X0.here hx rfl (hb hby d13_0) rfl k) ?_
  refine own_go (g' := (mkF m 4 #[.val (.ref a), .val (.int ki)] [])) (fun _ k => XS.ifNo X0.here hx rfl (hb hby d13_1) rfl (XT.i0_lt_f (own_nneg hki)) k) ?_
  refine own_go (g' := (mkF m 5 #[.val (.ref a), .val (.int ki)] [(.int ki)])) (fun _ k => XS.iloadN X0.here hx rfl (hb hby d13_4) rfl k) ?_
  refine own_go (g' := (mkF m 6 #[.val (.ref a), .val (.int ki)] [(.ref a), (.int ki)])) (fun _ k => XS.aloadN X0.here hx rfl (hb hby d13_5) rfl rfl k) ?_
  refine own_getF X0 hx hZ (host := "") hown e0 (Or.inl (hw _ (List.mem_of_getElem? (i := 37) rfl))) Via.refl (own_Ob_fld B0 6 rfl) (hb hby d13_6) ?_
  intro T38 X38 e38
  show own_Go p e below _ T38 (mkF m 9 #[.val (.ref a), .val (.int ki)] [(.int vs), (.int ki)])
  refine own_go (g' := (mkF m 18 #[.val (.ref a), .val (.int ki)] [])) (fun _ k => XS.icmpYes X38.here hx rfl (pc0 := 9) (pc' := 18) rfl (hb hby d13_9) rfl (XT.ii_le_t (by rw [Int32.lt_iff_toInt_lt, hki, hvs]; omega)) (by decide) (by decide) k) ?_
  refine own_go (g' := (mkF m 19 #[.val (.ref a), .val (.int ki)] [(.ref a)])) (fun _ k => XS.aloadN X38.here hx rfl (hb hby d13_18) rfl rfl k) ?_
  refine own_getF X38 hx hZ (host := "") hown e38 (Or.inl (hw _ (List.mem_of_getElem? (i := 33) rfl))) Via.refl (own_Ob_fld B0 4 rfl) (hb hby d13_19) ?_
  intro T39 X39 e39
  show own_Go p e below _ T39 (mkF m 22 #[.val (.ref a), .val (.int ki)] [(.ref st)])
  refine own_go (g' := (mkF m 23 #[.val (.ref a), .val (.int ki)] [(.ref a), (.ref st)])) (fun _ k => XS.aloadN X39.here hx rfl (hb hby d13_22) rfl rfl k) ?_
  refine own_getF X39 hx hZ (host := "") hown e39 (Or.inl (hw _ (List.mem_of_getElem? (i := 35) rfl))) Via.refl (own_Ob_fld B0 5 rfl) (hb hby d13_23) ?_
  intro T40 X40 e40
  show own_Go p e below _ T40 (mkF m 26 #[.val (.ref a), .val (.int ki)] [(.int bs), (.ref st)])
  refine own_go (g' := (mkF m 27 #[.val (.ref a), .val (.int ki)] [(.int ki), (.int bs), (.ref st)])) (fun _ k => XS.iloadN X40.here hx rfl (hb hby d13_26) rfl k) ?_
  refine own_go (g' := (mkF m 28 #[.val (.ref a), .val (.int ki)] [(.int (bs + ki)), (.ref st)])) (fun _ k => XS.iadd X40.here hx rfl (hb hby d13_27) rfl k) ?_
  refine own_iaload X40 hx hZ e40 A0 (B + KK) (own_addi hbs hki (by omega)) (by omega) (hb hby d13_28) ?_
  show own_Go p e below _ T40 (mkF m 29 #[.val (.ref a), .val (.int ki)] [(.int (f (B + KK)))])
  exact own_retI X40 hx hlk hret e40 (hb hby d13_29) ⟨rfl, rfl, rfl⟩ (by decide) (by decide)
set_option maxRecDepth 65536 in
set_option maxHeartbeats 40000000 in
theorem own_rm0 (l : Launch) (Z : State) (a0 : Array Value) (hw : ∀ d ∈ tables_1, d.before a0 Z = true) (ws : List Jvm.Cond) (p1 p2 p3 : Int32) (q4 q5 : Int64) (p6 : Int32) (n1 n2 n3 : Addr) (h0 : Heap) (n0 : Nat) (Z0 : n0 ≤ h0.size) (O0 : Old Z n0 h0) (S1 : Sta Z Z.heap "org/kusuridana/Encoding$LineEnd" "NONE" "Lorg/kusuridana/Encoding$LineEnd;" (.ref n1)) (S2 : Sta Z Z.heap "org/kusuridana/Encoding$LineEnd" "LF" "Lorg/kusuridana/Encoding$LineEnd;" (.ref n2)) (S3 : Sta Z Z.heap "org/kusuridana/Encoding$LineEnd" "CR_LF" "Lorg/kusuridana/Encoding$LineEnd;" (.ref n3)) :
    own_Met l x code maxLocals ret ws room_1 Z #[(.int p1), (.int p2), (.int p3), (.long q4), (.long q5), (.int p6)] h0 (own_Q0 n0) := by
  refine own_enter (plainFor_of_name pn_0) ?_
  intro p e s m below meth c T0 X0 hx hby hml hZ hown e0 hret hlk hnm
  have hown : s.vm.findClass "org/kusuridana/CsvLinePointPinLaw" = some m.cls := hown
  have hml : c.maxLocals = 20 := hml
  have N0 := Fr.nil n0
  refine own_start (ef_0 m p1 p2 p3 q4 q5 p6) ?_
  show own_Go p e below _ T0 (mkF m 0 #[.val (.int p1), .val (.int p2), .val (.int p3), .val (.long q4), .second, .val (.long q5), .second, .val (.int p6), .unset, .unset, .unset, .unset, .unset, .unset, .unset, .unset, .unset, .unset, .unset, .unset] [])
  have K0 := Keep.refl h0 []
  refine own_go (g' := (mkF m 2 #[.val (.int p1), .val (.int p2), .val (.int p3), .val (.long q4), .second, .val (.long q5), .second, .val (.int p6), .unset, .unset, .unset, .unset, .unset, .unset, .unset, .unset, .unset, .unset, .unset, .unset] [(.int p6)])) (fun _ k => XS.iload X0.here hx rfl (hb hby at_0) rfl k) ?_
  refine own_go (g' := (mkF m 3 #[.val (.int p1), .val (.int p2), .val (.int p3), .val (.long q4), .second, .val (.long q5), .second, .val (.int p6), .unset, .unset, .unset, .unset, .unset, .unset, .unset, .unset, .unset, .unset, .unset, .unset] [(.int (3 : Int32)), (.int p6)])) (fun _ k => XS.iconst X0.here hx rfl (hb hby at_2) k) ?_
  refine own_go (g' := (mkF m 4 #[.val (.int p1), .val (.int p2), .val (.int p3), .val (.long q4), .second, .val (.long q5), .second, .val (.int p6), .unset, .unset, .unset, .unset, .unset, .unset, .unset, .unset, .unset, .unset, .unset, .unset] [(.int (p6 &&& (3 : Int32)))])) (fun _ k => XS.iand X0.here hx rfl (hb hby at_3) rfl k) ?_
  refine own_go (g' := (mkF m 5 #[.val (.int p1), .val (.int p2), .val (.int p3), .val (.long q4), .second, .val (.long q5), .second, .val (.int p6), .unset, .unset, .unset, .unset, .unset, .unset, .unset, .unset, .unset, .unset, .unset, .unset] [(.int (3 : Int32)), (.int (p6 &&& (3 : Int32)))])) (fun _ k => XS.iconst X0.here hx rfl (hb hby at_4) k) ?_
  refine own_go (g' := (mkF m 6 #[.val (.int p1), .val (.int p2), .val (.int p3), .val (.long q4), .second, .val (.long q5), .second, .val (.int p6), .unset, .unset, .unset, .unset, .unset, .unset, .unset, .unset, .unset, .unset, .unset, .unset] [(.int ((p6 &&& (3 : Int32)) % (3 : Int32)))])) (fun _ k => Jvm.RoadKit.iremM X0 hx rfl (hb hby at_5) rfl (by decide) k) ?_
  refine own_go (g' := (mkF m 8 #[.val (.int p1), .val (.int p2), .val (.int p3), .val (.long q4), .second, .val (.long q5), .second, .val (.int p6), .val (.int ((p6 &&& (3 : Int32)) % (3 : Int32))), .unset, .unset, .unset, .unset, .unset, .unset, .unset, .unset, .unset, .unset, .unset] [])) (fun _ k => XS.istore X0.here hx rfl (hb hby at_6) rfl (l' := #[.val (.int p1), .val (.int p2), .val (.int p3), .val (.long q4), .second, .val (.long q5), .second, .val (.int p6), .val (.int ((p6 &&& (3 : Int32)) % (3 : Int32))), .unset, .unset, .unset, .unset, .unset, .unset, .unset, .unset, .unset, .unset, .unset]) rfl k) ?_
  obtain ⟨bs, hbs⟩ : ∃ z : Int32, z = ((p6 &&& (3 : Int32)) % (3 : Int32)) := ⟨_, rfl⟩
  rw [← hbs]
  show own_Go p e below _ T0 (mkF m 8 #[.val (.int p1), .val (.int p2), .val (.int p3), .val (.long q4), .second, .val (.long q5), .second, .val (.int p6), .val (.int bs), .unset, .unset, .unset, .unset, .unset, .unset, .unset, .unset, .unset, .unset, .unset] [])
  obtain ⟨B, kB, hB2⟩ : ∃ B : Nat, bs.toInt = (B : Int) ∧ B ≤ 2 := hbs ▸ own_base p6
  refine own_go (g' := (mkF m 9 #[.val (.int p1), .val (.int p2), .val (.int p3), .val (.long q4), .second, .val (.long q5), .second, .val (.int p6), .val (.int bs), .unset, .unset, .unset, .unset, .unset, .unset, .unset, .unset, .unset, .unset, .unset] [(.int (1 : Int32))])) (fun _ k => XS.iconst X0.here hx rfl (hb hby at_8) k) ?_
  refine own_go (g' := (mkF m 11 #[.val (.int p1), .val (.int p2), .val (.int p3), .val (.long q4), .second, .val (.long q5), .second, .val (.int p6), .val (.int bs), .unset, .unset, .unset, .unset, .unset, .unset, .unset, .unset, .unset, .unset, .unset] [(.int p6), (.int (1 : Int32))])) (fun _ k => XS.iload X0.here hx rfl (hb hby at_9) rfl k) ?_
  refine own_go (g' := (mkF m 12 #[.val (.int p1), .val (.int p2), .val (.int p3), .val (.long q4), .second, .val (.long q5), .second, .val (.int p6), .val (.int bs), .unset, .unset, .unset, .unset, .unset, .unset, .unset, .unset, .unset, .unset, .unset] [(.int (2 : Int32)), (.int p6), (.int (1 : Int32))])) (fun _ k => XS.iconst X0.here hx rfl (hb hby at_11) k) ?_
  refine own_go (g' := (mkF m 13 #[.val (.int p1), .val (.int p2), .val (.int p3), .val (.long q4), .second, .val (.long q5), .second, .val (.int p6), .val (.int bs), .unset, .unset, .unset, .unset, .unset, .unset, .unset, .unset, .unset, .unset, .unset] [(.int (XT.ushr p6 (2 : Int32))), (.int (1 : Int32))])) (fun _ k => XT.iushr X0.here hx rfl (hb hby at_12) rfl k) ?_
  refine own_go (g' := (mkF m 14 #[.val (.int p1), .val (.int p2), .val (.int p3), .val (.long q4), .second, .val (.long q5), .second, .val (.int p6), .val (.int bs), .unset, .unset, .unset, .unset, .unset, .unset, .unset, .unset, .unset, .unset, .unset] [(.int (3 : Int32)), (.int (XT.ushr p6 (2 : Int32))), (.int (1 : Int32))])) (fun _ k => XS.iconst X0.here hx rfl (hb hby at_13) k) ?_
  refine own_go (g' := (mkF m 15 #[.val (.int p1), .val (.int p2), .val (.int p3), .val (.long q4), .second, .val (.long q5), .second, .val (.int p6), .val (.int bs), .unset, .unset, .unset, .unset, .unset, .unset, .unset, .unset, .unset, .unset, .unset] [(.int ((XT.ushr p6 (2 : Int32)) &&& (3 : Int32))), (.int (1 : Int32))])) (fun _ k => XS.iand X0.here hx rfl (hb hby at_14) rfl k) ?_
  refine own_go (g' := (mkF m 16 #[.val (.int p1), .val (.int p2), .val (.int p3), .val (.long q4), .second, .val (.long q5), .second, .val (.int p6), .val (.int bs), .unset, .unset, .unset, .unset, .unset, .unset, .unset, .unset, .unset, .unset, .unset] [(.int (3 : Int32)), (.int ((XT.ushr p6 (2 : Int32)) &&& (3 : Int32))), (.int (1 : Int32))])) (fun _ k => XS.iconst X0.here hx rfl (hb hby at_15) k) ?_
  refine own_go (g' := (mkF m 18 #[.val (.int p1), .val (.int p2), .val (.int p3), .val (.long q4), .second, .val (.long q5), .second, .val (.int p6), .val (.int bs), .unset, .unset, .unset, .unset, .unset, .unset, .unset, .unset, .unset, .unset, .unset] [(.int bs), (.int (3 : Int32)), (.int ((XT.ushr p6 (2 : Int32)) &&& (3 : Int32))), (.int (1 : Int32))])) (fun _ k => XS.iload X0.here hx rfl (hb hby at_16) rfl k) ?_
  refine own_go (g' := (mkF m 19 #[.val (.int p1), .val (.int p2), .val (.int p3), .val (.long q4), .second, .val (.long q5), .second, .val (.int p6), .val (.int bs), .unset, .unset, .unset, .unset, .unset, .unset, .unset, .unset, .unset, .unset, .unset] [(.int ((3 : Int32) - bs)), (.int ((XT.ushr p6 (2 : Int32)) &&& (3 : Int32))), (.int (1 : Int32))])) (fun _ k => XS.isub X0.here hx rfl (hb hby at_18) rfl k) ?_
  refine own_go (g' := (mkF m 20 #[.val (.int p1), .val (.int p2), .val (.int p3), .val (.long q4), .second, .val (.long q5), .second, .val (.int p6), .val (.int bs), .unset, .unset, .unset, .unset, .unset, .unset, .unset, .unset, .unset, .unset, .unset] [(.int (((XT.ushr p6 (2 : Int32)) &&& (3 : Int32)) % ((3 : Int32) - bs))), (.int (1 : Int32))])) (fun _ k => Jvm.RoadKit.iremM X0 hx rfl (hb hby at_19) rfl (own_3b kB hB2) k) ?_
  refine own_go (g' := (mkF m 21 #[.val (.int p1), .val (.int p2), .val (.int p3), .val (.long q4), .second, .val (.long q5), .second, .val (.int p6), .val (.int bs), .unset, .unset, .unset, .unset, .unset, .unset, .unset, .unset, .unset, .unset, .unset] [(.int ((1 : Int32) + (((XT.ushr p6 (2 : Int32)) &&& (3 : Int32)) % ((3 : Int32) - bs))))])) (fun _ k => XS.iadd X0.here hx rfl (hb hby at_20) rfl k) ?_
  refine own_go (g' := (mkF m 23 #[.val (.int p1), .val (.int p2), .val (.int p3), .val (.long q4), .second, .val (.long q5), .second, .val (.int p6), .val (.int bs), .val (.int ((1 : Int32) + (((XT.ushr p6 (2 : Int32)) &&& (3 : Int32)) % ((3 : Int32) - bs)))), .unset, .unset, .unset, .unset, .unset, .unset, .unset, .unset, .unset, .unset] [])) (fun _ k => XS.istore X0.here hx rfl (hb hby at_21) rfl (l' := #[.val (.int p1), .val (.int p2), .val (.int p3), .val (.long q4), .second, .val (.long q5), .second, .val (.int p6), .val (.int bs), .val (.int ((1 : Int32) + (((XT.ushr p6 (2 : Int32)) &&& (3 : Int32)) % ((3 : Int32) - bs)))), .unset, .unset, .unset, .unset, .unset, .unset, .unset, .unset, .unset, .unset]) rfl k) ?_
  obtain ⟨vs, hvs⟩ : ∃ z : Int32, z = ((1 : Int32) + (((XT.ushr p6 (2 : Int32)) &&& (3 : Int32)) % ((3 : Int32) - bs))) := ⟨_, rfl⟩
  rw [← hvs]
  show own_Go p e below _ T0 (mkF m 23 #[.val (.int p1), .val (.int p2), .val (.int p3), .val (.long q4), .second, .val (.long q5), .second, .val (.int p6), .val (.int bs), .val (.int vs), .unset, .unset, .unset, .unset, .unset, .unset, .unset, .unset, .unset, .unset] [])
  obtain ⟨V, kV, hV1, hBV⟩ : ∃ V : Nat, vs.toInt = (V : Int) ∧ 1 ≤ V ∧ B + V ≤ 3 := hvs ▸ own_vals p6 kB hB2
  refine own_go (g' := (mkF m 25 #[.val (.int p1), .val (.int p2), .val (.int p3), .val (.long q4), .second, .val (.long q5), .second, .val (.int p6), .val (.int bs), .val (.int vs), .unset, .unset, .unset, .unset, .unset, .unset, .unset, .unset, .unset, .unset] [(.int p6)])) (fun _ k => XS.iload X0.here hx rfl (hb hby at_23) rfl k) ?_
  refine own_go (g' := (mkF m 26 #[.val (.int p1), .val (.int p2), .val (.int p3), .val (.long q4), .second, .val (.long q5), .second, .val (.int p6), .val (.int bs), .val (.int vs), .unset, .unset, .unset, .unset, .unset, .unset, .unset, .unset, .unset, .unset] [(.int (4 : Int32)), (.int p6)])) (fun _ k => XS.iconst X0.here hx rfl (hb hby at_25) k) ?_
  refine own_go (g' := (mkF m 27 #[.val (.int p1), .val (.int p2), .val (.int p3), .val (.long q4), .second, .val (.long q5), .second, .val (.int p6), .val (.int bs), .val (.int vs), .unset, .unset, .unset, .unset, .unset, .unset, .unset, .unset, .unset, .unset] [(.int (XT.ushr p6 (4 : Int32)))])) (fun _ k => XT.iushr X0.here hx rfl (hb hby at_26) rfl k) ?_
  refine own_go (g' := (mkF m 28 #[.val (.int p1), .val (.int p2), .val (.int p3), .val (.long q4), .second, .val (.long q5), .second, .val (.int p6), .val (.int bs), .val (.int vs), .unset, .unset, .unset, .unset, .unset, .unset, .unset, .unset, .unset, .unset] [(.int (3 : Int32)), (.int (XT.ushr p6 (4 : Int32)))])) (fun _ k => XS.iconst X0.here hx rfl (hb hby at_27) k) ?_
  refine own_go (g' := (mkF m 29 #[.val (.int p1), .val (.int p2), .val (.int p3), .val (.long q4), .second, .val (.long q5), .second, .val (.int p6), .val (.int bs), .val (.int vs), .unset, .unset, .unset, .unset, .unset, .unset, .unset, .unset, .unset, .unset] [(.int ((XT.ushr p6 (4 : Int32)) &&& (3 : Int32)))])) (fun _ k => XS.iand X0.here hx rfl (hb hby at_28) rfl k) ?_
  refine own_go (g' := (mkF m 31 #[.val (.int p1), .val (.int p2), .val (.int p3), .val (.long q4), .second, .val (.long q5), .second, .val (.int p6), .val (.int bs), .val (.int vs), .unset, .unset, .unset, .unset, .unset, .unset, .unset, .unset, .unset, .unset] [(.int vs), (.int ((XT.ushr p6 (4 : Int32)) &&& (3 : Int32)))])) (fun _ k => XS.iload X0.here hx rfl (hb hby at_29) rfl k) ?_
  refine own_go (g' := (mkF m 32 #[.val (.int p1), .val (.int p2), .val (.int p3), .val (.long q4), .second, .val (.long q5), .second, .val (.int p6), .val (.int bs), .val (.int vs), .unset, .unset, .unset, .unset, .unset, .unset, .unset, .unset, .unset, .unset] [(.int (1 : Int32)), (.int vs), (.int ((XT.ushr p6 (4 : Int32)) &&& (3 : Int32)))])) (fun _ k => XS.iconst X0.here hx rfl (hb hby at_31) k) ?_
  refine own_go (g' := (mkF m 33 #[.val (.int p1), .val (.int p2), .val (.int p3), .val (.long q4), .second, .val (.long q5), .second, .val (.int p6), .val (.int bs), .val (.int vs), .unset, .unset, .unset, .unset, .unset, .unset, .unset, .unset, .unset, .unset] [(.int (vs + (1 : Int32))), (.int ((XT.ushr p6 (4 : Int32)) &&& (3 : Int32)))])) (fun _ k => XS.iadd X0.here hx rfl (hb hby at_32) rfl k) ?_
  refine own_go (g' := (mkF m 34 #[.val (.int p1), .val (.int p2), .val (.int p3), .val (.long q4), .second, .val (.long q5), .second, .val (.int p6), .val (.int bs), .val (.int vs), .unset, .unset, .unset, .unset, .unset, .unset, .unset, .unset, .unset, .unset] [(.int (((XT.ushr p6 (4 : Int32)) &&& (3 : Int32)) % (vs + (1 : Int32))))])) (fun _ k => Jvm.RoadKit.iremM X0 hx rfl (hb hby at_33) rfl (own_v1 kV (by omega)) k) ?_
  refine own_go (g' := (mkF m 36 #[.val (.int p1), .val (.int p2), .val (.int p3), .val (.long q4), .second, .val (.long q5), .second, .val (.int p6), .val (.int bs), .val (.int vs), .val (.int (((XT.ushr p6 (4 : Int32)) &&& (3 : Int32)) % (vs + (1 : Int32)))), .unset, .unset, .unset, .unset, .unset, .unset, .unset, .unset, .unset] [])) (fun _ k => XS.istore X0.here hx rfl (hb hby at_34) rfl (l' := #[.val (.int p1), .val (.int p2), .val (.int p3), .val (.long q4), .second, .val (.long q5), .second, .val (.int p6), .val (.int bs), .val (.int vs), .val (.int (((XT.ushr p6 (4 : Int32)) &&& (3 : Int32)) % (vs + (1 : Int32)))), .unset, .unset, .unset, .unset, .unset, .unset, .unset, .unset, .unset]) rfl k) ?_
  obtain ⟨ki, hki⟩ : ∃ z : Int32, z = (((XT.ushr p6 (4 : Int32)) &&& (3 : Int32)) % (vs + (1 : Int32))) := ⟨_, rfl⟩
  rw [← hki]
  show own_Go p e below _ T0 (mkF m 36 #[.val (.int p1), .val (.int p2), .val (.int p3), .val (.long q4), .second, .val (.long q5), .second, .val (.int p6), .val (.int bs), .val (.int vs), .val (.int ki), .unset, .unset, .unset, .unset, .unset, .unset, .unset, .unset, .unset] [])
  obtain ⟨KK, kK, hKV⟩ : ∃ KK : Nat, ki.toInt = (KK : Int) ∧ KK ≤ V := hki ▸ own_k p6 kV (by omega)
  refine own_go (g' := (mkF m 37 #[.val (.int p1), .val (.int p2), .val (.int p3), .val (.long q4), .second, .val (.long q5), .second, .val (.int p6), .val (.int bs), .val (.int vs), .val (.int ki), .unset, .unset, .unset, .unset, .unset, .unset, .unset, .unset, .unset] [(.int (4 : Int32))])) (fun _ k => XS.iconst X0.here hx rfl (hb hby at_36) k) ?_
  refine own_newP X0 hx hZ e0 (aty := .int) (hw _ (List.mem_of_getElem? (i := 0) rfl)) 4 (by decide) (by decide) (by decide) (by decide) (by decide) (hb hby at_37) ?_
  intro T41 h41 b41 g41 X41 e41 E41 A41
  have sz41 : h0.size ≤ b41 := Nat.le_trans K0.1 (Nat.le_of_eq g41.symm)
  have ge41 : n0 ≤ b41 := Nat.le_trans Z0 sz41
  have K41 := K0.ext E41
  have O41 := O0.ext E41
  show own_Go p e below _ T41 (mkF m 39 #[.val (.int p1), .val (.int p2), .val (.int p3), .val (.long q4), .second, .val (.long q5), .second, .val (.int p6), .val (.int bs), .val (.int vs), .val (.int ki), .unset, .unset, .unset, .unset, .unset, .unset, .unset, .unset, .unset] [(.ref b41)])
  have F41 : own_Ai Z h41 b41 .int 4 (fun _ => 0) := A41
  refine own_go (g' := (mkF m 41 #[.val (.int p1), .val (.int p2), .val (.int p3), .val (.long q4), .second, .val (.long q5), .second, .val (.int p6), .val (.int bs), .val (.int vs), .val (.int ki), .val (.ref b41), .unset, .unset, .unset, .unset, .unset, .unset, .unset, .unset] [])) (fun _ k => XS.astore X41.here hx rfl (hb hby at_39) rfl rfl (l' := #[.val (.int p1), .val (.int p2), .val (.int p3), .val (.long q4), .second, .val (.long q5), .second, .val (.int p6), .val (.int bs), .val (.int vs), .val (.int ki), .val (.ref b41), .unset, .unset, .unset, .unset, .unset, .unset, .unset, .unset]) rfl k) ?_
  refine own_go (g' := (mkF m 43 #[.val (.int p1), .val (.int p2), .val (.int p3), .val (.long q4), .second, .val (.long q5), .second, .val (.int p6), .val (.int bs), .val (.int vs), .val (.int ki), .val (.ref b41), .unset, .unset, .unset, .unset, .unset, .unset, .unset, .unset] [(.ref b41)])) (fun _ k => XS.aload X41.here hx rfl (hb hby at_41) rfl rfl k) ?_
  refine own_go (g' := (mkF m 44 #[.val (.int p1), .val (.int p2), .val (.int p3), .val (.long q4), .second, .val (.long q5), .second, .val (.int p6), .val (.int bs), .val (.int vs), .val (.int ki), .val (.ref b41), .unset, .unset, .unset, .unset, .unset, .unset, .unset, .unset] [(.int (0 : Int32)), (.ref b41)])) (fun _ k => XS.iconst X41.here hx rfl (hb hby at_43) k) ?_
  refine own_go (g' := (mkF m 45 #[.val (.int p1), .val (.int p2), .val (.int p3), .val (.long q4), .second, .val (.long q5), .second, .val (.int p6), .val (.int bs), .val (.int vs), .val (.int ki), .val (.ref b41), .unset, .unset, .unset, .unset, .unset, .unset, .unset, .unset] [(.long q4), (.int (0 : Int32)), (.ref b41)])) (fun _ k => XT.lloadN X41.here hx rfl (hb hby at_44) rfl k) ?_
  refine own_go (g' := (mkF m 46 #[.val (.int p1), .val (.int p2), .val (.int p3), .val (.long q4), .second, .val (.long q5), .second, .val (.int p6), .val (.int bs), .val (.int vs), .val (.int ki), .val (.ref b41), .unset, .unset, .unset, .unset, .unset, .unset, .unset, .unset] [(.int ((q4).toInt32)), (.int (0 : Int32)), (.ref b41)])) (fun _ k => XT.l2i X41.here hx rfl (hb hby at_45) rfl k) ?_
  refine own_iastore X41 hx hZ e41 F41 0 (by decide) (by decide) (hb hby at_46) ?_
  intro T42 h42 X42 e42 W42
  have F42 := own_Ai_set F41 W42
  have K42 := K41.wr W42 (Or.inr sz41)
  have O42 := O41.wr W42 ge41
  have N42 := Fr.snoc X42 N0 ge41
  show own_Go p e below _ T42 (mkF m 47 #[.val (.int p1), .val (.int p2), .val (.int p3), .val (.long q4), .second, .val (.long q5), .second, .val (.int p6), .val (.int bs), .val (.int vs), .val (.int ki), .val (.ref b41), .unset, .unset, .unset, .unset, .unset, .unset, .unset, .unset] [])
  refine own_go (g' := (mkF m 49 #[.val (.int p1), .val (.int p2), .val (.int p3), .val (.long q4), .second, .val (.long q5), .second, .val (.int p6), .val (.int bs), .val (.int vs), .val (.int ki), .val (.ref b41), .unset, .unset, .unset, .unset, .unset, .unset, .unset, .unset] [(.ref b41)])) (fun _ k => XS.aload X42.here hx rfl (hb hby at_47) rfl rfl k) ?_
  refine own_go (g' := (mkF m 50 #[.val (.int p1), .val (.int p2), .val (.int p3), .val (.long q4), .second, .val (.long q5), .second, .val (.int p6), .val (.int bs), .val (.int vs), .val (.int ki), .val (.ref b41), .unset, .unset, .unset, .unset, .unset, .unset, .unset, .unset] [(.int (1 : Int32)), (.ref b41)])) (fun _ k => XS.iconst X42.here hx rfl (hb hby at_49) k) ?_
  refine own_go (g' := (mkF m 51 #[.val (.int p1), .val (.int p2), .val (.int p3), .val (.long q4), .second, .val (.long q5), .second, .val (.int p6), .val (.int bs), .val (.int vs), .val (.int ki), .val (.ref b41), .unset, .unset, .unset, .unset, .unset, .unset, .unset, .unset] [(.long q4), (.int (1 : Int32)), (.ref b41)])) (fun _ k => XT.lloadN X42.here hx rfl (hb hby at_50) rfl k) ?_
  refine own_go (g' := (mkF m 53 #[.val (.int p1), .val (.int p2), .val (.int p3), .val (.long q4), .second, .val (.long q5), .second, .val (.int p6), .val (.int bs), .val (.int vs), .val (.int ki), .val (.ref b41), .unset, .unset, .unset, .unset, .unset, .unset, .unset, .unset] [(.int (32 : Int32)), (.long q4), (.int (1 : Int32)), (.ref b41)])) (fun _ k => XS.bipush X42.here hx rfl (hb hby at_51) k) ?_
  refine own_go (g' := (mkF m 54 #[.val (.int p1), .val (.int p2), .val (.int p3), .val (.long q4), .second, .val (.long q5), .second, .val (.int p6), .val (.int bs), .val (.int vs), .val (.int ki), .val (.ref b41), .unset, .unset, .unset, .unset, .unset, .unset, .unset, .unset] [(.long (XT.ushrL q4 (32 : Int32))), (.int (1 : Int32)), (.ref b41)])) (fun _ k => XT.lushr X42.here hx rfl (hb hby at_53) rfl k) ?_
  refine own_go (g' := (mkF m 55 #[.val (.int p1), .val (.int p2), .val (.int p3), .val (.long q4), .second, .val (.long q5), .second, .val (.int p6), .val (.int bs), .val (.int vs), .val (.int ki), .val (.ref b41), .unset, .unset, .unset, .unset, .unset, .unset, .unset, .unset] [(.int (((XT.ushrL q4 (32 : Int32))).toInt32)), (.int (1 : Int32)), (.ref b41)])) (fun _ k => XT.l2i X42.here hx rfl (hb hby at_54) rfl k) ?_
  refine own_iastore X42 hx hZ e42 F42 1 (by decide) (by decide) (hb hby at_55) ?_
  intro T43 h43 X43 e43 W43
  have F43 := own_Ai_set F42 W43
  have K43 := K42.wr W43 (Or.inr sz41)
  have O43 := O42.wr W43 ge41
  have N43 := Fr.snoc X43 N42 ge41
  show own_Go p e below _ T43 (mkF m 56 #[.val (.int p1), .val (.int p2), .val (.int p3), .val (.long q4), .second, .val (.long q5), .second, .val (.int p6), .val (.int bs), .val (.int vs), .val (.int ki), .val (.ref b41), .unset, .unset, .unset, .unset, .unset, .unset, .unset, .unset] [])
  refine own_go (g' := (mkF m 58 #[.val (.int p1), .val (.int p2), .val (.int p3), .val (.long q4), .second, .val (.long q5), .second, .val (.int p6), .val (.int bs), .val (.int vs), .val (.int ki), .val (.ref b41), .unset, .unset, .unset, .unset, .unset, .unset, .unset, .unset] [(.ref b41)])) (fun _ k => XS.aload X43.here hx rfl (hb hby at_56) rfl rfl k) ?_
  refine own_go (g' := (mkF m 59 #[.val (.int p1), .val (.int p2), .val (.int p3), .val (.long q4), .second, .val (.long q5), .second, .val (.int p6), .val (.int bs), .val (.int vs), .val (.int ki), .val (.ref b41), .unset, .unset, .unset, .unset, .unset, .unset, .unset, .unset] [(.int (2 : Int32)), (.ref b41)])) (fun _ k => XS.iconst X43.here hx rfl (hb hby at_58) k) ?_
  refine own_go (g' := (mkF m 61 #[.val (.int p1), .val (.int p2), .val (.int p3), .val (.long q4), .second, .val (.long q5), .second, .val (.int p6), .val (.int bs), .val (.int vs), .val (.int ki), .val (.ref b41), .unset, .unset, .unset, .unset, .unset, .unset, .unset, .unset] [(.long q5), (.int (2 : Int32)), (.ref b41)])) (fun _ k => XT.lload X43.here hx rfl (hb hby at_59) rfl k) ?_
  refine own_go (g' := (mkF m 62 #[.val (.int p1), .val (.int p2), .val (.int p3), .val (.long q4), .second, .val (.long q5), .second, .val (.int p6), .val (.int bs), .val (.int vs), .val (.int ki), .val (.ref b41), .unset, .unset, .unset, .unset, .unset, .unset, .unset, .unset] [(.int ((q5).toInt32)), (.int (2 : Int32)), (.ref b41)])) (fun _ k => XT.l2i X43.here hx rfl (hb hby at_61) rfl k) ?_
  refine own_iastore X43 hx hZ e43 F43 2 (by decide) (by decide) (hb hby at_62) ?_
  intro T44 h44 X44 e44 W44
  have F44 := own_Ai_set F43 W44
  have K44 := K43.wr W44 (Or.inr sz41)
  have O44 := O43.wr W44 ge41
  have N44 := Fr.snoc X44 N43 ge41
  show own_Go p e below _ T44 (mkF m 63 #[.val (.int p1), .val (.int p2), .val (.int p3), .val (.long q4), .second, .val (.long q5), .second, .val (.int p6), .val (.int bs), .val (.int vs), .val (.int ki), .val (.ref b41), .unset, .unset, .unset, .unset, .unset, .unset, .unset, .unset] [])
  refine own_go (g' := (mkF m 65 #[.val (.int p1), .val (.int p2), .val (.int p3), .val (.long q4), .second, .val (.long q5), .second, .val (.int p6), .val (.int bs), .val (.int vs), .val (.int ki), .val (.ref b41), .unset, .unset, .unset, .unset, .unset, .unset, .unset, .unset] [(.ref b41)])) (fun _ k => XS.aload X44.here hx rfl (hb hby at_63) rfl rfl k) ?_
  refine own_go (g' := (mkF m 66 #[.val (.int p1), .val (.int p2), .val (.int p3), .val (.long q4), .second, .val (.long q5), .second, .val (.int p6), .val (.int bs), .val (.int vs), .val (.int ki), .val (.ref b41), .unset, .unset, .unset, .unset, .unset, .unset, .unset, .unset] [(.int (3 : Int32)), (.ref b41)])) (fun _ k => XS.iconst X44.here hx rfl (hb hby at_65) k) ?_
  refine own_go (g' := (mkF m 68 #[.val (.int p1), .val (.int p2), .val (.int p3), .val (.long q4), .second, .val (.long q5), .second, .val (.int p6), .val (.int bs), .val (.int vs), .val (.int ki), .val (.ref b41), .unset, .unset, .unset, .unset, .unset, .unset, .unset, .unset] [(.long q5), (.int (3 : Int32)), (.ref b41)])) (fun _ k => XT.lload X44.here hx rfl (hb hby at_66) rfl k) ?_
  refine own_go (g' := (mkF m 70 #[.val (.int p1), .val (.int p2), .val (.int p3), .val (.long q4), .second, .val (.long q5), .second, .val (.int p6), .val (.int bs), .val (.int vs), .val (.int ki), .val (.ref b41), .unset, .unset, .unset, .unset, .unset, .unset, .unset, .unset] [(.int (32 : Int32)), (.long q5), (.int (3 : Int32)), (.ref b41)])) (fun _ k => XS.bipush X44.here hx rfl (hb hby at_68) k) ?_
  refine own_go (g' := (mkF m 71 #[.val (.int p1), .val (.int p2), .val (.int p3), .val (.long q4), .second, .val (.long q5), .second, .val (.int p6), .val (.int bs), .val (.int vs), .val (.int ki), .val (.ref b41), .unset, .unset, .unset, .unset, .unset, .unset, .unset, .unset] [(.long (XT.ushrL q5 (32 : Int32))), (.int (3 : Int32)), (.ref b41)])) (fun _ k => XT.lushr X44.here hx rfl (hb hby at_70) rfl k) ?_
  refine own_go (g' := (mkF m 72 #[.val (.int p1), .val (.int p2), .val (.int p3), .val (.long q4), .second, .val (.long q5), .second, .val (.int p6), .val (.int bs), .val (.int vs), .val (.int ki), .val (.ref b41), .unset, .unset, .unset, .unset, .unset, .unset, .unset, .unset] [(.int (((XT.ushrL q5 (32 : Int32))).toInt32)), (.int (3 : Int32)), (.ref b41)])) (fun _ k => XT.l2i X44.here hx rfl (hb hby at_71) rfl k) ?_
  refine own_iastore X44 hx hZ e44 F44 3 (by decide) (by decide) (hb hby at_72) ?_
  intro T45 h45 X45 e45 W45
  have F45 := own_Ai_set F44 W45
  have K45 := K44.wr W45 (Or.inr sz41)
  have O45 := O44.wr W45 ge41
  have N45 := Fr.snoc X45 N44 ge41
  show own_Go p e below _ T45 (mkF m 73 #[.val (.int p1), .val (.int p2), .val (.int p3), .val (.long q4), .second, .val (.long q5), .second, .val (.int p6), .val (.int bs), .val (.int vs), .val (.int ki), .val (.ref b41), .unset, .unset, .unset, .unset, .unset, .unset, .unset, .unset] [])
  obtain ⟨f0, F0⟩ : ∃ f, own_Ai Z h45 b41 .int 4 f := ⟨_, F45⟩
  refine own_go (g' := (mkF m 75 #[.val (.int p1), .val (.int p2), .val (.int p3), .val (.long q4), .second, .val (.long q5), .second, .val (.int p6), .val (.int bs), .val (.int vs), .val (.int ki), .val (.ref b41), .unset, .unset, .unset, .unset, .unset, .unset, .unset, .unset] [(.int p6)])) (fun _ k => XS.iload X45.here hx rfl (hb hby at_73) rfl k) ?_
  refine own_go (g' := (mkF m 77 #[.val (.int p1), .val (.int p2), .val (.int p3), .val (.long q4), .second, .val (.long q5), .second, .val (.int p6), .val (.int bs), .val (.int vs), .val (.int ki), .val (.ref b41), .unset, .unset, .unset, .unset, .unset, .unset, .unset, .unset] [(.int (8 : Int32)), (.int p6)])) (fun _ k => XS.bipush X45.here hx rfl (hb hby at_75) k) ?_
  refine own_go (g' := (mkF m 78 #[.val (.int p1), .val (.int p2), .val (.int p3), .val (.long q4), .second, .val (.long q5), .second, .val (.int p6), .val (.int bs), .val (.int vs), .val (.int ki), .val (.ref b41), .unset, .unset, .unset, .unset, .unset, .unset, .unset, .unset] [(.int (XT.ushr p6 (8 : Int32)))])) (fun _ k => XT.iushr X45.here hx rfl (hb hby at_77) rfl k) ?_
  refine own_go (g' := (mkF m 79 #[.val (.int p1), .val (.int p2), .val (.int p3), .val (.long q4), .second, .val (.long q5), .second, .val (.int p6), .val (.int bs), .val (.int vs), .val (.int ki), .val (.ref b41), .unset, .unset, .unset, .unset, .unset, .unset, .unset, .unset] [(.int (1 : Int32)), (.int (XT.ushr p6 (8 : Int32)))])) (fun _ k => XS.iconst X45.here hx rfl (hb hby at_78) k) ?_
  refine own_go (g' := (mkF m 80 #[.val (.int p1), .val (.int p2), .val (.int p3), .val (.long q4), .second, .val (.long q5), .second, .val (.int p6), .val (.int bs), .val (.int vs), .val (.int ki), .val (.ref b41), .unset, .unset, .unset, .unset, .unset, .unset, .unset, .unset] [(.int ((XT.ushr p6 (8 : Int32)) &&& (1 : Int32)))])) (fun _ k => XS.iand X45.here hx rfl (hb hby at_79) rfl k) ?_
  suffices J : ∀ T' h' lo f, Stand p l e room_1 s m #[(.int p1), (.int p2), (.int p3), (.long q4), (.long q5), (.int p6)] below meth c T' lo 1 4 → T'.heap = h' → Fr n0 lo → Keep h0 h' [] → Old Z n0 h' → own_Ai Z h' b41 .int 4 f → own_Go p e below (own_Po s (own_Q0 n0) 24 128) T' (mkF m 98 #[.val (.int p1), .val (.int p2), .val (.int p3), .val (.long q4), .second, .val (.long q5), .second, .val (.int p6), .val (.int bs), .val (.int vs), .val (.int ki), .val (.ref b41), .unset, .unset, .unset, .unset, .unset, .unset, .unset, .unset] []) by
    by_cases cf : ((XT.ushr p6 (8 : Int32)) &&& (1 : Int32)) = 0
    · refine own_go (g' := (mkF m 98 #[.val (.int p1), .val (.int p2), .val (.int p3), .val (.long q4), .second, .val (.long q5), .second, .val (.int p6), .val (.int bs), .val (.int vs), .val (.int ki), .val (.ref b41), .unset, .unset, .unset, .unset, .unset, .unset, .unset, .unset] [])) (fun _ k => XS.ifYes X45.here hx rfl (pc0 := 80) (pc' := 98) rfl (hb hby at_80) rfl (XT.i0_eq_t cf) (by decide) (by decide) k) ?_
      exact J _ _ _ _ X45 e45 N45 K45 O45 F0
    · refine own_go (g' := (mkF m 83 #[.val (.int p1), .val (.int p2), .val (.int p3), .val (.long q4), .second, .val (.long q5), .second, .val (.int p6), .val (.int bs), .val (.int vs), .val (.int ki), .val (.ref b41), .unset, .unset, .unset, .unset, .unset, .unset, .unset, .unset] [])) (fun _ k => XS.ifNo X45.here hx rfl (hb hby at_80) rfl (XT.i0_eq_f cf) k) ?_
      refine own_go (g' := (mkF m 85 #[.val (.int p1), .val (.int p2), .val (.int p3), .val (.long q4), .second, .val (.long q5), .second, .val (.int p6), .val (.int bs), .val (.int vs), .val (.int ki), .val (.ref b41), .unset, .unset, .unset, .unset, .unset, .unset, .unset, .unset] [(.ref b41)])) (fun _ k => XS.aload X45.here hx rfl (hb hby at_83) rfl rfl k) ?_
      refine own_go (g' := (mkF m 87 #[.val (.int p1), .val (.int p2), .val (.int p3), .val (.long q4), .second, .val (.long q5), .second, .val (.int p6), .val (.int bs), .val (.int vs), .val (.int ki), .val (.ref b41), .unset, .unset, .unset, .unset, .unset, .unset, .unset, .unset] [(.int bs), (.ref b41)])) (fun _ k => XS.iload X45.here hx rfl (hb hby at_85) rfl k) ?_
      refine own_go (g' := (mkF m 89 #[.val (.int p1), .val (.int p2), .val (.int p3), .val (.long q4), .second, .val (.long q5), .second, .val (.int p6), .val (.int bs), .val (.int vs), .val (.int ki), .val (.ref b41), .unset, .unset, .unset, .unset, .unset, .unset, .unset, .unset] [(.int vs), (.int bs), (.ref b41)])) (fun _ k => XS.iload X45.here hx rfl (hb hby at_87) rfl k) ?_
      refine own_go (g' := (mkF m 90 #[.val (.int p1), .val (.int p2), .val (.int p3), .val (.long q4), .second, .val (.long q5), .second, .val (.int p6), .val (.int bs), .val (.int vs), .val (.int ki), .val (.ref b41), .unset, .unset, .unset, .unset, .unset, .unset, .unset, .unset] [(.int (bs + vs)), (.ref b41)])) (fun _ k => XS.iadd X45.here hx rfl (hb hby at_89) rfl k) ?_
      refine own_go (g' := (mkF m 92 #[.val (.int p1), .val (.int p2), .val (.int p3), .val (.long q4), .second, .val (.long q5), .second, .val (.int p6), .val (.int bs), .val (.int vs), .val (.int ki), .val (.ref b41), .unset, .unset, .unset, .unset, .unset, .unset, .unset, .unset] [(.ref b41), (.int (bs + vs)), (.ref b41)])) (fun _ k => XS.aload X45.here hx rfl (hb hby at_90) rfl rfl k) ?_
      refine own_go (g' := (mkF m 94 #[.val (.int p1), .val (.int p2), .val (.int p3), .val (.long q4), .second, .val (.long q5), .second, .val (.int p6), .val (.int bs), .val (.int vs), .val (.int ki), .val (.ref b41), .unset, .unset, .unset, .unset, .unset, .unset, .unset, .unset] [(.int bs), (.ref b41), (.int (bs + vs)), (.ref b41)])) (fun _ k => XS.iload X45.here hx rfl (hb hby at_92) rfl k) ?_
      refine own_iaload X45 hx hZ e45 F0 B kB (by omega) (hb hby at_94) ?_
      show own_Go p e below _ T45 (mkF m 95 #[.val (.int p1), .val (.int p2), .val (.int p3), .val (.long q4), .second, .val (.long q5), .second, .val (.int p6), .val (.int bs), .val (.int vs), .val (.int ki), .val (.ref b41), .unset, .unset, .unset, .unset, .unset, .unset, .unset, .unset] [(.int (f0 B)), (.int (bs + vs)), (.ref b41)])
      refine own_go (g' := (mkF m 96 #[.val (.int p1), .val (.int p2), .val (.int p3), .val (.long q4), .second, .val (.long q5), .second, .val (.int p6), .val (.int bs), .val (.int vs), .val (.int ki), .val (.ref b41), .unset, .unset, .unset, .unset, .unset, .unset, .unset, .unset] [(.int (1 : Int32)), (.int (f0 B)), (.int (bs + vs)), (.ref b41)])) (fun _ k => XS.iconst X45.here hx rfl (hb hby at_95) k) ?_
      refine own_go (g' := (mkF m 97 #[.val (.int p1), .val (.int p2), .val (.int p3), .val (.long q4), .second, .val (.long q5), .second, .val (.int p6), .val (.int bs), .val (.int vs), .val (.int ki), .val (.ref b41), .unset, .unset, .unset, .unset, .unset, .unset, .unset, .unset] [(.int ((f0 B) + (1 : Int32))), (.int (bs + vs)), (.ref b41)])) (fun _ k => XS.iadd X45.here hx rfl (hb hby at_96) rfl k) ?_
      refine own_iastore X45 hx hZ e45 F0 (B + V) (own_addi kB kV (by omega)) (by omega) (hb hby at_97) ?_
      intro T46 h46 X46 e46 W46
      have F46 := own_Ai_set F0 W46
      have K46 := K45.wr W46 (Or.inr sz41)
      have O46 := O45.wr W46 ge41
      have N46 := Fr.snoc X46 N45 ge41
      show own_Go p e below _ T46 (mkF m 98 #[.val (.int p1), .val (.int p2), .val (.int p3), .val (.long q4), .second, .val (.long q5), .second, .val (.int p6), .val (.int bs), .val (.int vs), .val (.int ki), .val (.ref b41), .unset, .unset, .unset, .unset, .unset, .unset, .unset, .unset] [])
      exact J _ _ _ _ X46 e46 N46 K46 O46 F46
  intro T1 h1 lo1 f1 X1 e1 N1 K1 O1 F1
  refine own_go (g' := (mkF m 100 #[.val (.int p1), .val (.int p2), .val (.int p3), .val (.long q4), .second, .val (.long q5), .second, .val (.int p6), .val (.int bs), .val (.int vs), .val (.int ki), .val (.ref b41), .unset, .unset, .unset, .unset, .unset, .unset, .unset, .unset] [(.ref b41)])) (fun _ k => XS.aload X1.here hx rfl (hb hby at_98) rfl rfl k) ?_
  refine own_go (g' := (mkF m 102 #[.val (.int p1), .val (.int p2), .val (.int p3), .val (.long q4), .second, .val (.long q5), .second, .val (.int p6), .val (.int bs), .val (.int vs), .val (.int ki), .val (.ref b41), .unset, .unset, .unset, .unset, .unset, .unset, .unset, .unset] [(.int bs), (.ref b41)])) (fun _ k => XS.iload X1.here hx rfl (hb hby at_100) rfl k) ?_
  refine own_iaload X1 hx hZ e1 F1 B kB (by omega) (hb hby at_102) ?_
  show own_Go p e below _ T1 (mkF m 103 #[.val (.int p1), .val (.int p2), .val (.int p3), .val (.long q4), .second, .val (.long q5), .second, .val (.int p6), .val (.int bs), .val (.int vs), .val (.int ki), .val (.ref b41), .unset, .unset, .unset, .unset, .unset, .unset, .unset, .unset] [(.int (f1 B))])
  refine own_go (g' := (mkF m 105 #[.val (.int p1), .val (.int p2), .val (.int p3), .val (.long q4), .second, .val (.long q5), .second, .val (.int p6), .val (.int bs), .val (.int vs), .val (.int ki), .val (.ref b41), .val (.int (f1 B)), .unset, .unset, .unset, .unset, .unset, .unset, .unset] [])) (fun _ k => XS.istore X1.here hx rfl (hb hby at_103) rfl (l' := #[.val (.int p1), .val (.int p2), .val (.int p3), .val (.long q4), .second, .val (.long q5), .second, .val (.int p6), .val (.int bs), .val (.int vs), .val (.int ki), .val (.ref b41), .val (.int (f1 B)), .unset, .unset, .unset, .unset, .unset, .unset, .unset]) rfl k) ?_
  obtain ⟨s0, hs0⟩ : ∃ z : Int32, z = (f1 B) := ⟨_, rfl⟩
  rw [← hs0]
  show own_Go p e below _ T1 (mkF m 105 #[.val (.int p1), .val (.int p2), .val (.int p3), .val (.long q4), .second, .val (.long q5), .second, .val (.int p6), .val (.int bs), .val (.int vs), .val (.int ki), .val (.ref b41), .val (.int s0), .unset, .unset, .unset, .unset, .unset, .unset, .unset] [])
  refine own_go (g' := (mkF m 107 #[.val (.int p1), .val (.int p2), .val (.int p3), .val (.long q4), .second, .val (.long q5), .second, .val (.int p6), .val (.int bs), .val (.int vs), .val (.int ki), .val (.ref b41), .val (.int s0), .unset, .unset, .unset, .unset, .unset, .unset, .unset] [(.ref b41)])) (fun _ k => XS.aload X1.here hx rfl (hb hby at_105) rfl rfl k) ?_
  refine own_go (g' := (mkF m 109 #[.val (.int p1), .val (.int p2), .val (.int p3), .val (.long q4), .second, .val (.long q5), .second, .val (.int p6), .val (.int bs), .val (.int vs), .val (.int ki), .val (.ref b41), .val (.int s0), .unset, .unset, .unset, .unset, .unset, .unset, .unset] [(.int bs), (.ref b41)])) (fun _ k => XS.iload X1.here hx rfl (hb hby at_107) rfl k) ?_
  refine own_go (g' := (mkF m 111 #[.val (.int p1), .val (.int p2), .val (.int p3), .val (.long q4), .second, .val (.long q5), .second, .val (.int p6), .val (.int bs), .val (.int vs), .val (.int ki), .val (.ref b41), .val (.int s0), .unset, .unset, .unset, .unset, .unset, .unset, .unset] [(.int vs), (.int bs), (.ref b41)])) (fun _ k => XS.iload X1.here hx rfl (hb hby at_109) rfl k) ?_
  refine own_go (g' := (mkF m 112 #[.val (.int p1), .val (.int p2), .val (.int p3), .val (.long q4), .second, .val (.long q5), .second, .val (.int p6), .val (.int bs), .val (.int vs), .val (.int ki), .val (.ref b41), .val (.int s0), .unset, .unset, .unset, .unset, .unset, .unset, .unset] [(.int (bs + vs)), (.ref b41)])) (fun _ k => XS.iadd X1.here hx rfl (hb hby at_111) rfl k) ?_
  refine own_iaload X1 hx hZ e1 F1 (B + V) (own_addi kB kV (by omega)) (by omega) (hb hby at_112) ?_
  show own_Go p e below _ T1 (mkF m 113 #[.val (.int p1), .val (.int p2), .val (.int p3), .val (.long q4), .second, .val (.long q5), .second, .val (.int p6), .val (.int bs), .val (.int vs), .val (.int ki), .val (.ref b41), .val (.int s0), .unset, .unset, .unset, .unset, .unset, .unset, .unset] [(.int (f1 (B + V)))])
  refine own_go (g' := (mkF m 114 #[.val (.int p1), .val (.int p2), .val (.int p3), .val (.long q4), .second, .val (.long q5), .second, .val (.int p6), .val (.int bs), .val (.int vs), .val (.int ki), .val (.ref b41), .val (.int s0), .unset, .unset, .unset, .unset, .unset, .unset, .unset] [(.int (1 : Int32)), (.int (f1 (B + V)))])) (fun _ k => XS.iconst X1.here hx rfl (hb hby at_113) k) ?_
  refine own_go (g' := (mkF m 115 #[.val (.int p1), .val (.int p2), .val (.int p3), .val (.long q4), .second, .val (.long q5), .second, .val (.int p6), .val (.int bs), .val (.int vs), .val (.int ki), .val (.ref b41), .val (.int s0), .unset, .unset, .unset, .unset, .unset, .unset, .unset] [(.int ((f1 (B + V)) - (1 : Int32)))])) (fun _ k => XS.isub X1.here hx rfl (hb hby at_114) rfl k) ?_
  refine own_go (g' := (mkF m 117 #[.val (.int p1), .val (.int p2), .val (.int p3), .val (.long q4), .second, .val (.long q5), .second, .val (.int p6), .val (.int bs), .val (.int vs), .val (.int ki), .val (.ref b41), .val (.int s0), .val (.int ((f1 (B + V)) - (1 : Int32))), .unset, .unset, .unset, .unset, .unset, .unset] [])) (fun _ k => XS.istore X1.here hx rfl (hb hby at_115) rfl (l' := #[.val (.int p1), .val (.int p2), .val (.int p3), .val (.long q4), .second, .val (.long q5), .second, .val (.int p6), .val (.int bs), .val (.int vs), .val (.int ki), .val (.ref b41), .val (.int s0), .val (.int ((f1 (B + V)) - (1 : Int32))), .unset, .unset, .unset, .unset, .unset, .unset]) rfl k) ?_
  obtain ⟨en, hen⟩ : ∃ z : Int32, z = ((f1 (B + V)) - (1 : Int32)) := ⟨_, rfl⟩
  rw [← hen]
  show own_Go p e below _ T1 (mkF m 117 #[.val (.int p1), .val (.int p2), .val (.int p3), .val (.long q4), .second, .val (.long q5), .second, .val (.int p6), .val (.int bs), .val (.int vs), .val (.int ki), .val (.ref b41), .val (.int s0), .val (.int en), .unset, .unset, .unset, .unset, .unset, .unset] [])
  refine own_go (g' := (mkF m 119 #[.val (.int p1), .val (.int p2), .val (.int p3), .val (.long q4), .second, .val (.long q5), .second, .val (.int p6), .val (.int bs), .val (.int vs), .val (.int ki), .val (.ref b41), .val (.int s0), .val (.int en), .unset, .unset, .unset, .unset, .unset, .unset] [(.int p6)])) (fun _ k => XS.iload X1.here hx rfl (hb hby at_117) rfl k) ?_
  refine own_go (g' := (mkF m 121 #[.val (.int p1), .val (.int p2), .val (.int p3), .val (.long q4), .second, .val (.long q5), .second, .val (.int p6), .val (.int bs), .val (.int vs), .val (.int ki), .val (.ref b41), .val (.int s0), .val (.int en), .unset, .unset, .unset, .unset, .unset, .unset] [(.int (9 : Int32)), (.int p6)])) (fun _ k => XS.bipush X1.here hx rfl (hb hby at_119) k) ?_
  refine own_go (g' := (mkF m 122 #[.val (.int p1), .val (.int p2), .val (.int p3), .val (.long q4), .second, .val (.long q5), .second, .val (.int p6), .val (.int bs), .val (.int vs), .val (.int ki), .val (.ref b41), .val (.int s0), .val (.int en), .unset, .unset, .unset, .unset, .unset, .unset] [(.int (XT.ushr p6 (9 : Int32)))])) (fun _ k => XT.iushr X1.here hx rfl (hb hby at_121) rfl k) ?_
  refine own_go (g' := (mkF m 123 #[.val (.int p1), .val (.int p2), .val (.int p3), .val (.long q4), .second, .val (.long q5), .second, .val (.int p6), .val (.int bs), .val (.int vs), .val (.int ki), .val (.ref b41), .val (.int s0), .val (.int en), .unset, .unset, .unset, .unset, .unset, .unset] [(.int (3 : Int32)), (.int (XT.ushr p6 (9 : Int32)))])) (fun _ k => XS.iconst X1.here hx rfl (hb hby at_122) k) ?_
  refine own_go (g' := (mkF m 124 #[.val (.int p1), .val (.int p2), .val (.int p3), .val (.long q4), .second, .val (.long q5), .second, .val (.int p6), .val (.int bs), .val (.int vs), .val (.int ki), .val (.ref b41), .val (.int s0), .val (.int en), .unset, .unset, .unset, .unset, .unset, .unset] [(.int ((XT.ushr p6 (9 : Int32)) &&& (3 : Int32)))])) (fun _ k => XS.iand X1.here hx rfl (hb hby at_123) rfl k) ?_
  refine own_go (g' := (mkF m 126 #[.val (.int p1), .val (.int p2), .val (.int p3), .val (.long q4), .second, .val (.long q5), .second, .val (.int p6), .val (.int bs), .val (.int vs), .val (.int ki), .val (.ref b41), .val (.int s0), .val (.int en), .val (.int ((XT.ushr p6 (9 : Int32)) &&& (3 : Int32))), .unset, .unset, .unset, .unset, .unset] [])) (fun _ k => XS.istore X1.here hx rfl (hb hby at_124) rfl (l' := #[.val (.int p1), .val (.int p2), .val (.int p3), .val (.long q4), .second, .val (.long q5), .second, .val (.int p6), .val (.int bs), .val (.int vs), .val (.int ki), .val (.ref b41), .val (.int s0), .val (.int en), .val (.int ((XT.ushr p6 (9 : Int32)) &&& (3 : Int32))), .unset, .unset, .unset, .unset, .unset]) rfl k) ?_
  obtain ⟨md, hmd⟩ : ∃ z : Int32, z = ((XT.ushr p6 (9 : Int32)) &&& (3 : Int32)) := ⟨_, rfl⟩
  rw [← hmd]
  show own_Go p e below _ T1 (mkF m 126 #[.val (.int p1), .val (.int p2), .val (.int p3), .val (.long q4), .second, .val (.long q5), .second, .val (.int p6), .val (.int bs), .val (.int vs), .val (.int ki), .val (.ref b41), .val (.int s0), .val (.int en), .val (.int md), .unset, .unset, .unset, .unset, .unset] [])
  refine own_go (g' := (mkF m 128 #[.val (.int p1), .val (.int p2), .val (.int p3), .val (.long q4), .second, .val (.long q5), .second, .val (.int p6), .val (.int bs), .val (.int vs), .val (.int ki), .val (.ref b41), .val (.int s0), .val (.int en), .val (.int md), .unset, .unset, .unset, .unset, .unset] [(.int md)])) (fun _ k => XS.iload X1.here hx rfl (hb hby at_126) rfl k) ?_
  suffices J : ∀ nx : Int32, own_Go p e below (own_Po s (own_Q0 n0) 24 128) T1 (mkF m 163 #[.val (.int p1), .val (.int p2), .val (.int p3), .val (.long q4), .second, .val (.long q5), .second, .val (.int p6), .val (.int bs), .val (.int vs), .val (.int ki), .val (.ref b41), .val (.int s0), .val (.int en), .val (.int md), .unset, .unset, .unset, .unset, .unset] [(.int nx)]) by
    by_cases c128 : md = 0
    · refine own_go (g' := (mkF m 131 #[.val (.int p1), .val (.int p2), .val (.int p3), .val (.long q4), .second, .val (.long q5), .second, .val (.int p6), .val (.int bs), .val (.int vs), .val (.int ki), .val (.ref b41), .val (.int s0), .val (.int en), .val (.int md), .unset, .unset, .unset, .unset, .unset] [])) (fun _ k => XS.ifNo X1.here hx rfl (hb hby at_128) rfl (XT.i0_ne_f c128) k) ?_
      refine own_go (g' := (mkF m 133 #[.val (.int p1), .val (.int p2), .val (.int p3), .val (.long q4), .second, .val (.long q5), .second, .val (.int p6), .val (.int bs), .val (.int vs), .val (.int ki), .val (.ref b41), .val (.int s0), .val (.int en), .val (.int md), .unset, .unset, .unset, .unset, .unset] [(.int en)])) (fun _ k => XS.iload X1.here hx rfl (hb hby at_131) rfl k) ?_
      refine own_go (g' := (mkF m 163 #[.val (.int p1), .val (.int p2), .val (.int p3), .val (.long q4), .second, .val (.long q5), .second, .val (.int p6), .val (.int bs), .val (.int vs), .val (.int ki), .val (.ref b41), .val (.int s0), .val (.int en), .val (.int md), .unset, .unset, .unset, .unset, .unset] [(.int en)])) (fun _ k => XS.goto X1.here hx rfl (pc0 := 133) (pc' := 163) rfl (hb hby at_133) (by decide) (by decide) k) ?_
      exact J _
    · refine own_go (g' := (mkF m 136 #[.val (.int p1), .val (.int p2), .val (.int p3), .val (.long q4), .second, .val (.long q5), .second, .val (.int p6), .val (.int bs), .val (.int vs), .val (.int ki), .val (.ref b41), .val (.int s0), .val (.int en), .val (.int md), .unset, .unset, .unset, .unset, .unset] [])) (fun _ k => XS.ifYes X1.here hx rfl (pc0 := 128) (pc' := 136) rfl (hb hby at_128) rfl (XT.i0_ne_t c128) (by decide) (by decide) k) ?_
      refine own_go (g' := (mkF m 138 #[.val (.int p1), .val (.int p2), .val (.int p3), .val (.long q4), .second, .val (.long q5), .second, .val (.int p6), .val (.int bs), .val (.int vs), .val (.int ki), .val (.ref b41), .val (.int s0), .val (.int en), .val (.int md), .unset, .unset, .unset, .unset, .unset] [(.int md)])) (fun _ k => XS.iload X1.here hx rfl (hb hby at_136) rfl k) ?_
      refine own_go (g' := (mkF m 139 #[.val (.int p1), .val (.int p2), .val (.int p3), .val (.long q4), .second, .val (.long q5), .second, .val (.int p6), .val (.int bs), .val (.int vs), .val (.int ki), .val (.ref b41), .val (.int s0), .val (.int en), .val (.int md), .unset, .unset, .unset, .unset, .unset] [(.int (1 : Int32)), (.int md)])) (fun _ k => XS.iconst X1.here hx rfl (hb hby at_138) k) ?_
      by_cases c139 : md = (1 : Int32)
      · refine own_go (g' := (mkF m 142 #[.val (.int p1), .val (.int p2), .val (.int p3), .val (.long q4), .second, .val (.long q5), .second, .val (.int p6), .val (.int bs), .val (.int vs), .val (.int ki), .val (.ref b41), .val (.int s0), .val (.int en), .val (.int md), .unset, .unset, .unset, .unset, .unset] [])) (fun _ k => XS.icmpNo X1.here hx rfl (hb hby at_139) rfl (XT.ii_ne_f c139) k) ?_
        refine own_go (g' := (mkF m 144 #[.val (.int p1), .val (.int p2), .val (.int p3), .val (.long q4), .second, .val (.long q5), .second, .val (.int p6), .val (.int bs), .val (.int vs), .val (.int ki), .val (.ref b41), .val (.int s0), .val (.int en), .val (.int md), .unset, .unset, .unset, .unset, .unset] [(.int en)])) (fun _ k => XS.iload X1.here hx rfl (hb hby at_142) rfl k) ?_
        refine own_go (g' := (mkF m 145 #[.val (.int p1), .val (.int p2), .val (.int p3), .val (.long q4), .second, .val (.long q5), .second, .val (.int p6), .val (.int bs), .val (.int vs), .val (.int ki), .val (.ref b41), .val (.int s0), .val (.int en), .val (.int md), .unset, .unset, .unset, .unset, .unset] [(.int (1 : Int32)), (.int en)])) (fun _ k => XS.iconst X1.here hx rfl (hb hby at_144) k) ?_
        refine own_go (g' := (mkF m 146 #[.val (.int p1), .val (.int p2), .val (.int p3), .val (.long q4), .second, .val (.long q5), .second, .val (.int p6), .val (.int bs), .val (.int vs), .val (.int ki), .val (.ref b41), .val (.int s0), .val (.int en), .val (.int md), .unset, .unset, .unset, .unset, .unset] [(.int (en + (1 : Int32)))])) (fun _ k => XS.iadd X1.here hx rfl (hb hby at_145) rfl k) ?_
        refine own_go (g' := (mkF m 163 #[.val (.int p1), .val (.int p2), .val (.int p3), .val (.long q4), .second, .val (.long q5), .second, .val (.int p6), .val (.int bs), .val (.int vs), .val (.int ki), .val (.ref b41), .val (.int s0), .val (.int en), .val (.int md), .unset, .unset, .unset, .unset, .unset] [(.int (en + (1 : Int32)))])) (fun _ k => XS.goto X1.here hx rfl (pc0 := 146) (pc' := 163) rfl (hb hby at_146) (by decide) (by decide) k) ?_
        exact J _
      · refine own_go (g' := (mkF m 149 #[.val (.int p1), .val (.int p2), .val (.int p3), .val (.long q4), .second, .val (.long q5), .second, .val (.int p6), .val (.int bs), .val (.int vs), .val (.int ki), .val (.ref b41), .val (.int s0), .val (.int en), .val (.int md), .unset, .unset, .unset, .unset, .unset] [])) (fun _ k => XS.icmpYes X1.here hx rfl (pc0 := 139) (pc' := 149) rfl (hb hby at_139) rfl (XT.ii_ne_t c139) (by decide) (by decide) k) ?_
        refine own_go (g' := (mkF m 151 #[.val (.int p1), .val (.int p2), .val (.int p3), .val (.long q4), .second, .val (.long q5), .second, .val (.int p6), .val (.int bs), .val (.int vs), .val (.int ki), .val (.ref b41), .val (.int s0), .val (.int en), .val (.int md), .unset, .unset, .unset, .unset, .unset] [(.int md)])) (fun _ k => XS.iload X1.here hx rfl (hb hby at_149) rfl k) ?_
        refine own_go (g' := (mkF m 152 #[.val (.int p1), .val (.int p2), .val (.int p3), .val (.long q4), .second, .val (.long q5), .second, .val (.int p6), .val (.int bs), .val (.int vs), .val (.int ki), .val (.ref b41), .val (.int s0), .val (.int en), .val (.int md), .unset, .unset, .unset, .unset, .unset] [(.int (2 : Int32)), (.int md)])) (fun _ k => XS.iconst X1.here hx rfl (hb hby at_151) k) ?_
        by_cases c152 : md = (2 : Int32)
        · refine own_go (g' := (mkF m 155 #[.val (.int p1), .val (.int p2), .val (.int p3), .val (.long q4), .second, .val (.long q5), .second, .val (.int p6), .val (.int bs), .val (.int vs), .val (.int ki), .val (.ref b41), .val (.int s0), .val (.int en), .val (.int md), .unset, .unset, .unset, .unset, .unset] [])) (fun _ k => XS.icmpNo X1.here hx rfl (hb hby at_152) rfl (XT.ii_ne_f c152) k) ?_
          refine own_go (g' := (mkF m 157 #[.val (.int p1), .val (.int p2), .val (.int p3), .val (.long q4), .second, .val (.long q5), .second, .val (.int p6), .val (.int bs), .val (.int vs), .val (.int ki), .val (.ref b41), .val (.int s0), .val (.int en), .val (.int md), .unset, .unset, .unset, .unset, .unset] [(.int en)])) (fun _ k => XS.iload X1.here hx rfl (hb hby at_155) rfl k) ?_
          refine own_go (g' := (mkF m 158 #[.val (.int p1), .val (.int p2), .val (.int p3), .val (.long q4), .second, .val (.long q5), .second, .val (.int p6), .val (.int bs), .val (.int vs), .val (.int ki), .val (.ref b41), .val (.int s0), .val (.int en), .val (.int md), .unset, .unset, .unset, .unset, .unset] [(.int (2 : Int32)), (.int en)])) (fun _ k => XS.iconst X1.here hx rfl (hb hby at_157) k) ?_
          refine own_go (g' := (mkF m 159 #[.val (.int p1), .val (.int p2), .val (.int p3), .val (.long q4), .second, .val (.long q5), .second, .val (.int p6), .val (.int bs), .val (.int vs), .val (.int ki), .val (.ref b41), .val (.int s0), .val (.int en), .val (.int md), .unset, .unset, .unset, .unset, .unset] [(.int (en + (2 : Int32)))])) (fun _ k => XS.iadd X1.here hx rfl (hb hby at_158) rfl k) ?_
          refine own_go (g' := (mkF m 163 #[.val (.int p1), .val (.int p2), .val (.int p3), .val (.long q4), .second, .val (.long q5), .second, .val (.int p6), .val (.int bs), .val (.int vs), .val (.int ki), .val (.ref b41), .val (.int s0), .val (.int en), .val (.int md), .unset, .unset, .unset, .unset, .unset] [(.int (en + (2 : Int32)))])) (fun _ k => XS.goto X1.here hx rfl (pc0 := 159) (pc' := 163) rfl (hb hby at_159) (by decide) (by decide) k) ?_
          exact J _
        · refine own_go (g' := (mkF m 162 #[.val (.int p1), .val (.int p2), .val (.int p3), .val (.long q4), .second, .val (.long q5), .second, .val (.int p6), .val (.int bs), .val (.int vs), .val (.int ki), .val (.ref b41), .val (.int s0), .val (.int en), .val (.int md), .unset, .unset, .unset, .unset, .unset] [])) (fun _ k => XS.icmpYes X1.here hx rfl (pc0 := 152) (pc' := 162) rfl (hb hby at_152) rfl (XT.ii_ne_t c152) (by decide) (by decide) k) ?_
          refine own_go (g' := (mkF m 163 #[.val (.int p1), .val (.int p2), .val (.int p3), .val (.long q4), .second, .val (.long q5), .second, .val (.int p6), .val (.int bs), .val (.int vs), .val (.int ki), .val (.ref b41), .val (.int s0), .val (.int en), .val (.int md), .unset, .unset, .unset, .unset, .unset] [(.int p2)])) (fun _ k => XS.iloadN X1.here hx rfl (hb hby at_162) rfl k) ?_
          exact J _
  intro nx
  refine own_go (g' := (mkF m 165 #[.val (.int p1), .val (.int p2), .val (.int p3), .val (.long q4), .second, .val (.long q5), .second, .val (.int p6), .val (.int bs), .val (.int vs), .val (.int ki), .val (.ref b41), .val (.int s0), .val (.int en), .val (.int md), .val (.int nx), .unset, .unset, .unset, .unset] [])) (fun _ k => XS.istore X1.here hx rfl (hb hby at_163) rfl (l' := #[.val (.int p1), .val (.int p2), .val (.int p3), .val (.long q4), .second, .val (.long q5), .second, .val (.int p6), .val (.int bs), .val (.int vs), .val (.int ki), .val (.ref b41), .val (.int s0), .val (.int en), .val (.int md), .val (.int nx), .unset, .unset, .unset, .unset]) rfl k) ?_
  refine own_go (g' := (mkF m 166 #[.val (.int p1), .val (.int p2), .val (.int p3), .val (.long q4), .second, .val (.long q5), .second, .val (.int p6), .val (.int bs), .val (.int vs), .val (.int ki), .val (.ref b41), .val (.int s0), .val (.int en), .val (.int md), .val (.int nx), .unset, .unset, .unset, .unset] [(.int (2 : Int32))])) (fun _ k => XS.iconst X1.here hx rfl (hb hby at_165) k) ?_
  refine own_newP X1 hx hZ e1 (aty := .byte) (hw _ (List.mem_of_getElem? (i := 1) rfl)) 2 (by decide) (by decide) (by decide) (by decide) (by decide) (hb hby at_166) ?_
  intro T47 h47 b47 g47 X47 e47 E47 A47
  have ne48 : b41 ≠ b47 := Nat.ne_of_lt (Nat.lt_of_lt_of_le (own_Ar_lt F1) (Nat.le_of_eq g47.symm))
  have sz47 : h0.size ≤ b47 := Nat.le_trans K1.1 (Nat.le_of_eq g47.symm)
  have ge47 : n0 ≤ b47 := Nat.le_trans Z0 sz47
  have K47 := K1.ext E47
  have O47 := O1.ext E47
  show own_Go p e below _ T47 (mkF m 168 #[.val (.int p1), .val (.int p2), .val (.int p3), .val (.long q4), .second, .val (.long q5), .second, .val (.int p6), .val (.int bs), .val (.int vs), .val (.int ki), .val (.ref b41), .val (.int s0), .val (.int en), .val (.int md), .val (.int nx), .unset, .unset, .unset, .unset] [(.ref b47)])
  refine own_go (g' := (mkF m 170 #[.val (.int p1), .val (.int p2), .val (.int p3), .val (.long q4), .second, .val (.long q5), .second, .val (.int p6), .val (.int bs), .val (.int vs), .val (.int ki), .val (.ref b41), .val (.int s0), .val (.int en), .val (.int md), .val (.int nx), .val (.ref b47), .unset, .unset, .unset] [])) (fun _ k => XS.astore X47.here hx rfl (hb hby at_168) rfl rfl (l' := #[.val (.int p1), .val (.int p2), .val (.int p3), .val (.long q4), .second, .val (.long q5), .second, .val (.int p6), .val (.int bs), .val (.int vs), .val (.int ki), .val (.ref b41), .val (.int s0), .val (.int en), .val (.int md), .val (.int nx), .val (.ref b47), .unset, .unset, .unset]) rfl k) ?_
  refine own_newO X47 hx hZ hown e47 (hw _ (List.mem_of_getElem? (i := 2) rfl)) (hw _ (List.mem_of_getElem? (i := 3) rfl)) (hw _ (List.mem_of_getElem? (i := 4) rfl)) (own_ld1 hw) own_df1 (by decide) (by decide) (hb hby at_170) ?_
  intro T49 h49 b49 g49 X49 e49 E49 B49
  have f51 := (own_Ar_ext F1 E47)
  have ne50 : b41 ≠ b49 := Nat.ne_of_lt (Nat.lt_of_lt_of_le (own_Ar_lt f51) (Nat.le_of_eq g49.symm))
  have ne52 : b47 ≠ b49 := Nat.ne_of_lt (Nat.lt_of_lt_of_le (own_Ar_lt A47) (Nat.le_of_eq g49.symm))
  have sz49 : h0.size ≤ b49 := Nat.le_trans K47.1 (Nat.le_of_eq g49.symm)
  have ge49 : n0 ≤ b49 := Nat.le_trans Z0 sz49
  have K49 := K47.ext E49
  have O49 := O47.ext E49
  show own_Go p e below _ T49 (mkF m 173 #[.val (.int p1), .val (.int p2), .val (.int p3), .val (.long q4), .second, .val (.long q5), .second, .val (.int p6), .val (.int bs), .val (.int vs), .val (.int ki), .val (.ref b41), .val (.int s0), .val (.int en), .val (.int md), .val (.int nx), .val (.ref b47), .unset, .unset, .unset] [(.ref b49)])
  refine own_go (g' := (mkF m 174 #[.val (.int p1), .val (.int p2), .val (.int p3), .val (.long q4), .second, .val (.long q5), .second, .val (.int p6), .val (.int bs), .val (.int vs), .val (.int ki), .val (.ref b41), .val (.int s0), .val (.int en), .val (.int md), .val (.int nx), .val (.ref b47), .unset, .unset, .unset] [(.ref b49), (.ref b49)])) (fun _ k => XS.dup X49.here hx rfl (hb hby at_173) rfl rfl k) ?_
  refine own_callC X49 hx hZ hown e49 (y := (⟨"org/kusuridana/CsvLine", "<init>", "()V"⟩ : MethodName)) (rm := ({ frames := 2, cells := 2, slots := 3, locals := 26 } : Room)) rfl (hw _ (List.mem_of_getElem? (i := 5) rfl)) (hw _ (List.mem_of_getElem? (i := 6) rfl)) (hw _ (List.mem_of_getElem? (i := 4) rfl)) (hw _ (List.mem_of_getElem? (i := 7) rfl)) (by decide) (a := b49) (argsL := []) (rest := [(.ref b49)]) (own_rmC l Z a0 hw [] b49 _ h49 n0 (Nat.le_trans Z0 K49.1) ge49 B49) (by rw [hml]; rfl) pd_1 rfl rfl (hb hby at_174) (W := 1) (Nat.le_of_eq rfl) (by decide) (by decide) (by decide) (by decide) ?_
  intro v53 T53 L53 X53 hQ53
  obtain ⟨rfl, N53q, K53q, g53, B53⟩ := hQ53
  have K53 := K49.trans K53q (allS (Or.inr sz49) all0)
  have O53 := O49.keep K53q (allS ge49 all0)
  have N53 := Fr.app N1 N53q
  show own_Go p e below _ T53 (mkF m 177 #[.val (.int p1), .val (.int p2), .val (.int p3), .val (.long q4), .second, .val (.long q5), .second, .val (.int p6), .val (.int bs), .val (.int vs), .val (.int ki), .val (.ref b41), .val (.int s0), .val (.int en), .val (.int md), .val (.int nx), .val (.ref b47), .unset, .unset, .unset] [(.ref b49)])
  refine own_go (g' := (mkF m 179 #[.val (.int p1), .val (.int p2), .val (.int p3), .val (.long q4), .second, .val (.long q5), .second, .val (.int p6), .val (.int bs), .val (.int vs), .val (.int ki), .val (.ref b41), .val (.int s0), .val (.int en), .val (.int md), .val (.int nx), .val (.ref b47), .val (.ref b49), .unset, .unset] [])) (fun _ k => XS.astore X53.here hx rfl (hb hby at_177) rfl rfl (l' := #[.val (.int p1), .val (.int p2), .val (.int p3), .val (.long q4), .second, .val (.long q5), .second, .val (.int p6), .val (.int bs), .val (.int vs), .val (.int ki), .val (.ref b41), .val (.int s0), .val (.int en), .val (.int md), .val (.int nx), .val (.ref b47), .val (.ref b49), .unset, .unset]) rfl k) ?_
  refine own_go (g' := (mkF m 181 #[.val (.int p1), .val (.int p2), .val (.int p3), .val (.long q4), .second, .val (.long q5), .second, .val (.int p6), .val (.int bs), .val (.int vs), .val (.int ki), .val (.ref b41), .val (.int s0), .val (.int en), .val (.int md), .val (.int nx), .val (.ref b47), .val (.ref b49), .unset, .unset] [(.ref b49)])) (fun _ k => XS.aload X53.here hx rfl (hb hby at_179) rfl rfl k) ?_
  refine own_go (g' := (mkF m 183 #[.val (.int p1), .val (.int p2), .val (.int p3), .val (.long q4), .second, .val (.long q5), .second, .val (.int p6), .val (.int bs), .val (.int vs), .val (.int ki), .val (.ref b41), .val (.int s0), .val (.int en), .val (.int md), .val (.int nx), .val (.ref b47), .val (.ref b49), .unset, .unset] [(.ref b47), (.ref b49)])) (fun _ k => XS.aload X53.here hx rfl (hb hby at_181) rfl rfl k) ?_
  refine own_go (g' := (mkF m 184 #[.val (.int p1), .val (.int p2), .val (.int p3), .val (.long q4), .second, .val (.long q5), .second, .val (.int p6), .val (.int bs), .val (.int vs), .val (.int ki), .val (.ref b41), .val (.int s0), .val (.int en), .val (.int md), .val (.int nx), .val (.ref b47), .val (.ref b49), .unset, .unset] [.null, (.ref b47), (.ref b49)])) (fun _ k => XS.aconstNull X53.here hx rfl (hb hby at_183) k) ?_
  refine own_go (g' := (mkF m 185 #[.val (.int p1), .val (.int p2), .val (.int p3), .val (.long q4), .second, .val (.long q5), .second, .val (.int p6), .val (.int bs), .val (.int vs), .val (.int ki), .val (.ref b41), .val (.int s0), .val (.int en), .val (.int md), .val (.int nx), .val (.ref b47), .val (.ref b49), .unset, .unset] [(.int p1), .null, (.ref b47), (.ref b49)])) (fun _ k => XS.iloadN X53.here hx rfl (hb hby at_184) rfl k) ?_
  refine own_go (g' := (mkF m 187 #[.val (.int p1), .val (.int p2), .val (.int p3), .val (.long q4), .second, .val (.long q5), .second, .val (.int p6), .val (.int bs), .val (.int vs), .val (.int ki), .val (.ref b41), .val (.int s0), .val (.int en), .val (.int md), .val (.int nx), .val (.ref b47), .val (.ref b49), .unset, .unset] [(.ref b41), (.int p1), .null, (.ref b47), (.ref b49)])) (fun _ k => XS.aload X53.here hx rfl (hb hby at_185) rfl rfl k) ?_
  refine own_go (g' := (mkF m 189 #[.val (.int p1), .val (.int p2), .val (.int p3), .val (.long q4), .second, .val (.long q5), .second, .val (.int p6), .val (.int bs), .val (.int vs), .val (.int ki), .val (.ref b41), .val (.int s0), .val (.int en), .val (.int md), .val (.int nx), .val (.ref b47), .val (.ref b49), .unset, .unset] [(.int bs), (.ref b41), (.int p1), .null, (.ref b47), (.ref b49)])) (fun _ k => XS.iload X53.here hx rfl (hb hby at_187) rfl k) ?_
  refine own_go (g' := (mkF m 191 #[.val (.int p1), .val (.int p2), .val (.int p3), .val (.long q4), .second, .val (.long q5), .second, .val (.int p6), .val (.int bs), .val (.int vs), .val (.int ki), .val (.ref b41), .val (.int s0), .val (.int en), .val (.int md), .val (.int nx), .val (.ref b47), .val (.ref b49), .unset, .unset] [(.int vs), (.int bs), (.ref b41), (.int p1), .null, (.ref b47), (.ref b49)])) (fun _ k => XS.iload X53.here hx rfl (hb hby at_189) rfl k) ?_
  refine own_go (g' := (mkF m 193 #[.val (.int p1), .val (.int p2), .val (.int p3), .val (.long q4), .second, .val (.long q5), .second, .val (.int p6), .val (.int bs), .val (.int vs), .val (.int ki), .val (.ref b41), .val (.int s0), .val (.int en), .val (.int md), .val (.int nx), .val (.ref b47), .val (.ref b49), .unset, .unset] [(.int nx), (.int vs), (.int bs), (.ref b41), (.int p1), .null, (.ref b47), (.ref b49)])) (fun _ k => XS.iload X53.here hx rfl (hb hby at_191) rfl k) ?_
  refine own_go (g' := (mkF m 194 #[.val (.int p1), .val (.int p2), .val (.int p3), .val (.long q4), .second, .val (.long q5), .second, .val (.int p6), .val (.int bs), .val (.int vs), .val (.int ki), .val (.ref b41), .val (.int s0), .val (.int en), .val (.int md), .val (.int nx), .val (.ref b47), .val (.ref b49), .unset, .unset] [(.int p3), (.int nx), (.int vs), (.int bs), (.ref b41), (.int p1), .null, (.ref b47), (.ref b49)])) (fun _ k => XS.iloadN X53.here hx rfl (hb hby at_193) rfl k) ?_
  have f54 := (own_Ar_keep (own_Ar_ext f51 E49) K53q (ninS ne50 nin0))
  refine own_callV X53 hx hZ hown rfl (C := "org/kusuridana/CsvLine") (y := (⟨"org/kusuridana/CsvLine", "point", "([BLorg/kusuridana/Encoding;I[IIIII)V"⟩ : MethodName)) (rm := ({ frames := 0, cells := 0, slots := 0, locals := 0 } : Room)) (hw _ (List.mem_of_getElem? (i := 22) rfl)) (hw _ (List.mem_of_getElem? (i := 23) rfl)) (hw _ (List.mem_of_getElem? (i := 25) rfl)) (hw _ (List.mem_of_getElem? (i := 24) rfl)) (hw _ (List.mem_of_getElem? (i := 4) rfl)) (hw _ (List.mem_of_getElem? (i := 26) rfl)) (by decide) (a := b49) B53.1 (argsL := [(.ref b47), .null, (.int p1), (.ref b41), (.int bs), (.int vs), (.int nx), (.int p3)]) (rest := []) (own_rmP l Z a0 hw [] b49 b47 b41 p1 bs vs nx p3 g53 f1 B V T53.heap n0 ge49 B53 f54 ne50 kB kV hBV) (by rw [hml]; rfl) pd_4 rfl rfl (hb hby at_194) (W := 0) (Nat.le_of_eq rfl) (by decide) (by decide) (by decide) (by decide) ?_
  intro v55 T55 L55 X55 hQ55
  obtain ⟨rfl, N55q, K55q, B55⟩ := hQ55
  rw [← hs0, ← hen] at B55
  have K55 := K53.trans K55q (allS (Or.inr sz49) all0)
  have O55 := O53.keep K55q (allS ge49 all0)
  have N55 := Fr.app N53 N55q
  show own_Go p e below _ T55 (mkF m 197 #[.val (.int p1), .val (.int p2), .val (.int p3), .val (.long q4), .second, .val (.long q5), .second, .val (.int p6), .val (.int bs), .val (.int vs), .val (.int ki), .val (.ref b41), .val (.int s0), .val (.int en), .val (.int md), .val (.int nx), .val (.ref b47), .val (.ref b49), .unset, .unset] [])
  refine own_go (g' := (mkF m 199 #[.val (.int p1), .val (.int p2), .val (.int p3), .val (.long q4), .second, .val (.long q5), .second, .val (.int p6), .val (.int bs), .val (.int vs), .val (.int ki), .val (.ref b41), .val (.int s0), .val (.int en), .val (.int md), .val (.int nx), .val (.ref b47), .val (.ref b49), .unset, .unset] [(.int nx)])) (fun _ k => XS.iload X55.here hx rfl (hb hby at_197) rfl k) ?_
  refine own_go (g' := (mkF m 201 #[.val (.int p1), .val (.int p2), .val (.int p3), .val (.long q4), .second, .val (.long q5), .second, .val (.int p6), .val (.int bs), .val (.int vs), .val (.int ki), .val (.ref b41), .val (.int s0), .val (.int en), .val (.int md), .val (.int nx), .val (.ref b47), .val (.ref b49), .unset, .unset] [(.int en), (.int nx)])) (fun _ k => XS.iload X55.here hx rfl (hb hby at_199) rfl k) ?_
  refine own_go (g' := (mkF m 202 #[.val (.int p1), .val (.int p2), .val (.int p3), .val (.long q4), .second, .val (.long q5), .second, .val (.int p6), .val (.int bs), .val (.int vs), .val (.int ki), .val (.ref b41), .val (.int s0), .val (.int en), .val (.int md), .val (.int nx), .val (.ref b47), .val (.ref b49), .unset, .unset] [(.int (nx - en))])) (fun _ k => XS.isub X55.here hx rfl (hb hby at_201) rfl k) ?_
  refine own_go (g' := (mkF m 204 #[.val (.int p1), .val (.int p2), .val (.int p3), .val (.long q4), .second, .val (.long q5), .second, .val (.int p6), .val (.int bs), .val (.int vs), .val (.int ki), .val (.ref b41), .val (.int s0), .val (.int en), .val (.int md), .val (.int nx), .val (.ref b47), .val (.ref b49), .val (.int (nx - en)), .unset] [])) (fun _ k => XS.istore X55.here hx rfl (hb hby at_202) rfl (l' := #[.val (.int p1), .val (.int p2), .val (.int p3), .val (.long q4), .second, .val (.long q5), .second, .val (.int p6), .val (.int bs), .val (.int vs), .val (.int ki), .val (.ref b41), .val (.int s0), .val (.int en), .val (.int md), .val (.int nx), .val (.ref b47), .val (.ref b49), .val (.int (nx - en)), .unset]) rfl k) ?_
  obtain ⟨gp, hgp⟩ : ∃ z : Int32, z = (nx - en) := ⟨_, rfl⟩
  rw [← hgp]
  show own_Go p e below _ T55 (mkF m 204 #[.val (.int p1), .val (.int p2), .val (.int p3), .val (.long q4), .second, .val (.long q5), .second, .val (.int p6), .val (.int bs), .val (.int vs), .val (.int ki), .val (.ref b41), .val (.int s0), .val (.int en), .val (.int md), .val (.int nx), .val (.ref b47), .val (.ref b49), .val (.int gp), .unset] [])
  refine own_go (g' := (mkF m 206 #[.val (.int p1), .val (.int p2), .val (.int p3), .val (.long q4), .second, .val (.long q5), .second, .val (.int p6), .val (.int bs), .val (.int vs), .val (.int ki), .val (.ref b41), .val (.int s0), .val (.int en), .val (.int md), .val (.int nx), .val (.ref b47), .val (.ref b49), .val (.int gp), .unset] [(.int gp)])) (fun _ k => XS.iload X55.here hx rfl (hb hby at_204) rfl k) ?_
  have Xr := X55
  suffices J : ∀ T', (∃ lo, Fr n0 lo ∧ Stand p l e room_1 s m #[(.int p1), (.int p2), (.int p3), (.long q4), (.long q5), (.int p6)] below meth c T' lo 5 24) → T'.heap = T55.heap → own_Go p e below (own_Po s (own_Q0 n0) 24 128) T' (mkF m 230 #[.val (.int p1), .val (.int p2), .val (.int p3), .val (.long q4), .second, .val (.long q5), .second, .val (.int p6), .val (.int bs), .val (.int vs), .val (.int ki), .val (.ref b41), .val (.int s0), .val (.int en), .val (.int md), .val (.int nx), .val (.ref b47), .val (.ref b49), .val (.int gp), .unset] [(.ref (own_le gp n1 n2 n3))]) by
    by_cases g0 : gp = 0
    · refine own_go (g' := (mkF m 209 #[.val (.int p1), .val (.int p2), .val (.int p3), .val (.long q4), .second, .val (.long q5), .second, .val (.int p6), .val (.int bs), .val (.int vs), .val (.int ki), .val (.ref b41), .val (.int s0), .val (.int en), .val (.int md), .val (.int nx), .val (.ref b47), .val (.ref b49), .val (.int gp), .unset] [])) (fun _ k => XS.ifNo X55.here hx rfl (hb hby at_206) rfl (XT.i0_ne_f g0) k) ?_
      refine own_getS X55 hx hZ (host := "") hown rfl (Or.inl (hw _ (List.mem_of_getElem? (i := 47) rfl))) Via.refl (S1.ext O55.2) (hb hby at_209) ?_
      intro T56 X56 e56
      show own_Go p e below _ T56 (mkF m 212 #[.val (.int p1), .val (.int p2), .val (.int p3), .val (.long q4), .second, .val (.long q5), .second, .val (.int p6), .val (.int bs), .val (.int vs), .val (.int ki), .val (.ref b41), .val (.int s0), .val (.int en), .val (.int md), .val (.int nx), .val (.ref b47), .val (.ref b49), .val (.int gp), .unset] [(.ref n1)])
      refine own_go (g' := (mkF m 230 #[.val (.int p1), .val (.int p2), .val (.int p3), .val (.long q4), .second, .val (.long q5), .second, .val (.int p6), .val (.int bs), .val (.int vs), .val (.int ki), .val (.ref b41), .val (.int s0), .val (.int en), .val (.int md), .val (.int nx), .val (.ref b47), .val (.ref b49), .val (.int gp), .unset] [(.ref n1)])) (fun _ k => XS.goto X56.here hx rfl (pc0 := 212) (pc' := 230) rfl (hb hby at_212) (by decide) (by decide) k) ?_
      have q : n1 = own_le gp n1 n2 n3 := by simp [own_le, g0]
      rw [q]
      exact J _ ⟨_, N55, X56⟩ e56
    · refine own_go (g' := (mkF m 215 #[.val (.int p1), .val (.int p2), .val (.int p3), .val (.long q4), .second, .val (.long q5), .second, .val (.int p6), .val (.int bs), .val (.int vs), .val (.int ki), .val (.ref b41), .val (.int s0), .val (.int en), .val (.int md), .val (.int nx), .val (.ref b47), .val (.ref b49), .val (.int gp), .unset] [])) (fun _ k => XS.ifYes X55.here hx rfl (pc0 := 206) (pc' := 215) rfl (hb hby at_206) rfl (XT.i0_ne_t g0) (by decide) (by decide) k) ?_
      refine own_go (g' := (mkF m 217 #[.val (.int p1), .val (.int p2), .val (.int p3), .val (.long q4), .second, .val (.long q5), .second, .val (.int p6), .val (.int bs), .val (.int vs), .val (.int ki), .val (.ref b41), .val (.int s0), .val (.int en), .val (.int md), .val (.int nx), .val (.ref b47), .val (.ref b49), .val (.int gp), .unset] [(.int gp)])) (fun _ k => XS.iload X55.here hx rfl (hb hby at_215) rfl k) ?_
      refine own_go (g' := (mkF m 218 #[.val (.int p1), .val (.int p2), .val (.int p3), .val (.long q4), .second, .val (.long q5), .second, .val (.int p6), .val (.int bs), .val (.int vs), .val (.int ki), .val (.ref b41), .val (.int s0), .val (.int en), .val (.int md), .val (.int nx), .val (.ref b47), .val (.ref b49), .val (.int gp), .unset] [(.int (1 : Int32)), (.int gp)])) (fun _ k => XS.iconst X55.here hx rfl (hb hby at_217) k) ?_
      by_cases g1 : gp = (1 : Int32)
      · refine own_go (g' := (mkF m 221 #[.val (.int p1), .val (.int p2), .val (.int p3), .val (.long q4), .second, .val (.long q5), .second, .val (.int p6), .val (.int bs), .val (.int vs), .val (.int ki), .val (.ref b41), .val (.int s0), .val (.int en), .val (.int md), .val (.int nx), .val (.ref b47), .val (.ref b49), .val (.int gp), .unset] [])) (fun _ k => XS.icmpNo X55.here hx rfl (hb hby at_218) rfl (XT.ii_ne_f g1) k) ?_
        refine own_getS X55 hx hZ (host := "") hown rfl (Or.inl (hw _ (List.mem_of_getElem? (i := 96) rfl))) Via.refl (S2.ext O55.2) (hb hby at_221) ?_
        intro T57 X57 e57
        show own_Go p e below _ T57 (mkF m 224 #[.val (.int p1), .val (.int p2), .val (.int p3), .val (.long q4), .second, .val (.long q5), .second, .val (.int p6), .val (.int bs), .val (.int vs), .val (.int ki), .val (.ref b41), .val (.int s0), .val (.int en), .val (.int md), .val (.int nx), .val (.ref b47), .val (.ref b49), .val (.int gp), .unset] [(.ref n2)])
        refine own_go (g' := (mkF m 230 #[.val (.int p1), .val (.int p2), .val (.int p3), .val (.long q4), .second, .val (.long q5), .second, .val (.int p6), .val (.int bs), .val (.int vs), .val (.int ki), .val (.ref b41), .val (.int s0), .val (.int en), .val (.int md), .val (.int nx), .val (.ref b47), .val (.ref b49), .val (.int gp), .unset] [(.ref n2)])) (fun _ k => XS.goto X57.here hx rfl (pc0 := 224) (pc' := 230) rfl (hb hby at_224) (by decide) (by decide) k) ?_
        have q : n2 = own_le gp n1 n2 n3 := by simp [own_le, g0, g1]
        rw [q]
        exact J _ ⟨_, N55, X57⟩ e57
      · refine own_go (g' := (mkF m 227 #[.val (.int p1), .val (.int p2), .val (.int p3), .val (.long q4), .second, .val (.long q5), .second, .val (.int p6), .val (.int bs), .val (.int vs), .val (.int ki), .val (.ref b41), .val (.int s0), .val (.int en), .val (.int md), .val (.int nx), .val (.ref b47), .val (.ref b49), .val (.int gp), .unset] [])) (fun _ k => XS.icmpYes X55.here hx rfl (pc0 := 218) (pc' := 227) rfl (hb hby at_218) rfl (XT.ii_ne_t g1) (by decide) (by decide) k) ?_
        refine own_getS X55 hx hZ (host := "") hown rfl (Or.inl (hw _ (List.mem_of_getElem? (i := 99) rfl))) Via.refl (S3.ext O55.2) (hb hby at_227) ?_
        intro T58 X58 e58
        show own_Go p e below _ T58 (mkF m 230 #[.val (.int p1), .val (.int p2), .val (.int p3), .val (.long q4), .second, .val (.long q5), .second, .val (.int p6), .val (.int bs), .val (.int vs), .val (.int ki), .val (.ref b41), .val (.int s0), .val (.int en), .val (.int md), .val (.int nx), .val (.ref b47), .val (.ref b49), .val (.int gp), .unset] [(.ref n3)])
        have q : n3 = own_le gp n1 n2 n3 := by simp [own_le, g0, g1]
        rw [q]
        exact J _ ⟨_, N55, X58⟩ e58
  intro T2 hX2 e2
  obtain ⟨lo2, N2, X2⟩ := hX2
  refine own_go (g' := (mkF m 232 #[.val (.int p1), .val (.int p2), .val (.int p3), .val (.long q4), .second, .val (.long q5), .second, .val (.int p6), .val (.int bs), .val (.int vs), .val (.int ki), .val (.ref b41), .val (.int s0), .val (.int en), .val (.int md), .val (.int nx), .val (.ref b47), .val (.ref b49), .val (.int gp), .val (.ref (own_le gp n1 n2 n3))] [])) (fun _ k => XS.astore X2.here hx rfl (hb hby at_230) rfl rfl (l' := #[.val (.int p1), .val (.int p2), .val (.int p3), .val (.long q4), .second, .val (.long q5), .second, .val (.int p6), .val (.int bs), .val (.int vs), .val (.int ki), .val (.ref b41), .val (.int s0), .val (.int en), .val (.int md), .val (.int nx), .val (.ref b47), .val (.ref b49), .val (.int gp), .val (.ref (own_le gp n1 n2 n3))]) rfl k) ?_
  refine own_go (g' := (mkF m 234 #[.val (.int p1), .val (.int p2), .val (.int p3), .val (.long q4), .second, .val (.long q5), .second, .val (.int p6), .val (.int bs), .val (.int vs), .val (.int ki), .val (.ref b41), .val (.int s0), .val (.int en), .val (.int md), .val (.int nx), .val (.ref b47), .val (.ref b49), .val (.int gp), .val (.ref (own_le gp n1 n2 n3))] [(.ref b49)])) (fun _ k => XS.aload X2.here hx rfl (hb hby at_232) rfl rfl k) ?_
  refine own_callV X2 hx hZ hown e2 (C := "org/kusuridana/CsvLine") (y := (⟨"org/kusuridana/CsvLine", "content", "()[B"⟩ : MethodName)) (rm := ({ frames := 0, cells := 0, slots := 0, locals := 0 } : Room)) (hw _ (List.mem_of_getElem? (i := 50) rfl)) (hw _ (List.mem_of_getElem? (i := 51) rfl)) (hw _ (List.mem_of_getElem? (i := 53) rfl)) (hw _ (List.mem_of_getElem? (i := 52) rfl)) (hw _ (List.mem_of_getElem? (i := 4) rfl)) (hw _ (List.mem_of_getElem? (i := 54) rfl)) (by decide) (a := b49) B55.1 (argsL := []) (rest := []) (own_rmG1 l Z a0 hw [] b49 b47 b41 _ p1 bs vs s0 en nx p3  T55.heap n0 B55 ) (by rw [hml]; rfl) pd_5 rfl rfl (hb hby at_234) (W := 0) (Nat.le_of_eq rfl) (by decide) (by decide) (by decide) (by decide) ?_
  intro v59 T59 L59 X59 hQ59
  obtain ⟨rfl, e59, rfl⟩ := hQ59
  rw [List.append_nil] at X59
  show own_Go p e below _ T59 (mkF m 237 #[.val (.int p1), .val (.int p2), .val (.int p3), .val (.long q4), .second, .val (.long q5), .second, .val (.int p6), .val (.int bs), .val (.int vs), .val (.int ki), .val (.ref b41), .val (.int s0), .val (.int en), .val (.int md), .val (.int nx), .val (.ref b47), .val (.ref b49), .val (.int gp), .val (.ref (own_le gp n1 n2 n3))] [(.ref b47)])
  refine own_go (g' := (mkF m 239 #[.val (.int p1), .val (.int p2), .val (.int p3), .val (.long q4), .second, .val (.long q5), .second, .val (.int p6), .val (.int bs), .val (.int vs), .val (.int ki), .val (.ref b41), .val (.int s0), .val (.int en), .val (.int md), .val (.int nx), .val (.ref b47), .val (.ref b49), .val (.int gp), .val (.ref (own_le gp n1 n2 n3))] [(.ref b47), (.ref b47)])) (fun _ k => XS.aload X59.here hx rfl (hb hby at_237) rfl rfl k) ?_
  refine own_go (g' := (mkF m 242 #[.val (.int p1), .val (.int p2), .val (.int p3), .val (.long q4), .second, .val (.long q5), .second, .val (.int p6), .val (.int bs), .val (.int vs), .val (.int ki), .val (.ref b41), .val (.int s0), .val (.int en), .val (.int md), .val (.int nx), .val (.ref b47), .val (.ref b49), .val (.int gp), .val (.ref (own_le gp n1 n2 n3))] [])) (fun _ k => XT.acmpNo X59.here hx rfl (hb hby at_239) rfl rfl rfl (XT.aa_ne_f rfl) k) ?_
  refine own_go (g' := (mkF m 244 #[.val (.int p1), .val (.int p2), .val (.int p3), .val (.long q4), .second, .val (.long q5), .second, .val (.int p6), .val (.int bs), .val (.int vs), .val (.int ki), .val (.ref b41), .val (.int s0), .val (.int en), .val (.int md), .val (.int nx), .val (.ref b47), .val (.ref b49), .val (.int gp), .val (.ref (own_le gp n1 n2 n3))] [(.ref b49)])) (fun _ k => XS.aload X59.here hx rfl (hb hby at_242) rfl rfl k) ?_
  refine own_callV X59 hx hZ hown e59 (C := "org/kusuridana/CsvLine") (y := (⟨"org/kusuridana/CsvLine", "starts", "()[I"⟩ : MethodName)) (rm := ({ frames := 0, cells := 0, slots := 0, locals := 0 } : Room)) (hw _ (List.mem_of_getElem? (i := 55) rfl)) (hw _ (List.mem_of_getElem? (i := 56) rfl)) (hw _ (List.mem_of_getElem? (i := 58) rfl)) (hw _ (List.mem_of_getElem? (i := 57) rfl)) (hw _ (List.mem_of_getElem? (i := 4) rfl)) (hw _ (List.mem_of_getElem? (i := 59) rfl)) (by decide) (a := b49) B55.1 (argsL := []) (rest := []) (own_rmG2 l Z a0 hw [] b49 b47 b41 _ p1 bs vs s0 en nx p3  T55.heap n0 B55 ) (by rw [hml]; rfl) pd_6 rfl rfl (hb hby at_244) (W := 0) (Nat.le_of_eq rfl) (by decide) (by decide) (by decide) (by decide) ?_
  intro v60 T60 L60 X60 hQ60
  obtain ⟨rfl, e60, rfl⟩ := hQ60
  rw [List.append_nil] at X60
  show own_Go p e below _ T60 (mkF m 247 #[.val (.int p1), .val (.int p2), .val (.int p3), .val (.long q4), .second, .val (.long q5), .second, .val (.int p6), .val (.int bs), .val (.int vs), .val (.int ki), .val (.ref b41), .val (.int s0), .val (.int en), .val (.int md), .val (.int nx), .val (.ref b47), .val (.ref b49), .val (.int gp), .val (.ref (own_le gp n1 n2 n3))] [(.ref b41)])
  refine own_go (g' := (mkF m 249 #[.val (.int p1), .val (.int p2), .val (.int p3), .val (.long q4), .second, .val (.long q5), .second, .val (.int p6), .val (.int bs), .val (.int vs), .val (.int ki), .val (.ref b41), .val (.int s0), .val (.int en), .val (.int md), .val (.int nx), .val (.ref b47), .val (.ref b49), .val (.int gp), .val (.ref (own_le gp n1 n2 n3))] [(.ref b41), (.ref b41)])) (fun _ k => XS.aload X60.here hx rfl (hb hby at_247) rfl rfl k) ?_
  refine own_go (g' := (mkF m 252 #[.val (.int p1), .val (.int p2), .val (.int p3), .val (.long q4), .second, .val (.long q5), .second, .val (.int p6), .val (.int bs), .val (.int vs), .val (.int ki), .val (.ref b41), .val (.int s0), .val (.int en), .val (.int md), .val (.int nx), .val (.ref b47), .val (.ref b49), .val (.int gp), .val (.ref (own_le gp n1 n2 n3))] [])) (fun _ k => XT.acmpNo X60.here hx rfl (hb hby at_249) rfl rfl rfl (XT.aa_ne_f rfl) k) ?_
  refine own_go (g' := (mkF m 254 #[.val (.int p1), .val (.int p2), .val (.int p3), .val (.long q4), .second, .val (.long q5), .second, .val (.int p6), .val (.int bs), .val (.int vs), .val (.int ki), .val (.ref b41), .val (.int s0), .val (.int en), .val (.int md), .val (.int nx), .val (.ref b47), .val (.ref b49), .val (.int gp), .val (.ref (own_le gp n1 n2 n3))] [(.ref b49)])) (fun _ k => XS.aload X60.here hx rfl (hb hby at_252) rfl rfl k) ?_
  refine own_callV X60 hx hZ hown e60 (C := "org/kusuridana/CsvLine") (y := (⟨"org/kusuridana/CsvLine", "count", "()I"⟩ : MethodName)) (rm := ({ frames := 0, cells := 0, slots := 0, locals := 0 } : Room)) (hw _ (List.mem_of_getElem? (i := 60) rfl)) (hw _ (List.mem_of_getElem? (i := 61) rfl)) (hw _ (List.mem_of_getElem? (i := 63) rfl)) (hw _ (List.mem_of_getElem? (i := 62) rfl)) (hw _ (List.mem_of_getElem? (i := 4) rfl)) (hw _ (List.mem_of_getElem? (i := 64) rfl)) (by decide) (a := b49) B55.1 (argsL := []) (rest := []) (own_rmG3 l Z a0 hw [] b49 b47 b41 _ p1 bs vs s0 en nx p3  T55.heap n0 B55 ) (by rw [hml]; rfl) pd_7 rfl rfl (hb hby at_254) (W := 0) (Nat.le_of_eq rfl) (by decide) (by decide) (by decide) (by decide) ?_
  intro v61 T61 L61 X61 hQ61
  obtain ⟨rfl, e61, rfl⟩ := hQ61
  rw [List.append_nil] at X61
  show own_Go p e below _ T61 (mkF m 257 #[.val (.int p1), .val (.int p2), .val (.int p3), .val (.long q4), .second, .val (.long q5), .second, .val (.int p6), .val (.int bs), .val (.int vs), .val (.int ki), .val (.ref b41), .val (.int s0), .val (.int en), .val (.int md), .val (.int nx), .val (.ref b47), .val (.ref b49), .val (.int gp), .val (.ref (own_le gp n1 n2 n3))] [(.int vs)])
  refine own_go (g' := (mkF m 259 #[.val (.int p1), .val (.int p2), .val (.int p3), .val (.long q4), .second, .val (.long q5), .second, .val (.int p6), .val (.int bs), .val (.int vs), .val (.int ki), .val (.ref b41), .val (.int s0), .val (.int en), .val (.int md), .val (.int nx), .val (.ref b47), .val (.ref b49), .val (.int gp), .val (.ref (own_le gp n1 n2 n3))] [(.int vs), (.int vs)])) (fun _ k => XS.iload X61.here hx rfl (hb hby at_257) rfl k) ?_
  refine own_go (g' := (mkF m 262 #[.val (.int p1), .val (.int p2), .val (.int p3), .val (.long q4), .second, .val (.long q5), .second, .val (.int p6), .val (.int bs), .val (.int vs), .val (.int ki), .val (.ref b41), .val (.int s0), .val (.int en), .val (.int md), .val (.int nx), .val (.ref b47), .val (.ref b49), .val (.int gp), .val (.ref (own_le gp n1 n2 n3))] [])) (fun _ k => XS.icmpNo X61.here hx rfl (hb hby at_259) rfl (XT.ii_ne_f rfl) k) ?_
  refine own_go (g' := (mkF m 264 #[.val (.int p1), .val (.int p2), .val (.int p3), .val (.long q4), .second, .val (.long q5), .second, .val (.int p6), .val (.int bs), .val (.int vs), .val (.int ki), .val (.ref b41), .val (.int s0), .val (.int en), .val (.int md), .val (.int nx), .val (.ref b47), .val (.ref b49), .val (.int gp), .val (.ref (own_le gp n1 n2 n3))] [(.ref b49)])) (fun _ k => XS.aload X61.here hx rfl (hb hby at_262) rfl rfl k) ?_
  refine own_callV X61 hx hZ hown e61 (C := "org/kusuridana/CsvLine") (y := (⟨"org/kusuridana/CsvLine", "number", "()I"⟩ : MethodName)) (rm := ({ frames := 0, cells := 0, slots := 0, locals := 0 } : Room)) (hw _ (List.mem_of_getElem? (i := 65) rfl)) (hw _ (List.mem_of_getElem? (i := 66) rfl)) (hw _ (List.mem_of_getElem? (i := 68) rfl)) (hw _ (List.mem_of_getElem? (i := 67) rfl)) (hw _ (List.mem_of_getElem? (i := 4) rfl)) (hw _ (List.mem_of_getElem? (i := 69) rfl)) (by decide) (a := b49) B55.1 (argsL := []) (rest := []) (own_rmG4 l Z a0 hw [] b49 b47 b41 _ p1 bs vs s0 en nx p3  T55.heap n0 B55 ) (by rw [hml]; rfl) pd_8 rfl rfl (hb hby at_264) (W := 0) (Nat.le_of_eq rfl) (by decide) (by decide) (by decide) (by decide) ?_
  intro v62 T62 L62 X62 hQ62
  obtain ⟨rfl, e62, rfl⟩ := hQ62
  rw [List.append_nil] at X62
  show own_Go p e below _ T62 (mkF m 267 #[.val (.int p1), .val (.int p2), .val (.int p3), .val (.long q4), .second, .val (.long q5), .second, .val (.int p6), .val (.int bs), .val (.int vs), .val (.int ki), .val (.ref b41), .val (.int s0), .val (.int en), .val (.int md), .val (.int nx), .val (.ref b47), .val (.ref b49), .val (.int gp), .val (.ref (own_le gp n1 n2 n3))] [(.int p3)])
  refine own_go (g' := (mkF m 268 #[.val (.int p1), .val (.int p2), .val (.int p3), .val (.long q4), .second, .val (.long q5), .second, .val (.int p6), .val (.int bs), .val (.int vs), .val (.int ki), .val (.ref b41), .val (.int s0), .val (.int en), .val (.int md), .val (.int nx), .val (.ref b47), .val (.ref b49), .val (.int gp), .val (.ref (own_le gp n1 n2 n3))] [(.int p3), (.int p3)])) (fun _ k => XS.iloadN X62.here hx rfl (hb hby at_267) rfl k) ?_
  refine own_go (g' := (mkF m 271 #[.val (.int p1), .val (.int p2), .val (.int p3), .val (.long q4), .second, .val (.long q5), .second, .val (.int p6), .val (.int bs), .val (.int vs), .val (.int ki), .val (.ref b41), .val (.int s0), .val (.int en), .val (.int md), .val (.int nx), .val (.ref b47), .val (.ref b49), .val (.int gp), .val (.ref (own_le gp n1 n2 n3))] [])) (fun _ k => XS.icmpNo X62.here hx rfl (hb hby at_268) rfl (XT.ii_ne_f rfl) k) ?_
  refine own_go (g' := (mkF m 273 #[.val (.int p1), .val (.int p2), .val (.int p3), .val (.long q4), .second, .val (.long q5), .second, .val (.int p6), .val (.int bs), .val (.int vs), .val (.int ki), .val (.ref b41), .val (.int s0), .val (.int en), .val (.int md), .val (.int nx), .val (.ref b47), .val (.ref b49), .val (.int gp), .val (.ref (own_le gp n1 n2 n3))] [(.ref b49)])) (fun _ k => XS.aload X62.here hx rfl (hb hby at_271) rfl rfl k) ?_
  refine own_callV X62 hx hZ hown e62 (C := "org/kusuridana/CsvLine") (y := (⟨"org/kusuridana/CsvLine", "lineNumber", "()I"⟩ : MethodName)) (rm := ({ frames := 0, cells := 0, slots := 0, locals := 0 } : Room)) (hw _ (List.mem_of_getElem? (i := 70) rfl)) (hw _ (List.mem_of_getElem? (i := 71) rfl)) (hw _ (List.mem_of_getElem? (i := 73) rfl)) (hw _ (List.mem_of_getElem? (i := 72) rfl)) (hw _ (List.mem_of_getElem? (i := 4) rfl)) (hw _ (List.mem_of_getElem? (i := 74) rfl)) (by decide) (a := b49) B55.1 (argsL := []) (rest := []) (own_rmG5 l Z a0 hw [] b49 b47 b41 _ p1 bs vs s0 en nx p3  T55.heap n0 B55 ) (by rw [hml]; rfl) pd_9 rfl rfl (hb hby at_273) (W := 0) (Nat.le_of_eq rfl) (by decide) (by decide) (by decide) (by decide) ?_
  intro v63 T63 L63 X63 hQ63
  obtain ⟨rfl, e63, rfl⟩ := hQ63
  rw [List.append_nil] at X63
  show own_Go p e below _ T63 (mkF m 276 #[.val (.int p1), .val (.int p2), .val (.int p3), .val (.long q4), .second, .val (.long q5), .second, .val (.int p6), .val (.int bs), .val (.int vs), .val (.int ki), .val (.ref b41), .val (.int s0), .val (.int en), .val (.int md), .val (.int nx), .val (.ref b47), .val (.ref b49), .val (.int gp), .val (.ref (own_le gp n1 n2 n3))] [(.int (p1 + 1))])
  refine own_go (g' := (mkF m 277 #[.val (.int p1), .val (.int p2), .val (.int p3), .val (.long q4), .second, .val (.long q5), .second, .val (.int p6), .val (.int bs), .val (.int vs), .val (.int ki), .val (.ref b41), .val (.int s0), .val (.int en), .val (.int md), .val (.int nx), .val (.ref b47), .val (.ref b49), .val (.int gp), .val (.ref (own_le gp n1 n2 n3))] [(.int p1), (.int (p1 + 1))])) (fun _ k => XS.iloadN X63.here hx rfl (hb hby at_276) rfl k) ?_
  refine own_go (g' := (mkF m 278 #[.val (.int p1), .val (.int p2), .val (.int p3), .val (.long q4), .second, .val (.long q5), .second, .val (.int p6), .val (.int bs), .val (.int vs), .val (.int ki), .val (.ref b41), .val (.int s0), .val (.int en), .val (.int md), .val (.int nx), .val (.ref b47), .val (.ref b49), .val (.int gp), .val (.ref (own_le gp n1 n2 n3))] [(.int (1 : Int32)), (.int p1), (.int (p1 + 1))])) (fun _ k => XS.iconst X63.here hx rfl (hb hby at_277) k) ?_
  refine own_go (g' := (mkF m 279 #[.val (.int p1), .val (.int p2), .val (.int p3), .val (.long q4), .second, .val (.long q5), .second, .val (.int p6), .val (.int bs), .val (.int vs), .val (.int ki), .val (.ref b41), .val (.int s0), .val (.int en), .val (.int md), .val (.int nx), .val (.ref b47), .val (.ref b49), .val (.int gp), .val (.ref (own_le gp n1 n2 n3))] [(.int (p1 + (1 : Int32))), (.int (p1 + 1))])) (fun _ k => XS.iadd X63.here hx rfl (hb hby at_278) rfl k) ?_
  refine own_go (g' := (mkF m 282 #[.val (.int p1), .val (.int p2), .val (.int p3), .val (.long q4), .second, .val (.long q5), .second, .val (.int p6), .val (.int bs), .val (.int vs), .val (.int ki), .val (.ref b41), .val (.int s0), .val (.int en), .val (.int md), .val (.int nx), .val (.ref b47), .val (.ref b49), .val (.int gp), .val (.ref (own_le gp n1 n2 n3))] [])) (fun _ k => XS.icmpNo X63.here hx rfl (hb hby at_279) rfl (XT.ii_ne_f rfl) k) ?_
  refine own_go (g' := (mkF m 284 #[.val (.int p1), .val (.int p2), .val (.int p3), .val (.long q4), .second, .val (.long q5), .second, .val (.int p6), .val (.int bs), .val (.int vs), .val (.int ki), .val (.ref b41), .val (.int s0), .val (.int en), .val (.int md), .val (.int nx), .val (.ref b47), .val (.ref b49), .val (.int gp), .val (.ref (own_le gp n1 n2 n3))] [(.ref b49)])) (fun _ k => XS.aload X63.here hx rfl (hb hby at_282) rfl rfl k) ?_
  refine own_callV X63 hx hZ hown e63 (C := "org/kusuridana/CsvLine") (y := (⟨"org/kusuridana/CsvLine", "length", "()I"⟩ : MethodName)) (rm := ({ frames := 0, cells := 0, slots := 0, locals := 0 } : Room)) (hw _ (List.mem_of_getElem? (i := 75) rfl)) (hw _ (List.mem_of_getElem? (i := 76) rfl)) (hw _ (List.mem_of_getElem? (i := 78) rfl)) (hw _ (List.mem_of_getElem? (i := 77) rfl)) (hw _ (List.mem_of_getElem? (i := 4) rfl)) (hw _ (List.mem_of_getElem? (i := 79) rfl)) (by decide) (a := b49) B55.1 (argsL := []) (rest := []) (own_rmG6 l Z a0 hw [] b49 b47 b41 _ p1 bs vs s0 en nx p3  T55.heap n0 B55 ) (by rw [hml]; rfl) pd_10 rfl rfl (hb hby at_284) (W := 0) (Nat.le_of_eq rfl) (by decide) (by decide) (by decide) (by decide) ?_
  intro v64 T64 L64 X64 hQ64
  obtain ⟨rfl, e64, rfl⟩ := hQ64
  rw [List.append_nil] at X64
  show own_Go p e below _ T64 (mkF m 287 #[.val (.int p1), .val (.int p2), .val (.int p3), .val (.long q4), .second, .val (.long q5), .second, .val (.int p6), .val (.int bs), .val (.int vs), .val (.int ki), .val (.ref b41), .val (.int s0), .val (.int en), .val (.int md), .val (.int nx), .val (.ref b47), .val (.ref b49), .val (.int gp), .val (.ref (own_le gp n1 n2 n3))] [(.int (en - s0))])
  refine own_go (g' := (mkF m 289 #[.val (.int p1), .val (.int p2), .val (.int p3), .val (.long q4), .second, .val (.long q5), .second, .val (.int p6), .val (.int bs), .val (.int vs), .val (.int ki), .val (.ref b41), .val (.int s0), .val (.int en), .val (.int md), .val (.int nx), .val (.ref b47), .val (.ref b49), .val (.int gp), .val (.ref (own_le gp n1 n2 n3))] [(.int en), (.int (en - s0))])) (fun _ k => XS.iload X64.here hx rfl (hb hby at_287) rfl k) ?_
  refine own_go (g' := (mkF m 291 #[.val (.int p1), .val (.int p2), .val (.int p3), .val (.long q4), .second, .val (.long q5), .second, .val (.int p6), .val (.int bs), .val (.int vs), .val (.int ki), .val (.ref b41), .val (.int s0), .val (.int en), .val (.int md), .val (.int nx), .val (.ref b47), .val (.ref b49), .val (.int gp), .val (.ref (own_le gp n1 n2 n3))] [(.int s0), (.int en), (.int (en - s0))])) (fun _ k => XS.iload X64.here hx rfl (hb hby at_289) rfl k) ?_
  refine own_go (g' := (mkF m 292 #[.val (.int p1), .val (.int p2), .val (.int p3), .val (.long q4), .second, .val (.long q5), .second, .val (.int p6), .val (.int bs), .val (.int vs), .val (.int ki), .val (.ref b41), .val (.int s0), .val (.int en), .val (.int md), .val (.int nx), .val (.ref b47), .val (.ref b49), .val (.int gp), .val (.ref (own_le gp n1 n2 n3))] [(.int (en - s0)), (.int (en - s0))])) (fun _ k => XS.isub X64.here hx rfl (hb hby at_291) rfl k) ?_
  refine own_go (g' := (mkF m 295 #[.val (.int p1), .val (.int p2), .val (.int p3), .val (.long q4), .second, .val (.long q5), .second, .val (.int p6), .val (.int bs), .val (.int vs), .val (.int ki), .val (.ref b41), .val (.int s0), .val (.int en), .val (.int md), .val (.int nx), .val (.ref b47), .val (.ref b49), .val (.int gp), .val (.ref (own_le gp n1 n2 n3))] [])) (fun _ k => XS.icmpNo X64.here hx rfl (hb hby at_292) rfl (XT.ii_ne_f rfl) k) ?_
  refine own_go (g' := (mkF m 297 #[.val (.int p1), .val (.int p2), .val (.int p3), .val (.long q4), .second, .val (.long q5), .second, .val (.int p6), .val (.int bs), .val (.int vs), .val (.int ki), .val (.ref b41), .val (.int s0), .val (.int en), .val (.int md), .val (.int nx), .val (.ref b47), .val (.ref b49), .val (.int gp), .val (.ref (own_le gp n1 n2 n3))] [(.ref b49)])) (fun _ k => XS.aload X64.here hx rfl (hb hby at_295) rfl rfl k) ?_
  refine own_callV X64 hx hZ hown e64 (C := "org/kusuridana/CsvLine") (y := (⟨"org/kusuridana/CsvLine", "isEmpty", "()Z"⟩ : MethodName)) (rm := ({ frames := 0, cells := 0, slots := 0, locals := 0 } : Room)) (hw _ (List.mem_of_getElem? (i := 80) rfl)) (hw _ (List.mem_of_getElem? (i := 81) rfl)) (hw _ (List.mem_of_getElem? (i := 83) rfl)) (hw _ (List.mem_of_getElem? (i := 82) rfl)) (hw _ (List.mem_of_getElem? (i := 4) rfl)) (hw _ (List.mem_of_getElem? (i := 84) rfl)) (by decide) (a := b49) B55.1 (argsL := []) (rest := []) (own_rmG7 l Z a0 hw [] b49 b47 b41 _ p1 bs vs s0 en nx p3  T55.heap n0 B55 ) (by rw [hml]; rfl) pd_11 rfl rfl (hb hby at_297) (W := 0) (Nat.le_of_eq rfl) (by decide) (by decide) (by decide) (by decide) ?_
  intro v65 T65 L65 X65 hQ65
  obtain ⟨rfl, e65, rfl⟩ := hQ65
  rw [List.append_nil] at X65
  show own_Go p e below _ T65 (mkF m 300 #[.val (.int p1), .val (.int p2), .val (.int p3), .val (.long q4), .second, .val (.long q5), .second, .val (.int p6), .val (.int bs), .val (.int vs), .val (.int ki), .val (.ref b41), .val (.int s0), .val (.int en), .val (.int md), .val (.int nx), .val (.ref b47), .val (.ref b49), .val (.int gp), .val (.ref (own_le gp n1 n2 n3))] [(.int (if s0 = en then 1 else 0))])
  refine own_go (g' := (mkF m 302 #[.val (.int p1), .val (.int p2), .val (.int p3), .val (.long q4), .second, .val (.long q5), .second, .val (.int p6), .val (.int bs), .val (.int vs), .val (.int ki), .val (.ref b41), .val (.int s0), .val (.int en), .val (.int md), .val (.int nx), .val (.ref b47), .val (.ref b49), .val (.int gp), .val (.ref (own_le gp n1 n2 n3))] [(.int en), (.int (if s0 = en then 1 else 0))])) (fun _ k => XS.iload X65.here hx rfl (hb hby at_300) rfl k) ?_
  refine own_go (g' := (mkF m 304 #[.val (.int p1), .val (.int p2), .val (.int p3), .val (.long q4), .second, .val (.long q5), .second, .val (.int p6), .val (.int bs), .val (.int vs), .val (.int ki), .val (.ref b41), .val (.int s0), .val (.int en), .val (.int md), .val (.int nx), .val (.ref b47), .val (.ref b49), .val (.int gp), .val (.ref (own_le gp n1 n2 n3))] [(.int s0), (.int en), (.int (if s0 = en then 1 else 0))])) (fun _ k => XS.iload X65.here hx rfl (hb hby at_302) rfl k) ?_
  suffices J : own_Go p e below (own_Po s (own_Q0 n0) 24 128) T65 (mkF m 315 #[.val (.int p1), .val (.int p2), .val (.int p3), .val (.long q4), .second, .val (.long q5), .second, .val (.int p6), .val (.int bs), .val (.int vs), .val (.int ki), .val (.ref b41), .val (.int s0), .val (.int en), .val (.int md), .val (.int nx), .val (.ref b47), .val (.ref b49), .val (.int gp), .val (.ref (own_le gp n1 n2 n3))] []) by
    by_cases ce : en = s0
    · refine own_go (g' := (mkF m 307 #[.val (.int p1), .val (.int p2), .val (.int p3), .val (.long q4), .second, .val (.long q5), .second, .val (.int p6), .val (.int bs), .val (.int vs), .val (.int ki), .val (.ref b41), .val (.int s0), .val (.int en), .val (.int md), .val (.int nx), .val (.ref b47), .val (.ref b49), .val (.int gp), .val (.ref (own_le gp n1 n2 n3))] [(.int (if s0 = en then 1 else 0))])) (fun _ k => XS.icmpNo X65.here hx rfl (hb hby at_304) rfl (XT.ii_ne_f ce) k) ?_
      refine own_go (g' := (mkF m 308 #[.val (.int p1), .val (.int p2), .val (.int p3), .val (.long q4), .second, .val (.long q5), .second, .val (.int p6), .val (.int bs), .val (.int vs), .val (.int ki), .val (.ref b41), .val (.int s0), .val (.int en), .val (.int md), .val (.int nx), .val (.ref b47), .val (.ref b49), .val (.int gp), .val (.ref (own_le gp n1 n2 n3))] [(.int (1 : Int32)), (.int (if s0 = en then 1 else 0))])) (fun _ k => XS.iconst X65.here hx rfl (hb hby at_307) k) ?_
      refine own_go (g' := (mkF m 312 #[.val (.int p1), .val (.int p2), .val (.int p3), .val (.long q4), .second, .val (.long q5), .second, .val (.int p6), .val (.int bs), .val (.int vs), .val (.int ki), .val (.ref b41), .val (.int s0), .val (.int en), .val (.int md), .val (.int nx), .val (.ref b47), .val (.ref b49), .val (.int gp), .val (.ref (own_le gp n1 n2 n3))] [(.int (1 : Int32)), (.int (if s0 = en then 1 else 0))])) (fun _ k => XS.goto X65.here hx rfl (pc0 := 308) (pc' := 312) rfl (hb hby at_308) (by decide) (by decide) k) ?_
      refine own_go (g' := (mkF m 315 #[.val (.int p1), .val (.int p2), .val (.int p3), .val (.long q4), .second, .val (.long q5), .second, .val (.int p6), .val (.int bs), .val (.int vs), .val (.int ki), .val (.ref b41), .val (.int s0), .val (.int en), .val (.int md), .val (.int nx), .val (.ref b47), .val (.ref b49), .val (.int gp), .val (.ref (own_le gp n1 n2 n3))] [])) (fun _ k => XS.icmpNo X65.here hx rfl (hb hby at_312) rfl (XT.ii_ne_f (if_pos ce.symm)) k) ?_
      exact J
    · refine own_go (g' := (mkF m 311 #[.val (.int p1), .val (.int p2), .val (.int p3), .val (.long q4), .second, .val (.long q5), .second, .val (.int p6), .val (.int bs), .val (.int vs), .val (.int ki), .val (.ref b41), .val (.int s0), .val (.int en), .val (.int md), .val (.int nx), .val (.ref b47), .val (.ref b49), .val (.int gp), .val (.ref (own_le gp n1 n2 n3))] [(.int (if s0 = en then 1 else 0))])) (fun _ k => XS.icmpYes X65.here hx rfl (pc0 := 304) (pc' := 311) rfl (hb hby at_304) rfl (XT.ii_ne_t ce) (by decide) (by decide) k) ?_
      refine own_go (g' := (mkF m 312 #[.val (.int p1), .val (.int p2), .val (.int p3), .val (.long q4), .second, .val (.long q5), .second, .val (.int p6), .val (.int bs), .val (.int vs), .val (.int ki), .val (.ref b41), .val (.int s0), .val (.int en), .val (.int md), .val (.int nx), .val (.ref b47), .val (.ref b49), .val (.int gp), .val (.ref (own_le gp n1 n2 n3))] [(.int (0 : Int32)), (.int (if s0 = en then 1 else 0))])) (fun _ k => XS.iconst X65.here hx rfl (hb hby at_311) k) ?_
      refine own_go (g' := (mkF m 315 #[.val (.int p1), .val (.int p2), .val (.int p3), .val (.long q4), .second, .val (.long q5), .second, .val (.int p6), .val (.int bs), .val (.int vs), .val (.int ki), .val (.ref b41), .val (.int s0), .val (.int en), .val (.int md), .val (.int nx), .val (.ref b47), .val (.ref b49), .val (.int gp), .val (.ref (own_le gp n1 n2 n3))] [])) (fun _ k => XS.icmpNo X65.here hx rfl (hb hby at_312) rfl (XT.ii_ne_f (if_neg (fun q => ce q.symm))) k) ?_
      exact J
  refine own_go (g' := (mkF m 317 #[.val (.int p1), .val (.int p2), .val (.int p3), .val (.long q4), .second, .val (.long q5), .second, .val (.int p6), .val (.int bs), .val (.int vs), .val (.int ki), .val (.ref b41), .val (.int s0), .val (.int en), .val (.int md), .val (.int nx), .val (.ref b47), .val (.ref b49), .val (.int gp), .val (.ref (own_le gp n1 n2 n3))] [(.ref b49)])) (fun _ k => XS.aload X65.here hx rfl (hb hby at_315) rfl rfl k) ?_
  refine own_callV X65 hx hZ hown e65 (C := "org/kusuridana/CsvLine") (y := (⟨"org/kusuridana/CsvLine", "lineEnd", "()Lorg/kusuridana/Encoding$LineEnd;"⟩ : MethodName)) (rm := ({ frames := 0, cells := 0, slots := 0, locals := 0 } : Room)) (hw _ (List.mem_of_getElem? (i := 85) rfl)) (hw _ (List.mem_of_getElem? (i := 86) rfl)) (hw _ (List.mem_of_getElem? (i := 88) rfl)) (hw _ (List.mem_of_getElem? (i := 87) rfl)) (hw _ (List.mem_of_getElem? (i := 4) rfl)) (hw _ (List.mem_of_getElem? (i := 89) rfl)) (by decide) (a := b49) B55.1 (argsL := []) (rest := []) (own_rmLE l Z a0 hw [] b49 b47 b41 _ p1 bs vs s0 en nx p3 n1 n2 n3 T55.heap n0 B55 (S1.ext O55.2) (S2.ext O55.2) (S3.ext O55.2)) (by rw [hml]; rfl) pd_12 rfl rfl (hb hby at_317) (W := 0) (Nat.le_of_eq rfl) (by decide) (by decide) (by decide) (by decide) ?_
  intro v66 T66 L66 X66 hQ66
  obtain ⟨rfl, e66, rfl⟩ := hQ66
  rw [List.append_nil] at X66
  show own_Go p e below _ T66 (mkF m 320 #[.val (.int p1), .val (.int p2), .val (.int p3), .val (.long q4), .second, .val (.long q5), .second, .val (.int p6), .val (.int bs), .val (.int vs), .val (.int ki), .val (.ref b41), .val (.int s0), .val (.int en), .val (.int md), .val (.int nx), .val (.ref b47), .val (.ref b49), .val (.int gp), .val (.ref (own_le gp n1 n2 n3))] [(.ref (own_le (nx - en) n1 n2 n3))])
  refine own_go (g' := (mkF m 322 #[.val (.int p1), .val (.int p2), .val (.int p3), .val (.long q4), .second, .val (.long q5), .second, .val (.int p6), .val (.int bs), .val (.int vs), .val (.int ki), .val (.ref b41), .val (.int s0), .val (.int en), .val (.int md), .val (.int nx), .val (.ref b47), .val (.ref b49), .val (.int gp), .val (.ref (own_le gp n1 n2 n3))] [(.ref (own_le gp n1 n2 n3)), (.ref (own_le (nx - en) n1 n2 n3))])) (fun _ k => XS.aload X66.here hx rfl (hb hby at_320) rfl rfl k) ?_
  refine own_go (g' := (mkF m 325 #[.val (.int p1), .val (.int p2), .val (.int p3), .val (.long q4), .second, .val (.long q5), .second, .val (.int p6), .val (.int bs), .val (.int vs), .val (.int ki), .val (.ref b41), .val (.int s0), .val (.int en), .val (.int md), .val (.int nx), .val (.ref b47), .val (.ref b49), .val (.int gp), .val (.ref (own_le gp n1 n2 n3))] [])) (fun _ k => XT.acmpNo X66.here hx rfl (hb hby at_322) rfl rfl rfl (XT.aa_ne_f (by rw [hgp])) k) ?_
  refine own_go (g' := (mkF m 327 #[.val (.int p1), .val (.int p2), .val (.int p3), .val (.long q4), .second, .val (.long q5), .second, .val (.int p6), .val (.int bs), .val (.int vs), .val (.int ki), .val (.ref b41), .val (.int s0), .val (.int en), .val (.int md), .val (.int nx), .val (.ref b47), .val (.ref b49), .val (.int gp), .val (.ref (own_le gp n1 n2 n3))] [(.ref b49)])) (fun _ k => XS.aload X66.here hx rfl (hb hby at_325) rfl rfl k) ?_
  refine own_go (g' := (mkF m 329 #[.val (.int p1), .val (.int p2), .val (.int p3), .val (.long q4), .second, .val (.long q5), .second, .val (.int p6), .val (.int bs), .val (.int vs), .val (.int ki), .val (.ref b41), .val (.int s0), .val (.int en), .val (.int md), .val (.int nx), .val (.ref b47), .val (.ref b49), .val (.int gp), .val (.ref (own_le gp n1 n2 n3))] [(.int ki), (.ref b49)])) (fun _ k => XS.iload X66.here hx rfl (hb hby at_327) rfl k) ?_
  have f67 := (own_Ar_keep f54 K55q (ninS ne50 nin0))
  refine own_callV X66 hx hZ hown e66 (C := "org/kusuridana/CsvLine") (y := (⟨"org/kusuridana/CsvLine", "start", "(I)I"⟩ : MethodName)) (rm := ({ frames := 0, cells := 0, slots := 0, locals := 0 } : Room)) (hw _ (List.mem_of_getElem? (i := 91) rfl)) (hw _ (List.mem_of_getElem? (i := 92) rfl)) (hw _ (List.mem_of_getElem? (i := 94) rfl)) (hw _ (List.mem_of_getElem? (i := 93) rfl)) (hw _ (List.mem_of_getElem? (i := 4) rfl)) (hw _ (List.mem_of_getElem? (i := 95) rfl)) (by decide) (a := b49) B55.1 (argsL := [(.int ki)]) (rest := []) (own_rmS l Z a0 hw [] b49 b47 b41 _ p1 bs vs s0 en nx p3 ki f1 B V KK T55.heap n0 B55 f67 kB kV kK hKV hBV) (by rw [hml]; rfl) pd_13 rfl rfl (hb hby at_329) (W := 0) (Nat.le_of_eq rfl) (by decide) (by decide) (by decide) (by decide) ?_
  intro v68 T68 L68 X68 hQ68
  obtain ⟨rfl, e68, rfl⟩ := hQ68
  rw [List.append_nil] at X68
  show own_Go p e below _ T68 (mkF m 332 #[.val (.int p1), .val (.int p2), .val (.int p3), .val (.long q4), .second, .val (.long q5), .second, .val (.int p6), .val (.int bs), .val (.int vs), .val (.int ki), .val (.ref b41), .val (.int s0), .val (.int en), .val (.int md), .val (.int nx), .val (.ref b47), .val (.ref b49), .val (.int gp), .val (.ref (own_le gp n1 n2 n3))] [(.int (f1 (B + KK)))])
  refine own_go (g' := (mkF m 334 #[.val (.int p1), .val (.int p2), .val (.int p3), .val (.long q4), .second, .val (.long q5), .second, .val (.int p6), .val (.int bs), .val (.int vs), .val (.int ki), .val (.ref b41), .val (.int s0), .val (.int en), .val (.int md), .val (.int nx), .val (.ref b47), .val (.ref b49), .val (.int gp), .val (.ref (own_le gp n1 n2 n3))] [(.ref b41), (.int (f1 (B + KK)))])) (fun _ k => XS.aload X68.here hx rfl (hb hby at_332) rfl rfl k) ?_
  refine own_go (g' := (mkF m 336 #[.val (.int p1), .val (.int p2), .val (.int p3), .val (.long q4), .second, .val (.long q5), .second, .val (.int p6), .val (.int bs), .val (.int vs), .val (.int ki), .val (.ref b41), .val (.int s0), .val (.int en), .val (.int md), .val (.int nx), .val (.ref b47), .val (.ref b49), .val (.int gp), .val (.ref (own_le gp n1 n2 n3))] [(.int bs), (.ref b41), (.int (f1 (B + KK)))])) (fun _ k => XS.iload X68.here hx rfl (hb hby at_334) rfl k) ?_
  refine own_go (g' := (mkF m 338 #[.val (.int p1), .val (.int p2), .val (.int p3), .val (.long q4), .second, .val (.long q5), .second, .val (.int p6), .val (.int bs), .val (.int vs), .val (.int ki), .val (.ref b41), .val (.int s0), .val (.int en), .val (.int md), .val (.int nx), .val (.ref b47), .val (.ref b49), .val (.int gp), .val (.ref (own_le gp n1 n2 n3))] [(.int ki), (.int bs), (.ref b41), (.int (f1 (B + KK)))])) (fun _ k => XS.iload X68.here hx rfl (hb hby at_336) rfl k) ?_
  refine own_go (g' := (mkF m 339 #[.val (.int p1), .val (.int p2), .val (.int p3), .val (.long q4), .second, .val (.long q5), .second, .val (.int p6), .val (.int bs), .val (.int vs), .val (.int ki), .val (.ref b41), .val (.int s0), .val (.int en), .val (.int md), .val (.int nx), .val (.ref b47), .val (.ref b49), .val (.int gp), .val (.ref (own_le gp n1 n2 n3))] [(.int (bs + ki)), (.ref b41), (.int (f1 (B + KK)))])) (fun _ k => XS.iadd X68.here hx rfl (hb hby at_338) rfl k) ?_
  refine own_iaload X68 hx hZ e68 f67 (B + KK) (own_addi kB kK (by omega)) (by omega) (hb hby at_339) ?_
  show own_Go p e below _ T68 (mkF m 340 #[.val (.int p1), .val (.int p2), .val (.int p3), .val (.long q4), .second, .val (.long q5), .second, .val (.int p6), .val (.int bs), .val (.int vs), .val (.int ki), .val (.ref b41), .val (.int s0), .val (.int en), .val (.int md), .val (.int nx), .val (.ref b47), .val (.ref b49), .val (.int gp), .val (.ref (own_le gp n1 n2 n3))] [(.int (f1 (B + KK))), (.int (f1 (B + KK)))])
  refine own_go (g' := (mkF m 343 #[.val (.int p1), .val (.int p2), .val (.int p3), .val (.long q4), .second, .val (.long q5), .second, .val (.int p6), .val (.int bs), .val (.int vs), .val (.int ki), .val (.ref b41), .val (.int s0), .val (.int en), .val (.int md), .val (.int nx), .val (.ref b47), .val (.ref b49), .val (.int gp), .val (.ref (own_le gp n1 n2 n3))] [])) (fun _ k => XS.icmpNo X68.here hx rfl (hb hby at_340) rfl (XT.ii_ne_f rfl) k) ?_
  refine own_go (g' := (mkF m 344 #[.val (.int p1), .val (.int p2), .val (.int p3), .val (.long q4), .second, .val (.long q5), .second, .val (.int p6), .val (.int bs), .val (.int vs), .val (.int ki), .val (.ref b41), .val (.int s0), .val (.int en), .val (.int md), .val (.int nx), .val (.ref b47), .val (.ref b49), .val (.int gp), .val (.ref (own_le gp n1 n2 n3))] [(.int (1 : Int32))])) (fun _ k => XS.iconst X68.here hx rfl (hb hby at_343) k) ?_
  refine own_go (g' := (mkF m 348 #[.val (.int p1), .val (.int p2), .val (.int p3), .val (.long q4), .second, .val (.long q5), .second, .val (.int p6), .val (.int bs), .val (.int vs), .val (.int ki), .val (.ref b41), .val (.int s0), .val (.int en), .val (.int md), .val (.int nx), .val (.ref b47), .val (.ref b49), .val (.int gp), .val (.ref (own_le gp n1 n2 n3))] [(.int (1 : Int32))])) (fun _ k => XS.goto X68.here hx rfl (pc0 := 344) (pc' := 348) rfl (hb hby at_344) (by decide) (by decide) k) ?_
  exact own_retZ X68 hx hlk hret e68 (hb hby at_348) ⟨rfl, N2⟩ (by decide) (by decide)
set_option maxRecDepth 65536 in
set_option maxHeartbeats 40000000 in
theorem comes_1 {Post : Tables → Env → Array Value → State → Outcome → State → Prop} (hpost : ∀ tb e args s v u, (limb_1_1.after args s (.returned v) u = true ∧ limb_1_2.after args s (.returned v) u = true ∧ True) → FrameEnd s (.returned v) u (Jvm.fieldLocs frame_1_writes args s ++ Jvm.arrayLocs frame_1_arrays args s ++ Jvm.staticLocs frame_1_statics s) 24 128 → Post tb e args s (.returned v) u) :
    ArmFor flags0 classFile x code maxLocals ret World_1 tables_1 room_1 Calls_1 rest_1 Pre_1 Post := by
  intro l hfl _ _ p e ha hc hk s m args below hf hA hF happ hP
  obtain ⟨hcalls, hrest, hpre⟩ := hP
  obtain ⟨-, -, -, hnamed, -, -, -, hat⟩ := (Spec.applies_iff hf).mp happ
  obtain ⟨hg, hn⟩ := and_e (Cond.before_iff.mp (show (Jvm.Cond.and given_1 narrow_1).before args s = true from hpre))
  obtain ⟨h1, g0⟩ := and_e hg
  obtain ⟨k0, g1⟩ := and_e g0
  obtain ⟨k1, g2⟩ := and_e g1
  obtain ⟨k2, g3⟩ := and_e g2
  obtain ⟨k3, g4⟩ := and_e g3
  obtain ⟨k4, g5⟩ := and_e g4
  have k5 := g5
  obtain ⟨w0, w1, w2, w3, w4, w5, rfl⟩ : ∃ w0 w1 w2 w3 w4 w5 : Value, args = #[w0, w1, w2, w3, w4, w5] := by
    have hs : args.size = 6 := by simpa [Cond.value, given_1] using h1
    obtain ⟨L⟩ := args
    match L, hs with
    | [w0, w1, w2, w3, w4, w5], _ => exact ⟨w0, w1, w2, w3, w4, w5, rfl⟩
  have hw := fun d (hd : d ∈ tables_1) => atoms_spec (ws := Jvm.Cond.code x code maxLocals ret :: tables_1) hat d (List.mem_cons_of_mem _ hd)
  obtain ⟨i0, e0⟩ := is_v k0
  obtain rfl : w0 = (.int i0) := Option.some.inj e0
  obtain ⟨i1, e1⟩ := is_v k1
  obtain rfl : w1 = (.int i1) := Option.some.inj e1
  obtain ⟨i2, e2⟩ := is_v k2
  obtain rfl : w2 = (.int i2) := Option.some.inj e2
  obtain ⟨i3, e3⟩ := isL_v k3
  obtain rfl : w3 = (.long i3) := Option.some.inj e3
  obtain ⟨i4, e4⟩ := isL_v k4
  obtain rfl : w4 = (.long i4) := Option.some.inj e4
  obtain ⟨i5, e5⟩ := is_v k5
  obtain rfl : w5 = (.int i5) := Option.some.inj e5
  obtain ⟨hn1, hn'⟩ := and_e hn
  obtain ⟨hn2, hn3⟩ := and_e hn'
  obtain ⟨n1, en1⟩ := exa_v hn1
  have S1 : Sta s s.heap "org/kusuridana/Encoding$LineEnd" "NONE" "Lorg/kusuridana/Encoding$LineEnd;" (.ref n1) := Sta.start en1 (Or.inr ⟨(hw _ (List.mem_of_getElem? (i := 48) rfl)), (hw _ (List.mem_of_getElem? (i := 49) rfl))⟩)
  obtain ⟨n2, en2⟩ := exa_v hn2
  have S2 : Sta s s.heap "org/kusuridana/Encoding$LineEnd" "LF" "Lorg/kusuridana/Encoding$LineEnd;" (.ref n2) := Sta.start en2 (Or.inr ⟨(hw _ (List.mem_of_getElem? (i := 48) rfl)), (hw _ (List.mem_of_getElem? (i := 97) rfl))⟩)
  obtain ⟨n3, en3⟩ := exa_v hn3
  have S3 : Sta s s.heap "org/kusuridana/Encoding$LineEnd" "CR_LF" "Lorg/kusuridana/Encoding$LineEnd;" (.ref n3) := Sta.start en3 (Or.inr ⟨(hw _ (List.mem_of_getElem? (i := 48) rfl)), (hw _ (List.mem_of_getElem? (i := 100) rfl))⟩)
  obtain ⟨n, o, h1, h2, h3, _, L, rfl, ⟨rfl, N⟩, hq⟩ := own_rm0 l s _ hw tables_1 i0 i1 i2 i3 i4 i5 n1 n2 n3 s.heap s.heap.size (Nat.le_refl _) (Old.start s) S1 S2 S3 p e ha hc hk s m _ below hf ((Spec.applies_iff_loose hf).mp happ).1 ⟨rfl, State.Warmed39.refl s, rfl⟩ trivial
  refine ⟨n, _, h1, h2, h3, hpost _ _ _ _ _ _ ⟨Cond.after_iff.mpr rfl, Cond.after_iff.mpr (eq_i res_at (Term.int_eval (1)) rfl), trivial⟩ ⟨hq.1, hq.2.1, (hq.2.2.sift fun y hy => Or.inr (N y hy)).mono (by decide) (by decide)⟩⟩
theorem main_1_1 : Claimed_1_1 := comes_1 fun _ _ _ _ _ _ h hF => ⟨h.1, hF⟩
theorem main_1_2 : Claimed_1_2 := comes_1 fun _ _ _ _ _ _ h hF => ⟨h.2.1, hF⟩
end Jvm.Pilot.@@N@@
namespace Jvm.Pilot.@@N@@
open Jvm Jvm.ClassFile Sem Op Lib Jvm.Free Jvm.Stand Jvm.Pilot.@@N@@.Jvm.D
/-! MADE BY PROGRAM (witnessworld.py) out of the Statement's table words and the real class files: 15 classes; the members and pool entries that the words name. The judged class is class 1, her method 1. -/
namespace start1
open Jvm.ClassFile
def u (s : String) : CpInfo := .utf8 (stringToUtf16 s)
/-- a pool by its gaps: so many unusable entries, then the entry; so many at the end -/
def gap : Nat → List CpInfo → List CpInfo
  | 0, r => r
  | n + 1, r => .unusable :: gap n r
def poolList (es : List (Nat × CpInfo)) (last : Nat) : List CpInfo := es.foldr (fun e r => gap e.1 (e.2 :: r)) (gap last [])
def pool (es : List (Nat × CpInfo)) (last : Nat) : Array CpInfo := ⟨poolList es last⟩
def fileOf (pool : Array CpInfo) (this : Nat) (attrs : Array Attribute := #[]) (ms : Array MethodInfo := #[]) (fl : Nat := 33) (sup : Nat := 0) (ifs : Array Nat := #[]) (fds : Array FieldInfo := #[]) : ClassFile where
  minorVersion := 0
  majorVersion := 65
  constantPool := pool
  accessFlags := fl
  thisClass := this
  superClass := sup
  interfaces := ifs
  fields := fds
  methods := ms
  attributes := attrs
def plain (name : String) (sup : Option ClassId) : Class where
  name := name
  kind := .ordinary
  loader := none
  accessFlags := 33
  super := sup
  interfaces := #[]
  cf := none
  fields := #[]
  methods := #[]
  instanceTypes := #[]
  staticTypes := #[]
  resolved := #[]
  callSites := []
  init := .initialized
  statics := none
  mirror := none

def pool0 : Array CpInfo := pool [(5, u "<init>"), (0, u "()V"), (1, .class_ 10), (1, u "java/lang/Object")] 113

def k0c0 : Code := { maxStack := 0, maxLocals := 1, code := object_method_1_code, exceptionTable := #[], attributes := #[] }
def k0m0 : Method := { name := "<init>", desc := "()V", sig := { parameters := [], returnType := none }, accessFlags := 1, code := some k0c0 }
/-- java/lang/Object -/
def k0 : Class := { plain "java/lang/Object" none with
  accessFlags := 33
  interfaces := #[]
  cf := some (fileOf pool0 8 #[] #[{ accessFlags := 1, nameIndex := 5, descriptorIndex := 6, attributes := #[] }] 33 0 #[] #[])
  fields := #[]
  methods := #[k0m0]
  instanceTypes := #[]
  staticTypes := #[]
  resolved := Array.replicate 124 none
  statics := none }

def pool1 : Array CpInfo := pool [(2, .class_ 4), (0, .nameAndType 5 6), (0, u "java/lang/Object"), (0, u "<init>"), (0, u "()V"), (0, .class_ 8), (0, u "org/kusuridana/CsvLine"), (0, .methodref 7 3), (0, .methodref 7 11), (0, .nameAndType 12 13), (0, u "point"), (0, u "([BLorg/kusuridana/Encoding;I[IIIII)V"), (0, .fieldref 15 16), (0, .class_ 17), (0, .nameAndType 18 19), (0, u "org/kusuridana/Encoding$LineEnd"), (0, u "NONE"), (0, u "Lorg/kusuridana/Encoding$LineEnd;"), (0, .fieldref 15 21), (0, .nameAndType 22 19), (0, u "LF"), (0, .fieldref 15 24), (0, .nameAndType 25 19), (0, u "CR_LF"), (0, .methodref 7 27), (0, .nameAndType 28 29), (0, u "content"), (0, u "()[B"), (0, .methodref 7 31), (0, .nameAndType 32 33), (0, u "starts"), (0, u "()[I"), (0, .methodref 7 35), (0, .nameAndType 36 37), (0, u "count"), (0, u "()I"), (0, .methodref 7 39), (0, .nameAndType 40 37), (0, u "number"), (0, .methodref 7 42), (0, .nameAndType 43 37), (0, u "lineNumber"), (0, .methodref 7 45), (0, .nameAndType 46 37), (0, u "length"), (0, .methodref 7 48), (0, .nameAndType 49 50), (0, u "isEmpty"), (0, u "()Z"), (0, .methodref 7 52), (0, .nameAndType 53 54), (0, u "lineEnd"), (0, u "()Lorg/kusuridana/Encoding$LineEnd;"), (0, .methodref 7 56), (0, .nameAndType 57 58), (0, u "start"), (0, u "(I)I"), (0, .class_ 60), (0, u "org/kusuridana/CsvLinePointPinLaw"), (2, u "law"), (0, u "(IIIJJI)Z")] 11

def k1m0 : Method := { name := "<init>", desc := "()V", sig := { parameters := [], returnType := none }, accessFlags := 1, code := none }
def k1c1 : Code := { maxStack := 9, maxLocals := 20, code := code, exceptionTable := #[], attributes := #[] }
def k1m1 : Method := { name := "law", desc := "(IIIJJI)Z", sig := { parameters := [.int, .int, .int, .long, .long, .int], returnType := some .boolean }, accessFlags := 9, code := some k1c1 }
/-- org/kusuridana/CsvLinePointPinLaw -/
def k1 : Class := { plain "org/kusuridana/CsvLinePointPinLaw" (some 0) with
  accessFlags := 49
  interfaces := #[]
  cf := some (fileOf pool1 59 #[] #[{ accessFlags := 1, nameIndex := 5, descriptorIndex := 6, attributes := #[] }, { accessFlags := 9, nameIndex := 63, descriptorIndex := 64, attributes := #[] }] 49 2 #[] #[])
  fields := #[]
  methods := #[k1m0, k1m1]
  instanceTypes := #[]
  staticTypes := #[]
  resolved := Array.replicate 76 none
  statics := none }

def pool2 : Array CpInfo := pool [(1, .methodref 2 3), (0, .class_ 4), (0, .nameAndType 5 6), (0, u "java/lang/Object"), (0, u "<init>"), (0, u "()V"), (0, .class_ 8), (0, u "org/kusuridana/CsvLine$Ascii"), (0, .methodref 7 3), (0, .fieldref 11 12), (0, .class_ 13), (0, .nameAndType 14 15), (0, u "org/kusuridana/CsvLine"), (0, u "ascii"), (0, u "Lorg/kusuridana/CsvLine$Ascii;"), (2, u "point"), (0, u "([BLorg/kusuridana/Encoding;I[IIIII)V"), (0, .fieldref 11 21), (0, .nameAndType 22 23), (0, u "content"), (0, u "[B"), (0, .fieldref 11 25), (0, .nameAndType 26 27), (0, u "encoding"), (0, u "Lorg/kusuridana/Encoding;"), (0, .fieldref 11 29), (0, .nameAndType 30 31), (0, u "index"), (0, u "I"), (0, .fieldref 11 33), (0, .nameAndType 34 35), (0, u "starts"), (0, u "[I"), (0, .fieldref 11 37), (0, .nameAndType 38 31), (0, u "base"), (0, .fieldref 11 40), (0, .nameAndType 41 31), (0, u "values"), (0, .fieldref 11 43), (0, .nameAndType 44 31), (0, u "start"), (0, .fieldref 11 46), (0, .nameAndType 47 31), (0, u "end"), (0, .fieldref 11 49), (0, .nameAndType 50 31), (0, u "next"), (0, .fieldref 11 52), (0, .nameAndType 53 31), (0, u "number"), (8, u "()I"), (15, u "(I)I"), (26, u "lineEnd"), (0, u "()Lorg/kusuridana/Encoding$LineEnd;"), (1, .class_ 110), (1, u "org/kusuridana/Encoding$LineEnd"), (1, u "()[B"), (8, .fieldref 108 122), (0, .nameAndType 123 124), (0, u "NONE"), (0, u "Lorg/kusuridana/Encoding$LineEnd;"), (0, .fieldref 108 126), (0, .nameAndType 127 124), (0, u "LF"), (0, .fieldref 108 129), (0, .nameAndType 130 124), (0, u "CR_LF"), (19, u "count"), (14, u "isEmpty"), (0, u "()Z"), (9, u "length"), (23, u "decoded"), (30, u "window"), (0, u "Ljava/nio/CharBuffer;"), (25, u "decoding"), (2, u "decoder"), (3, u "Ljava/nio/charset/CharsetDecoder;"), (2, u "Ljava/nio/ByteBuffer;"), (35, u "COMMA"), (0, u "B"), (2, u "MAX_DIGITS"), (8, u "lineNumber"), (2, u "()[I")] 60

def k2c0 : Code := { maxStack := 3, maxLocals := 1, code := prog_25_method_1_code, exceptionTable := #[], attributes := #[] }
def k2m0 : Method := { name := "<init>", desc := "()V", sig := { parameters := [], returnType := none }, accessFlags := 0, code := some k2c0 }
def k2c1 : Code := { maxStack := 4, maxLocals := 9, code := prog_25_method_3_code, exceptionTable := #[], attributes := #[] }
def k2m1 : Method := { name := "point", desc := "([BLorg/kusuridana/Encoding;I[IIIII)V", sig := { parameters := [(.array .byte), (.object "org/kusuridana/Encoding"), .int, (.array .int), .int, .int, .int, .int], returnType := none }, accessFlags := 0, code := some k2c1 }
def k2c2 : Code := { maxStack := 2, maxLocals := 1, code := prog_25_method_5_code, exceptionTable := #[], attributes := #[] }
def k2m2 : Method := { name := "lineNumber", desc := "()I", sig := { parameters := [], returnType := some .int }, accessFlags := 0, code := some k2c2 }
def k2c3 : Code := { maxStack := 2, maxLocals := 1, code := prog_25_method_6_code, exceptionTable := #[], attributes := #[] }
def k2m3 : Method := { name := "lineEnd", desc := "()Lorg/kusuridana/Encoding$LineEnd;", sig := { parameters := [], returnType := some (.object "org/kusuridana/Encoding$LineEnd") }, accessFlags := 0, code := some k2c3 }
def k2c4 : Code := { maxStack := 2, maxLocals := 1, code := prog_25_method_7_code, exceptionTable := #[], attributes := #[] }
def k2m4 : Method := { name := "isEmpty", desc := "()Z", sig := { parameters := [], returnType := some .boolean }, accessFlags := 0, code := some k2c4 }
def k2c5 : Code := { maxStack := 2, maxLocals := 1, code := prog_25_method_8_code, exceptionTable := #[], attributes := #[] }
def k2m5 : Method := { name := "length", desc := "()I", sig := { parameters := [], returnType := some .int }, accessFlags := 0, code := some k2c5 }
def k2c6 : Code := { maxStack := 1, maxLocals := 1, code := prog_25_method_10_code, exceptionTable := #[], attributes := #[] }
def k2m6 : Method := { name := "count", desc := "()I", sig := { parameters := [], returnType := some .int }, accessFlags := 0, code := some k2c6 }
def k2c7 : Code := { maxStack := 3, maxLocals := 2, code := prog_25_method_13_code, exceptionTable := #[], attributes := #[] }
def k2m7 : Method := { name := "start", desc := "(I)I", sig := { parameters := [.int], returnType := some .int }, accessFlags := 0, code := some k2c7 }
def k2c8 : Code := { maxStack := 1, maxLocals := 1, code := prog_25_method_14_code, exceptionTable := #[], attributes := #[] }
def k2m8 : Method := { name := "content", desc := "()[B", sig := { parameters := [], returnType := some (.array .byte) }, accessFlags := 0, code := some k2c8 }
def k2c9 : Code := { maxStack := 1, maxLocals := 1, code := prog_25_method_15_code, exceptionTable := #[], attributes := #[] }
def k2m9 : Method := { name := "starts", desc := "()[I", sig := { parameters := [], returnType := some (.array .int) }, accessFlags := 0, code := some k2c9 }
def k2c10 : Code := { maxStack := 1, maxLocals := 1, code := prog_25_method_30_code, exceptionTable := #[], attributes := #[] }
def k2m10 : Method := { name := "number", desc := "()I", sig := { parameters := [], returnType := some .int }, accessFlags := 0, code := some k2c10 }
/-- org/kusuridana/CsvLine -/
def k2 : Class := { plain "org/kusuridana/CsvLine" (some 0) with
  accessFlags := 48
  interfaces := #[]
  cf := some (fileOf pool2 11 #[.nestMembers #[7]] #[{ accessFlags := 0, nameIndex := 5, descriptorIndex := 6, attributes := #[] }, { accessFlags := 0, nameIndex := 18, descriptorIndex := 19, attributes := #[] }, { accessFlags := 0, nameIndex := 317, descriptorIndex := 62, attributes := #[] }, { accessFlags := 0, nameIndex := 105, descriptorIndex := 106, attributes := #[] }, { accessFlags := 0, nameIndex := 165, descriptorIndex := 166, attributes := #[] }, { accessFlags := 0, nameIndex := 176, descriptorIndex := 62, attributes := #[] }, { accessFlags := 0, nameIndex := 150, descriptorIndex := 62, attributes := #[] }, { accessFlags := 0, nameIndex := 44, descriptorIndex := 78, attributes := #[] }, { accessFlags := 0, nameIndex := 22, descriptorIndex := 112, attributes := #[] }, { accessFlags := 0, nameIndex := 34, descriptorIndex := 320, attributes := #[] }, { accessFlags := 0, nameIndex := 53, descriptorIndex := 62, attributes := #[] }] 48 2 #[] #[{ accessFlags := 26, nameIndex := 304, descriptorIndex := 305, attributes := #[] }, { accessFlags := 26, nameIndex := 308, descriptorIndex := 31, attributes := #[] }, { accessFlags := 2, nameIndex := 22, descriptorIndex := 23, attributes := #[] }, { accessFlags := 2, nameIndex := 26, descriptorIndex := 27, attributes := #[] }, { accessFlags := 2, nameIndex := 30, descriptorIndex := 31, attributes := #[] }, { accessFlags := 2, nameIndex := 44, descriptorIndex := 31, attributes := #[] }, { accessFlags := 2, nameIndex := 47, descriptorIndex := 31, attributes := #[] }, { accessFlags := 2, nameIndex := 50, descriptorIndex := 31, attributes := #[] }, { accessFlags := 2, nameIndex := 34, descriptorIndex := 35, attributes := #[] }, { accessFlags := 2, nameIndex := 38, descriptorIndex := 31, attributes := #[] }, { accessFlags := 2, nameIndex := 41, descriptorIndex := 31, attributes := #[] }, { accessFlags := 2, nameIndex := 53, descriptorIndex := 31, attributes := #[] }, { accessFlags := 18, nameIndex := 14, descriptorIndex := 15, attributes := #[] }, { accessFlags := 2, nameIndex := 231, descriptorIndex := 232, attributes := #[] }, { accessFlags := 2, nameIndex := 200, descriptorIndex := 268, attributes := #[] }, { accessFlags := 2, nameIndex := 261, descriptorIndex := 265, attributes := #[] }, { accessFlags := 2, nameIndex := 258, descriptorIndex := 27, attributes := #[] }])
  fields := #[{ name := "COMMA", type := .byte, accessFlags := 26, slot := 0, constantValue := 0 }, { name := "MAX_DIGITS", type := .int, accessFlags := 26, slot := 1, constantValue := 0 }, { name := "content", type := (.array .byte), accessFlags := 2, slot := 0, constantValue := 0 }, { name := "encoding", type := (.object "org/kusuridana/Encoding"), accessFlags := 2, slot := 1, constantValue := 0 }, { name := "index", type := .int, accessFlags := 2, slot := 2, constantValue := 0 }, { name := "start", type := .int, accessFlags := 2, slot := 3, constantValue := 0 }, { name := "end", type := .int, accessFlags := 2, slot := 4, constantValue := 0 }, { name := "next", type := .int, accessFlags := 2, slot := 5, constantValue := 0 }, { name := "starts", type := (.array .int), accessFlags := 2, slot := 6, constantValue := 0 }, { name := "base", type := .int, accessFlags := 2, slot := 7, constantValue := 0 }, { name := "values", type := .int, accessFlags := 2, slot := 8, constantValue := 0 }, { name := "number", type := .int, accessFlags := 2, slot := 9, constantValue := 0 }, { name := "ascii", type := (.object "org/kusuridana/CsvLine$Ascii"), accessFlags := 18, slot := 10, constantValue := 0 }, { name := "window", type := (.object "java/nio/CharBuffer"), accessFlags := 2, slot := 11, constantValue := 0 }, { name := "decoded", type := (.object "java/nio/ByteBuffer"), accessFlags := 2, slot := 12, constantValue := 0 }, { name := "decoder", type := (.object "java/nio/charset/CharsetDecoder"), accessFlags := 2, slot := 13, constantValue := 0 }, { name := "decoding", type := (.object "org/kusuridana/Encoding"), accessFlags := 2, slot := 14, constantValue := 0 }]
  methods := #[k2m0, k2m1, k2m2, k2m3, k2m4, k2m5, k2m6, k2m7, k2m8, k2m9, k2m10]
  instanceTypes := #[(.array .byte), (.object "org/kusuridana/Encoding"), .int, .int, .int, .int, (.array .int), .int, .int, .int, (.object "org/kusuridana/CsvLine$Ascii"), (.object "java/nio/CharBuffer"), (.object "java/nio/ByteBuffer"), (.object "java/nio/charset/CharsetDecoder"), (.object "org/kusuridana/Encoding")]
  staticTypes := #[.byte, .int]
  resolved := ((Array.replicate 381 none).setIfInBounds 7 (some (.cls 4))).setIfInBounds 9 (some (.method ⟨4, 0⟩))
  statics := none }

def pool3 : Array CpInfo := pool [(2, .class_ 4), (1, u "java/lang/CharSequence"), (42, .class_ 48), (0, u "java/lang/CharSequence$1CodePointIterator"), (10, .class_ 60), (0, u "java/lang/CharSequence$1CharIterator"), (5, .class_ 67), (0, u "java/lang/Object")] 63

/-- java/lang/CharSequence -/
def k3 : Class := { plain "java/lang/CharSequence" (some 0) with
  accessFlags := 1537
  interfaces := #[]
  cf := some (fileOf pool3 2 #[.nestMembers #[47, 59]] #[] 1537 66 #[] #[])
  fields := #[]
  methods := #[]
  instanceTypes := #[]
  staticTypes := #[]
  resolved := Array.replicate 131 none
  statics := none }

def pool4 : Array CpInfo := pool [(1, .methodref 2 3), (0, .class_ 4), (0, .nameAndType 5 6), (0, u "java/lang/Object"), (0, u "<init>"), (0, u "()V"), (0, .fieldref 8 9), (0, .class_ 10), (0, .nameAndType 11 12), (0, u "org/kusuridana/CsvLine$Ascii"), (0, u "bytes"), (0, u "[B"), (2, u "from"), (0, u "I"), (2, u "length"), (30, .class_ 51), (0, u "java/lang/CharSequence"), (15, .class_ 68), (0, u "org/kusuridana/CsvLine")] 16

def k4c0 : Code := { maxStack := 2, maxLocals := 1, code := prog_26_method_1_code, exceptionTable := #[], attributes := #[] }
def k4m0 : Method := { name := "<init>", desc := "()V", sig := { parameters := [], returnType := none }, accessFlags := 2, code := some k4c0 }
/-- org/kusuridana/CsvLine$Ascii -/
def k4 : Class := { plain "org/kusuridana/CsvLine$Ascii" (some 0) with
  accessFlags := 48
  interfaces := #[3]
  cf := some (fileOf pool4 8 #[.nestHost 67] #[{ accessFlags := 2, nameIndex := 5, descriptorIndex := 6, attributes := #[] }] 48 2 #[50] #[{ accessFlags := 2, nameIndex := 11, descriptorIndex := 12, attributes := #[] }, { accessFlags := 2, nameIndex := 15, descriptorIndex := 16, attributes := #[] }, { accessFlags := 2, nameIndex := 19, descriptorIndex := 16, attributes := #[] }])
  fields := #[{ name := "bytes", type := (.array .byte), accessFlags := 2, slot := 0, constantValue := 0 }, { name := "from", type := .int, accessFlags := 2, slot := 1, constantValue := 0 }, { name := "length", type := .int, accessFlags := 2, slot := 2, constantValue := 0 }]
  methods := #[k4m0]
  instanceTypes := #[(.array .byte), .int, .int]
  staticTypes := #[]
  resolved := Array.replicate 85 none
  statics := none }

def pool5 : Array CpInfo := pool [(1, .class_ 2), (0, u "java/lang/constant/Constable"), (0, .class_ 4), (0, u "java/lang/Object")] 6

/-- java/lang/constant/Constable -/
def k5 : Class := { plain "java/lang/constant/Constable" (some 0) with
  accessFlags := 1537
  interfaces := #[]
  cf := some (fileOf pool5 1 #[] #[] 1537 3 #[] #[])
  fields := #[]
  methods := #[]
  instanceTypes := #[]
  staticTypes := #[]
  resolved := Array.replicate 11 none
  statics := none }

def pool6 : Array CpInfo := pool [(1, .class_ 2), (0, u "java/lang/Comparable"), (0, .class_ 4), (0, u "java/lang/Object")] 7

/-- java/lang/Comparable -/
def k6 : Class := { plain "java/lang/Comparable" (some 0) with
  accessFlags := 1537
  interfaces := #[]
  cf := some (fileOf pool6 1 #[] #[] 1537 3 #[] #[])
  fields := #[]
  methods := #[]
  instanceTypes := #[]
  staticTypes := #[]
  resolved := Array.replicate 12 none
  statics := none }

def pool7 : Array CpInfo := pool [(1, .class_ 2), (0, u "java/io/Serializable"), (0, .class_ 4), (0, u "java/lang/Object")] 2

/-- java/io/Serializable -/
def k7 : Class := { plain "java/io/Serializable" (some 0) with
  accessFlags := 1537
  interfaces := #[]
  cf := some (fileOf pool7 1 #[] #[] 1537 3 #[] #[])
  fields := #[]
  methods := #[]
  instanceTypes := #[]
  staticTypes := #[]
  resolved := Array.replicate 7 none
  statics := none }

def pool8 : Array CpInfo := pool [(2, .class_ 4), (1, u "java/lang/Enum"), (0, u "name"), (0, u "Ljava/lang/String;"), (2, u "ordinal"), (0, u "I"), (1, .class_ 14), (1, u "java/lang/Object"), (4, u "hash"), (86, .class_ 108), (1, u "java/lang/Enum$EnumDesc"), (2, .class_ 112), (0, u "java/lang/constant/Constable"), (0, .class_ 114), (0, u "java/lang/Comparable"), (0, .class_ 116), (0, u "java/io/Serializable")] 87

/-- java/lang/Enum -/
def k8 : Class := { plain "java/lang/Enum" (some 0) with
  accessFlags := 1057
  interfaces := #[5, 6, 7]
  cf := some (fileOf pool8 2 #[.nestMembers #[106]] #[] 1057 12 #[111, 113, 115] #[{ accessFlags := 18, nameIndex := 5, descriptorIndex := 6, attributes := #[] }, { accessFlags := 18, nameIndex := 9, descriptorIndex := 10, attributes := #[] }, { accessFlags := 2, nameIndex := 19, descriptorIndex := 10, attributes := #[] }])
  fields := #[{ name := "name", type := (.object "java/lang/String"), accessFlags := 18, slot := 0, constantValue := 0 }, { name := "ordinal", type := .int, accessFlags := 18, slot := 1, constantValue := 0 }, { name := "hash", type := .int, accessFlags := 2, slot := 2, constantValue := 0 }]
  methods := #[]
  instanceTypes := #[(.object "java/lang/String"), .int, .int]
  staticTypes := #[]
  resolved := Array.replicate 204 none
  statics := none }

def pool9 : Array CpInfo := pool [(1, .class_ 2), (0, u "org/kusuridana/Encoding$LineEnd"), (2, u "CR_LF"), (0, u "Lorg/kusuridana/Encoding$LineEnd;"), (2, u "LF"), (2, u "NONE"), (2, u "$VALUES"), (0, u "[Lorg/kusuridana/Encoding$LineEnd;"), (6, .class_ 25), (1, u "java/lang/Enum"), (8, u "name"), (0, u "Ljava/lang/String;"), (2, u "alone"), (2, u "bytes"), (0, u "[B"), (34, .class_ 78), (0, u "org/kusuridana/Encoding")] 2

/-- org/kusuridana/Encoding$LineEnd -/
def k9 : Class := { plain "org/kusuridana/Encoding$LineEnd" (some 8) with
  accessFlags := 16432
  interfaces := #[]
  cf := some (fileOf pool9 1 #[.nestHost 77] #[] 16432 23 #[] #[{ accessFlags := 16409, nameIndex := 5, descriptorIndex := 6, attributes := #[] }, { accessFlags := 16409, nameIndex := 9, descriptorIndex := 6, attributes := #[] }, { accessFlags := 16409, nameIndex := 12, descriptorIndex := 6, attributes := #[] }, { accessFlags := 18, nameIndex := 34, descriptorIndex := 35, attributes := #[] }, { accessFlags := 18, nameIndex := 38, descriptorIndex := 35, attributes := #[] }, { accessFlags := 18, nameIndex := 41, descriptorIndex := 42, attributes := #[] }, { accessFlags := 4122, nameIndex := 15, descriptorIndex := 16, attributes := #[] }])
  fields := #[{ name := "CR_LF", type := (.object "org/kusuridana/Encoding$LineEnd"), accessFlags := 16409, slot := 0, constantValue := 0 }, { name := "LF", type := (.object "org/kusuridana/Encoding$LineEnd"), accessFlags := 16409, slot := 1, constantValue := 0 }, { name := "NONE", type := (.object "org/kusuridana/Encoding$LineEnd"), accessFlags := 16409, slot := 2, constantValue := 0 }, { name := "name", type := (.object "java/lang/String"), accessFlags := 18, slot := 3, constantValue := 0 }, { name := "alone", type := (.object "java/lang/String"), accessFlags := 18, slot := 4, constantValue := 0 }, { name := "bytes", type := (.array .byte), accessFlags := 18, slot := 5, constantValue := 0 }, { name := "$VALUES", type := (.array (.object "org/kusuridana/Encoding$LineEnd")), accessFlags := 4122, slot := 3, constantValue := 0 }]
  methods := #[]
  instanceTypes := #[(.object "java/lang/String"), .int, .int, (.object "java/lang/String"), (.object "java/lang/String"), (.array .byte)]
  staticTypes := #[(.object "org/kusuridana/Encoding$LineEnd"), (.object "org/kusuridana/Encoding$LineEnd"), (.object "org/kusuridana/Encoding$LineEnd"), (.array (.object "org/kusuridana/Encoding$LineEnd"))]
  resolved := Array.replicate 81 none
  statics := some 0 }

def pool10 : Array CpInfo := pool [(1, u "java/lang/Cloneable"), (0, .class_ 1), (0, u "java/lang/Object"), (0, .class_ 3)] 3

/-- java/lang/Cloneable -/
def k10 : Class := { plain "java/lang/Cloneable" (some 0) with
  accessFlags := 1537
  interfaces := #[]
  cf := some (fileOf pool10 2 #[] #[] 1537 4 #[] #[])
  fields := #[]
  methods := #[]
  instanceTypes := #[]
  staticTypes := #[]
  resolved := Array.replicate 8 none
  statics := none }

/-- the primitive byte -/
def k11 : Class := { plain "byte" none with kind := .primitive 'B', accessFlags := 0x411 }
/-- [B -/
def k12 : Class := { plain "[B" (some 0) with kind := .array 11 .byte, interfaces := #[10, 7], accessFlags := 1041 }

/-- the primitive int -/
def k13 : Class := { plain "int" none with kind := .primitive 'I', accessFlags := 0x411 }
/-- [I -/
def k14 : Class := { plain "[I" (some 0) with kind := .array 13 .int, interfaces := #[10, 7], accessFlags := 1041 }

def heap : Heap := #[{ cls := 9, slots := #[.ref 3, .ref 2, .ref 1, .null], vm := .statics 9 },
  { cls := 9, slots := #[.null, .int 0, .int 0, .null, .null, .null], vm := .none },
  { cls := 9, slots := #[.null, .int 0, .int 0, .null, .null, .null], vm := .none },
  { cls := 9, slots := #[.null, .int 0, .int 0, .null, .null, .null], vm := .none }]
def classes : Array Class := #[k0, k1, k2, k3, k4, k5, k6, k7, k8, k9, k10, k11, k12, k13, k14]
def interned : List (Array UInt16 × Addr) := []
def slotsUsed : Nat := 22
def theMethod : MethodId := ⟨1, 1⟩
def args0 : Array Value := #[.int 5, .int 7, .int 3, .long 5, .long 9, .int 12]
def aboutOver (below : List Frame) : State where
  vm := { classes := classes, interned := interned.toArray }
  heap := heap
  slotsUsed := slotsUsed
  threads := #[{ frames := .invoking theMethod args0 :: below }]
def below0 : List Frame := [.native { method := ⟨0, 0⟩, args := #[] }]
def about1 : State := aboutOver below0
def p0 : Program := .bare "" "" ""
def e0 : Env := launch0.env 0 0 0
theorem w_frames : about1.frames = Frame.invoking theMethod args0 :: below0 := rfl
set_option maxRecDepth 65536 in
theorem w_args : argsFit about1.vm theMethod args0 = true := by decide +kernel
set_option maxRecDepth 65536 in
theorem w_heap : heapFits about1 = true := by decide +kernel
set_option maxRecDepth 65536 in
theorem w_runnable : about1.curStatus? = some .runnable := by decide +kernel
set_option maxRecDepth 65536 in
theorem w_alone : about1.alone = true := by decide +kernel
set_option maxRecDepth 65536 in
theorem w_named : about1.methodNamed? x = some theMethod := by decide +kernel
set_option maxRecDepth 65536 in
theorem w_hears : about1.hears theMethod below0 = true := by decide +kernel
set_option maxRecDepth 65536 in
theorem w_ripe : about1.ripe theMethod args0 below0 = true := by decide +kernel
theorem w_running : about1.status = .running := rfl
set_option maxRecDepth 65536 in
theorem w_room : about1.hasRoom e0.platform room_1 = true :=
  launch0.hasRoom_least _ room_1 (by decide +kernel) (by decide +kernel) (by decide +kernel) (by decide +kernel) (by decide +kernel) (by decide +kernel)
theorem allAtoms_all (ts : List Jvm.Cond) (a : Array Jvm.Value) (st : Jvm.State) : (allAtoms ts).before a st = ts.all (fun c => c.before a st) := by
  induction ts with
  | nil => rfl
  | cons c t ih =>
    show (Jvm.Cond.and c (allAtoms t)).before a st = _
    rw [Jvm.Cond.before_and, ih, List.all_cons]
def words1 : List Jvm.Cond := Jvm.Cond.code x code maxLocals ret :: tables_1
/-- a 'code' word, met by the world's own term for the bytes: nothing is compared byte by byte -/
theorem code_word {y : MethodName} {bytes : ByteArray} {mx : Nat} {rt : Option FieldType} {a : Array Value} {s : State} {m : MethodId} {meth : Method} {c : Code} (h1 : s.methodNamed? y = some m) (h2 : s.vm.method? m = some meth) (h3 : meth.code = some c) (h4 : c.code = bytes)
    (h5 : (c.maxLocals == mx && c.exceptionTable.isEmpty && decide (c.maxStack ≤ mostOperands) && decide (meth.sig.returnType = rt) && !meth.locks && decide (parseMethodDescriptor y.desc = some meth.sig)) = true) : (Jvm.Cond.code y bytes mx rt).before a s = true := by
  simp only [Bool.and_eq_true, beq_iff_eq, Bool.not_eq_true', decide_eq_true_eq] at h5
  obtain ⟨⟨⟨⟨⟨g1, g2⟩, g3⟩, g4⟩, g5⟩, g6⟩ := h5
  simp [Cond.before, Cond.holds, Cond.value, h1, h2, h3, h4, g1, g2, g3, g4, g5, g6]
def isCode : Jvm.Cond → Bool
  | .code _ _ _ _ => true
  | _ => false
theorem all_split {L : List Jvm.Cond} {P : Jvm.Cond → Bool} (h1 : L.all (fun c => isCode c || P c) = true) (h2 : ∀ c ∈ L.filter isCode, P c = true) : L.all P = true := by
  refine List.all_eq_true.mpr fun c hc => ?_
  have h := List.all_eq_true.mp h1 c hc
  rcases Bool.eq_false_or_eq_true (isCode c) with hi | hi
  · exact h2 c (List.mem_filter.mpr ⟨hc, hi⟩)
  · simpa [hi] using h
set_option maxRecDepth 65536 in
theorem w_c0 : (Jvm.Cond.code x code maxLocals ret).before args0 about1 = true := code_word (m := ⟨1, 1⟩) (meth := k1m1) (c := k1c1) (by decide +kernel) rfl rfl rfl (by decide +kernel)
set_option maxRecDepth 65536 in
theorem w_c1 : (Jvm.Cond.code ({ cls := "org/kusuridana/CsvLine", name := "<init>", desc := "()V" } : Jvm.MethodName) prog_25_method_1_code (1 : Nat) (Option.none : Option Jvm.ClassFile.FieldType)).before args0 about1 = true := code_word (m := ⟨2, 0⟩) (meth := k2m0) (c := k2c0) (by decide +kernel) rfl rfl rfl (by decide +kernel)
set_option maxRecDepth 65536 in
theorem w_c2 : (Jvm.Cond.code ({ cls := "java/lang/Object", name := "<init>", desc := "()V" } : Jvm.MethodName) object_method_1_code (1 : Nat) (Option.none : Option Jvm.ClassFile.FieldType)).before args0 about1 = true := code_word (m := ⟨0, 0⟩) (meth := k0m0) (c := k0c0) (by decide +kernel) rfl rfl rfl (by decide +kernel)
set_option maxRecDepth 65536 in
theorem w_c3 : (Jvm.Cond.code ({ cls := "org/kusuridana/CsvLine$Ascii", name := "<init>", desc := "()V" } : Jvm.MethodName) prog_26_method_1_code (1 : Nat) (Option.none : Option Jvm.ClassFile.FieldType)).before args0 about1 = true := code_word (m := ⟨4, 0⟩) (meth := k4m0) (c := k4c0) (by decide +kernel) rfl rfl rfl (by decide +kernel)
set_option maxRecDepth 65536 in
theorem w_c4 : (Jvm.Cond.code ({ cls := "org/kusuridana/CsvLine", name := "point", desc := "([BLorg/kusuridana/Encoding;I[IIIII)V" } : Jvm.MethodName) prog_25_method_3_code (9 : Nat) (Option.none : Option Jvm.ClassFile.FieldType)).before args0 about1 = true := code_word (m := ⟨2, 1⟩) (meth := k2m1) (c := k2c1) (by decide +kernel) rfl rfl rfl (by decide +kernel)
set_option maxRecDepth 65536 in
theorem w_c5 : (Jvm.Cond.code ({ cls := "org/kusuridana/CsvLine", name := "content", desc := "()[B" } : Jvm.MethodName) prog_25_method_14_code (1 : Nat) (Option.some (Jvm.ClassFile.FieldType.array Jvm.ClassFile.FieldType.byte))).before args0 about1 = true := code_word (m := ⟨2, 8⟩) (meth := k2m8) (c := k2c8) (by decide +kernel) rfl rfl rfl (by decide +kernel)
set_option maxRecDepth 65536 in
theorem w_c6 : (Jvm.Cond.code ({ cls := "org/kusuridana/CsvLine", name := "starts", desc := "()[I" } : Jvm.MethodName) prog_25_method_15_code (1 : Nat) (Option.some (Jvm.ClassFile.FieldType.array Jvm.ClassFile.FieldType.int))).before args0 about1 = true := code_word (m := ⟨2, 9⟩) (meth := k2m9) (c := k2c9) (by decide +kernel) rfl rfl rfl (by decide +kernel)
set_option maxRecDepth 65536 in
theorem w_c7 : (Jvm.Cond.code ({ cls := "org/kusuridana/CsvLine", name := "count", desc := "()I" } : Jvm.MethodName) prog_25_method_10_code (1 : Nat) (Option.some Jvm.ClassFile.FieldType.int)).before args0 about1 = true := code_word (m := ⟨2, 6⟩) (meth := k2m6) (c := k2c6) (by decide +kernel) rfl rfl rfl (by decide +kernel)
set_option maxRecDepth 65536 in
theorem w_c8 : (Jvm.Cond.code ({ cls := "org/kusuridana/CsvLine", name := "number", desc := "()I" } : Jvm.MethodName) prog_25_method_30_code (1 : Nat) (Option.some Jvm.ClassFile.FieldType.int)).before args0 about1 = true := code_word (m := ⟨2, 10⟩) (meth := k2m10) (c := k2c10) (by decide +kernel) rfl rfl rfl (by decide +kernel)
set_option maxRecDepth 65536 in
theorem w_c9 : (Jvm.Cond.code ({ cls := "org/kusuridana/CsvLine", name := "lineNumber", desc := "()I" } : Jvm.MethodName) prog_25_method_5_code (1 : Nat) (Option.some Jvm.ClassFile.FieldType.int)).before args0 about1 = true := code_word (m := ⟨2, 2⟩) (meth := k2m2) (c := k2c2) (by decide +kernel) rfl rfl rfl (by decide +kernel)
set_option maxRecDepth 65536 in
theorem w_c10 : (Jvm.Cond.code ({ cls := "org/kusuridana/CsvLine", name := "length", desc := "()I" } : Jvm.MethodName) prog_25_method_8_code (1 : Nat) (Option.some Jvm.ClassFile.FieldType.int)).before args0 about1 = true := code_word (m := ⟨2, 5⟩) (meth := k2m5) (c := k2c5) (by decide +kernel) rfl rfl rfl (by decide +kernel)
set_option maxRecDepth 65536 in
theorem w_c11 : (Jvm.Cond.code ({ cls := "org/kusuridana/CsvLine", name := "isEmpty", desc := "()Z" } : Jvm.MethodName) prog_25_method_7_code (1 : Nat) (Option.some Jvm.ClassFile.FieldType.boolean)).before args0 about1 = true := code_word (m := ⟨2, 4⟩) (meth := k2m4) (c := k2c4) (by decide +kernel) rfl rfl rfl (by decide +kernel)
set_option maxRecDepth 65536 in
theorem w_c12 : (Jvm.Cond.code ({ cls := "org/kusuridana/CsvLine", name := "lineEnd", desc := "()Lorg/kusuridana/Encoding$LineEnd;" } : Jvm.MethodName) prog_25_method_6_code (1 : Nat) (Option.some (Jvm.ClassFile.FieldType.object "org/kusuridana/Encoding$LineEnd"))).before args0 about1 = true := code_word (m := ⟨2, 3⟩) (meth := k2m3) (c := k2c3) (by decide +kernel) rfl rfl rfl (by decide +kernel)
set_option maxRecDepth 65536 in
theorem w_c13 : (Jvm.Cond.code ({ cls := "org/kusuridana/CsvLine", name := "start", desc := "(I)I" } : Jvm.MethodName) prog_25_method_13_code (2 : Nat) (Option.some Jvm.ClassFile.FieldType.int)).before args0 about1 = true := code_word (m := ⟨2, 7⟩) (meth := k2m7) (c := k2c7) (by decide +kernel) rfl rfl rfl (by decide +kernel)
def codes1 : List Jvm.Cond := [Jvm.Cond.code x code maxLocals ret, Jvm.Cond.code ({ cls := "org/kusuridana/CsvLine", name := "<init>", desc := "()V" } : Jvm.MethodName) prog_25_method_1_code (1 : Nat) (Option.none : Option Jvm.ClassFile.FieldType), Jvm.Cond.code ({ cls := "java/lang/Object", name := "<init>", desc := "()V" } : Jvm.MethodName) object_method_1_code (1 : Nat) (Option.none : Option Jvm.ClassFile.FieldType), Jvm.Cond.code ({ cls := "org/kusuridana/CsvLine$Ascii", name := "<init>", desc := "()V" } : Jvm.MethodName) prog_26_method_1_code (1 : Nat) (Option.none : Option Jvm.ClassFile.FieldType), Jvm.Cond.code ({ cls := "org/kusuridana/CsvLine", name := "point", desc := "([BLorg/kusuridana/Encoding;I[IIIII)V" } : Jvm.MethodName) prog_25_method_3_code (9 : Nat) (Option.none : Option Jvm.ClassFile.FieldType), Jvm.Cond.code ({ cls := "org/kusuridana/CsvLine", name := "content", desc := "()[B" } : Jvm.MethodName) prog_25_method_14_code (1 : Nat) (Option.some (Jvm.ClassFile.FieldType.array Jvm.ClassFile.FieldType.byte)), Jvm.Cond.code ({ cls := "org/kusuridana/CsvLine", name := "starts", desc := "()[I" } : Jvm.MethodName) prog_25_method_15_code (1 : Nat) (Option.some (Jvm.ClassFile.FieldType.array Jvm.ClassFile.FieldType.int)), Jvm.Cond.code ({ cls := "org/kusuridana/CsvLine", name := "count", desc := "()I" } : Jvm.MethodName) prog_25_method_10_code (1 : Nat) (Option.some Jvm.ClassFile.FieldType.int), Jvm.Cond.code ({ cls := "org/kusuridana/CsvLine", name := "number", desc := "()I" } : Jvm.MethodName) prog_25_method_30_code (1 : Nat) (Option.some Jvm.ClassFile.FieldType.int), Jvm.Cond.code ({ cls := "org/kusuridana/CsvLine", name := "lineNumber", desc := "()I" } : Jvm.MethodName) prog_25_method_5_code (1 : Nat) (Option.some Jvm.ClassFile.FieldType.int), Jvm.Cond.code ({ cls := "org/kusuridana/CsvLine", name := "length", desc := "()I" } : Jvm.MethodName) prog_25_method_8_code (1 : Nat) (Option.some Jvm.ClassFile.FieldType.int), Jvm.Cond.code ({ cls := "org/kusuridana/CsvLine", name := "isEmpty", desc := "()Z" } : Jvm.MethodName) prog_25_method_7_code (1 : Nat) (Option.some Jvm.ClassFile.FieldType.boolean), Jvm.Cond.code ({ cls := "org/kusuridana/CsvLine", name := "lineEnd", desc := "()Lorg/kusuridana/Encoding$LineEnd;" } : Jvm.MethodName) prog_25_method_6_code (1 : Nat) (Option.some (Jvm.ClassFile.FieldType.object "org/kusuridana/Encoding$LineEnd")), Jvm.Cond.code ({ cls := "org/kusuridana/CsvLine", name := "start", desc := "(I)I" } : Jvm.MethodName) prog_25_method_13_code (2 : Nat) (Option.some Jvm.ClassFile.FieldType.int)]
set_option maxRecDepth 65536 in
theorem codes_eq : words1.filter isCode = codes1 := rfl
theorem w_codes : ∀ c ∈ words1.filter isCode, c.before args0 about1 = true := by
  rw [codes_eq]
  intro c hc
  simp only [codes1, List.mem_cons, List.not_mem_nil, or_false] at hc
  rcases hc with rfl | rfl | rfl | rfl | rfl | rfl | rfl | rfl | rfl | rfl | rfl | rfl | rfl | rfl
  · exact w_c0
  · exact w_c1
  · exact w_c2
  · exact w_c3
  · exact w_c4
  · exact w_c5
  · exact w_c6
  · exact w_c7
  · exact w_c8
  · exact w_c9
  · exact w_c10
  · exact w_c11
  · exact w_c12
  · exact w_c13
set_option maxRecDepth 65536 in
theorem w_t1 : (words1.take 24).all (fun c => isCode c || c.before args0 about1) = true := by decide +kernel
set_option maxRecDepth 65536 in
theorem w_t2 : ((words1.drop 24).take 24).all (fun c => isCode c || c.before args0 about1) = true := by decide +kernel
set_option maxRecDepth 65536 in
theorem w_t3 : (((words1.drop 24).drop 24).take 24).all (fun c => isCode c || c.before args0 about1) = true := by decide +kernel
set_option maxRecDepth 65536 in
theorem w_t4 : ((((words1.drop 24).drop 24).drop 24).take 24).all (fun c => isCode c || c.before args0 about1) = true := by decide +kernel
set_option maxRecDepth 65536 in
theorem w_t5 : ((((words1.drop 24).drop 24).drop 24).drop 24).all (fun c => isCode c || c.before args0 about1) = true := by decide +kernel
theorem w_tables : (allAtoms (Jvm.Cond.code x code maxLocals ret :: tables_1)).before args0 about1 = true := by
  rw [allAtoms_all]
  show words1.all (fun c => c.before args0 about1) = true
  refine all_split ?_ w_codes
  rw [← List.take_append_drop 24 words1, List.all_append, w_t1, ← List.take_append_drop 24 (words1.drop 24), List.all_append, w_t2, ← List.take_append_drop 24 ((words1.drop 24).drop 24), List.all_append, w_t3, ← List.take_append_drop 24 (((words1.drop 24).drop 24).drop 24), List.all_append, w_t4, w_t5]
  rfl
set_option maxRecDepth 65536 in
theorem w_case : (Jvm.Cond.and given_1 narrow_1).before args0 about1 = true := by decide +kernel
theorem w_applies : (headSpec (Jvm.Cond.code x code maxLocals ret :: tables_1) room_1).applies x e0.platform about1 = true :=
  (Spec.applies_iff w_frames).mpr ⟨w_running, w_runnable, w_alone, w_named, w_hears, w_ripe, w_room, w_tables⟩
theorem atStart : AtStart classFile x code maxLocals ret World_1 tables_1 room_1 Calls_1 rest_1 Pre_1 launch0 p0 e0 about1 theMethod args0 below0 :=
  ⟨lists_1, trivial, launch0.admits_env _ _ _, launch0.least_env, fairChoices_fair.cas, fairChoices_fair.clock, w_frames, w_args, w_heap, w_applies, trivial, trivial, w_case⟩
end start1
theorem witness_1 : WitnessClaimed_1 := ⟨start1.p0, start1.e0, start1.about1, start1.theMethod, start1.args0, start1.below0, start1.atStart⟩
end Jvm.Pilot.@@N@@
