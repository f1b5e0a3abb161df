import JvmDerived
import JvmDerived.Pilot.@@N@@Statement
import JvmDerived.Pilot.@@N@@Code
set_option linter.unusedVariables false
set_option linter.unusedSimpArgs false
@@BLOCK:NumsL.lean.txt@@
namespace Jvm.Pilot.@@N@@
open Jvm Jvm.ClassFile Sem Op Lib Jvm.Free Jvm.Stand Jvm.LawKit Jvm.RoadKit Bundle Jvm.Pilot.@@N@@.Jvm.D
section Own
variable {p : Program} {l : Launch} {e : Env} {R : Room} {s : State} {m : MethodId} {args : Array Value} {below : List Frame} {meth : Method} {c : Code} {T : State} {locs : List Loc} {cells slots : Nat} {Z : State} {a0 : Array Value} {h h' : Heap} {Po : Outcome → State → Prop}
/-- from the frame g on top of T the run comes to an end of which Po holds -/
def own_Go (p : Program) (e : Env) (below : List Frame) (Po : Outcome → State → Prop) (T : State) (g : JFrame) : Prop :=
  ∃ U o, Steps p.tables e below (T.setTop g) U ∧ U.status = .running ∧ Ended U below o ∧ Po o U
theorem own_go {T T' : State} {g g' : JFrame} (st : ∀ t, Steps p.tables e below (T'.setTop g') t → Steps p.tables e below (T.setTop g) t) (k : own_Go p e below Po T' g') : own_Go p e below Po T g := by
  obtain ⟨U, o, h1, h2⟩ := k
  exact ⟨U, o, st U h1, h2⟩
/-- what a body leaves: it returned v, Q holds of v, of the heap at its end and of the places written -/
def own_Po (s : State) (Q : Option Value → Heap → List Loc → Prop) (C S : Nat) (o : Outcome) (U : State) : Prop :=
  ∃ v L, o = .returned v ∧ Q v U.heap L ∧ FrameEnd s o U L C S
theorem own_end (X : Stand p l e R s m args below meth c T locs cells slots) (hlk : meth.locks = false) {g : JFrame} {v : Option Value} (hv : meth.sig.returnType = none → v = none) {Q : Option Value → Heap → List Loc → Prop} {C S : Nat}
    (st : ∀ fs, (∀ (f : JFrame) (acts : List Action), f.method = m → f.locked = none → f.entered = [] → (doReturn e (T.setTop f) acts v).1 = T.setFrames fs) → Steps p.tables e below (T.setTop g) (T.setFrames fs))
    (hq : Q v T.heap locs) (hc : cells ≤ C) (hs : slots ≤ S) : own_Go p e below (own_Po s Q C S) T g := by
  obtain ⟨fs, hr, hrun, hended, hW, hsame⟩ := X.leave (v := v) hv hlk
  exact ⟨_, _, st fs hr, hrun, hended, _, _, rfl, hq, ⟨_, rfl⟩, hW, hsame.mono hc hs⟩
theorem own_retI (X : Stand p l e R s m args below meth c T locs cells slots) (hx : p.tables.exec = Jvm.exec) (hlk : meth.locks = false) (hret : meth.sig.returnType = some .int) (eT : T.heap = h) {pc : Nat} {Ls : Array Slot} {z : Int32} {rest : List Value} (hd : decode c.code pc = .ok (.ireturn, 1)) {Q : Option Value → Heap → List Loc → Prop} {C S : Nat}
    (hq : Q (some (.int z)) h locs) (hc : cells ≤ C) (hs : slots ≤ S) : own_Go p e below (own_Po s Q C S) T (mkF m pc Ls (.int z :: rest)) :=
  own_end X hlk (v := some (.int z)) (fun q => by rw [hret] at q; cases q) (fun _ hr => retOut X hx hret rfl (Or.inl ⟨rfl, Or.inl rfl, _, rfl⟩) hd hr) (by rw [eT]; exact hq) hc hs
theorem own_retZ (X : Stand p l e R s m args below meth c T locs cells slots) (hx : p.tables.exec = Jvm.exec) (hlk : meth.locks = false) (hret : meth.sig.returnType = some .boolean) (eT : T.heap = h) {pc : Nat} {Ls : Array Slot} {z : Int32} {rest : List Value} (hd : decode c.code pc = .ok (.ireturn, 1)) {Q : Option Value → Heap → List Loc → Prop} {C S : Nat}
    (hq : Q (some (.int (z &&& 1))) h locs) (hc : cells ≤ C) (hs : slots ≤ S) : own_Go p e below (own_Po s Q C S) T (mkF m pc Ls (.int z :: rest)) :=
  own_end X hlk (v := some (.int (nar .boolean z))) (fun q => by rw [hret] at q; cases q) (fun _ hr => retN X hx (t := .boolean) hret (Or.inl rfl) hd hr) (by rw [eT]; exact hq) hc hs
theorem own_retJ (X : Stand p l e R s m args below meth c T locs cells slots) (hx : p.tables.exec = Jvm.exec) (hlk : meth.locks = false) (hret : meth.sig.returnType = some .long) (eT : T.heap = h) {pc : Nat} {Ls : Array Slot} {z : Int64} {rest : List Value} (hd : decode c.code pc = .ok (.lreturn, 1)) {Q : Option Value → Heap → List Loc → Prop} {C S : Nat}
    (hq : Q (some (.long z)) h locs) (hc : cells ≤ C) (hs : slots ≤ S) : own_Go p e below (own_Po s Q C S) T (mkF m pc Ls (.long z :: rest)) :=
  own_end X hlk (v := some (.long z)) (fun q => by rw [hret] at q; cases q) (fun _ hr => retOut X hx hret rfl (Or.inr (Or.inl ⟨rfl, rfl, _, rfl⟩)) hd hr) (by rw [eT]; exact hq) hc hs
theorem own_retA (X : Stand p l e R s m args below meth c T locs cells slots) (hx : p.tables.exec = Jvm.exec) (hlk : meth.locks = false) {t : FieldType} (ht : t.isReference = true) (hret : meth.sig.returnType = some t) (eT : T.heap = h) {pc : Nat} {Ls : Array Slot} {z : Value} (hz : z.isRef = true) (hn : narrow t z = z) {rest : List Value} (hd : decode c.code pc = .ok (.areturn, 1)) {Q : Option Value → Heap → List Loc → Prop} {C S : Nat}
    (hq : Q (some z) h locs) (hc : cells ≤ C) (hs : slots ≤ S) : own_Go p e below (own_Po s Q C S) T (mkF m pc Ls (z :: rest)) :=
  own_end X hlk (v := some z) (fun q => by rw [hret] at q; cases q) (fun _ hr => retOut X hx hret hn (Or.inr (Or.inr (Or.inr (Or.inr ⟨rfl, ht, hz⟩)))) hd hr) (by rw [eT]; exact hq) hc hs
theorem own_ret0 (X : Stand p l e R s m args below meth c T locs cells slots) (hx : p.tables.exec = Jvm.exec) (hlk : meth.locks = false) (hret : meth.sig.returnType = none) (eT : T.heap = h) {pc : Nat} {Ls : Array Slot} (hd : decode c.code pc = .ok (.return_, 1)) {Q : Option Value → Heap → List Loc → Prop} {C S : Nat}
    (hq : Q none h locs) (hc : cells ≤ C) (hs : slots ≤ S) : own_Go p e below (own_Po s Q C S) T (mkF m pc Ls []) :=
  own_end X hlk (v := none) (fun _ => rfl) (fun _ hr => X.returnOut hx hret hd hr) (by rw [eT]; exact hq) hc hs
/-- a body's contract -/
def own_Met (l : Launch) (y : MethodName) (bytes : ByteArray) (maxL : Nat) (ret : Option FieldType) (ws : List Jvm.Cond) (rm : Room) (Z : State) (as' : Array Value) (h0 : Heap) (Q : Option Value → Heap → List Loc → Prop) : Prop :=
  MetFree l y (head1 (Jvm.Cond.code y bytes maxL ret :: ws) rm) (fun a U => a = as' ∧ Z.Warmed39 U.vm ∧ U.heap = h0) (fun _ _ _ _ _ => True) (fun _ U o U' => ∃ v L, o = .returned v ∧ Q v U'.heap L ∧ FrameEnd U o U' L rm.cells rm.slots)
theorem own_enter {y : MethodName} {bytes : ByteArray} {maxL : Nat} {ret : Option FieldType} {ws : List Jvm.Cond} {rm : Room} {as' : Array Value} {h0 : Heap} {Q : Option Value → Heap → List Loc → Prop} (hp : plainFor y = true)
    (body : ∀ (p : Program) (e : Env) (s : State) (m : MethodId) (below : List Frame) (meth : Method) (c : Code) (T : State), Stand p l e rm s m as' below meth c T [] 0 0 → p.tables.exec = Jvm.exec → c.code = bytes → c.maxLocals = maxL → Z.Warmed39 s.vm → s.vm.findClass y.cls = some m.cls → T.heap = h0 → meth.sig.returnType = ret → meth.locks = false → meth.name = y.name →
      own_Go p e below (own_Po s Q rm.cells rm.slots) T (entryFrame m as' maxL)) : own_Met l y bytes maxL ret ws rm Z as' h0 Q := by
  refine MetFree.of_bodySF hp hisR ?_
  intro p e s m args below meth c s₁ Bd hml0 hP hK
  obtain ⟨rfl, hZ, hh⟩ := hP
  exact body p e s m below meth c s₁ (Stand.of_body Bd) Bd.exec Bd.bytes hml0 hZ (findClass_of_methodNamed Bd.named) (by rw [← hh, Bd.state]; rfl) Bd.returns Bd.notSynchronized (name_of_methodNamed Bd.named Bd.method).1
theorem own_start {g g' : JFrame} (q : g = g') (k : own_Go p e below Po T g') : own_Go p e below Po T g := q ▸ k
theorem own_callS (X : Stand p l e R s m args below meth c T locs cells slots) (hx : p.tables.exec = Jvm.exec) (hZ : Z.Warmed39 s.vm) {own : String} (hown : s.vm.findClass own = some m.cls) (eT : T.heap = h) {index : Nat} {y : MethodName} {bytes : ByteArray} {maxL : Nat} {ret : Option FieldType} {rm : Room} {Q : Option Value → Heap → List Loc → Prop}
    (w1 : (Jvm.Cond.methodLink own index y).before a0 Z = true) (w2 : (Jvm.Cond.static y).before a0 Z = true) (w3 : (Jvm.Cond.initialized y.cls).before a0 Z = true) (w4 : (Jvm.Cond.code y bytes maxL ret).before a0 Z = true) (hy : y.cls ≠ "java/lang/invoke/MethodHandle" ∧ y.cls ≠ "java/lang/invoke/VarHandle")
    {pc : Nat} {Ls : Array Slot} {argsL rest st : List Value} (M : own_Met l y bytes maxL ret [] rm Z argsL.toArray h Q) (hml : Ls.size = c.maxLocals) {ps : List FieldType} {r : Option FieldType} (hps : parseMethodDescriptor y.desc = some ⟨ps, r⟩) (hl : argsL.length = ps.length) (hst : st = argsL.reverse ++ rest)
    (hd : decode c.code pc = .ok (.invokestatic index, 3)) {W : Nat} (hW : (rest.map fun v => v.category).sum ≤ W) (hf : rm.frames + 1 ≤ R.frames) (hlo : W + (maxL + 11) + rm.locals ≤ R.locals) (hc : cells + rm.cells ≤ R.cells) (hs : slots + rm.slots ≤ R.slots)
    (k : ∀ v T' L, Stand p l e R s m args below meth c T' (locs ++ L) (cells + rm.cells) (slots + rm.slots) → Q v T'.heap L → own_Go p e below Po T' (mkF m (pc + 3) Ls (v.toList ++ rest))) : own_Go p e below Po T (mkF m pc Ls st) := by
  subst hst
  obtain ⟨v, vm₁, ⟨T', L', k', n'⟩, -, X', ⟨L, hQ, l1, y1, z1⟩, st⟩ := Jvm.LawKit.callS X hx hown (mvT hZ w1) (mvT hZ w2) (mvT hZ w3) (mvT hZ w4) hy (backOf (W := W) M hZ w4 w3 hf hlo) (g := mkF m pc Ls (argsL.reverse ++ rest)) rfl hml (argsL := argsL) (rest := rest) (lenOf hps hl) rfl (by show 2 * 0 + _ ≤ _; simpa using hW) hd (fun _ _ => ⟨rfl, eT, hc, hs⟩)
  dsimp only [Pt.U, Pt.locs, Pt.cells, Pt.slots] at X' l1 y1 z1 st hQ
  subst l1 y1 z1
  exact own_go st (k v T' L X' hQ)
theorem own_callC (X : Stand p l e R s m args below meth c T locs cells slots) (hx : p.tables.exec = Jvm.exec) (hZ : Z.Warmed39 s.vm) {own : String} (hown : s.vm.findClass own = some m.cls) (eT : T.heap = h) {index : Nat} {y : MethodName} {bytes : ByteArray} {maxL : Nat} {rm : Room} {Q : Option Value → Heap → List Loc → Prop} (hy1 : y.name = "<init>")
    (w1 : (Jvm.Cond.methodLink own index y).before a0 Z = true) (w2 : (Jvm.Cond.instanceMethod y).before a0 Z = true) (w3 : (Jvm.Cond.initialized y.cls).before a0 Z = true) (w4 : (Jvm.Cond.code y bytes maxL none).before a0 Z = true) (hy : y.cls ≠ "java/lang/invoke/MethodHandle" ∧ y.cls ≠ "java/lang/invoke/VarHandle")
    {pc : Nat} {Ls : Array Slot} {a : Addr} {argsL rest st : List Value} (M : own_Met l y bytes maxL none [] rm Z (.ref a :: argsL).toArray h Q) (hml : Ls.size = c.maxLocals) {ps : List FieldType} {r : Option FieldType} (hps : parseMethodDescriptor y.desc = some ⟨ps, r⟩) (hl : argsL.length = ps.length) (hst : st = argsL.reverse ++ .ref a :: rest)
    (hd : decode c.code pc = .ok (.invokespecial index, 3)) {W : Nat} (hW : (rest.map fun v => v.category).sum ≤ W) (hf : rm.frames + 1 ≤ R.frames) (hlo : W + (maxL + 11) + rm.locals ≤ R.locals) (hc : cells + rm.cells ≤ R.cells) (hs : slots + rm.slots ≤ R.slots)
    (k : ∀ v T' L, Stand p l e R s m args below meth c T' (locs ++ L) (cells + rm.cells) (slots + rm.slots) → Q v T'.heap L → own_Go p e below Po T' (mkF m (pc + 3) Ls (v.toList ++ rest))) : own_Go p e below Po T (mkF m pc Ls st) := by
  subst hst
  obtain ⟨v, vm₁, ⟨T', L', k', n'⟩, -, X', ⟨L, hQ, l1, y1, z1⟩, st⟩ := X.specialBack hx (y := y) hy1 hown (mvT hZ w1) (mvT hZ w2) (mvT hZ w4) hy (backOf (W := W) M hZ w4 w3 hf hlo) (g := mkF m pc Ls (argsL.reverse ++ .ref a :: rest)) rfl hml (Steps.refl _) (a := a) (argsL := argsL) (rest := rest) (lenOf hps hl) rfl (by show 2 * 0 + _ ≤ _; simpa using hW) hd (fun _ _ => ⟨rfl, eT, hc, hs⟩)
  dsimp only [Pt.U, Pt.locs, Pt.cells, Pt.slots] at X' l1 y1 z1 st hQ
  subst l1 y1 z1
  exact own_go (fun _ kk => st.trans kk) (k v T' L X' hQ)
theorem own_callV (X : Stand p l e R s m args below meth c T locs cells slots) (hx : p.tables.exec = Jvm.exec) (hZ : Z.Warmed39 s.vm) {own C : String} (hown : s.vm.findClass own = some m.cls) (eT : T.heap = h) {index : Nat} {y : MethodName} {bytes : ByteArray} {maxL : Nat} {ret : Option FieldType} {rm : Room} {Q : Option Value → Heap → List Loc → Prop}
    (w1 : (Jvm.Cond.methodLink own index y).before a0 Z = true) (w2 : (Jvm.Cond.declares y).before a0 Z = true) (w5 : (Jvm.Cond.selects C y y).before a0 Z = true) (w6 : (Jvm.Cond.instanceMethod y).before a0 Z = true) (w3 : (Jvm.Cond.initialized y.cls).before a0 Z = true) (w4 : (Jvm.Cond.code y bytes maxL ret).before a0 Z = true) (hy : y.cls ≠ "java/lang/invoke/MethodHandle" ∧ y.cls ≠ "java/lang/invoke/VarHandle")
    {pc : Nat} {Ls : Array Slot} {a : Addr} (E : Exa Z h a C) {argsL rest st : List Value} (M : own_Met l y bytes maxL ret [] rm Z (.ref a :: argsL).toArray h Q) (hml : Ls.size = c.maxLocals) {ps : List FieldType} {r : Option FieldType} (hps : parseMethodDescriptor y.desc = some ⟨ps, r⟩) (hl : argsL.length = ps.length) (hst : st = argsL.reverse ++ .ref a :: rest)
    (hd : decode c.code pc = .ok (.invokevirtual index, 3)) {W : Nat} (hW : (rest.map fun v => v.category).sum ≤ W) (hf : rm.frames + 1 ≤ R.frames) (hlo : W + (maxL + 11) + rm.locals ≤ R.locals) (hc : cells + rm.cells ≤ R.cells) (hs : slots + rm.slots ≤ R.slots)
    (k : ∀ v T' L, Stand p l e R s m args below meth c T' (locs ++ L) (cells + rm.cells) (slots + rm.slots) → Q v T'.heap L → own_Go p e below Po T' (mkF m (pc + 3) Ls (v.toList ++ rest))) : own_Go p e below Po T (mkF m pc Ls st) := by
  subst hst
  obtain ⟨cq, kq, qa, qb, qc⟩ := isOf hZ eT E
  obtain ⟨v, vm₁, ⟨T', L', k', n'⟩, -, X', ⟨L, hQ, l1, y1, z1⟩, st⟩ := X.virtualBack hx (y := y) (z := y) hown (mvT hZ w1) (mvT hZ w2) (notFace_of_selects (args := #[]) (mvT hZ w5)) (mvT hZ w5) (mvT hZ w6) hy (backOf (W := W) M hZ w4 w3 hf hlo) qa qc (g := mkF m pc Ls (argsL.reverse ++ .ref a :: rest)) rfl hml (Steps.refl _) (argsL := argsL) (rest := rest) (lenOf hps hl) rfl (by show 2 * 0 + _ ≤ _; simpa using hW) hd (fun _ _ => ⟨rfl, eT, hc, hs⟩)
  dsimp only [Pt.U, Pt.locs, Pt.cells, Pt.slots] at X' l1 y1 z1 st hQ
  subst l1 y1 z1
  exact own_go (fun _ kk => st.trans kk) (k v T' L X' hQ)
/-- an array of n places, place j holds f j -/
def own_Ar (Z : State) (h : Heap) (a : Addr) (ty : FieldType) (n : Nat) (f : Nat → Value) : Prop := ∃ cl : Cell, Arr Z h a cl ty ∧ cl.slots.size = n ∧ ∀ j, j < n → cl.slots[j]? = some (f j)
def own_up (f : Nat → Value) (k : Nat) (v : Value) : Nat → Value := fun i => if i = k then v else f i
theorem own_up_eq (f : Nat → Value) (k : Nat) (v : Value) : own_up f k v k = v := if_pos rfl
theorem own_up_ne (f : Nat → Value) {k j : Nat} (v : Value) (q : j ≠ k) : own_up f k v j = f j := if_neg q
variable {a b : Addr} {ty : FieldType} {n sl : Nat} {f : Nat → Value} {v : Value} {wl : List Addr}
theorem own_Ar_lt (F : own_Ar Z h a ty n f) : a < h.size := by
  obtain ⟨_, A, _⟩ := F
  exact A.lt
theorem own_Ar_ext (F : own_Ar Z h a ty n f) (E : Ext h h') : own_Ar Z h' a ty n f := by
  obtain ⟨cl, A, r⟩ := F
  exact ⟨cl, A.ext E, r⟩
theorem own_Ar_other (F : own_Ar Z h b ty n f) (W : Wr h h' a sl v) (q : b ≠ a) : own_Ar Z h' b ty n f := by
  obtain ⟨cl, A, r⟩ := F
  exact ⟨cl, A.other W q, r⟩
theorem own_Ar_keep (F : own_Ar Z h a ty n f) (K : Keep h h' wl) (q : a ∉ wl) : own_Ar Z h' a ty n f := by
  obtain ⟨cl, A, r⟩ := F
  exact ⟨cl, ⟨K.2.1 _ _ A.1 q, A.2⟩, r⟩
theorem own_Ar_new {cA : ClassId} {z : Int32} (A : Arr Z h a (newA cA ty z) ty) (q : z.toNatClampNeg = n) : own_Ar Z h a ty n (fun _ => defaultValue ty) := by
  refine ⟨_, A, (sz_new cA ty z).trans q, fun j hj => ?_⟩
  simp [newA, q, hj]
theorem own_Ar_set (F : own_Ar Z h a ty n f) (W : Wr h h' a sl v) : own_Ar Z h' a ty n (own_up f sl v) := by
  obtain ⟨cl, A, r, g⟩ := F
  refine ⟨_, A.same W, (sz_set cl sl v).trans r, fun j hj => ?_⟩
  show (cl.slots.setIfInBounds sl v)[j]? = some (if j = sl then v else f j)
  rw [Array.getElem?_setIfInBounds]
  by_cases q : sl = j
  · subst q
    simp [r, hj]
  · rw [if_neg q, if_neg (Ne.symm q)]
    exact g j hj
theorem own_Ar_eq {g : Nat → Value} (F : own_Ar Z h a ty n f) (q : ∀ i, i < n → f i = g i) : own_Ar Z h a ty n g := by
  obtain ⟨cl, A, r, w⟩ := F
  exact ⟨cl, A, r, fun j hj => (w j hj).trans (congrArg some (q j hj))⟩
theorem own_idx {j : Int32} {k n : Nat} (hj : j.toInt = (k : Int)) (hk : k < n) : j.toNatClampNeg = k ∧ ¬ (j < 0 ∨ n ≤ j.toNatClampNeg) := by
  have h1 : j.toNatClampNeg = k := by
    show j.toInt.toNat = k
    rw [hj]; rfl
  refine ⟨h1, ?_⟩
  have h0 : (0 : Int32).toInt = 0 := rfl
  rw [h1, Int32.lt_iff_toInt_lt, hj, h0]
  omega
theorem own_iaload (X : Stand p l e R s m args below meth c T locs cells slots) (hx : p.tables.exec = Jvm.exec) (hZ : Z.Warmed39 s.vm) (eT : T.heap = h) (A : own_Ar Z h a .int n f) {j : Int32} (k : Nat) (hj : j.toInt = (k : Int)) (hk : k < n) {pc : Nat} {Ls : Array Slot} {st : List Value} (hd : decode c.code pc = .ok (.iaload, 1))
    (go : own_Go p e below Po T (mkF m (pc + 1) Ls (f k :: st))) : own_Go p e below Po T (mkF m pc Ls (.int j :: .ref a :: st)) := by
  obtain ⟨cl, A, r, w⟩ := A
  obtain ⟨q1, q2⟩ := own_idx hj hk
  exact own_go (fun _ kk => X.iaload hx (j := j) (v := f k) (by rw [eT]; exact A.1) (State.isArrayOf_alike hZ.alike A.2.1) A.2.2 (by rw [r]; exact q2) (by rw [q1]; exact w k hk) (g := mkF m pc Ls (.int j :: .ref a :: st)) rfl rfl hd _ kk) go
theorem own_laload (X : Stand p l e R s m args below meth c T locs cells slots) (hx : p.tables.exec = Jvm.exec) (hZ : Z.Warmed39 s.vm) (eT : T.heap = h) (A : own_Ar Z h a .long n f) {j : Int32} (k : Nat) (hj : j.toInt = (k : Int)) (hk : k < n) {pc : Nat} {Ls : Array Slot} {st : List Value} (hd : decode c.code pc = .ok (.laload, 1))
    (go : own_Go p e below Po T (mkF m (pc + 1) Ls (f k :: st))) : own_Go p e below Po T (mkF m pc Ls (.int j :: .ref a :: st)) := by
  obtain ⟨cl, A, r, w⟩ := A
  obtain ⟨q1, q2⟩ := own_idx hj hk
  exact own_go (fun _ kk => X.laload hx (j := j) (v := f k) (by rw [eT]; exact A.1) (State.isArrayOf_alike hZ.alike A.2.1) A.2.2 (by rw [r]; exact q2) (by rw [q1]; exact w k hk) (g := mkF m pc Ls (.int j :: .ref a :: st)) rfl rfl hd _ kk) go
theorem own_baload (X : Stand p l e R s m args below meth c T locs cells slots) (hx : p.tables.exec = Jvm.exec) (hZ : Z.Warmed39 s.vm) (eT : T.heap = h) (A : own_Ar Z h a .byte n f) {j : Int32} (k : Nat) (hj : j.toInt = (k : Int)) (hk : k < n) {pc : Nat} {Ls : Array Slot} {st : List Value} (hd : decode c.code pc = .ok (.baload, 1))
    (go : own_Go p e below Po T (mkF m (pc + 1) Ls (f k :: st))) : own_Go p e below Po T (mkF m pc Ls (.int j :: .ref a :: st)) := by
  obtain ⟨cl, A, r, w⟩ := A
  obtain ⟨q1, q2⟩ := own_idx hj hk
  exact own_go (fun _ kk => X.baloadBytes hx (j := j) (v := f k) (by rw [eT]; exact A.1) (State.isArrayOf_alike hZ.alike A.2.1) A.2.2 (by rw [r]; exact q2) (by rw [q1]; exact w k hk) (g := mkF m pc Ls (.int j :: .ref a :: st)) rfl rfl hd _ kk) go
theorem own_aaload (X : Stand p l e R s m args below meth c T locs cells slots) (hx : p.tables.exec = Jvm.exec) (hZ : Z.Warmed39 s.vm) (eT : T.heap = h) (A : own_Ar Z h a ty n f) (hty : ty.isReference = true) {j : Int32} (k : Nat) (hj : j.toInt = (k : Int)) (hk : k < n) {pc : Nat} {Ls : Array Slot} {st : List Value} (hd : decode c.code pc = .ok (.aaload, 1))
    (go : own_Go p e below Po T (mkF m (pc + 1) Ls (f k :: st))) : own_Go p e below Po T (mkF m pc Ls (.int j :: .ref a :: st)) := by
  obtain ⟨cl, A, r, w⟩ := A
  obtain ⟨q1, q2⟩ := own_idx hj hk
  exact own_go (fun _ kk => X.aaload hx (j := j) (v := f k) (by rw [eT]; exact A.1) (State.isArrayOf_alike hZ.alike A.2.1) hty A.2.2 (by rw [r]; exact q2) (by rw [q1]; exact w k hk) (g := mkF m pc Ls (.int j :: .ref a :: st)) rfl rfl hd _ kk) go
theorem own_len (X : Stand p l e R s m args below meth c T locs cells slots) (hx : p.tables.exec = Jvm.exec) (hZ : Z.Warmed39 s.vm) (eT : T.heap = h) (A : own_Ar Z h a ty n f) {pc : Nat} {Ls : Array Slot} {st : List Value} (hd : decode c.code pc = .ok (.arraylength, 1)) (z : Int32) (hz : n.toInt32 = z)
    (go : own_Go p e below Po T (mkF m (pc + 1) Ls (.int z :: st))) : own_Go p e below Po T (mkF m pc Ls (.ref a :: st)) := by
  obtain ⟨cl, A, r, w⟩ := A
  refine own_go (fun _ kk => X.arraylength hx (by rw [eT]; exact A.1) (State.isArrayOf_alike hZ.alike A.2.1) (g := mkF m pc Ls (.ref a :: st)) rfl rfl hd _ kk) ?_
  rw [r, hz]
  exact go
theorem own_iastore (X : Stand p l e R s m args below meth c T locs cells slots) (hx : p.tables.exec = Jvm.exec) (hZ : Z.Warmed39 s.vm) (eT : T.heap = h) (A : own_Ar Z h a .int n f) {j x : Int32} (k : Nat) (hj : j.toInt = (k : Int)) (hk : k < n) {pc : Nat} {Ls : Array Slot} {st : List Value} (hd : decode c.code pc = .ok (.iastore, 1))
    (go : ∀ T' h', Stand p l e R s m args below meth c T' (locs ++ [⟨a, k⟩]) cells slots → T'.heap = h' → Wr h h' a k (.int x) → own_Go p e below Po T' (mkF m (pc + 1) Ls st)) : own_Go p e below Po T (mkF m pc Ls (.int x :: .int j :: .ref a :: st)) := by
  obtain ⟨cl, A, r, w⟩ := A
  obtain ⟨q1, q2⟩ := own_idx hj hk
  obtain ⟨T', h', X', e', W, st'⟩ := stI X hx hZ eT A (j := j) (x := x) (by rw [r]; exact q2) (g := mkF m pc Ls (.int x :: .int j :: .ref a :: st)) rfl rfl hd
  rw [q1] at X' W
  exact own_go st' (go T' h' X' e' W)
theorem own_lastore (X : Stand p l e R s m args below meth c T locs cells slots) (hx : p.tables.exec = Jvm.exec) (hZ : Z.Warmed39 s.vm) (eT : T.heap = h) (A : own_Ar Z h a .long n f) {j : Int32} {x : Int64} (k : Nat) (hj : j.toInt = (k : Int)) (hk : k < n) {pc : Nat} {Ls : Array Slot} {st : List Value} (hd : decode c.code pc = .ok (.lastore, 1))
    (go : ∀ T' h', Stand p l e R s m args below meth c T' (locs ++ [⟨a, k⟩]) cells slots → T'.heap = h' → Wr h h' a k (.long x) → own_Go p e below Po T' (mkF m (pc + 1) Ls st)) : own_Go p e below Po T (mkF m pc Ls (.long x :: .int j :: .ref a :: st)) := by
  obtain ⟨cl, A, r, w⟩ := A
  obtain ⟨q1, q2⟩ := own_idx hj hk
  obtain ⟨T', h', X', e', W, st'⟩ := stJ X hx hZ eT A (j := j) (x := x) (by rw [r]; exact q2) (g := mkF m pc Ls (.long x :: .int j :: .ref a :: st)) rfl rfl hd
  rw [q1] at X' W
  exact own_go st' (go T' h' X' e' W)
theorem own_bastore (X : Stand p l e R s m args below meth c T locs cells slots) (hx : p.tables.exec = Jvm.exec) (hZ : Z.Warmed39 s.vm) (eT : T.heap = h) (A : own_Ar Z h a .byte n f) {j x : Int32} (k : Nat) (hj : j.toInt = (k : Int)) (hk : k < n) {pc : Nat} {Ls : Array Slot} {st : List Value} (hd : decode c.code pc = .ok (.bastore, 1))
    (go : ∀ T' h', Stand p l e R s m args below meth c T' (locs ++ [⟨a, k⟩]) cells slots → T'.heap = h' → Wr h h' a k (.int x.toInt8.toInt32) → own_Go p e below Po T' (mkF m (pc + 1) Ls st)) : own_Go p e below Po T (mkF m pc Ls (.int x :: .int j :: .ref a :: st)) := by
  obtain ⟨cl, A, r, w⟩ := A
  obtain ⟨q1, q2⟩ := own_idx hj hk
  obtain ⟨T', h', X', e', W, st'⟩ := stB X hx hZ eT A (j := j) (x := x) (by rw [r]; exact q2) (g := mkF m pc Ls (.int x :: .int j :: .ref a :: st)) rfl rfl hd
  rw [q1] at X' W
  exact own_go st' (go T' h' X' e' W)
theorem own_newP (X : Stand p l e R s m args below meth c T locs cells slots) (hx : p.tables.exec = Jvm.exec) (hZ : Z.Warmed39 s.vm) (eT : T.heap = h) {aty : ArrayType} (w : (Jvm.Cond.arrayClass (newarray.typeOf aty)).before a0 Z = true) {z : Int32} (n : Nat) (hz : z.toNatClampNeg = n) (hz0 : ¬ z < 0) (hb8 : n * 8 ≤ 536870912) (hc : cells + 1 ≤ R.cells) (hs : slots + n ≤ R.slots) {pc : Nat} {Ls : Array Slot} {st : List Value} (hd : decode c.code pc = .ok (.newarray aty, 2))
    (go : ∀ T' h' b, b = h.size → Stand p l e R s m args below meth c T' locs (cells + 1) (slots + n) → T'.heap = h' → Ext h h' → own_Ar Z h' b (newarray.typeOf aty) n (fun _ => defaultValue (newarray.typeOf aty)) → own_Go p e below Po T' (mkF m (pc + 2) Ls (.ref b :: st))) : own_Go p e below Po T (mkF m pc Ls (.int z :: st)) := by
  obtain ⟨T', h', cA, X', e', E, A, st'⟩ := newP X hx hZ w eT (g := mkF m pc Ls (.int z :: st)) rfl hd rfl hz0 (cap := n) (Nat.le_of_eq hz) hb8 hc hs
  exact own_go st' (go T' h' _ rfl X' e' E (own_Ar_new A hz))
end Own
section OwnI
variable {Z : State} {h h' : Heap} {a b : Addr} {ty : FieldType} {n sl : Nat} {f : Nat → Int32} {v : Value} {wl : List Addr} {x : Int32}
/-- an array of ints (bytes): place j holds f j -/
def own_Ai (Z : State) (h : Heap) (a : Addr) (ty : FieldType) (n : Nat) (f : Nat → Int32) : Prop := own_Ar Z h a ty n (fun i => .int (f i))
def own_upi (f : Nat → Int32) (k : Nat) (x : Int32) : Nat → Int32 := fun i => if i = k then x else f i
theorem own_Ai_set (F : own_Ai Z h a ty n f) (W : Wr h h' a sl (.int x)) : own_Ai Z h' a ty n (own_upi f sl x) :=
  own_Ar_eq (own_Ar_set F W) (fun i _ => by unfold own_up own_upi; split <;> rfl)
theorem own_Ai_eq {g : Nat → Int32} (F : own_Ai Z h a ty n f) (q : ∀ i, i < n → f i = g i) : own_Ai Z h a ty n g := own_Ar_eq F fun i hi => by rw [q i hi]
end OwnI
section OwnO
variable {p : Program} {l : Launch} {e : Env} {R : Room} {s : State} {m : MethodId} {args : Array Value} {below : List Frame} {meth : Method} {c : Code} {T : State} {locs : List Loc} {cells slots : Nat} {Z : State} {a0 : Array Value} {h h' : Heap} {Po : Outcome → State → Prop} {a b : Addr} {n sl : Nat} {v : Value} {wl : List Addr} {C : String} {fs : List (String × String × String)} {g : Nat → Value}
/-- the fields of a class, as the sheet lays them -/
def own_Lds (Z : State) (a0 : Array Value) (C : String) : List (String × String × String) → Prop
  | [] => True
  | x :: r => Laid Z a0 C x.1 x.2.1 x.2.2 ∧ own_Lds Z a0 C r
def own_okFs (fs : List (String × String × String)) : Bool := fs.all (fun x => (parseFieldDescriptor x.2.2).isSome) && decide ((fs.map fun x => x.2.1).Nodup)
/-- an object of the class C whose i-th field (of the list fs) holds g i -/
def own_Ob (Z : State) (h : Heap) (a : Addr) (C : String) (fs : List (String × String × String)) (g : Nat → Value) : Prop := Exa Z h a C ∧ ∀ i x, fs[i]? = some x → Fld Z h a x.1 x.2.1 x.2.2 (g i)
theorem own_Lds_at : ∀ {fs : List (String × String × String)} {i : Nat} {x : String × String × String}, own_Lds Z a0 C fs → fs[i]? = some x → Laid Z a0 C x.1 x.2.1 x.2.2
  | [], _, _, _, q => by simp at q
  | y :: r, 0, x, H, q => by
    obtain rfl : y = x := by simpa using q
    exact H.1
  | y :: r, i + 1, x, H, q => own_Lds_at (fs := r) (i := i) H.2 (by simpa using q)
theorem own_ok_desc (ok : own_okFs fs = true) {i : Nat} {x : String × String × String} (q : fs[i]? = some x) : ∃ t, parseFieldDescriptor x.2.2 = some t := by
  have h := (Bool.and_eq_true _ _ ▸ ok : _ ∧ _).1
  exact Option.isSome_iff_exists.mp (List.all_eq_true.mp h x (List.mem_of_getElem? q))
theorem own_ok_ne (ok : own_okFs fs = true) {i j : Nat} {x y : String × String × String} (qx : fs[i]? = some x) (qy : fs[j]? = some y) (hij : i ≠ j) : x.2.1 ≠ y.2.1 := by
  have h := of_decide_eq_true (Bool.and_eq_true _ _ ▸ ok : _ ∧ _).2
  intro e
  have h1 : (fs.map fun x => x.2.1)[i]? = some x.2.1 := by simp [qx]
  have h2 : (fs.map fun x => x.2.1)[j]? = some x.2.1 := by simp [qy, e]
  obtain ⟨l1, e1⟩ := List.getElem?_eq_some_iff.mp h1
  obtain ⟨l2, e2⟩ := List.getElem?_eq_some_iff.mp h2
  exact hij ((List.getElem_inj h).mp (e1.trans e2.symm))
theorem own_Ob_lt (B : own_Ob Z h a C fs g) : a < h.size := B.1.lt
theorem own_Ob_fld (B : own_Ob Z h a C fs g) (i : Nat) {O nm d : String} (q : fs[i]? = some (O, nm, d)) : Fld Z h a O nm d (g i) := B.2 i _ q
theorem own_Ob_ext (B : own_Ob Z h a C fs g) (E : Ext h h') : own_Ob Z h' a C fs g := ⟨B.1.ext E, fun i x q => (B.2 i x q).ext E⟩
theorem own_Ob_other (B : own_Ob Z h b C fs g) (W : Wr h h' a sl v) (q : b ≠ a) : own_Ob Z h' b C fs g := ⟨B.1.wr W, fun i x r => (B.2 i x r).other W (Or.inl q)⟩
theorem own_Ob_keep (B : own_Ob Z h a C fs g) (K : Keep h h' wl) (q : a ∉ wl) : own_Ob Z h' a C fs g := ⟨B.1.keep K, fun i x r => (B.2 i x r).keep K q⟩
theorem own_Ob_put (B : own_Ob Z h a C fs g) (ok : own_okFs fs = true) (Ld : own_Lds Z a0 C fs) (i : Nat) {O nm d : String} (q : fs[i]? = some (O, nm, d)) (W : Wr h h' a (Jvm.RoadKit.slotOf Z O nm d) v) : own_Ob Z h' a C fs (own_up g i v) := by
  refine ⟨B.1.wr W, fun j x r => ?_⟩
  obtain ⟨xO, xn, xd⟩ := x
  have Fj : Fld Z h a xO xn xd (g j) := B.2 j _ r
  by_cases hj : j = i
  · subst hj
    have q2 := Option.some.inj (r.symm.trans q)
    have e1 : xO = O := congrArg (fun z => z.1) q2
    have e2 : xn = nm := congrArg (fun z => z.2.1) q2
    have e3 : xd = d := congrArg (fun z => z.2.2) q2
    subst e1 e2 e3
    rw [own_up_eq]
    exact Fj.same W
  · rw [own_up_ne _ _ hj]
    obtain ⟨t, ht⟩ := own_ok_desc ok r
    obtain ⟨t', ht'⟩ := own_ok_desc ok q
    have L1 : Laid Z a0 C xO xn xd := own_Lds_at (x := (xO, xn, xd)) Ld r
    have L2 : Laid Z a0 C O nm d := own_Lds_at (x := (O, nm, d)) Ld q
    have hne : xn ≠ nm := own_ok_ne (x := (xO, xn, xd)) (y := (O, nm, d)) ok r q hj
    have hsl : Jvm.RoadKit.slotOf Z xO xn xd ≠ Jvm.RoadKit.slotOf Z O nm d := slot_ne L1 L2 hne ht ht'
    exact Fj.other W (Or.inr hsl)
theorem own_Ob_eq {g' : Nat → Value} (B : own_Ob Z h a C fs g) (q : ∀ i, i < fs.length → g i = g' i) : own_Ob Z h a C fs g' :=
  ⟨B.1, fun i x r => q i (List.getElem?_eq_some_iff.mp r).1 ▸ B.2 i x r⟩
theorem own_getF (X : Stand p l e R s m args below meth c T locs cells slots) (hx : p.tables.exec = Jvm.exec) (hZ : Z.Warmed39 s.vm) {own R0 O nm d host : String} {index : Nat} (hown : s.vm.findClass own = some m.cls) (eT : T.heap = h) (w : (Jvm.Cond.fieldLink own index R0 nm d).before a0 Z = true ∨ (Jvm.Cond.fieldLinkNest own index R0 nm d host).before a0 Z = true) (via : Via Z R0 O nm d)
    (F : Fld Z h a O nm d v) {pc : Nat} {Ls : Array Slot} {st : List Value} (hd : decode c.code pc = .ok (.getfield index, 3))
    (go : ∀ T', Stand p l e R s m args below meth c T' locs cells slots → T'.heap = h → own_Go p e below Po T' (mkF m (pc + 3) Ls (v :: st))) : own_Go p e below Po T (mkF m pc Ls (.ref a :: st)) := by
  obtain ⟨T', X', e', st'⟩ := getF X hx hZ hown w via eT F (g := mkF m pc Ls (.ref a :: st)) rfl rfl hd
  exact own_go st' (go T' X' e')
theorem own_getS (X : Stand p l e R s m args below meth c T locs cells slots) (hx : p.tables.exec = Jvm.exec) (hZ : Z.Warmed39 s.vm) {own R0 O nm d host : String} {index : Nat} (hown : s.vm.findClass own = some m.cls) (eT : T.heap = h) (w : (Jvm.Cond.fieldLink own index R0 nm d).before a0 Z = true ∨ (Jvm.Cond.fieldLinkNest own index R0 nm d host).before a0 Z = true) (via : Via Z R0 O nm d)
    (F : Sta Z h O nm d v) {pc : Nat} {Ls : Array Slot} {st : List Value} (hd : decode c.code pc = .ok (.getstatic index, 3))
    (go : ∀ T', Stand p l e R s m args below meth c T' locs cells slots → T'.heap = h → own_Go p e below Po T' (mkF m (pc + 3) Ls (v :: st))) : own_Go p e below Po T (mkF m pc Ls st) := by
  obtain ⟨T', X', e', st'⟩ := getS2 X hx hZ hown w via eT F (g := mkF m pc Ls st) rfl hd
  exact own_go st' (go T' X' e')
theorem own_putF (X : Stand p l e R s m args below meth c T locs cells slots) (hx : p.tables.exec = Jvm.exec) (hZ : Z.Warmed39 s.vm) {own R0 O nm d host : String} {index kk : Nat} {ty : FieldType} (hown : s.vm.findClass own = some m.cls) (eT : T.heap = h) (w : (Jvm.Cond.fieldLink own index R0 nm d).before a0 Z = true ∨ (Jvm.Cond.fieldLinkNest own index R0 nm d host).before a0 Z = true) (via : Via Z R0 O nm d)
    {old : Value} (F : Fld Z h a O nm d old) (E : Exa Z h a C) (L : (Jvm.Cond.lays C O nm d).before a0 Z = true ∨ ((Jvm.Cond.laysFinal C O nm d).before a0 Z = true ∧ own = O ∧ meth.name = "<init>")) (wi : (Jvm.Cond.instantiable C kk).before a0 Z = true) (hty : parseFieldDescriptor d = some ty) (hn : narrow ty v = v) (hf : fits ty v = true)
    {pc : Nat} {Ls : Array Slot} {st : List Value} (hd : decode c.code pc = .ok (.putfield index, 3))
    (go : ∀ T' h', Stand p l e R s m args below meth c T' (locs ++ [⟨a, Jvm.RoadKit.slotOf Z O nm d⟩]) cells slots → T'.heap = h' → Wr h h' a (Jvm.RoadKit.slotOf Z O nm d) v → own_Go p e below Po T' (mkF m (pc + 3) Ls st)) : own_Go p e below Po T (mkF m pc Ls (v :: .ref a :: st)) := by
  obtain ⟨T', h', X', e', W, st'⟩ := putF X hx hZ hown w via eT F E L wi hty hn hf (g := mkF m pc Ls (v :: .ref a :: st)) rfl rfl hd
  exact own_go st' (go T' h' X' e' W)
theorem own_putFN (X : Stand p l e R s m args below meth c T locs cells slots) (hx : p.tables.exec = Jvm.exec) (hZ : Z.Warmed39 s.vm) {own R0 O nm d : String} {index kk : Nat} {ty : FieldType} (hown : s.vm.findClass own = some m.cls) (eT : T.heap = h) (w : (Jvm.Cond.fieldLink own index R0 nm d).before a0 Z = true) (via : Via Z R0 O nm d)
    {old v' : Value} (F : Fld Z h a O nm d old) (E : Exa Z h a C) (L : (Jvm.Cond.lays C O nm d).before a0 Z = true ∨ ((Jvm.Cond.laysFinal C O nm d).before a0 Z = true ∧ own = O ∧ meth.name = "<init>")) (wi : (Jvm.Cond.instantiable C kk).before a0 Z = true) (hty : parseFieldDescriptor d = some ty) (hn : narrow ty v = v') (hf : fits ty v' = true)
    {pc : Nat} {Ls : Array Slot} {st : List Value} (hd : decode c.code pc = .ok (.putfield index, 3))
    (go : ∀ T' h', Stand p l e R s m args below meth c T' (locs ++ [⟨a, Jvm.RoadKit.slotOf Z O nm d⟩]) cells slots → T'.heap = h' → Wr h h' a (Jvm.RoadKit.slotOf Z O nm d) v' → own_Go p e below Po T' (mkF m (pc + 3) Ls st)) : own_Go p e below Po T (mkF m pc Ls (v :: .ref a :: st)) := by
  obtain ⟨T', h', X', e', W, st'⟩ := putFN X hx hZ hown w via eT F E L wi hty hn hf (g := mkF m pc Ls (v :: .ref a :: st)) rfl rfl hd
  exact own_go st' (go T' h' X' e' W)
/-- the fields' first values -/
def own_Dfs : List (String × String × String) → List Value → Prop
  | [], [] => True
  | x :: r, v :: q => (∃ t, parseFieldDescriptor x.2.2 = some t ∧ v = defaultValue t) ∧ own_Dfs r q
  | _, _ => False
theorem own_Dfs_at : ∀ {fs : List (String × String × String)} {gl : List Value} {i : Nat} {x : String × String × String}, own_Dfs fs gl → fs[i]? = some x → ∃ t, parseFieldDescriptor x.2.2 = some t ∧ gl.getD i .null = defaultValue t
  | [], _, _, _, _, q => by simp at q
  | _ :: _, [], _, _, H, _ => H.elim
  | y :: r, v :: q, 0, x, H, e => by
    obtain rfl : y = x := by simpa using e
    exact H.1
  | y :: r, v :: q, i + 1, x, H, e => own_Dfs_at (fs := r) (gl := q) (i := i) H.2 (by simpa using e)
def own_gl (gl : List Value) : Nat → Value := fun i => gl.getD i .null
theorem own_newO (X : Stand p l e R s m args below meth c T locs cells slots) (hx : p.tables.exec = Jvm.exec) (hZ : Z.Warmed39 s.vm) {own : String} {index kk : Nat} (hown : s.vm.findClass own = some m.cls) (eT : T.heap = h) (w : (Jvm.Cond.classLink own index C).before a0 Z = true) (wi : (Jvm.Cond.instantiable C kk).before a0 Z = true) (wz : (Jvm.Cond.initialized C).before a0 Z = true)
    (Ld : own_Lds Z a0 C fs) {gl : List Value} (Df : own_Dfs fs gl) (hc : cells + 1 ≤ R.cells) (hs : slots + kk ≤ R.slots) {pc : Nat} {Ls : Array Slot} {st : List Value} (hd : decode c.code pc = .ok (.new index, 3))
    (go : ∀ T' h' b, b = h.size → Stand p l e R s m args below meth c T' locs (cells + 1) (slots + kk) → T'.heap = h' → Ext h h' → own_Ob Z h' b C fs (own_gl gl) → own_Go p e below Po T' (mkF m (pc + 3) Ls (.ref b :: st))) : own_Go p e below Po T (mkF m pc Ls st) := by
  obtain ⟨T', h', X', e', E, A, D, -, st'⟩ := newO X hx hZ hown w wi wz eT (g := mkF m pc Ls st) rfl hd hc hs
  refine own_go st' (go T' h' _ rfl X' e' E ⟨A, fun i x q => ?_⟩)
  obtain ⟨t, ht, hgt⟩ := own_Dfs_at Df q
  show Fld Z h' _ x.1 x.2.1 x.2.2 (gl.getD i .null)
  rw [hgt]
  exact D (own_Lds_at Ld q) ht
theorem own_initO (X : Stand p l e R s m args below meth c T locs cells slots) (hx : p.tables.exec = Jvm.exec) (hZ : Z.Warmed39 s.vm) {own : String} {index : Nat} (hown : s.vm.findClass own = some m.cls) (eT : T.heap = h) (w1 : (Jvm.Cond.methodLink own index Lib.objectInit).before a0 Z = true) (w2 : (Jvm.Cond.instanceMethod Lib.objectInit).before a0 Z = true)
    (w3 : (Jvm.Cond.code Lib.objectInit object_method_1_code 1 none).before a0 Z = true) {pc : Nat} {Ls : Array Slot} {st : List Value} (hml : Ls.size = c.maxLocals) (hd : decode c.code pc = .ok (.invokespecial index, 3)) (hf : 1 ≤ R.frames) {W : Nat} (hW : (st.map fun v => v.category).sum ≤ W) (hl : W + 12 ≤ R.locals)
    (go : ∀ T', Stand p l e R s m args below meth c T' locs cells slots → T'.heap = h → own_Go p e below Po T' (mkF m (pc + 3) Ls st)) : own_Go p e below Po T (mkF m pc Ls (.ref a :: st)) := by
  obtain ⟨T', X', e', st'⟩ := initO X hx hZ hown w1 w2 w3 eT (g := mkF m pc Ls (.ref a :: st)) rfl hml rfl hd hf (W := W) (by show 2 * 0 + _ ≤ _; simpa using hW) hl
  exact own_go st' (go T' X' e')
end OwnO
section OwnRr
variable {p : Program} {l : Launch} {e : Env} {R : Room} {s : State} {m : MethodId} {args : Array Value} {below : List Frame} {meth : Method} {c : Code} {T : State} {locs : List Loc} {cells slots : Nat} {Z : State} {a0 : Array Value} {h h' : Heap} {Po : Outcome → State → Prop} {a b : Addr} {n sl : Nat} {v : Value} {wl : List Addr} {C : String} {f : Nat → Value}
/-- an array of references of the class C; it may hold every object of C -/
def own_Rr (Z : State) (h : Heap) (a : Addr) (C : String) (n : Nat) (f : Nat → Value) : Prop := ∃ cl : Cell, Arr Z h a cl (.object C) ∧ Ovr Z cl.cls C ∧ cl.slots.size = n ∧ ∀ j, j < n → cl.slots[j]? = some (f j)
theorem own_Rr_ar (F : own_Rr Z h a C n f) : own_Ar Z h a (.object C) n f := by
  obtain ⟨cl, A, O, r⟩ := F
  exact ⟨cl, A, r⟩
theorem own_Rr_lt (F : own_Rr Z h a C n f) : a < h.size := own_Ar_lt (own_Rr_ar F)
theorem own_Rr_ext (F : own_Rr Z h a C n f) (E : Ext h h') : own_Rr Z h' a C n f := by
  obtain ⟨cl, A, r⟩ := F
  exact ⟨cl, A.ext E, r⟩
theorem own_Rr_other (F : own_Rr Z h b C n f) (W : Wr h h' a sl v) (q : b ≠ a) : own_Rr Z h' b C n f := by
  obtain ⟨cl, A, r⟩ := F
  exact ⟨cl, A.other W q, r⟩
theorem own_Rr_keep (F : own_Rr Z h a C n f) (K : Keep h h' wl) (q : a ∉ wl) : own_Rr Z h' a C n f := by
  obtain ⟨cl, A, r⟩ := F
  exact ⟨cl, ⟨K.2.1 _ _ A.1 q, A.2⟩, r⟩
theorem own_Rr_set (F : own_Rr Z h a C n f) (W : Wr h h' a sl v) : own_Rr Z h' a C n (own_up f sl v) := by
  obtain ⟨cl, A, O, r, g⟩ := F
  refine ⟨_, A.same W, O, (sz_set cl sl v).trans r, fun j hj => ?_⟩
  show (cl.slots.setIfInBounds sl v)[j]? = some (if j = sl then v else f j)
  rw [Array.getElem?_setIfInBounds]
  by_cases q : sl = j
  · subst q
    simp [r, hj]
  · rw [if_neg q, if_neg (Ne.symm q)]
    exact g j hj
theorem own_Rr_eq {g : Nat → Value} (F : own_Rr Z h a C n f) (q : ∀ i, i < n → f i = g i) : own_Rr Z h a C n g := by
  obtain ⟨cl, A, O, r, w⟩ := F
  exact ⟨cl, A, O, r, fun j hj => (w j hj).trans (congrArg some (q j hj))⟩
theorem own_newR (X : Stand p l e R s m args below meth c T locs cells slots) (hx : p.tables.exec = Jvm.exec) (hZ : Z.Warmed39 s.vm) {own : String} {index : Nat} (hown : s.vm.findClass own = some m.cls) (eT : T.heap = h) (w1 : (Jvm.Cond.classLink own index C).before a0 Z = true) (w2 : (Jvm.Cond.arrayOver (.object C)).before a0 Z = true) {z : Int32} (n : Nat) (hz : z.toNatClampNeg = n) (hz0 : ¬ z < 0) (hb8 : n * 8 ≤ 536870912) (hc : cells + 1 ≤ R.cells) (hs : slots + n ≤ R.slots) {pc : Nat} {Ls : Array Slot} {st : List Value} (hd : decode c.code pc = .ok (.anewarray index, 3))
    (go : ∀ T' h' b, b = h.size → Stand p l e R s m args below meth c T' locs (cells + 1) (slots + n) → T'.heap = h' → Ext h h' → own_Rr Z h' b C n (fun _ => .null) → own_Go p e below Po T' (mkF m (pc + 3) Ls (.ref b :: st))) : own_Go p e below Po T (mkF m pc Ls (.int z :: st)) := by
  obtain ⟨T', h', cA, X', e', E, A, O, st'⟩ := newR X hx hZ hown w1 w2 eT (g := mkF m pc Ls (.int z :: st)) rfl hd rfl hz0 (cap := n) (Nat.le_of_eq hz) hb8 hc hs
  exact own_go st' (go T' h' _ rfl X' e' E ⟨_, A, O, (sz_new cA _ z).trans hz, fun j hj => by simp [newA, hz, hj, defaultValue]⟩)
theorem own_aastore (X : Stand p l e R s m args below meth c T locs cells slots) (hx : p.tables.exec = Jvm.exec) (hZ : Z.Warmed39 s.vm) (eT : T.heap = h) (A : own_Rr Z h a C n f) {y : Addr} (I : Ins Z h y C true) {j : Int32} (k : Nat) (hj : j.toInt = (k : Int)) (hk : k < n) {pc : Nat} {Ls : Array Slot} {st : List Value} (hd : decode c.code pc = .ok (.aastore, 1))
    (go : ∀ T' h', Stand p l e R s m args below meth c T' (locs ++ [⟨a, k⟩]) cells slots → T'.heap = h' → Wr h h' a k (.ref y) → own_Go p e below Po T' (mkF m (pc + 1) Ls st)) : own_Go p e below Po T (mkF m pc Ls (.ref y :: .int j :: .ref a :: st)) := by
  obtain ⟨cl, A, O, r, w⟩ := A
  obtain ⟨q1, q2⟩ := own_idx hj hk
  obtain ⟨T', h', X', e', W, st'⟩ := stR X hx hZ eT A (j := j) (by rw [r]; exact q2) rfl (Sto.of A O I) (g := mkF m pc Ls (.ref y :: .int j :: .ref a :: st)) rfl rfl hd
  rw [q1] at X' W
  exact own_go st' (go T' h' X' e' W)
end OwnRr
section OwnL
variable {p : Program} {l : Launch} {e : Env} {R : Room} {s : State} {m : MethodId} {args : Array Value} {below : List Frame} {meth : Method} {c : Code} {T : State} {locs : List Loc} {cells slots : Nat} {Z : State} {a0 : Array Value} {h h' : Heap} {Po : Outcome → State → Prop} {a b : Addr} {ty : FieldType} {n sl : Nat} {f : Nat → Int64} {v : Value} {wl : List Addr} {x : Int64}
/-- an array of longs: place j holds f j -/
def own_Al (Z : State) (h : Heap) (a : Addr) (n : Nat) (f : Nat → Int64) : Prop := own_Ar Z h a .long n (fun i => .long (f i))
def own_upl (f : Nat → Int64) (k : Nat) (x : Int64) : Nat → Int64 := fun i => if i = k then x else f i
theorem own_upl_eq (f : Nat → Int64) (k : Nat) (x : Int64) : own_upl f k x k = x := if_pos rfl
theorem own_upl_ne (f : Nat → Int64) {k j : Nat} (x : Int64) (q : j ≠ k) : own_upl f k x j = f j := if_neg q
theorem own_Al_set (F : own_Al Z h a n f) (W : Wr h h' a sl (.long x)) : own_Al Z h' a n (own_upl f sl x) :=
  own_Ar_eq (own_Ar_set F W) (fun i _ => by unfold own_up own_upl; split <;> rfl)
theorem own_Al_eq {g : Nat → Int64} (F : own_Al Z h a n f) (q : ∀ i, i < n → f i = g i) : own_Al Z h a n g := own_Ar_eq F fun i hi => by rw [q i hi]
/-- a private method by its contract -/
theorem own_callP (X : Stand p l e R s m args below meth c T locs cells slots) (hx : p.tables.exec = Jvm.exec) (hZ : Z.Warmed39 s.vm) {own C : String} (hown : s.vm.findClass own = some m.cls) (eT : T.heap = h) {index : Nat} {y y' : MethodName} {bytes : ByteArray} {maxL : Nat} {ret : Option FieldType} {rm : Room} {Q : Option Value → Heap → List Loc → Prop}
    (w1 : (Jvm.Cond.methodLink own index y).before a0 Z = true) (w2 : (Jvm.Cond.instanceMethod y).before a0 Z = true) (w5 : (Jvm.Cond.privateMethod y).before a0 Z = true) (w6 : (Jvm.Cond.selects y'.cls y' y').before a0 Z = true) (w7 : (Jvm.Cond.instanceMethod y').before a0 Z = true) (hcc : y'.cls = y.cls) (w3 : (Jvm.Cond.initialized y.cls).before a0 Z = true) (w4 : (Jvm.Cond.code y bytes maxL ret).before a0 Z = true) (hy : y.cls ≠ "java/lang/invoke/MethodHandle" ∧ y.cls ≠ "java/lang/invoke/VarHandle")
    {pc : Nat} {Ls : Array Slot} {a : Addr} (E : Exa Z h a C) {argsL rest st : List Value} (M : own_Met l y bytes maxL ret [] rm Z (.ref a :: argsL).toArray h Q) (hml : Ls.size = c.maxLocals) {ps : List FieldType} {r : Option FieldType} (hps : parseMethodDescriptor y.desc = some ⟨ps, r⟩) (hl : argsL.length = ps.length) (hst : st = argsL.reverse ++ .ref a :: rest)
    (hd : decode c.code pc = .ok (.invokevirtual index, 3)) {W : Nat} (hW : (rest.map fun v => v.category).sum ≤ W) (hf : rm.frames + 1 ≤ R.frames) (hlo : W + (maxL + 11) + rm.locals ≤ R.locals) (hc : cells + rm.cells ≤ R.cells) (hs : slots + rm.slots ≤ R.slots)
    (k : ∀ v T' L, Stand p l e R s m args below meth c T' (locs ++ L) (cells + rm.cells) (slots + rm.slots) → Q v T'.heap L → own_Go p e below Po T' (mkF m (pc + 3) Ls (v.toList ++ rest))) : own_Go p e below Po T (mkF m pc Ls st) := by
  subst hst
  obtain ⟨cq, q1, q2⟩ := E.cell
  have v2 : (Jvm.Cond.instanceMethod y).before args s = true := mvT hZ w2
  have v6 : (Jvm.Cond.selects y'.cls y' y').before args s = true := mvT hZ w6
  have v7 : (Jvm.Cond.instanceMethod y').before args s = true := mvT hZ w7
  have v5 : (Jvm.Cond.privateMethod y).before args s = true := mvP hZ w5
  obtain ⟨r0, mr, hn', -, -, -⟩ := Cond.instanceMethod_spec v7
  obtain ⟨kr, hkr, hni⟩ := notFace_of_selects v6 r0 hn'
  have hcls : s.vm.findClass y.cls = some r0.cls := hcc ▸ findClass_of_methodNamed hn'
  have hpr : s.PrivateAt y := Cond.privateMethod_at v5
  obtain ⟨v, vm₁, ⟨T', L', k', n'⟩, -, X', ⟨L, hQ, l1, y1, z1⟩, st⟩ := X.privateBack hx (y := y) hown (mvT hZ w1) v2 (selects_self_of_private hcls hkr hni hpr v2 hy) hpr (mvT hZ w4) hy (backOf (W := W) M hZ w4 w3 hf hlo) (g := mkF m pc Ls (argsL.reverse ++ .ref a :: rest)) rfl hml (Steps.refl _) (a := a) (by rw [eT]; exact q1) q2 (argsL := argsL) (rest := rest) (lenOf hps hl) rfl (by show 2 * 0 + _ ≤ _; simpa using hW) hd (fun _ _ => ⟨rfl, eT, hc, hs⟩)
  dsimp only [Pt.U, Pt.locs, Pt.cells, Pt.slots] at X' l1 y1 z1 st hQ
  subst l1 y1 z1
  exact own_go (fun _ kk => st.trans kk) (k v T' L X' hQ)
end OwnL
section OwnUp
/-- addresses in rising order -/
def own_Up (l : List Addr) : Prop := l.Pairwise (fun x y => x < y)
theorem own_Up_lt {l : List Addr} (H : own_Up l) (i j : Nat) {x y : Addr} (hx : l[i]? = some x) (hy : l[j]? = some y) (hij : i < j) : x < y := by
  obtain ⟨h1, e1⟩ := List.getElem?_eq_some_iff.mp hx
  obtain ⟨h2, e2⟩ := List.getElem?_eq_some_iff.mp hy
  have := List.pairwise_iff_getElem.mp H i j h1 h2 hij
  rw [e1, e2] at this
  exact this
theorem own_Up_ne {l : List Addr} (H : own_Up l) (i j : Nat) {x y : Addr} (hx : l[i]? = some x) (hy : l[j]? = some y) (hij : i < j) : x ≠ y := Nat.ne_of_lt (own_Up_lt H i j hx hy hij)
theorem own_Up_ge {n0 : Nat} {x0 : Addr} {l : List Addr} (H : own_Up (x0 :: l)) (g : n0 ≤ x0) (i : Nat) {x : Addr} (hx : (x0 :: l)[i]? = some x) : n0 ≤ x := by
  cases i with
  | zero =>
    obtain rfl : x0 = x := by simpa using hx
    exact g
  | succ i => exact Nat.le_trans g (Nat.le_of_lt (own_Up_lt H 0 (i + 1) (x := x0) rfl hx (by omega)))
theorem own_Up_snoc {l : List Addr} {b : Addr} (H : own_Up l) (q : ∀ x ∈ l, x < b) : own_Up (l ++ [b]) := List.pairwise_append.mpr ⟨H, List.pairwise_singleton _ _, fun x hx y hy => by cases List.mem_singleton.mp hy; exact q x hx⟩
end OwnUp
theorem pn_0 : plainName "com/example/gangplank/gangplank/space/HeldFromNowHeldAtPinLaw" = true := by first | (simp [plainName, overriddenIn]; done) | decide +kernel
theorem pd_0 : parseMethodDescriptor "(JJJJJ)Z" = some ⟨[.long, .long, .long, .long, .long], some .boolean⟩ := by decide +kernel
theorem ef_0 (m : MethodId) (x0 : Int64) (x1 : Int64) (x2 : Int64) (x3 : Int64) (x4 : Int64) : entryFrame m #[(.long x0), (.long x1), (.long x2), (.long x3), (.long x4)] maxLocals = mkF m 0 #[.val (.long x0), .second, .val (.long x1), .second, .val (.long x2), .second, .val (.long x3), .second, .val (.long x4), .second, .unset, .unset, .unset, .unset, .unset, .unset, .unset, .unset, .unset, .unset, .unset, .unset, .unset, .unset, .unset, .unset, .unset, .unset] [] := by first | (simp [entryFrame, mkF, argsToLocals, Value.category, maxLocals]; done) | rfl
theorem d1_0 : decode jdk_29_method_66_code 0 = .ok (.lload_n 0, 1) := by decide +kernel
theorem d1_1 : decode jdk_29_method_66_code 1 = .ok (.lload_n 2, 1) := by decide +kernel
theorem d1_2 : decode jdk_29_method_66_code 2 = .ok (.lcmp, 1) := by decide +kernel
theorem d1_3 : decode jdk_29_method_66_code 3 = .ok (.ifCond .lt 7, 3) := by decide +kernel
theorem d1_6 : decode jdk_29_method_66_code 6 = .ok (.lload_n 0, 1) := by decide +kernel
theorem d1_7 : decode jdk_29_method_66_code 7 = .ok (.goto 4, 3) := by decide +kernel
theorem d1_10 : decode jdk_29_method_66_code 10 = .ok (.lload_n 2, 1) := by decide +kernel
theorem d1_11 : decode jdk_29_method_66_code 11 = .ok (.lreturn, 1) := by decide +kernel
theorem pf_1 : plainFor (⟨"java/lang/Math", "max", "(JJ)J"⟩ : MethodName) = true := by decide +kernel
theorem pd_1 : parseMethodDescriptor "(JJ)J" = some ⟨[.long, .long], some .long⟩ := by decide +kernel
theorem ef_1 (m : MethodId) (x0 : Int64) (x1 : Int64) : entryFrame m #[(.long x0), (.long x1)] 4 = mkF m 0 #[.val (.long x0), .second, .val (.long x1), .second] [] := by first | (simp [entryFrame, mkF, argsToLocals, Value.category]; done) | rfl
theorem d2_0 : decode prog_245_method_1_code 0 = .ok (.aload_n 0, 1) := by decide +kernel
theorem d2_1 : decode prog_245_method_1_code 1 = .ok (.iload_n 1, 1) := by decide +kernel
theorem d2_2 : decode prog_245_method_1_code 2 = .ok (.lload_n 2, 1) := by decide +kernel
theorem d2_3 : decode prog_245_method_1_code 3 = .ok (.iload 4, 2) := by decide +kernel
theorem d2_5 : decode prog_245_method_1_code 5 = .ok (.lload 5, 2) := by decide +kernel
theorem d2_7 : decode prog_245_method_1_code 7 = .ok (.lload 7, 2) := by decide +kernel
theorem d2_9 : decode prog_245_method_1_code 9 = .ok (.iload 4, 2) := by decide +kernel
theorem d2_11 : decode prog_245_method_1_code 11 = .ok (.i2l, 1) := by decide +kernel
theorem d2_12 : decode prog_245_method_1_code 12 = .ok (.lconst 0, 1) := by decide +kernel
theorem d2_13 : decode prog_245_method_1_code 13 = .ok (.invokespecial 32, 3) := by decide +kernel
theorem d2_16 : decode prog_245_method_1_code 16 = .ok (.return_, 1) := by decide +kernel
theorem pn_2 : plainName "com/example/gangplank/gangplank/workload/Job" = true := by first | (simp [plainName, overriddenIn]; done) | decide +kernel
theorem pd_2 : parseMethodDescriptor "(IJIJJ)V" = some ⟨[.int, .long, .int, .long, .long], none⟩ := by decide +kernel
theorem ef_2 (m : MethodId) (x0 : Addr) (x1 : Int32) (x2 : Int64) (x3 : Int32) (x4 : Int64) (x5 : Int64) : entryFrame m #[(.ref x0), (.int x1), (.long x2), (.int x3), (.long x4), (.long x5)] 9 = mkF m 0 #[.val (.ref x0), .val (.int x1), .val (.long x2), .second, .val (.int x3), .val (.long x4), .second, .val (.long x5), .second] [] := by first | (simp [entryFrame, mkF, argsToLocals, Value.category]; done) | rfl
theorem d3_0 : decode prog_245_method_3_code 0 = .ok (.aload_n 0, 1) := by decide +kernel
theorem d3_1 : decode prog_245_method_3_code 1 = .ok (.invokespecial 1, 3) := by decide +kernel
theorem d3_4 : decode prog_245_method_3_code 4 = .ok (.aload_n 0, 1) := by decide +kernel
theorem d3_5 : decode prog_245_method_3_code 5 = .ok (.iload_n 1, 1) := by decide +kernel
theorem d3_6 : decode prog_245_method_3_code 6 = .ok (.putfield 7, 3) := by decide +kernel
theorem d3_9 : decode prog_245_method_3_code 9 = .ok (.aload_n 0, 1) := by decide +kernel
theorem d3_10 : decode prog_245_method_3_code 10 = .ok (.lload_n 2, 1) := by decide +kernel
theorem d3_11 : decode prog_245_method_3_code 11 = .ok (.putfield 13, 3) := by decide +kernel
theorem d3_14 : decode prog_245_method_3_code 14 = .ok (.aload_n 0, 1) := by decide +kernel
theorem d3_15 : decode prog_245_method_3_code 15 = .ok (.iload 4, 2) := by decide +kernel
theorem d3_17 : decode prog_245_method_3_code 17 = .ok (.putfield 17, 3) := by decide +kernel
theorem d3_20 : decode prog_245_method_3_code 20 = .ok (.aload_n 0, 1) := by decide +kernel
theorem d3_21 : decode prog_245_method_3_code 21 = .ok (.lload 5, 2) := by decide +kernel
theorem d3_23 : decode prog_245_method_3_code 23 = .ok (.putfield 20, 3) := by decide +kernel
theorem d3_26 : decode prog_245_method_3_code 26 = .ok (.aload_n 0, 1) := by decide +kernel
theorem d3_27 : decode prog_245_method_3_code 27 = .ok (.lload 7, 2) := by decide +kernel
theorem d3_29 : decode prog_245_method_3_code 29 = .ok (.putfield 23, 3) := by decide +kernel
theorem d3_32 : decode prog_245_method_3_code 32 = .ok (.aload_n 0, 1) := by decide +kernel
theorem d3_33 : decode prog_245_method_3_code 33 = .ok (.lload 9, 2) := by decide +kernel
theorem d3_35 : decode prog_245_method_3_code 35 = .ok (.putfield 26, 3) := by decide +kernel
theorem d3_38 : decode prog_245_method_3_code 38 = .ok (.aload_n 0, 1) := by decide +kernel
theorem d3_39 : decode prog_245_method_3_code 39 = .ok (.lload 11, 2) := by decide +kernel
theorem d3_41 : decode prog_245_method_3_code 41 = .ok (.putfield 29, 3) := by decide +kernel
theorem d3_44 : decode prog_245_method_3_code 44 = .ok (.return_, 1) := by decide +kernel
theorem pn_3 : plainName "com/example/gangplank/gangplank/workload/Job" = true := by first | (simp [plainName, overriddenIn]; done) | decide +kernel
theorem pd_3 : parseMethodDescriptor "(IJIJJJJ)V" = some ⟨[.int, .long, .int, .long, .long, .long, .long], none⟩ := by decide +kernel
theorem ef_3 (m : MethodId) (x0 : Addr) (x1 : Int32) (x2 : Int64) (x3 : Int32) (x4 : Int64) (x5 : Int64) (x6 : Int64) (x7 : Int64) : entryFrame m #[(.ref x0), (.int x1), (.long x2), (.int x3), (.long x4), (.long x5), (.long x6), (.long x7)] 13 = mkF m 0 #[.val (.ref x0), .val (.int x1), .val (.long x2), .second, .val (.int x3), .val (.long x4), .second, .val (.long x5), .second, .val (.long x6), .second, .val (.long x7), .second] [] := by first | (simp [entryFrame, mkF, argsToLocals, Value.category]; done) | rfl
theorem d4_0 : decode jdk_30_method_1_code 0 = .ok (.aload_n 0, 1) := by decide +kernel
theorem d4_1 : decode jdk_30_method_1_code 1 = .ok (.invokespecial 1, 3) := by decide +kernel
theorem d4_4 : decode jdk_30_method_1_code 4 = .ok (.return_, 1) := by decide +kernel
theorem pn_4 : plainName "java/lang/Record" = true := by first | (simp [plainName, overriddenIn]; done) | decide +kernel
theorem pd_4 : parseMethodDescriptor "()V" = some ⟨[], none⟩ := by decide +kernel
theorem ef_4 (m : MethodId) (x0 : Addr) : entryFrame m #[(.ref x0)] 1 = mkF m 0 #[.val (.ref x0)] [] := by first | (simp [entryFrame, mkF, argsToLocals, Value.category]; done) | rfl
theorem d6_0 : decode prog_214_method_1_code 0 = .ok (.aload_n 0, 1) := by decide +kernel
theorem d6_1 : decode prog_214_method_1_code 1 = .ok (.invokespecial 1, 3) := by decide +kernel
theorem d6_4 : decode prog_214_method_1_code 4 = .ok (.aload_n 0, 1) := by decide +kernel
theorem d6_5 : decode prog_214_method_1_code 5 = .ok (.bipush 8, 2) := by decide +kernel
theorem d6_7 : decode prog_214_method_1_code 7 = .ok (.newarray .long, 2) := by decide +kernel
theorem d6_9 : decode prog_214_method_1_code 9 = .ok (.putfield 7, 3) := by decide +kernel
theorem d6_12 : decode prog_214_method_1_code 12 = .ok (.aload_n 0, 1) := by decide +kernel
theorem d6_13 : decode prog_214_method_1_code 13 = .ok (.bipush 8, 2) := by decide +kernel
theorem d6_15 : decode prog_214_method_1_code 15 = .ok (.newarray .long, 2) := by decide +kernel
theorem d6_17 : decode prog_214_method_1_code 17 = .ok (.putfield 13, 3) := by decide +kernel
theorem d6_20 : decode prog_214_method_1_code 20 = .ok (.aload_n 0, 1) := by decide +kernel
theorem d6_21 : decode prog_214_method_1_code 21 = .ok (.bipush 8, 2) := by decide +kernel
theorem d6_23 : decode prog_214_method_1_code 23 = .ok (.anewarray 16, 3) := by decide +kernel
theorem d6_26 : decode prog_214_method_1_code 26 = .ok (.putfield 18, 3) := by decide +kernel
theorem d6_29 : decode prog_214_method_1_code 29 = .ok (.aload_n 0, 1) := by decide +kernel
theorem d6_30 : decode prog_214_method_1_code 30 = .ok (.iconst 1, 1) := by decide +kernel
theorem d6_31 : decode prog_214_method_1_code 31 = .ok (.putfield 22, 3) := by decide +kernel
theorem d6_34 : decode prog_214_method_1_code 34 = .ok (.aload_n 0, 1) := by decide +kernel
theorem d6_35 : decode prog_214_method_1_code 35 = .ok (.bipush 16, 2) := by decide +kernel
theorem d6_37 : decode prog_214_method_1_code 37 = .ok (.newarray .long, 2) := by decide +kernel
theorem d6_39 : decode prog_214_method_1_code 39 = .ok (.putfield 26, 3) := by decide +kernel
theorem d6_42 : decode prog_214_method_1_code 42 = .ok (.aload_n 0, 1) := by decide +kernel
theorem d6_43 : decode prog_214_method_1_code 43 = .ok (.bipush 16, 2) := by decide +kernel
theorem d6_45 : decode prog_214_method_1_code 45 = .ok (.newarray .long, 2) := by decide +kernel
theorem d6_47 : decode prog_214_method_1_code 47 = .ok (.putfield 29, 3) := by decide +kernel
theorem d6_50 : decode prog_214_method_1_code 50 = .ok (.aload_n 0, 1) := by decide +kernel
theorem d6_51 : decode prog_214_method_1_code 51 = .ok (.iconst 0, 1) := by decide +kernel
theorem d6_52 : decode prog_214_method_1_code 52 = .ok (.newarray .int, 2) := by decide +kernel
theorem d6_54 : decode prog_214_method_1_code 54 = .ok (.putfield 32, 3) := by decide +kernel
theorem d6_57 : decode prog_214_method_1_code 57 = .ok (.aload_n 0, 1) := by decide +kernel
theorem d6_58 : decode prog_214_method_1_code 58 = .ok (.iconst 0, 1) := by decide +kernel
theorem d6_59 : decode prog_214_method_1_code 59 = .ok (.newarray .long, 2) := by decide +kernel
theorem d6_61 : decode prog_214_method_1_code 61 = .ok (.putfield 36, 3) := by decide +kernel
theorem d6_64 : decode prog_214_method_1_code 64 = .ok (.return_, 1) := by decide +kernel
theorem pn_6 : plainName "com/example/gangplank/gangplank/space/HeldFromNow" = true := by first | (simp [plainName, overriddenIn]; done) | decide +kernel
theorem pd_6 : parseMethodDescriptor "()V" = some ⟨[], none⟩ := by decide +kernel
theorem ef_6 (m : MethodId) (x0 : Addr) : entryFrame m #[(.ref x0)] 1 = mkF m 0 #[.val (.ref x0)] [] := by first | (simp [entryFrame, mkF, argsToLocals, Value.category]; done) | rfl
theorem d7_0 : decode prog_214_method_3_code 0 = .ok (.aload_n 0, 1) := by decide +kernel
theorem d7_1 : decode prog_214_method_3_code 1 = .ok (.lload_n 1, 1) := by decide +kernel
theorem d7_2 : decode prog_214_method_3_code 2 = .ok (.putfield 39, 3) := by decide +kernel
theorem d7_5 : decode prog_214_method_3_code 5 = .ok (.aload_n 0, 1) := by decide +kernel
theorem d7_6 : decode prog_214_method_3_code 6 = .ok (.iconst 0, 1) := by decide +kernel
theorem d7_7 : decode prog_214_method_3_code 7 = .ok (.putfield 43, 3) := by decide +kernel
theorem d7_10 : decode prog_214_method_3_code 10 = .ok (.aload_n 0, 1) := by decide +kernel
theorem d7_11 : decode prog_214_method_3_code 11 = .ok (.iconst 1, 1) := by decide +kernel
theorem d7_12 : decode prog_214_method_3_code 12 = .ok (.putfield 22, 3) := by decide +kernel
theorem d7_15 : decode prog_214_method_3_code 15 = .ok (.return_, 1) := by decide +kernel
theorem pn_7 : plainName "com/example/gangplank/gangplank/space/HeldFromNow" = true := by first | (simp [plainName, overriddenIn]; done) | decide +kernel
theorem pd_7 : parseMethodDescriptor "(J)V" = some ⟨[.long], none⟩ := by decide +kernel
theorem ef_7 (m : MethodId) (x0 : Addr) (x1 : Int64) : entryFrame m #[(.ref x0), (.long x1)] 3 = mkF m 0 #[.val (.ref x0), .val (.long x1), .second] [] := by first | (simp [entryFrame, mkF, argsToLocals, Value.category]; done) | rfl
theorem d8_0 : decode prog_214_method_4_code 0 = .ok (.aload_n 0, 1) := by decide +kernel
theorem d8_1 : decode prog_214_method_4_code 1 = .ok (.getfield 43, 3) := by decide +kernel
theorem d8_4 : decode prog_214_method_4_code 4 = .ok (.aload_n 0, 1) := by decide +kernel
theorem d8_5 : decode prog_214_method_4_code 5 = .ok (.getfield 7, 3) := by decide +kernel
theorem d8_8 : decode prog_214_method_4_code 8 = .ok (.arraylength, 1) := by decide +kernel
theorem d8_9 : decode prog_214_method_4_code 9 = .ok (.if_icmp .ne 57, 3) := by decide +kernel
theorem d8_12 : decode prog_214_method_4_code 12 = .ok (.aload_n 0, 1) := by decide +kernel
theorem d8_13 : decode prog_214_method_4_code 13 = .ok (.aload_n 0, 1) := by decide +kernel
theorem d8_14 : decode prog_214_method_4_code 14 = .ok (.getfield 7, 3) := by decide +kernel
theorem d8_17 : decode prog_214_method_4_code 17 = .ok (.iconst 2, 1) := by decide +kernel
theorem d8_18 : decode prog_214_method_4_code 18 = .ok (.aload_n 0, 1) := by decide +kernel
theorem d8_19 : decode prog_214_method_4_code 19 = .ok (.getfield 43, 3) := by decide +kernel
theorem d8_22 : decode prog_214_method_4_code 22 = .ok (.imul, 1) := by decide +kernel
theorem d8_23 : decode prog_214_method_4_code 23 = .ok (.invokestatic 47, 3) := by decide +kernel
theorem d8_26 : decode prog_214_method_4_code 26 = .ok (.putfield 7, 3) := by decide +kernel
theorem d8_29 : decode prog_214_method_4_code 29 = .ok (.aload_n 0, 1) := by decide +kernel
theorem d8_30 : decode prog_214_method_4_code 30 = .ok (.aload_n 0, 1) := by decide +kernel
theorem d8_31 : decode prog_214_method_4_code 31 = .ok (.getfield 13, 3) := by decide +kernel
theorem d8_34 : decode prog_214_method_4_code 34 = .ok (.iconst 2, 1) := by decide +kernel
theorem d8_35 : decode prog_214_method_4_code 35 = .ok (.aload_n 0, 1) := by decide +kernel
theorem d8_36 : decode prog_214_method_4_code 36 = .ok (.getfield 43, 3) := by decide +kernel
theorem d8_39 : decode prog_214_method_4_code 39 = .ok (.imul, 1) := by decide +kernel
theorem d8_40 : decode prog_214_method_4_code 40 = .ok (.invokestatic 47, 3) := by decide +kernel
theorem d8_43 : decode prog_214_method_4_code 43 = .ok (.putfield 13, 3) := by decide +kernel
theorem d8_46 : decode prog_214_method_4_code 46 = .ok (.aload_n 0, 1) := by decide +kernel
theorem d8_47 : decode prog_214_method_4_code 47 = .ok (.aload_n 0, 1) := by decide +kernel
theorem d8_48 : decode prog_214_method_4_code 48 = .ok (.getfield 18, 3) := by decide +kernel
theorem d8_51 : decode prog_214_method_4_code 51 = .ok (.iconst 2, 1) := by decide +kernel
theorem d8_52 : decode prog_214_method_4_code 52 = .ok (.aload_n 0, 1) := by decide +kernel
theorem d8_53 : decode prog_214_method_4_code 53 = .ok (.getfield 43, 3) := by decide +kernel
theorem d8_56 : decode prog_214_method_4_code 56 = .ok (.imul, 1) := by decide +kernel
theorem d8_57 : decode prog_214_method_4_code 57 = .ok (.invokestatic 53, 3) := by decide +kernel
theorem d8_60 : decode prog_214_method_4_code 60 = .ok (.checkcast 56, 3) := by decide +kernel
theorem d8_63 : decode prog_214_method_4_code 63 = .ok (.putfield 18, 3) := by decide +kernel
theorem d8_66 : decode prog_214_method_4_code 66 = .ok (.aload_n 0, 1) := by decide +kernel
theorem d8_67 : decode prog_214_method_4_code 67 = .ok (.dup, 1) := by decide +kernel
theorem d8_68 : decode prog_214_method_4_code 68 = .ok (.getfield 22, 3) := by decide +kernel
theorem d8_71 : decode prog_214_method_4_code 71 = .ok (.aload_n 0, 1) := by decide +kernel
theorem d8_72 : decode prog_214_method_4_code 72 = .ok (.getfield 43, 3) := by decide +kernel
theorem d8_75 : decode prog_214_method_4_code 75 = .ok (.ifCond .eq 19, 3) := by decide +kernel
theorem d8_78 : decode prog_214_method_4_code 78 = .ok (.aload_n 0, 1) := by decide +kernel
theorem d8_79 : decode prog_214_method_4_code 79 = .ok (.getfield 7, 3) := by decide +kernel
theorem d8_82 : decode prog_214_method_4_code 82 = .ok (.aload_n 0, 1) := by decide +kernel
theorem d8_83 : decode prog_214_method_4_code 83 = .ok (.getfield 43, 3) := by decide +kernel
theorem d8_86 : decode prog_214_method_4_code 86 = .ok (.iconst 1, 1) := by decide +kernel
theorem d8_87 : decode prog_214_method_4_code 87 = .ok (.isub, 1) := by decide +kernel
theorem d8_88 : decode prog_214_method_4_code 88 = .ok (.laload, 1) := by decide +kernel
theorem d8_89 : decode prog_214_method_4_code 89 = .ok (.lload_n 1, 1) := by decide +kernel
theorem d8_90 : decode prog_214_method_4_code 90 = .ok (.lcmp, 1) := by decide +kernel
theorem d8_91 : decode prog_214_method_4_code 91 = .ok (.ifCond .gt 7, 3) := by decide +kernel
theorem d8_94 : decode prog_214_method_4_code 94 = .ok (.iconst 1, 1) := by decide +kernel
theorem d8_95 : decode prog_214_method_4_code 95 = .ok (.goto 4, 3) := by decide +kernel
theorem d8_98 : decode prog_214_method_4_code 98 = .ok (.iconst 0, 1) := by decide +kernel
theorem d8_99 : decode prog_214_method_4_code 99 = .ok (.iand, 1) := by decide +kernel
theorem d8_100 : decode prog_214_method_4_code 100 = .ok (.putfield 22, 3) := by decide +kernel
theorem d8_103 : decode prog_214_method_4_code 103 = .ok (.aload_n 0, 1) := by decide +kernel
theorem d8_104 : decode prog_214_method_4_code 104 = .ok (.getfield 7, 3) := by decide +kernel
theorem d8_107 : decode prog_214_method_4_code 107 = .ok (.aload_n 0, 1) := by decide +kernel
theorem d8_108 : decode prog_214_method_4_code 108 = .ok (.getfield 43, 3) := by decide +kernel
theorem d8_111 : decode prog_214_method_4_code 111 = .ok (.lload_n 1, 1) := by decide +kernel
theorem d8_112 : decode prog_214_method_4_code 112 = .ok (.lastore, 1) := by decide +kernel
theorem d8_113 : decode prog_214_method_4_code 113 = .ok (.aload_n 0, 1) := by decide +kernel
theorem d8_114 : decode prog_214_method_4_code 114 = .ok (.getfield 13, 3) := by decide +kernel
theorem d8_117 : decode prog_214_method_4_code 117 = .ok (.aload_n 0, 1) := by decide +kernel
theorem d8_118 : decode prog_214_method_4_code 118 = .ok (.getfield 43, 3) := by decide +kernel
theorem d8_121 : decode prog_214_method_4_code 121 = .ok (.lload_n 3, 1) := by decide +kernel
theorem d8_122 : decode prog_214_method_4_code 122 = .ok (.lastore, 1) := by decide +kernel
theorem d8_123 : decode prog_214_method_4_code 123 = .ok (.aload_n 0, 1) := by decide +kernel
theorem d8_124 : decode prog_214_method_4_code 124 = .ok (.getfield 18, 3) := by decide +kernel
theorem d8_127 : decode prog_214_method_4_code 127 = .ok (.aload_n 0, 1) := by decide +kernel
theorem d8_128 : decode prog_214_method_4_code 128 = .ok (.getfield 43, 3) := by decide +kernel
theorem d8_131 : decode prog_214_method_4_code 131 = .ok (.aload 5, 2) := by decide +kernel
theorem d8_133 : decode prog_214_method_4_code 133 = .ok (.aastore, 1) := by decide +kernel
theorem d8_134 : decode prog_214_method_4_code 134 = .ok (.aload_n 0, 1) := by decide +kernel
theorem d8_135 : decode prog_214_method_4_code 135 = .ok (.dup, 1) := by decide +kernel
theorem d8_136 : decode prog_214_method_4_code 136 = .ok (.getfield 43, 3) := by decide +kernel
theorem d8_139 : decode prog_214_method_4_code 139 = .ok (.iconst 1, 1) := by decide +kernel
theorem d8_140 : decode prog_214_method_4_code 140 = .ok (.iadd, 1) := by decide +kernel
theorem d8_141 : decode prog_214_method_4_code 141 = .ok (.putfield 43, 3) := by decide +kernel
theorem d8_144 : decode prog_214_method_4_code 144 = .ok (.return_, 1) := by decide +kernel
theorem pn_8 : plainName "com/example/gangplank/gangplank/space/HeldFromNow" = true := by first | (simp [plainName, overriddenIn]; done) | decide +kernel
theorem pd_8 : parseMethodDescriptor "(JJLcom/example/gangplank/gangplank/workload/Job;)V" = some ⟨[.long, .long, (.object "com/example/gangplank/gangplank/workload/Job")], none⟩ := by decide +kernel
theorem ef_8 (m : MethodId) (x0 : Addr) (x1 : Int64) (x2 : Int64) (x3 : Addr) : entryFrame m #[(.ref x0), (.long x1), (.long x2), (.ref x3)] 6 = mkF m 0 #[.val (.ref x0), .val (.long x1), .second, .val (.long x2), .second, .val (.ref x3)] [] := by first | (simp [entryFrame, mkF, argsToLocals, Value.category]; done) | rfl
theorem d9_0 : decode prog_214_method_5_code 0 = .ok (.aload_n 0, 1) := by decide +kernel
theorem d9_1 : decode prog_214_method_5_code 1 = .ok (.invokevirtual 57, 3) := by decide +kernel
theorem d9_4 : decode prog_214_method_5_code 4 = .ok (.aload_n 0, 1) := by decide +kernel
theorem d9_5 : decode prog_214_method_5_code 5 = .ok (.lconst 0, 1) := by decide +kernel
theorem d9_6 : decode prog_214_method_5_code 6 = .ok (.putfield 60, 3) := by decide +kernel
theorem d9_9 : decode prog_214_method_5_code 9 = .ok (.aload_n 0, 1) := by decide +kernel
theorem d9_10 : decode prog_214_method_5_code 10 = .ok (.iconst 0, 1) := by decide +kernel
theorem d9_11 : decode prog_214_method_5_code 11 = .ok (.putfield 63, 3) := by decide +kernel
theorem d9_14 : decode prog_214_method_5_code 14 = .ok (.iconst 0, 1) := by decide +kernel
theorem d9_15 : decode prog_214_method_5_code 15 = .ok (.istore_n 1, 1) := by decide +kernel
theorem d9_16 : decode prog_214_method_5_code 16 = .ok (.iload_n 1, 1) := by decide +kernel
theorem d9_17 : decode prog_214_method_5_code 17 = .ok (.aload_n 0, 1) := by decide +kernel
theorem d9_18 : decode prog_214_method_5_code 18 = .ok (.getfield 43, 3) := by decide +kernel
theorem d9_21 : decode prog_214_method_5_code 21 = .ok (.if_icmp .ge 153, 3) := by decide +kernel
theorem d9_24 : decode prog_214_method_5_code 24 = .ok (.aload_n 0, 1) := by decide +kernel
theorem d9_25 : decode prog_214_method_5_code 25 = .ok (.getfield 13, 3) := by decide +kernel
theorem d9_28 : decode prog_214_method_5_code 28 = .ok (.iload_n 1, 1) := by decide +kernel
theorem d9_29 : decode prog_214_method_5_code 29 = .ok (.laload, 1) := by decide +kernel
theorem d9_30 : decode prog_214_method_5_code 30 = .ok (.lconst 0, 1) := by decide +kernel
theorem d9_31 : decode prog_214_method_5_code 31 = .ok (.lcmp, 1) := by decide +kernel
theorem d9_32 : decode prog_214_method_5_code 32 = .ok (.ifCond .le 136, 3) := by decide +kernel
theorem d9_35 : decode prog_214_method_5_code 35 = .ok (.aload_n 0, 1) := by decide +kernel
theorem d9_36 : decode prog_214_method_5_code 36 = .ok (.dup, 1) := by decide +kernel
theorem d9_37 : decode prog_214_method_5_code 37 = .ok (.getfield 60, 3) := by decide +kernel
theorem d9_40 : decode prog_214_method_5_code 40 = .ok (.aload_n 0, 1) := by decide +kernel
theorem d9_41 : decode prog_214_method_5_code 41 = .ok (.getfield 13, 3) := by decide +kernel
theorem d9_44 : decode prog_214_method_5_code 44 = .ok (.iload_n 1, 1) := by decide +kernel
theorem d9_45 : decode prog_214_method_5_code 45 = .ok (.laload, 1) := by decide +kernel
theorem d9_46 : decode prog_214_method_5_code 46 = .ok (.ladd, 1) := by decide +kernel
theorem d9_47 : decode prog_214_method_5_code 47 = .ok (.putfield 60, 3) := by decide +kernel
theorem d9_50 : decode prog_214_method_5_code 50 = .ok (.aload_n 0, 1) := by decide +kernel
theorem d9_51 : decode prog_214_method_5_code 51 = .ok (.getfield 63, 3) := by decide +kernel
theorem d9_54 : decode prog_214_method_5_code 54 = .ok (.aload_n 0, 1) := by decide +kernel
theorem d9_55 : decode prog_214_method_5_code 55 = .ok (.getfield 26, 3) := by decide +kernel
theorem d9_58 : decode prog_214_method_5_code 58 = .ok (.arraylength, 1) := by decide +kernel
theorem d9_59 : decode prog_214_method_5_code 59 = .ok (.if_icmp .ne 37, 3) := by decide +kernel
theorem d9_62 : decode prog_214_method_5_code 62 = .ok (.aload_n 0, 1) := by decide +kernel
theorem d9_63 : decode prog_214_method_5_code 63 = .ok (.aload_n 0, 1) := by decide +kernel
theorem d9_64 : decode prog_214_method_5_code 64 = .ok (.getfield 26, 3) := by decide +kernel
theorem d9_67 : decode prog_214_method_5_code 67 = .ok (.iconst 2, 1) := by decide +kernel
theorem d9_68 : decode prog_214_method_5_code 68 = .ok (.aload_n 0, 1) := by decide +kernel
theorem d9_69 : decode prog_214_method_5_code 69 = .ok (.getfield 63, 3) := by decide +kernel
theorem d9_72 : decode prog_214_method_5_code 72 = .ok (.imul, 1) := by decide +kernel
theorem d9_73 : decode prog_214_method_5_code 73 = .ok (.invokestatic 47, 3) := by decide +kernel
theorem d9_76 : decode prog_214_method_5_code 76 = .ok (.putfield 26, 3) := by decide +kernel
theorem d9_79 : decode prog_214_method_5_code 79 = .ok (.aload_n 0, 1) := by decide +kernel
theorem d9_80 : decode prog_214_method_5_code 80 = .ok (.aload_n 0, 1) := by decide +kernel
theorem d9_81 : decode prog_214_method_5_code 81 = .ok (.getfield 29, 3) := by decide +kernel
theorem d9_84 : decode prog_214_method_5_code 84 = .ok (.iconst 2, 1) := by decide +kernel
theorem d9_85 : decode prog_214_method_5_code 85 = .ok (.aload_n 0, 1) := by decide +kernel
theorem d9_86 : decode prog_214_method_5_code 86 = .ok (.getfield 63, 3) := by decide +kernel
theorem d9_89 : decode prog_214_method_5_code 89 = .ok (.imul, 1) := by decide +kernel
theorem d9_90 : decode prog_214_method_5_code 90 = .ok (.invokestatic 47, 3) := by decide +kernel
theorem d9_93 : decode prog_214_method_5_code 93 = .ok (.putfield 29, 3) := by decide +kernel
theorem d9_96 : decode prog_214_method_5_code 96 = .ok (.aload_n 0, 1) := by decide +kernel
theorem d9_97 : decode prog_214_method_5_code 97 = .ok (.getfield 26, 3) := by decide +kernel
theorem d9_100 : decode prog_214_method_5_code 100 = .ok (.aload_n 0, 1) := by decide +kernel
theorem d9_101 : decode prog_214_method_5_code 101 = .ok (.getfield 29, 3) := by decide +kernel
theorem d9_104 : decode prog_214_method_5_code 104 = .ok (.aload_n 0, 1) := by decide +kernel
theorem d9_105 : decode prog_214_method_5_code 105 = .ok (.getfield 63, 3) := by decide +kernel
theorem d9_108 : decode prog_214_method_5_code 108 = .ok (.aload_n 0, 1) := by decide +kernel
theorem d9_109 : decode prog_214_method_5_code 109 = .ok (.getfield 7, 3) := by decide +kernel
theorem d9_112 : decode prog_214_method_5_code 112 = .ok (.iload_n 1, 1) := by decide +kernel
theorem d9_113 : decode prog_214_method_5_code 113 = .ok (.laload, 1) := by decide +kernel
theorem d9_114 : decode prog_214_method_5_code 114 = .ok (.aload_n 0, 1) := by decide +kernel
theorem d9_115 : decode prog_214_method_5_code 115 = .ok (.getfield 13, 3) := by decide +kernel
theorem d9_118 : decode prog_214_method_5_code 118 = .ok (.iload_n 1, 1) := by decide +kernel
theorem d9_119 : decode prog_214_method_5_code 119 = .ok (.laload, 1) := by decide +kernel
theorem d9_120 : decode prog_214_method_5_code 120 = .ok (.invokestatic 66, 3) := by decide +kernel
theorem d9_123 : decode prog_214_method_5_code 123 = .ok (.aload_n 0, 1) := by decide +kernel
theorem d9_124 : decode prog_214_method_5_code 124 = .ok (.aload_n 0, 1) := by decide +kernel
theorem d9_125 : decode prog_214_method_5_code 125 = .ok (.getfield 63, 3) := by decide +kernel
theorem d9_128 : decode prog_214_method_5_code 128 = .ok (.ifCond .le 31, 3) := by decide +kernel
theorem d9_131 : decode prog_214_method_5_code 131 = .ok (.aload_n 0, 1) := by decide +kernel
theorem d9_132 : decode prog_214_method_5_code 132 = .ok (.getfield 26, 3) := by decide +kernel
theorem d9_135 : decode prog_214_method_5_code 135 = .ok (.aload_n 0, 1) := by decide +kernel
theorem d9_136 : decode prog_214_method_5_code 136 = .ok (.getfield 63, 3) := by decide +kernel
theorem d9_139 : decode prog_214_method_5_code 139 = .ok (.iconst 1, 1) := by decide +kernel
theorem d9_140 : decode prog_214_method_5_code 140 = .ok (.isub, 1) := by decide +kernel
theorem d9_141 : decode prog_214_method_5_code 141 = .ok (.laload, 1) := by decide +kernel
theorem d9_142 : decode prog_214_method_5_code 142 = .ok (.aload_n 0, 1) := by decide +kernel
theorem d9_143 : decode prog_214_method_5_code 143 = .ok (.getfield 7, 3) := by decide +kernel
theorem d9_146 : decode prog_214_method_5_code 146 = .ok (.iload_n 1, 1) := by decide +kernel
theorem d9_147 : decode prog_214_method_5_code 147 = .ok (.laload, 1) := by decide +kernel
theorem d9_148 : decode prog_214_method_5_code 148 = .ok (.lcmp, 1) := by decide +kernel
theorem d9_149 : decode prog_214_method_5_code 149 = .ok (.ifCond .ne 10, 3) := by decide +kernel
theorem d9_152 : decode prog_214_method_5_code 152 = .ok (.aload_n 0, 1) := by decide +kernel
theorem d9_153 : decode prog_214_method_5_code 153 = .ok (.getfield 63, 3) := by decide +kernel
theorem d9_156 : decode prog_214_method_5_code 156 = .ok (.goto 9, 3) := by decide +kernel
theorem d9_159 : decode prog_214_method_5_code 159 = .ok (.aload_n 0, 1) := by decide +kernel
theorem d9_160 : decode prog_214_method_5_code 160 = .ok (.getfield 63, 3) := by decide +kernel
theorem d9_163 : decode prog_214_method_5_code 163 = .ok (.iconst 1, 1) := by decide +kernel
theorem d9_164 : decode prog_214_method_5_code 164 = .ok (.iadd, 1) := by decide +kernel
theorem d9_165 : decode prog_214_method_5_code 165 = .ok (.putfield 63, 3) := by decide +kernel
theorem d9_168 : decode prog_214_method_5_code 168 = .ok (.iinc 1 1, 3) := by decide +kernel
theorem d9_171 : decode prog_214_method_5_code 171 = .ok (.goto (-155), 3) := by decide +kernel
theorem d9_174 : decode prog_214_method_5_code 174 = .ok (.aload_n 0, 1) := by decide +kernel
theorem d9_175 : decode prog_214_method_5_code 175 = .ok (.getfield 26, 3) := by decide +kernel
theorem d9_178 : decode prog_214_method_5_code 178 = .ok (.aload_n 0, 1) := by decide +kernel
theorem d9_179 : decode prog_214_method_5_code 179 = .ok (.getfield 29, 3) := by decide +kernel
theorem d9_182 : decode prog_214_method_5_code 182 = .ok (.aload_n 0, 1) := by decide +kernel
theorem d9_183 : decode prog_214_method_5_code 183 = .ok (.getfield 63, 3) := by decide +kernel
theorem d9_186 : decode prog_214_method_5_code 186 = .ok (.aload_n 0, 1) := by decide +kernel
theorem d9_187 : decode prog_214_method_5_code 187 = .ok (.getfield 60, 3) := by decide +kernel
theorem d9_190 : decode prog_214_method_5_code 190 = .ok (.invokestatic 70, 3) := by decide +kernel
theorem d9_193 : decode prog_214_method_5_code 193 = .ok (.aload_n 0, 1) := by decide +kernel
theorem d9_194 : decode prog_214_method_5_code 194 = .ok (.invokevirtual 74, 3) := by decide +kernel
theorem d9_197 : decode prog_214_method_5_code 197 = .ok (.aload_n 0, 1) := by decide +kernel
theorem d9_198 : decode prog_214_method_5_code 198 = .ok (.areturn, 1) := by decide +kernel
theorem pn_9 : plainName "com/example/gangplank/gangplank/space/HeldFromNow" = true := by first | (simp [plainName, overriddenIn]; done) | decide +kernel
theorem pd_9 : parseMethodDescriptor "()Lcom/example/gangplank/gangplank/space/HeldFromNow;" = some ⟨[], some (.object "com/example/gangplank/gangplank/space/HeldFromNow")⟩ := by decide +kernel
theorem ef_9 (m : MethodId) (x0 : Addr) : entryFrame m #[(.ref x0)] 2 = mkF m 0 #[.val (.ref x0), .unset] [] := by first | (simp [entryFrame, mkF, argsToLocals, Value.category]; done) | rfl
theorem d10_0 : decode prog_214_method_12_code 0 = .ok (.iconst 1, 1) := by decide +kernel
theorem d10_1 : decode prog_214_method_12_code 1 = .ok (.istore_n 1, 1) := by decide +kernel
theorem d10_2 : decode prog_214_method_12_code 2 = .ok (.aload_n 0, 1) := by decide +kernel
theorem d10_3 : decode prog_214_method_12_code 3 = .ok (.getfield 22, 3) := by decide +kernel
theorem d10_6 : decode prog_214_method_12_code 6 = .ok (.ifCond .ne 142, 3) := by decide +kernel
theorem d10_9 : decode prog_214_method_12_code 9 = .ok (.iload_n 1, 1) := by decide +kernel
theorem d10_10 : decode prog_214_method_12_code 10 = .ok (.aload_n 0, 1) := by decide +kernel
theorem d10_11 : decode prog_214_method_12_code 11 = .ok (.getfield 43, 3) := by decide +kernel
theorem d10_14 : decode prog_214_method_12_code 14 = .ok (.if_icmp .ge 134, 3) := by decide +kernel
theorem d10_17 : decode prog_214_method_12_code 17 = .ok (.aload_n 0, 1) := by decide +kernel
theorem d10_18 : decode prog_214_method_12_code 18 = .ok (.getfield 7, 3) := by decide +kernel
theorem d10_21 : decode prog_214_method_12_code 21 = .ok (.iload_n 1, 1) := by decide +kernel
theorem d10_22 : decode prog_214_method_12_code 22 = .ok (.laload, 1) := by decide +kernel
theorem d10_23 : decode prog_214_method_12_code 23 = .ok (.lstore_n 2, 1) := by decide +kernel
theorem d10_24 : decode prog_214_method_12_code 24 = .ok (.aload_n 0, 1) := by decide +kernel
theorem d10_25 : decode prog_214_method_12_code 25 = .ok (.getfield 13, 3) := by decide +kernel
theorem d10_28 : decode prog_214_method_12_code 28 = .ok (.iload_n 1, 1) := by decide +kernel
theorem d10_29 : decode prog_214_method_12_code 29 = .ok (.laload, 1) := by decide +kernel
theorem d10_30 : decode prog_214_method_12_code 30 = .ok (.lstore 4, 2) := by decide +kernel
theorem d10_32 : decode prog_214_method_12_code 32 = .ok (.aload_n 0, 1) := by decide +kernel
theorem d10_33 : decode prog_214_method_12_code 33 = .ok (.getfield 18, 3) := by decide +kernel
theorem d10_36 : decode prog_214_method_12_code 36 = .ok (.iload_n 1, 1) := by decide +kernel
theorem d10_37 : decode prog_214_method_12_code 37 = .ok (.aaload, 1) := by decide +kernel
theorem d10_38 : decode prog_214_method_12_code 38 = .ok (.astore 6, 2) := by decide +kernel
theorem d10_40 : decode prog_214_method_12_code 40 = .ok (.iload_n 1, 1) := by decide +kernel
theorem d10_41 : decode prog_214_method_12_code 41 = .ok (.istore 7, 2) := by decide +kernel
theorem d10_43 : decode prog_214_method_12_code 43 = .ok (.iload 7, 2) := by decide +kernel
theorem d10_45 : decode prog_214_method_12_code 45 = .ok (.ifCond .le 71, 3) := by decide +kernel
theorem d10_48 : decode prog_214_method_12_code 48 = .ok (.aload_n 0, 1) := by decide +kernel
theorem d10_49 : decode prog_214_method_12_code 49 = .ok (.getfield 7, 3) := by decide +kernel
theorem d10_52 : decode prog_214_method_12_code 52 = .ok (.iload 7, 2) := by decide +kernel
theorem d10_54 : decode prog_214_method_12_code 54 = .ok (.iconst 1, 1) := by decide +kernel
theorem d10_55 : decode prog_214_method_12_code 55 = .ok (.isub, 1) := by decide +kernel
theorem d10_56 : decode prog_214_method_12_code 56 = .ok (.laload, 1) := by decide +kernel
theorem d10_57 : decode prog_214_method_12_code 57 = .ok (.lload_n 2, 1) := by decide +kernel
theorem d10_58 : decode prog_214_method_12_code 58 = .ok (.lcmp, 1) := by decide +kernel
theorem d10_59 : decode prog_214_method_12_code 59 = .ok (.ifCond .le 57, 3) := by decide +kernel
theorem d10_62 : decode prog_214_method_12_code 62 = .ok (.aload_n 0, 1) := by decide +kernel
theorem d10_63 : decode prog_214_method_12_code 63 = .ok (.getfield 7, 3) := by decide +kernel
theorem d10_66 : decode prog_214_method_12_code 66 = .ok (.iload 7, 2) := by decide +kernel
theorem d10_68 : decode prog_214_method_12_code 68 = .ok (.aload_n 0, 1) := by decide +kernel
theorem d10_69 : decode prog_214_method_12_code 69 = .ok (.getfield 7, 3) := by decide +kernel
theorem d10_72 : decode prog_214_method_12_code 72 = .ok (.iload 7, 2) := by decide +kernel
theorem d10_74 : decode prog_214_method_12_code 74 = .ok (.iconst 1, 1) := by decide +kernel
theorem d10_75 : decode prog_214_method_12_code 75 = .ok (.isub, 1) := by decide +kernel
theorem d10_76 : decode prog_214_method_12_code 76 = .ok (.laload, 1) := by decide +kernel
theorem d10_77 : decode prog_214_method_12_code 77 = .ok (.lastore, 1) := by decide +kernel
theorem d10_78 : decode prog_214_method_12_code 78 = .ok (.aload_n 0, 1) := by decide +kernel
theorem d10_79 : decode prog_214_method_12_code 79 = .ok (.getfield 13, 3) := by decide +kernel
theorem d10_82 : decode prog_214_method_12_code 82 = .ok (.iload 7, 2) := by decide +kernel
theorem d10_84 : decode prog_214_method_12_code 84 = .ok (.aload_n 0, 1) := by decide +kernel
theorem d10_85 : decode prog_214_method_12_code 85 = .ok (.getfield 13, 3) := by decide +kernel
theorem d10_88 : decode prog_214_method_12_code 88 = .ok (.iload 7, 2) := by decide +kernel
theorem d10_90 : decode prog_214_method_12_code 90 = .ok (.iconst 1, 1) := by decide +kernel
theorem d10_91 : decode prog_214_method_12_code 91 = .ok (.isub, 1) := by decide +kernel
theorem d10_92 : decode prog_214_method_12_code 92 = .ok (.laload, 1) := by decide +kernel
theorem d10_93 : decode prog_214_method_12_code 93 = .ok (.lastore, 1) := by decide +kernel
theorem d10_94 : decode prog_214_method_12_code 94 = .ok (.aload_n 0, 1) := by decide +kernel
theorem d10_95 : decode prog_214_method_12_code 95 = .ok (.getfield 18, 3) := by decide +kernel
theorem d10_98 : decode prog_214_method_12_code 98 = .ok (.iload 7, 2) := by decide +kernel
theorem d10_100 : decode prog_214_method_12_code 100 = .ok (.aload_n 0, 1) := by decide +kernel
theorem d10_101 : decode prog_214_method_12_code 101 = .ok (.getfield 18, 3) := by decide +kernel
theorem d10_104 : decode prog_214_method_12_code 104 = .ok (.iload 7, 2) := by decide +kernel
theorem d10_106 : decode prog_214_method_12_code 106 = .ok (.iconst 1, 1) := by decide +kernel
theorem d10_107 : decode prog_214_method_12_code 107 = .ok (.isub, 1) := by decide +kernel
theorem d10_108 : decode prog_214_method_12_code 108 = .ok (.aaload, 1) := by decide +kernel
theorem d10_109 : decode prog_214_method_12_code 109 = .ok (.aastore, 1) := by decide +kernel
theorem d10_110 : decode prog_214_method_12_code 110 = .ok (.iinc 7 (-1), 3) := by decide +kernel
theorem d10_113 : decode prog_214_method_12_code 113 = .ok (.goto (-70), 3) := by decide +kernel
theorem d10_116 : decode prog_214_method_12_code 116 = .ok (.aload_n 0, 1) := by decide +kernel
theorem d10_117 : decode prog_214_method_12_code 117 = .ok (.getfield 7, 3) := by decide +kernel
theorem d10_120 : decode prog_214_method_12_code 120 = .ok (.iload 7, 2) := by decide +kernel
theorem d10_122 : decode prog_214_method_12_code 122 = .ok (.lload_n 2, 1) := by decide +kernel
theorem d10_123 : decode prog_214_method_12_code 123 = .ok (.lastore, 1) := by decide +kernel
theorem d10_124 : decode prog_214_method_12_code 124 = .ok (.aload_n 0, 1) := by decide +kernel
theorem d10_125 : decode prog_214_method_12_code 125 = .ok (.getfield 13, 3) := by decide +kernel
theorem d10_128 : decode prog_214_method_12_code 128 = .ok (.iload 7, 2) := by decide +kernel
theorem d10_130 : decode prog_214_method_12_code 130 = .ok (.lload 4, 2) := by decide +kernel
theorem d10_132 : decode prog_214_method_12_code 132 = .ok (.lastore, 1) := by decide +kernel
theorem d10_133 : decode prog_214_method_12_code 133 = .ok (.aload_n 0, 1) := by decide +kernel
theorem d10_134 : decode prog_214_method_12_code 134 = .ok (.getfield 18, 3) := by decide +kernel
theorem d10_137 : decode prog_214_method_12_code 137 = .ok (.iload 7, 2) := by decide +kernel
theorem d10_139 : decode prog_214_method_12_code 139 = .ok (.aload 6, 2) := by decide +kernel
theorem d10_141 : decode prog_214_method_12_code 141 = .ok (.aastore, 1) := by decide +kernel
theorem d10_142 : decode prog_214_method_12_code 142 = .ok (.iinc 1 1, 3) := by decide +kernel
theorem d10_145 : decode prog_214_method_12_code 145 = .ok (.goto (-143), 3) := by decide +kernel
theorem d10_148 : decode prog_214_method_12_code 148 = .ok (.aload_n 0, 1) := by decide +kernel
theorem d10_149 : decode prog_214_method_12_code 149 = .ok (.iconst 1, 1) := by decide +kernel
theorem d10_150 : decode prog_214_method_12_code 150 = .ok (.putfield 22, 3) := by decide +kernel
theorem d10_153 : decode prog_214_method_12_code 153 = .ok (.return_, 1) := by decide +kernel
theorem pn_10 : plainName "com/example/gangplank/gangplank/space/HeldFromNow" = true := by first | (simp [plainName, overriddenIn]; done) | decide +kernel
theorem pd_10 : parseMethodDescriptor "()V" = some ⟨[], none⟩ := by decide +kernel
theorem ef_10 (m : MethodId) (x0 : Addr) : entryFrame m #[(.ref x0)] 8 = mkF m 0 #[.val (.ref x0), .unset, .unset, .unset, .unset, .unset, .unset, .unset] [] := by first | (simp [entryFrame, mkF, argsToLocals, Value.category]; done) | rfl
theorem d11_0 : decode prog_214_method_11_code 0 = .ok (.lconst 0, 1) := by decide +kernel
theorem d11_1 : decode prog_214_method_11_code 1 = .ok (.lstore 5, 2) := by decide +kernel
theorem d11_3 : decode prog_214_method_11_code 3 = .ok (.iconst 0, 1) := by decide +kernel
theorem d11_4 : decode prog_214_method_11_code 4 = .ok (.istore 7, 2) := by decide +kernel
theorem d11_6 : decode prog_214_method_11_code 6 = .ok (.iload 7, 2) := by decide +kernel
theorem d11_8 : decode prog_214_method_11_code 8 = .ok (.iload_n 2, 1) := by decide +kernel
theorem d11_9 : decode prog_214_method_11_code 9 = .ok (.if_icmp .ge 26, 3) := by decide +kernel
theorem d11_12 : decode prog_214_method_11_code 12 = .ok (.lload 5, 2) := by decide +kernel
theorem d11_14 : decode prog_214_method_11_code 14 = .ok (.aload_n 1, 1) := by decide +kernel
theorem d11_15 : decode prog_214_method_11_code 15 = .ok (.iload 7, 2) := by decide +kernel
theorem d11_17 : decode prog_214_method_11_code 17 = .ok (.laload, 1) := by decide +kernel
theorem d11_18 : decode prog_214_method_11_code 18 = .ok (.ladd, 1) := by decide +kernel
theorem d11_19 : decode prog_214_method_11_code 19 = .ok (.lstore 5, 2) := by decide +kernel
theorem d11_21 : decode prog_214_method_11_code 21 = .ok (.aload_n 1, 1) := by decide +kernel
theorem d11_22 : decode prog_214_method_11_code 22 = .ok (.iload 7, 2) := by decide +kernel
theorem d11_24 : decode prog_214_method_11_code 24 = .ok (.lload_n 3, 1) := by decide +kernel
theorem d11_25 : decode prog_214_method_11_code 25 = .ok (.lload 5, 2) := by decide +kernel
theorem d11_27 : decode prog_214_method_11_code 27 = .ok (.lsub, 1) := by decide +kernel
theorem d11_28 : decode prog_214_method_11_code 28 = .ok (.lastore, 1) := by decide +kernel
theorem d11_29 : decode prog_214_method_11_code 29 = .ok (.iinc 7 1, 3) := by decide +kernel
theorem d11_32 : decode prog_214_method_11_code 32 = .ok (.goto (-26), 3) := by decide +kernel
theorem d11_35 : decode prog_214_method_11_code 35 = .ok (.return_, 1) := by decide +kernel
theorem pn_11 : plainName "com/example/gangplank/gangplank/space/HeldFromNow" = true := by first | (simp [plainName, overriddenIn]; done) | decide +kernel
theorem pd_11 : parseMethodDescriptor "([J[JIJ)V" = some ⟨[(.array .long), (.array .long), .int, .long], none⟩ := by decide +kernel
theorem ef_11 (m : MethodId) (x0 : Addr) (x1 : Addr) (x2 : Int32) (x3 : Int64) : entryFrame m #[(.ref x0), (.ref x1), (.int x2), (.long x3)] 8 = mkF m 0 #[.val (.ref x0), .val (.ref x1), .val (.int x2), .val (.long x3), .second, .unset, .unset, .unset] [] := by first | (simp [entryFrame, mkF, argsToLocals, Value.category]; done) | rfl
theorem d12_0 : decode prog_214_method_6_code 0 = .ok (.iconst 4, 1) := by decide +kernel
theorem d12_1 : decode prog_214_method_6_code 1 = .ok (.aload_n 0, 1) := by decide +kernel
theorem d12_2 : decode prog_214_method_6_code 2 = .ok (.getfield 43, 3) := by decide +kernel
theorem d12_5 : decode prog_214_method_6_code 5 = .ok (.invokestatic 77, 3) := by decide +kernel
theorem d12_8 : decode prog_214_method_6_code 8 = .ok (.invokestatic 83, 3) := by decide +kernel
theorem d12_11 : decode prog_214_method_6_code 11 = .ok (.iconst 2, 1) := by decide +kernel
theorem d12_12 : decode prog_214_method_6_code 12 = .ok (.ishl, 1) := by decide +kernel
theorem d12_13 : decode prog_214_method_6_code 13 = .ok (.istore_n 1, 1) := by decide +kernel
theorem d12_14 : decode prog_214_method_6_code 14 = .ok (.aload_n 0, 1) := by decide +kernel
theorem d12_15 : decode prog_214_method_6_code 15 = .ok (.getfield 32, 3) := by decide +kernel
theorem d12_18 : decode prog_214_method_6_code 18 = .ok (.arraylength, 1) := by decide +kernel
theorem d12_19 : decode prog_214_method_6_code 19 = .ok (.iload_n 1, 1) := by decide +kernel
theorem d12_20 : decode prog_214_method_6_code 20 = .ok (.if_icmp .ge 17, 3) := by decide +kernel
theorem d12_23 : decode prog_214_method_6_code 23 = .ok (.aload_n 0, 1) := by decide +kernel
theorem d12_24 : decode prog_214_method_6_code 24 = .ok (.iload_n 1, 1) := by decide +kernel
theorem d12_25 : decode prog_214_method_6_code 25 = .ok (.newarray .int, 2) := by decide +kernel
theorem d12_27 : decode prog_214_method_6_code 27 = .ok (.putfield 32, 3) := by decide +kernel
theorem d12_30 : decode prog_214_method_6_code 30 = .ok (.aload_n 0, 1) := by decide +kernel
theorem d12_31 : decode prog_214_method_6_code 31 = .ok (.iload_n 1, 1) := by decide +kernel
theorem d12_32 : decode prog_214_method_6_code 32 = .ok (.newarray .long, 2) := by decide +kernel
theorem d12_34 : decode prog_214_method_6_code 34 = .ok (.putfield 36, 3) := by decide +kernel
theorem d12_37 : decode prog_214_method_6_code 37 = .ok (.aload_n 0, 1) := by decide +kernel
theorem d12_38 : decode prog_214_method_6_code 38 = .ok (.iload_n 1, 1) := by decide +kernel
theorem d12_39 : decode prog_214_method_6_code 39 = .ok (.iconst 1, 1) := by decide +kernel
theorem d12_40 : decode prog_214_method_6_code 40 = .ok (.isub, 1) := by decide +kernel
theorem d12_41 : decode prog_214_method_6_code 41 = .ok (.putfield 89, 3) := by decide +kernel
theorem d12_44 : decode prog_214_method_6_code 44 = .ok (.aload_n 0, 1) := by decide +kernel
theorem d12_45 : decode prog_214_method_6_code 45 = .ok (.getfield 32, 3) := by decide +kernel
theorem d12_48 : decode prog_214_method_6_code 48 = .ok (.iconst 0, 1) := by decide +kernel
theorem d12_49 : decode prog_214_method_6_code 49 = .ok (.iload_n 1, 1) := by decide +kernel
theorem d12_50 : decode prog_214_method_6_code 50 = .ok (.iconst (-1), 1) := by decide +kernel
theorem d12_51 : decode prog_214_method_6_code 51 = .ok (.invokestatic 92, 3) := by decide +kernel
theorem d12_54 : decode prog_214_method_6_code 54 = .ok (.iconst 0, 1) := by decide +kernel
theorem d12_55 : decode prog_214_method_6_code 55 = .ok (.istore_n 2, 1) := by decide +kernel
theorem d12_56 : decode prog_214_method_6_code 56 = .ok (.iload_n 2, 1) := by decide +kernel
theorem d12_57 : decode prog_214_method_6_code 57 = .ok (.aload_n 0, 1) := by decide +kernel
theorem d12_58 : decode prog_214_method_6_code 58 = .ok (.getfield 43, 3) := by decide +kernel
theorem d12_61 : decode prog_214_method_6_code 61 = .ok (.if_icmp .ge 59, 3) := by decide +kernel
theorem d12_64 : decode prog_214_method_6_code 64 = .ok (.aload_n 0, 1) := by decide +kernel
theorem d12_65 : decode prog_214_method_6_code 65 = .ok (.aload_n 0, 1) := by decide +kernel
theorem d12_66 : decode prog_214_method_6_code 66 = .ok (.getfield 18, 3) := by decide +kernel
theorem d12_69 : decode prog_214_method_6_code 69 = .ok (.iload_n 2, 1) := by decide +kernel
theorem d12_70 : decode prog_214_method_6_code 70 = .ok (.aaload, 1) := by decide +kernel
theorem d12_71 : decode prog_214_method_6_code 71 = .ok (.invokevirtual 96, 3) := by decide +kernel
theorem d12_74 : decode prog_214_method_6_code 74 = .ok (.invokevirtual 100, 3) := by decide +kernel
theorem d12_77 : decode prog_214_method_6_code 77 = .ok (.istore_n 3, 1) := by decide +kernel
theorem d12_78 : decode prog_214_method_6_code 78 = .ok (.aload_n 0, 1) := by decide +kernel
theorem d12_79 : decode prog_214_method_6_code 79 = .ok (.getfield 32, 3) := by decide +kernel
theorem d12_82 : decode prog_214_method_6_code 82 = .ok (.iload_n 3, 1) := by decide +kernel
theorem d12_83 : decode prog_214_method_6_code 83 = .ok (.aload_n 0, 1) := by decide +kernel
theorem d12_84 : decode prog_214_method_6_code 84 = .ok (.getfield 18, 3) := by decide +kernel
theorem d12_87 : decode prog_214_method_6_code 87 = .ok (.iload_n 2, 1) := by decide +kernel
theorem d12_88 : decode prog_214_method_6_code 88 = .ok (.aaload, 1) := by decide +kernel
theorem d12_89 : decode prog_214_method_6_code 89 = .ok (.invokevirtual 96, 3) := by decide +kernel
theorem d12_92 : decode prog_214_method_6_code 92 = .ok (.iastore, 1) := by decide +kernel
theorem d12_93 : decode prog_214_method_6_code 93 = .ok (.aload_n 0, 1) := by decide +kernel
theorem d12_94 : decode prog_214_method_6_code 94 = .ok (.getfield 36, 3) := by decide +kernel
theorem d12_97 : decode prog_214_method_6_code 97 = .ok (.iload_n 3, 1) := by decide +kernel
theorem d12_98 : decode prog_214_method_6_code 98 = .ok (.aload_n 0, 1) := by decide +kernel
theorem d12_99 : decode prog_214_method_6_code 99 = .ok (.getfield 36, 3) := by decide +kernel
theorem d12_102 : decode prog_214_method_6_code 102 = .ok (.iload_n 3, 1) := by decide +kernel
theorem d12_103 : decode prog_214_method_6_code 103 = .ok (.laload, 1) := by decide +kernel
theorem d12_104 : decode prog_214_method_6_code 104 = .ok (.aload_n 0, 1) := by decide +kernel
theorem d12_105 : decode prog_214_method_6_code 105 = .ok (.getfield 7, 3) := by decide +kernel
theorem d12_108 : decode prog_214_method_6_code 108 = .ok (.iload_n 2, 1) := by decide +kernel
theorem d12_109 : decode prog_214_method_6_code 109 = .ok (.laload, 1) := by decide +kernel
theorem d12_110 : decode prog_214_method_6_code 110 = .ok (.invokestatic 103, 3) := by decide +kernel
theorem d12_113 : decode prog_214_method_6_code 113 = .ok (.lastore, 1) := by decide +kernel
theorem d12_114 : decode prog_214_method_6_code 114 = .ok (.iinc 2 1, 3) := by decide +kernel
theorem d12_117 : decode prog_214_method_6_code 117 = .ok (.goto (-61), 3) := by decide +kernel
theorem d12_120 : decode prog_214_method_6_code 120 = .ok (.return_, 1) := by decide +kernel
theorem pn_12 : plainName "com/example/gangplank/gangplank/space/HeldFromNow" = true := by first | (simp [plainName, overriddenIn]; done) | decide +kernel
theorem pd_12 : parseMethodDescriptor "()V" = some ⟨[], none⟩ := by decide +kernel
theorem ef_12 (m : MethodId) (x0 : Addr) : entryFrame m #[(.ref x0)] 4 = mkF m 0 #[.val (.ref x0), .unset, .unset, .unset] [] := by first | (simp [entryFrame, mkF, argsToLocals, Value.category]; done) | rfl
theorem d13_0 : decode jdk_29_method_65_code 0 = .ok (.iload_n 0, 1) := by decide +kernel
theorem d13_1 : decode jdk_29_method_65_code 1 = .ok (.iload_n 1, 1) := by decide +kernel
theorem d13_2 : decode jdk_29_method_65_code 2 = .ok (.if_icmp .lt 7, 3) := by decide +kernel
theorem d13_5 : decode jdk_29_method_65_code 5 = .ok (.iload_n 0, 1) := by decide +kernel
theorem d13_6 : decode jdk_29_method_65_code 6 = .ok (.goto 4, 3) := by decide +kernel
theorem d13_9 : decode jdk_29_method_65_code 9 = .ok (.iload_n 1, 1) := by decide +kernel
theorem d13_10 : decode jdk_29_method_65_code 10 = .ok (.ireturn, 1) := by decide +kernel
theorem pf_13 : plainFor (⟨"java/lang/Math", "max", "(II)I"⟩ : MethodName) = true := by decide +kernel
theorem pd_13 : parseMethodDescriptor "(II)I" = some ⟨[.int, .int], some .int⟩ := by decide +kernel
theorem ef_13 (m : MethodId) (x0 : Int32) (x1 : Int32) : entryFrame m #[(.int x0), (.int x1)] 2 = mkF m 0 #[.val (.int x0), .val (.int x1)] [] := by first | (simp [entryFrame, mkF, argsToLocals, Value.category]; done) | rfl
theorem d14_0 : decode jdk_33_method_45_code 0 = .ok (.iload_n 0, 1) := by decide +kernel
theorem d14_1 : decode jdk_33_method_45_code 1 = .ok (.ldc 127, 2) := by decide +kernel
theorem d14_3 : decode jdk_33_method_45_code 3 = .ok (.iload_n 0, 1) := by decide +kernel
theorem d14_4 : decode jdk_33_method_45_code 4 = .ok (.invokestatic 51, 3) := by decide +kernel
theorem d14_7 : decode jdk_33_method_45_code 7 = .ok (.iushr, 1) := by decide +kernel
theorem d14_8 : decode jdk_33_method_45_code 8 = .ok (.iand, 1) := by decide +kernel
theorem d14_9 : decode jdk_33_method_45_code 9 = .ok (.ireturn, 1) := by decide +kernel
theorem pn_14 : plainName "java/lang/Integer" = true := by first | (simp [plainName, overriddenIn]; done) | decide +kernel
theorem pd_14 : parseMethodDescriptor "(I)I" = some ⟨[.int], some .int⟩ := by decide +kernel
theorem ef_14 (m : MethodId) (x0 : Int32) : entryFrame m #[(.int x0)] 1 = mkF m 0 #[.val (.int x0)] [] := by first | (simp [entryFrame, mkF, argsToLocals, Value.category]; done) | rfl
theorem d15_0 : decode jdk_33_method_47_code 0 = .ok (.iload_n 0, 1) := by decide +kernel
theorem d15_1 : decode jdk_33_method_47_code 1 = .ok (.ifCond .gt 14, 3) := by decide +kernel
theorem d15_4 : decode jdk_33_method_47_code 4 = .ok (.iload_n 0, 1) := by decide +kernel
theorem d15_5 : decode jdk_33_method_47_code 5 = .ok (.ifCond .ne 8, 3) := by decide +kernel
theorem d15_8 : decode jdk_33_method_47_code 8 = .ok (.bipush 32, 2) := by decide +kernel
theorem d15_10 : decode jdk_33_method_47_code 10 = .ok (.goto 4, 3) := by decide +kernel
theorem d15_13 : decode jdk_33_method_47_code 13 = .ok (.iconst 0, 1) := by decide +kernel
theorem d15_14 : decode jdk_33_method_47_code 14 = .ok (.ireturn, 1) := by decide +kernel
theorem d15_15 : decode jdk_33_method_47_code 15 = .ok (.bipush 31, 2) := by decide +kernel
theorem d15_17 : decode jdk_33_method_47_code 17 = .ok (.istore_n 1, 1) := by decide +kernel
theorem d15_18 : decode jdk_33_method_47_code 18 = .ok (.iload_n 0, 1) := by decide +kernel
theorem d15_19 : decode jdk_33_method_47_code 19 = .ok (.ldc_w 264, 3) := by decide +kernel
theorem d15_22 : decode jdk_33_method_47_code 22 = .ok (.if_icmp .lt 11, 3) := by decide +kernel
theorem d15_25 : decode jdk_33_method_47_code 25 = .ok (.iinc 1 (-16), 3) := by decide +kernel
theorem d15_28 : decode jdk_33_method_47_code 28 = .ok (.iload_n 0, 1) := by decide +kernel
theorem d15_29 : decode jdk_33_method_47_code 29 = .ok (.bipush 16, 2) := by decide +kernel
theorem d15_31 : decode jdk_33_method_47_code 31 = .ok (.iushr, 1) := by decide +kernel
theorem d15_32 : decode jdk_33_method_47_code 32 = .ok (.istore_n 0, 1) := by decide +kernel
theorem d15_33 : decode jdk_33_method_47_code 33 = .ok (.iload_n 0, 1) := by decide +kernel
theorem d15_34 : decode jdk_33_method_47_code 34 = .ok (.sipush 256, 3) := by decide +kernel
theorem d15_37 : decode jdk_33_method_47_code 37 = .ok (.if_icmp .lt 11, 3) := by decide +kernel
theorem d15_40 : decode jdk_33_method_47_code 40 = .ok (.iinc 1 (-8), 3) := by decide +kernel
theorem d15_43 : decode jdk_33_method_47_code 43 = .ok (.iload_n 0, 1) := by decide +kernel
theorem d15_44 : decode jdk_33_method_47_code 44 = .ok (.bipush 8, 2) := by decide +kernel
theorem d15_46 : decode jdk_33_method_47_code 46 = .ok (.iushr, 1) := by decide +kernel
theorem d15_47 : decode jdk_33_method_47_code 47 = .ok (.istore_n 0, 1) := by decide +kernel
theorem d15_48 : decode jdk_33_method_47_code 48 = .ok (.iload_n 0, 1) := by decide +kernel
theorem d15_49 : decode jdk_33_method_47_code 49 = .ok (.bipush 16, 2) := by decide +kernel
theorem d15_51 : decode jdk_33_method_47_code 51 = .ok (.if_icmp .lt 10, 3) := by decide +kernel
theorem d15_54 : decode jdk_33_method_47_code 54 = .ok (.iinc 1 (-4), 3) := by decide +kernel
theorem d15_57 : decode jdk_33_method_47_code 57 = .ok (.iload_n 0, 1) := by decide +kernel
theorem d15_58 : decode jdk_33_method_47_code 58 = .ok (.iconst 4, 1) := by decide +kernel
theorem d15_59 : decode jdk_33_method_47_code 59 = .ok (.iushr, 1) := by decide +kernel
theorem d15_60 : decode jdk_33_method_47_code 60 = .ok (.istore_n 0, 1) := by decide +kernel
theorem d15_61 : decode jdk_33_method_47_code 61 = .ok (.iload_n 0, 1) := by decide +kernel
theorem d15_62 : decode jdk_33_method_47_code 62 = .ok (.iconst 4, 1) := by decide +kernel
theorem d15_63 : decode jdk_33_method_47_code 63 = .ok (.if_icmp .lt 10, 3) := by decide +kernel
theorem d15_66 : decode jdk_33_method_47_code 66 = .ok (.iinc 1 (-2), 3) := by decide +kernel
theorem d15_69 : decode jdk_33_method_47_code 69 = .ok (.iload_n 0, 1) := by decide +kernel
theorem d15_70 : decode jdk_33_method_47_code 70 = .ok (.iconst 2, 1) := by decide +kernel
theorem d15_71 : decode jdk_33_method_47_code 71 = .ok (.iushr, 1) := by decide +kernel
theorem d15_72 : decode jdk_33_method_47_code 72 = .ok (.istore_n 0, 1) := by decide +kernel
theorem d15_73 : decode jdk_33_method_47_code 73 = .ok (.iload_n 1, 1) := by decide +kernel
theorem d15_74 : decode jdk_33_method_47_code 74 = .ok (.iload_n 0, 1) := by decide +kernel
theorem d15_75 : decode jdk_33_method_47_code 75 = .ok (.iconst 1, 1) := by decide +kernel
theorem d15_76 : decode jdk_33_method_47_code 76 = .ok (.iushr, 1) := by decide +kernel
theorem d15_77 : decode jdk_33_method_47_code 77 = .ok (.isub, 1) := by decide +kernel
theorem d15_78 : decode jdk_33_method_47_code 78 = .ok (.ireturn, 1) := by decide +kernel
theorem pn_15 : plainName "java/lang/Integer" = true := by first | (simp [plainName, overriddenIn]; done) | decide +kernel
theorem pd_15 : parseMethodDescriptor "(I)I" = some ⟨[.int], some .int⟩ := by decide +kernel
theorem ef_15 (m : MethodId) (x0 : Int32) : entryFrame m #[(.int x0)] 2 = mkF m 0 #[.val (.int x0), .unset] [] := by first | (simp [entryFrame, mkF, argsToLocals, Value.category]; done) | rfl
theorem d16_0 : decode jdk_65_method_104_code 0 = .ok (.aload_n 0, 1) := by decide +kernel
theorem d16_1 : decode jdk_65_method_104_code 1 = .ok (.arraylength, 1) := by decide +kernel
theorem d16_2 : decode jdk_65_method_104_code 2 = .ok (.iload_n 1, 1) := by decide +kernel
theorem d16_3 : decode jdk_65_method_104_code 3 = .ok (.iload_n 2, 1) := by decide +kernel
theorem d16_4 : decode jdk_65_method_104_code 4 = .ok (.invokestatic 13, 3) := by decide +kernel
theorem d16_7 : decode jdk_65_method_104_code 7 = .ok (.iload_n 1, 1) := by decide +kernel
theorem d16_8 : decode jdk_65_method_104_code 8 = .ok (.istore 4, 2) := by decide +kernel
theorem d16_10 : decode jdk_65_method_104_code 10 = .ok (.iload 4, 2) := by decide +kernel
theorem d16_12 : decode jdk_65_method_104_code 12 = .ok (.iload_n 2, 1) := by decide +kernel
theorem d16_13 : decode jdk_65_method_104_code 13 = .ok (.if_icmp .ge 14, 3) := by decide +kernel
theorem d16_16 : decode jdk_65_method_104_code 16 = .ok (.aload_n 0, 1) := by decide +kernel
theorem d16_17 : decode jdk_65_method_104_code 17 = .ok (.iload 4, 2) := by decide +kernel
theorem d16_19 : decode jdk_65_method_104_code 19 = .ok (.iload_n 3, 1) := by decide +kernel
theorem d16_20 : decode jdk_65_method_104_code 20 = .ok (.iastore, 1) := by decide +kernel
theorem d16_21 : decode jdk_65_method_104_code 21 = .ok (.iinc 4 1, 3) := by decide +kernel
theorem d16_24 : decode jdk_65_method_104_code 24 = .ok (.goto (-14), 3) := by decide +kernel
theorem d16_27 : decode jdk_65_method_104_code 27 = .ok (.return_, 1) := by decide +kernel
theorem pn_16 : plainName "java/util/Arrays" = true := by first | (simp [plainName, overriddenIn]; done) | decide +kernel
theorem pd_16 : parseMethodDescriptor "([IIII)V" = some ⟨[(.array .int), .int, .int, .int], none⟩ := by decide +kernel
theorem ef_16 (m : MethodId) (x0 : Addr) (x1 : Int32) (x2 : Int32) (x3 : Int32) : entryFrame m #[(.ref x0), (.int x1), (.int x2), (.int x3)] 5 = mkF m 0 #[.val (.ref x0), .val (.int x1), .val (.int x2), .val (.int x3), .unset] [] := by first | (simp [entryFrame, mkF, argsToLocals, Value.category]; done) | rfl
theorem d17_0 : decode jdk_65_method_30_code 0 = .ok (.iload_n 1, 1) := by decide +kernel
theorem d17_1 : decode jdk_65_method_30_code 1 = .ok (.iload_n 2, 1) := by decide +kernel
theorem d17_2 : decode jdk_65_method_30_code 2 = .ok (.if_icmp .le 44, 3) := by decide +kernel
theorem d17_5 : decode jdk_65_method_30_code 5 = .ok (.new 43, 3) := by decide +kernel
theorem d17_8 : decode jdk_65_method_30_code 8 = .ok (.dup, 1) := by decide +kernel
theorem d17_9 : decode jdk_65_method_30_code 9 = .ok (.new 45, 3) := by decide +kernel
theorem d17_12 : decode jdk_65_method_30_code 12 = .ok (.dup, 1) := by decide +kernel
theorem d17_13 : decode jdk_65_method_30_code 13 = .ok (.invokespecial 47, 3) := by decide +kernel
theorem d17_16 : decode jdk_65_method_30_code 16 = .ok (.ldc 48, 2) := by decide +kernel
theorem d17_18 : decode jdk_65_method_30_code 18 = .ok (.invokevirtual 50, 3) := by decide +kernel
theorem d17_21 : decode jdk_65_method_30_code 21 = .ok (.iload_n 1, 1) := by decide +kernel
theorem d17_22 : decode jdk_65_method_30_code 22 = .ok (.invokevirtual 54, 3) := by decide +kernel
theorem d17_25 : decode jdk_65_method_30_code 25 = .ok (.ldc 57, 2) := by decide +kernel
theorem d17_27 : decode jdk_65_method_30_code 27 = .ok (.invokevirtual 50, 3) := by decide +kernel
theorem d17_30 : decode jdk_65_method_30_code 30 = .ok (.iload_n 2, 1) := by decide +kernel
theorem d17_31 : decode jdk_65_method_30_code 31 = .ok (.invokevirtual 54, 3) := by decide +kernel
theorem d17_34 : decode jdk_65_method_30_code 34 = .ok (.ldc 59, 2) := by decide +kernel
theorem d17_36 : decode jdk_65_method_30_code 36 = .ok (.invokevirtual 50, 3) := by decide +kernel
theorem d17_39 : decode jdk_65_method_30_code 39 = .ok (.invokevirtual 61, 3) := by decide +kernel
theorem d17_42 : decode jdk_65_method_30_code 42 = .ok (.invokespecial 65, 3) := by decide +kernel
theorem d17_45 : decode jdk_65_method_30_code 45 = .ok (.athrow, 1) := by decide +kernel
theorem d17_46 : decode jdk_65_method_30_code 46 = .ok (.iload_n 1, 1) := by decide +kernel
theorem d17_47 : decode jdk_65_method_30_code 47 = .ok (.ifCond .ge 12, 3) := by decide +kernel
theorem d17_50 : decode jdk_65_method_30_code 50 = .ok (.new 68, 3) := by decide +kernel
theorem d17_53 : decode jdk_65_method_30_code 53 = .ok (.dup, 1) := by decide +kernel
theorem d17_54 : decode jdk_65_method_30_code 54 = .ok (.iload_n 1, 1) := by decide +kernel
theorem d17_55 : decode jdk_65_method_30_code 55 = .ok (.invokespecial 70, 3) := by decide +kernel
theorem d17_58 : decode jdk_65_method_30_code 58 = .ok (.athrow, 1) := by decide +kernel
theorem d17_59 : decode jdk_65_method_30_code 59 = .ok (.iload_n 2, 1) := by decide +kernel
theorem d17_60 : decode jdk_65_method_30_code 60 = .ok (.iload_n 0, 1) := by decide +kernel
theorem d17_61 : decode jdk_65_method_30_code 61 = .ok (.if_icmp .le 12, 3) := by decide +kernel
theorem d17_64 : decode jdk_65_method_30_code 64 = .ok (.new 68, 3) := by decide +kernel
theorem d17_67 : decode jdk_65_method_30_code 67 = .ok (.dup, 1) := by decide +kernel
theorem d17_68 : decode jdk_65_method_30_code 68 = .ok (.iload_n 2, 1) := by decide +kernel
theorem d17_69 : decode jdk_65_method_30_code 69 = .ok (.invokespecial 70, 3) := by decide +kernel
theorem d17_72 : decode jdk_65_method_30_code 72 = .ok (.athrow, 1) := by decide +kernel
theorem d17_73 : decode jdk_65_method_30_code 73 = .ok (.return_, 1) := by decide +kernel
theorem pn_17 : plainName "java/util/Arrays" = true := by first | (simp [plainName, overriddenIn]; done) | decide +kernel
theorem pd_17 : parseMethodDescriptor "(III)V" = some ⟨[.int, .int, .int], none⟩ := by decide +kernel
theorem ef_17 (m : MethodId) (x0 : Int32) (x1 : Int32) (x2 : Int32) : entryFrame m #[(.int x0), (.int x1), (.int x2)] 3 = mkF m 0 #[.val (.int x0), .val (.int x1), .val (.int x2)] [] := by first | (simp [entryFrame, mkF, argsToLocals, Value.category]; done) | rfl
theorem d18_0 : decode prog_245_method_7_code 0 = .ok (.aload_n 0, 1) := by decide +kernel
theorem d18_1 : decode prog_245_method_7_code 1 = .ok (.getfield 7, 3) := by decide +kernel
theorem d18_4 : decode prog_245_method_7_code 4 = .ok (.ireturn, 1) := by decide +kernel
theorem pn_18 : plainName "com/example/gangplank/gangplank/workload/Job" = true := by first | (simp [plainName, overriddenIn]; done) | decide +kernel
theorem pd_18 : parseMethodDescriptor "()I" = some ⟨[], some .int⟩ := by decide +kernel
theorem ef_18 (m : MethodId) (x0 : Addr) : entryFrame m #[(.ref x0)] 1 = mkF m 0 #[.val (.ref x0)] [] := by first | (simp [entryFrame, mkF, argsToLocals, Value.category]; done) | rfl
theorem d19_0 : decode prog_214_method_7_code 0 = .ok (.iload_n 1, 1) := by decide +kernel
theorem d19_1 : decode prog_214_method_7_code 1 = .ok (.i2l, 1) := by decide +kernel
theorem d19_2 : decode prog_214_method_7_code 2 = .ok (.ldc2_w 106, 3) := by decide +kernel
theorem d19_5 : decode prog_214_method_7_code 5 = .ok (.lmul, 1) := by decide +kernel
theorem d19_6 : decode prog_214_method_7_code 6 = .ok (.bipush 40, 2) := by decide +kernel
theorem d19_8 : decode prog_214_method_7_code 8 = .ok (.lushr, 1) := by decide +kernel
theorem d19_9 : decode prog_214_method_7_code 9 = .ok (.l2i, 1) := by decide +kernel
theorem d19_10 : decode prog_214_method_7_code 10 = .ok (.aload_n 0, 1) := by decide +kernel
theorem d19_11 : decode prog_214_method_7_code 11 = .ok (.getfield 89, 3) := by decide +kernel
theorem d19_14 : decode prog_214_method_7_code 14 = .ok (.iand, 1) := by decide +kernel
theorem d19_15 : decode prog_214_method_7_code 15 = .ok (.istore_n 2, 1) := by decide +kernel
theorem d19_16 : decode prog_214_method_7_code 16 = .ok (.aload_n 0, 1) := by decide +kernel
theorem d19_17 : decode prog_214_method_7_code 17 = .ok (.getfield 32, 3) := by decide +kernel
theorem d19_20 : decode prog_214_method_7_code 20 = .ok (.iload_n 2, 1) := by decide +kernel
theorem d19_21 : decode prog_214_method_7_code 21 = .ok (.iaload, 1) := by decide +kernel
theorem d19_22 : decode prog_214_method_7_code 22 = .ok (.iload_n 1, 1) := by decide +kernel
theorem d19_23 : decode prog_214_method_7_code 23 = .ok (.if_icmp .eq 25, 3) := by decide +kernel
theorem d19_26 : decode prog_214_method_7_code 26 = .ok (.aload_n 0, 1) := by decide +kernel
theorem d19_27 : decode prog_214_method_7_code 27 = .ok (.getfield 32, 3) := by decide +kernel
theorem d19_30 : decode prog_214_method_7_code 30 = .ok (.iload_n 2, 1) := by decide +kernel
theorem d19_31 : decode prog_214_method_7_code 31 = .ok (.iaload, 1) := by decide +kernel
theorem d19_32 : decode prog_214_method_7_code 32 = .ok (.iconst (-1), 1) := by decide +kernel
theorem d19_33 : decode prog_214_method_7_code 33 = .ok (.if_icmp .eq 15, 3) := by decide +kernel
theorem d19_36 : decode prog_214_method_7_code 36 = .ok (.iload_n 2, 1) := by decide +kernel
theorem d19_37 : decode prog_214_method_7_code 37 = .ok (.iconst 1, 1) := by decide +kernel
theorem d19_38 : decode prog_214_method_7_code 38 = .ok (.iadd, 1) := by decide +kernel
theorem d19_39 : decode prog_214_method_7_code 39 = .ok (.aload_n 0, 1) := by decide +kernel
theorem d19_40 : decode prog_214_method_7_code 40 = .ok (.getfield 89, 3) := by decide +kernel
theorem d19_43 : decode prog_214_method_7_code 43 = .ok (.iand, 1) := by decide +kernel
theorem d19_44 : decode prog_214_method_7_code 44 = .ok (.istore_n 2, 1) := by decide +kernel
theorem d19_45 : decode prog_214_method_7_code 45 = .ok (.goto (-29), 3) := by decide +kernel
theorem d19_48 : decode prog_214_method_7_code 48 = .ok (.aload_n 0, 1) := by decide +kernel
theorem d19_49 : decode prog_214_method_7_code 49 = .ok (.getfield 32, 3) := by decide +kernel
theorem d19_52 : decode prog_214_method_7_code 52 = .ok (.iload_n 2, 1) := by decide +kernel
theorem d19_53 : decode prog_214_method_7_code 53 = .ok (.iaload, 1) := by decide +kernel
theorem d19_54 : decode prog_214_method_7_code 54 = .ok (.iconst (-1), 1) := by decide +kernel
theorem d19_55 : decode prog_214_method_7_code 55 = .ok (.if_icmp .ne 12, 3) := by decide +kernel
theorem d19_58 : decode prog_214_method_7_code 58 = .ok (.aload_n 0, 1) := by decide +kernel
theorem d19_59 : decode prog_214_method_7_code 59 = .ok (.getfield 36, 3) := by decide +kernel
theorem d19_62 : decode prog_214_method_7_code 62 = .ok (.iload_n 2, 1) := by decide +kernel
theorem d19_63 : decode prog_214_method_7_code 63 = .ok (.ldc2_w 110, 3) := by decide +kernel
theorem d19_66 : decode prog_214_method_7_code 66 = .ok (.lastore, 1) := by decide +kernel
theorem d19_67 : decode prog_214_method_7_code 67 = .ok (.iload_n 2, 1) := by decide +kernel
theorem d19_68 : decode prog_214_method_7_code 68 = .ok (.ireturn, 1) := by decide +kernel
theorem pn_19 : plainName "com/example/gangplank/gangplank/space/HeldFromNow" = true := by first | (simp [plainName, overriddenIn]; done) | decide +kernel
theorem pd_19 : parseMethodDescriptor "(I)I" = some ⟨[.int], some .int⟩ := by decide +kernel
theorem ef_19 (m : MethodId) (x0 : Addr) (x1 : Int32) : entryFrame m #[(.ref x0), (.int x1)] 3 = mkF m 0 #[.val (.ref x0), .val (.int x1), .unset] [] := by first | (simp [entryFrame, mkF, argsToLocals, Value.category]; done) | rfl
theorem d20_0 : decode method_3_code 0 = .ok (.lload_n 2, 1) := by decide +kernel
theorem d20_1 : decode method_3_code 1 = .ok (.lconst 0, 1) := by decide +kernel
theorem d20_2 : decode method_3_code 2 = .ok (.lcmp, 1) := by decide +kernel
theorem d20_3 : decode method_3_code 3 = .ok (.ifCond .le 14, 3) := by decide +kernel
theorem d20_6 : decode method_3_code 6 = .ok (.lload_n 0, 1) := by decide +kernel
theorem d20_7 : decode method_3_code 7 = .ok (.lload 4, 2) := by decide +kernel
theorem d20_9 : decode method_3_code 9 = .ok (.lcmp, 1) := by decide +kernel
theorem d20_10 : decode method_3_code 10 = .ok (.ifCond .le 7, 3) := by decide +kernel
theorem d20_13 : decode method_3_code 13 = .ok (.lload_n 2, 1) := by decide +kernel
theorem d20_14 : decode method_3_code 14 = .ok (.goto 4, 3) := by decide +kernel
theorem d20_17 : decode method_3_code 17 = .ok (.lconst 0, 1) := by decide +kernel
theorem d20_18 : decode method_3_code 18 = .ok (.lreturn, 1) := by decide +kernel
theorem pn_20 : plainName "com/example/gangplank/gangplank/space/HeldFromNowHeldAtPinLaw" = true := by first | (simp [plainName, overriddenIn]; done) | decide +kernel
theorem pd_20 : parseMethodDescriptor "(JJJ)J" = some ⟨[.long, .long, .long], some .long⟩ := by decide +kernel
theorem ef_20 (m : MethodId) (x0 : Int64) (x1 : Int64) (x2 : Int64) : entryFrame m #[(.long x0), (.long x1), (.long x2)] 6 = mkF m 0 #[.val (.long x0), .second, .val (.long x1), .second, .val (.long x2), .second] [] := by first | (simp [entryFrame, mkF, argsToLocals, Value.category]; done) | rfl
theorem d21_0 : decode prog_214_method_9_code 0 = .ok (.iconst 0, 1) := by decide +kernel
theorem d21_1 : decode prog_214_method_9_code 1 = .ok (.istore_n 3, 1) := by decide +kernel
theorem d21_2 : decode prog_214_method_9_code 2 = .ok (.aload_n 0, 1) := by decide +kernel
theorem d21_3 : decode prog_214_method_9_code 3 = .ok (.getfield 63, 3) := by decide +kernel
theorem d21_6 : decode prog_214_method_9_code 6 = .ok (.istore 4, 2) := by decide +kernel
theorem d21_8 : decode prog_214_method_9_code 8 = .ok (.iload_n 3, 1) := by decide +kernel
theorem d21_9 : decode prog_214_method_9_code 9 = .ok (.iload 4, 2) := by decide +kernel
theorem d21_11 : decode prog_214_method_9_code 11 = .ok (.if_icmp .ge 38, 3) := by decide +kernel
theorem d21_14 : decode prog_214_method_9_code 14 = .ok (.iload_n 3, 1) := by decide +kernel
theorem d21_15 : decode prog_214_method_9_code 15 = .ok (.iload 4, 2) := by decide +kernel
theorem d21_17 : decode prog_214_method_9_code 17 = .ok (.iadd, 1) := by decide +kernel
theorem d21_18 : decode prog_214_method_9_code 18 = .ok (.iconst 1, 1) := by decide +kernel
theorem d21_19 : decode prog_214_method_9_code 19 = .ok (.iushr, 1) := by decide +kernel
theorem d21_20 : decode prog_214_method_9_code 20 = .ok (.istore 5, 2) := by decide +kernel
theorem d21_22 : decode prog_214_method_9_code 22 = .ok (.aload_n 0, 1) := by decide +kernel
theorem d21_23 : decode prog_214_method_9_code 23 = .ok (.getfield 26, 3) := by decide +kernel
theorem d21_26 : decode prog_214_method_9_code 26 = .ok (.iload 5, 2) := by decide +kernel
theorem d21_28 : decode prog_214_method_9_code 28 = .ok (.laload, 1) := by decide +kernel
theorem d21_29 : decode prog_214_method_9_code 29 = .ok (.lload_n 1, 1) := by decide +kernel
theorem d21_30 : decode prog_214_method_9_code 30 = .ok (.lcmp, 1) := by decide +kernel
theorem d21_31 : decode prog_214_method_9_code 31 = .ok (.ifCond .gt 11, 3) := by decide +kernel
theorem d21_34 : decode prog_214_method_9_code 34 = .ok (.iload 5, 2) := by decide +kernel
theorem d21_36 : decode prog_214_method_9_code 36 = .ok (.iconst 1, 1) := by decide +kernel
theorem d21_37 : decode prog_214_method_9_code 37 = .ok (.iadd, 1) := by decide +kernel
theorem d21_38 : decode prog_214_method_9_code 38 = .ok (.istore_n 3, 1) := by decide +kernel
theorem d21_39 : decode prog_214_method_9_code 39 = .ok (.goto 7, 3) := by decide +kernel
theorem d21_42 : decode prog_214_method_9_code 42 = .ok (.iload 5, 2) := by decide +kernel
theorem d21_44 : decode prog_214_method_9_code 44 = .ok (.istore 4, 2) := by decide +kernel
theorem d21_46 : decode prog_214_method_9_code 46 = .ok (.goto (-38), 3) := by decide +kernel
theorem d21_49 : decode prog_214_method_9_code 49 = .ok (.iload_n 3, 1) := by decide +kernel
theorem d21_50 : decode prog_214_method_9_code 50 = .ok (.ifCond .ne 10, 3) := by decide +kernel
theorem d21_53 : decode prog_214_method_9_code 53 = .ok (.aload_n 0, 1) := by decide +kernel
theorem d21_54 : decode prog_214_method_9_code 54 = .ok (.getfield 60, 3) := by decide +kernel
theorem d21_57 : decode prog_214_method_9_code 57 = .ok (.goto 11, 3) := by decide +kernel
theorem d21_60 : decode prog_214_method_9_code 60 = .ok (.aload_n 0, 1) := by decide +kernel
theorem d21_61 : decode prog_214_method_9_code 61 = .ok (.getfield 29, 3) := by decide +kernel
theorem d21_64 : decode prog_214_method_9_code 64 = .ok (.iload_n 3, 1) := by decide +kernel
theorem d21_65 : decode prog_214_method_9_code 65 = .ok (.iconst 1, 1) := by decide +kernel
theorem d21_66 : decode prog_214_method_9_code 66 = .ok (.isub, 1) := by decide +kernel
theorem d21_67 : decode prog_214_method_9_code 67 = .ok (.laload, 1) := by decide +kernel
theorem d21_68 : decode prog_214_method_9_code 68 = .ok (.lreturn, 1) := by decide +kernel
theorem pn_21 : plainName "com/example/gangplank/gangplank/space/HeldFromNow" = true := by first | (simp [plainName, overriddenIn]; done) | decide +kernel
theorem pd_21 : parseMethodDescriptor "(J)J" = some ⟨[.long], some .long⟩ := by decide +kernel
theorem ef_21 (m : MethodId) (x0 : Addr) (x1 : Int64) : entryFrame m #[(.ref x0), (.long x1)] 6 = mkF m 0 #[.val (.ref x0), .val (.long x1), .second, .unset, .unset, .unset] [] := by first | (simp [entryFrame, mkF, argsToLocals, Value.category]; done) | rfl
theorem d22_0 : decode prog_214_method_10_code 0 = .ok (.iload_n 2, 1) := by decide +kernel
theorem d22_1 : decode prog_214_method_10_code 1 = .ok (.ifCond .le 26, 3) := by decide +kernel
theorem d22_4 : decode prog_214_method_10_code 4 = .ok (.aload_n 0, 1) := by decide +kernel
theorem d22_5 : decode prog_214_method_10_code 5 = .ok (.iload_n 2, 1) := by decide +kernel
theorem d22_6 : decode prog_214_method_10_code 6 = .ok (.iconst 1, 1) := by decide +kernel
theorem d22_7 : decode prog_214_method_10_code 7 = .ok (.isub, 1) := by decide +kernel
theorem d22_8 : decode prog_214_method_10_code 8 = .ok (.laload, 1) := by decide +kernel
theorem d22_9 : decode prog_214_method_10_code 9 = .ok (.lload_n 3, 1) := by decide +kernel
theorem d22_10 : decode prog_214_method_10_code 10 = .ok (.lcmp, 1) := by decide +kernel
theorem d22_11 : decode prog_214_method_10_code 11 = .ok (.ifCond .ne 16, 3) := by decide +kernel
theorem d22_14 : decode prog_214_method_10_code 14 = .ok (.aload_n 1, 1) := by decide +kernel
theorem d22_15 : decode prog_214_method_10_code 15 = .ok (.iload_n 2, 1) := by decide +kernel
theorem d22_16 : decode prog_214_method_10_code 16 = .ok (.iconst 1, 1) := by decide +kernel
theorem d22_17 : decode prog_214_method_10_code 17 = .ok (.isub, 1) := by decide +kernel
theorem d22_18 : decode prog_214_method_10_code 18 = .ok (.dup2, 1) := by decide +kernel
theorem d22_19 : decode prog_214_method_10_code 19 = .ok (.laload, 1) := by decide +kernel
theorem d22_20 : decode prog_214_method_10_code 20 = .ok (.lload 5, 2) := by decide +kernel
theorem d22_22 : decode prog_214_method_10_code 22 = .ok (.ladd, 1) := by decide +kernel
theorem d22_23 : decode prog_214_method_10_code 23 = .ok (.lastore, 1) := by decide +kernel
theorem d22_24 : decode prog_214_method_10_code 24 = .ok (.goto 12, 3) := by decide +kernel
theorem d22_27 : decode prog_214_method_10_code 27 = .ok (.aload_n 0, 1) := by decide +kernel
theorem d22_28 : decode prog_214_method_10_code 28 = .ok (.iload_n 2, 1) := by decide +kernel
theorem d22_29 : decode prog_214_method_10_code 29 = .ok (.lload_n 3, 1) := by decide +kernel
theorem d22_30 : decode prog_214_method_10_code 30 = .ok (.lastore, 1) := by decide +kernel
theorem d22_31 : decode prog_214_method_10_code 31 = .ok (.aload_n 1, 1) := by decide +kernel
theorem d22_32 : decode prog_214_method_10_code 32 = .ok (.iload_n 2, 1) := by decide +kernel
theorem d22_33 : decode prog_214_method_10_code 33 = .ok (.lload 5, 2) := by decide +kernel
theorem d22_35 : decode prog_214_method_10_code 35 = .ok (.lastore, 1) := by decide +kernel
theorem d22_36 : decode prog_214_method_10_code 36 = .ok (.return_, 1) := by decide +kernel
theorem pn_22 : plainName "com/example/gangplank/gangplank/space/HeldFromNow" = true := by first | (simp [plainName, overriddenIn]; done) | decide +kernel
theorem pd_22 : parseMethodDescriptor "([J[JIJJ)V" = some ⟨[(.array .long), (.array .long), .int, .long, .long], none⟩ := by decide +kernel
theorem ef_22 (m : MethodId) (x0 : Addr) (x1 : Addr) (x2 : Int32) (x3 : Int64) (x4 : Int64) : entryFrame m #[(.ref x0), (.ref x1), (.int x2), (.long x3), (.long x4)] 7 = mkF m 0 #[.val (.ref x0), .val (.ref x1), .val (.int x2), .val (.long x3), .second, .val (.long x4), .second] [] := by first | (simp [entryFrame, mkF, argsToLocals, Value.category]; done) | rfl
def own_fs1 : List (String × String × String) := [("com/example/gangplank/gangplank/space/HeldFromNow", "untils", "[J"), ("com/example/gangplank/gangplank/space/HeldFromNow", "counts", "[J"), ("com/example/gangplank/gangplank/space/HeldFromNow", "owners", "[Lcom/example/gangplank/gangplank/workload/Job;"), ("com/example/gangplank/gangplank/space/HeldFromNow", "sorted", "Z"), ("com/example/gangplank/gangplank/space/HeldFromNow", "fallAt", "[J"), ("com/example/gangplank/gangplank/space/HeldFromNow", "heldFrom", "[J"), ("com/example/gangplank/gangplank/space/HeldFromNow", "ownerIndexes", "[I"), ("com/example/gangplank/gangplank/space/HeldFromNow", "ownerUntils", "[J"), ("com/example/gangplank/gangplank/space/HeldFromNow", "now", "J"), ("com/example/gangplank/gangplank/space/HeldFromNow", "size", "I"), ("com/example/gangplank/gangplank/space/HeldFromNow", "heldNow", "J"), ("com/example/gangplank/gangplank/space/HeldFromNow", "falls", "I"), ("com/example/gangplank/gangplank/space/HeldFromNow", "ownerMask", "I")]
theorem own_ok1 : own_okFs own_fs1 = true := by decide +kernel
theorem own_ld1 {Z : State} {a0 : Array Value} (hw : ∀ d ∈ tables_1, d.before a0 Z = true) : own_Lds Z a0 "com/example/gangplank/gangplank/space/HeldFromNow" own_fs1 := ⟨Or.inl (hw _ (List.mem_of_getElem? (i := 47) rfl)), Or.inl (hw _ (List.mem_of_getElem? (i := 49) rfl)), Or.inl (hw _ (List.mem_of_getElem? (i := 53) rfl)), Or.inl (hw _ (List.mem_of_getElem? (i := 55) rfl)), Or.inl (hw _ (List.mem_of_getElem? (i := 57) rfl)), Or.inl (hw _ (List.mem_of_getElem? (i := 59) rfl)), Or.inl (hw _ (List.mem_of_getElem? (i := 62) rfl)), Or.inl (hw _ (List.mem_of_getElem? (i := 64) rfl)), Or.inl (hw _ (List.mem_of_getElem? (i := 72) rfl)), Or.inl (hw _ (List.mem_of_getElem? (i := 74) rfl)), Or.inl (hw _ (List.mem_of_getElem? (i := 91) rfl)), Or.inl (hw _ (List.mem_of_getElem? (i := 93) rfl)), Or.inl (hw _ (List.mem_of_getElem? (i := 114) rfl)), trivial⟩
def own_dl1 : List Value := [.null, .null, .null, (.int (0 : Int32)), .null, .null, .null, .null, (.long (0 : Int64)), (.int (0 : Int32)), (.long (0 : Int64)), (.int (0 : Int32)), (.int (0 : Int32))]
theorem own_df1 : own_Dfs own_fs1 own_dl1 := ⟨⟨(.array .long), by decide, rfl⟩, ⟨(.array .long), by decide, rfl⟩, ⟨(.array (.object "com/example/gangplank/gangplank/workload/Job")), by decide, rfl⟩, ⟨.boolean, by decide, rfl⟩, ⟨(.array .long), by decide, rfl⟩, ⟨(.array .long), by decide, rfl⟩, ⟨(.array .int), by decide, rfl⟩, ⟨(.array .long), by decide, rfl⟩, ⟨.long, by decide, rfl⟩, ⟨.int, by decide, rfl⟩, ⟨.long, by decide, rfl⟩, ⟨.int, by decide, rfl⟩, ⟨.int, by decide, rfl⟩, trivial⟩
def own_fs2 : List (String × String × String) := [("com/example/gangplank/gangplank/workload/Job", "index", "I"), ("com/example/gangplank/gangplank/workload/Job", "submit", "J"), ("com/example/gangplank/gangplank/workload/Job", "size", "I"), ("com/example/gangplank/gangplank/workload/Job", "run", "J"), ("com/example/gangplank/gangplank/workload/Job", "estimate", "J"), ("com/example/gangplank/gangplank/workload/Job", "processes", "J"), ("com/example/gangplank/gangplank/workload/Job", "memory", "J")]
theorem own_ok2 : own_okFs own_fs2 = true := by decide +kernel
theorem own_ld2 {Z : State} {a0 : Array Value} (hw : ∀ d ∈ tables_1, d.before a0 Z = true) : own_Lds Z a0 "com/example/gangplank/gangplank/workload/Job" own_fs2 := ⟨Or.inr (hw _ (List.mem_of_getElem? (i := 25) rfl)), Or.inr (hw _ (List.mem_of_getElem? (i := 27) rfl)), Or.inr (hw _ (List.mem_of_getElem? (i := 29) rfl)), Or.inr (hw _ (List.mem_of_getElem? (i := 31) rfl)), Or.inr (hw _ (List.mem_of_getElem? (i := 33) rfl)), Or.inr (hw _ (List.mem_of_getElem? (i := 35) rfl)), Or.inr (hw _ (List.mem_of_getElem? (i := 37) rfl)), trivial⟩
def own_dl2 : List Value := [(.int (0 : Int32)), (.long (0 : Int64)), (.int (0 : Int32)), (.long (0 : Int64)), (.long (0 : Int64)), (.long (0 : Int64)), (.long (0 : Int64))]
theorem own_df2 : own_Dfs own_fs2 own_dl2 := ⟨⟨.int, by decide, rfl⟩, ⟨.long, by decide, rfl⟩, ⟨.int, by decide, rfl⟩, ⟨.long, by decide, rfl⟩, ⟨.long, by decide, rfl⟩, ⟨.long, by decide, rfl⟩, ⟨.long, by decide, rfl⟩, trivial⟩
def own_mx (x y : Int64) : Int64 := if x < y then y else x
def own_mxi (x y : Int32) : Int32 := if x < y then y else x
theorem own_i0 : (0 : Int32).toInt = 0 := rfl
theorem own_i1 : (1 : Int32).toInt = 1 := rfl
theorem own_inc {iv : Int32} {i : Nat} (h : iv.toInt = (i : Int)) (hi : i < 900) : (iv + 1).toInt = ((i + 1 : Nat) : Int) := by
  rw [Jvm.Kit.i32_add (by rw [own_i1]; omega) (by rw [own_i1]; omega), h, own_i1]
  omega
theorem own_sub1 {di : Int32} {D : Nat} (hD : di.toInt = (D : Int)) (h1 : 1 ≤ D) (h : D < 1000) : (di - (1 : Int32)).toInt = ((D - 1 : Nat) : Int) := by
  rw [Jvm.Kit.i32_sub (by rw [own_i1]; omega) (by rw [own_i1]; omega), hD, own_i1]
  omega
theorem own_nek {ii : Int32} {i : Nat} (h : ii.toInt = (i : Int)) (k : Nat) (hk : k < 2 ^ 31) (hi : i ≠ k) : ¬ ii = Int32.ofNat k := by
  intro q
  rw [q, Int32.toInt_ofNat_small hk] at h
  omega
theorem own_eq0 {li : Int32} {n : Nat} (h : li.toInt = (n : Int)) (q : li = 0) : n = 0 := by
  rw [q, own_i0] at h
  omega
theorem own_eq0' {li : Int32} {n : Nat} (h : li.toInt = (n : Int)) (q : n = 0) : li = 0 := Int32.toInt_inj.mp (by rw [h, q]; rfl)
theorem own_fill_step {f : Nat → Int32} {i : Nat} (h : ∀ j, j < i → f j = -1) : ∀ j, j < i + 1 → own_upi f i (-1) j = -1 := by
  intro j hj
  unfold own_upi
  by_cases q : j = i
  · rw [if_pos q]
  · rw [if_neg q]
    exact h j (by omega)
/-- a sum over the first k holds -/
def own_sum (φ : Int64 → Int64 → Int64) (u c : Nat → Int64) : Nat → Int64
  | 0 => 0
  | k + 1 => own_sum φ u c k + φ (u k) (c k)
/-- the three holds are the same, in another order -/
def own_Pm (u c u' c' : Nat → Int64) : Prop := ∀ φ : Int64 → Int64 → Int64, own_sum φ u' c' 3 = own_sum φ u c 3
theorem own_Pm_refl (u c : Nat → Int64) : own_Pm u c u c := fun _ => rfl
theorem own_Pm_trans {u c u1 c1 u2 c2 : Nat → Int64} (h : own_Pm u c u1 c1) (h' : own_Pm u1 c1 u2 c2) : own_Pm u c u2 c2 := fun φ => (h' φ).trans (h φ)
theorem own_sum3 (φ : Int64 → Int64 → Int64) (u c : Nat → Int64) : own_sum φ u c 3 = 0 + φ (u 0) (c 0) + φ (u 1) (c 1) + φ (u 2) (c 2) := rfl
theorem own_pm1a (u c : Nat → Int64) : own_Pm u c (own_upl u 1 (u 1)) (own_upl c 1 (c 1)) := fun φ => rfl
theorem own_pm1b (u c : Nat → Int64) : own_Pm u c (own_upl (own_upl u 1 (u 0)) 0 (u 1)) (own_upl (own_upl c 1 (c 0)) 0 (c 1)) := fun φ => by
  show 0 + φ (u 1) (c 1) + φ (u 0) (c 0) + φ (u 2) (c 2) = 0 + φ (u 0) (c 0) + φ (u 1) (c 1) + φ (u 2) (c 2)
  generalize φ (u 0) (c 0) = x
  generalize φ (u 1) (c 1) = y
  generalize φ (u 2) (c 2) = z
  grind
theorem own_pm2a (u c : Nat → Int64) : own_Pm u c (own_upl u 2 (u 2)) (own_upl c 2 (c 2)) := fun φ => rfl
theorem own_pm2b (u c : Nat → Int64) : own_Pm u c (own_upl (own_upl u 2 (u 1)) 1 (u 2)) (own_upl (own_upl c 2 (c 1)) 1 (c 2)) := fun φ => by
  show 0 + φ (u 0) (c 0) + φ (u 2) (c 2) + φ (u 1) (c 1) = 0 + φ (u 0) (c 0) + φ (u 1) (c 1) + φ (u 2) (c 2)
  generalize φ (u 0) (c 0) = x
  generalize φ (u 1) (c 1) = y
  generalize φ (u 2) (c 2) = z
  grind
theorem own_pm2c (u c : Nat → Int64) : own_Pm u c (own_upl (own_upl (own_upl u 2 (u 1)) 1 (u 0)) 0 (u 2)) (own_upl (own_upl (own_upl c 2 (c 1)) 1 (c 0)) 0 (c 2)) := fun φ => by
  show 0 + φ (u 2) (c 2) + φ (u 0) (c 0) + φ (u 1) (c 1) = 0 + φ (u 0) (c 0) + φ (u 1) (c 1) + φ (u 2) (c 2)
  generalize φ (u 0) (c 0) = x
  generalize φ (u 1) (c 1) = y
  generalize φ (u 2) (c 2) = z
  grind
theorem own_nlt {x y : Int64} (h : x < y) : ¬ y < x := by
  rw [Int64.lt_iff_toInt_lt] at h ⊢
  omega
theorem own_fo_up {fo : Nat → Value} {jb : Addr} (h : ∀ i, i < 3 → fo i = .ref jb) (k : Nat) (v : Value) (i : Nat) (hi : i < 3) (hv : v = .ref jb := by rfl) : own_up fo k v i = .ref jb := by
  unfold own_up
  split
  · exact hv
  · exact h i hi
theorem own_pos {fi : Int32} {F : Nat} (h : fi.toInt = (F : Int)) (q : 0 < F) : 0 < fi := by
  rw [Int32.lt_iff_toInt_lt, own_i0, h]
  omega
theorem own_pos' {fi : Int32} {F : Nat} (h : fi.toInt = (F : Int)) (q : 0 < fi) : 0 < F := by
  rw [Int32.lt_iff_toInt_lt, own_i0, h] at q
  omega
def own_ff (f : Nat → Int64) (F : Nat) (u : Int64) : Nat → Int64 := if 0 < F ∧ f (F - 1) = u then f else own_upl f F u
def own_fg (f g : Nat → Int64) (F : Nat) (u c : Int64) : Nat → Int64 := if 0 < F ∧ f (F - 1) = u then own_upl g (F - 1) (g (F - 1) + c) else own_upl g F c
def own_S (g : Nat → Int64) : Nat → Int64
  | 0 => 0
  | k + 1 => own_S g k + g k
def own_cf (g : Nat → Int64) (hn : Int64) (F : Nat) : Nat → Int64 := fun k => if k < F then hn - own_S g (k + 1) else g k
theorem own_cf_0 (g : Nat → Int64) (hn : Int64) : own_cf g hn 0 = g := by
  funext k
  unfold own_cf
  rw [if_neg (Nat.not_lt_zero k)]
theorem own_cf_at (g : Nat → Int64) (hn : Int64) (i : Nat) : own_cf g hn i i = g i := if_neg (Nat.lt_irrefl i)
theorem own_cf_step (g : Nat → Int64) (hn : Int64) (i : Nat) : own_upl (own_cf g hn i) i (hn - own_S g (i + 1)) = own_cf g hn (i + 1) := by
  funext k
  unfold own_upl own_cf
  by_cases h : k = i
  · subst h
    rw [if_pos rfl, if_pos (by omega)]
  · rw [if_neg h]
    by_cases h2 : k < i
    · rw [if_pos h2, if_pos (by omega)]
    · rw [if_neg h2, if_neg (by omega)]
def own_hd (u c t : Int64) : Int64 := if 0 < c then (if t < u then c else 0) else 0
/-- of what falls, what has fallen by t -/
def own_G (fa g : Nat → Int64) (t : Int64) : Nat → Int64
  | 0 => 0
  | k + 1 => own_G fa g t k + (if t < fa k then 0 else g k)
def own_Inv (u c : Nat → Int64) (i F : Nat) (fa g : Nat → Int64) (hn : Int64) : Prop := F ≤ i ∧ (∀ k, k + 1 < F → fa k < fa (k + 1)) ∧ (∀ k, k < F → ∀ j, i ≤ j → j < 3 → ¬ u j < fa k) ∧ ∀ t, hn - own_G fa g t F = own_sum (fun x y => own_hd x y t) u c i
theorem own_inv_0 (u c fa g : Nat → Int64) : own_Inv u c 0 0 fa g 0 := ⟨Nat.le_refl _, fun k h => by omega, fun k h => by omega, fun t => by show (0 : Int64) - 0 = 0; rfl⟩
theorem own_inv_skip {u c fa g : Nat → Int64} {hn : Int64} {i F : Nat} (H : own_Inv u c i F fa g hn) (hc : ¬ 0 < c i) : own_Inv u c (i + 1) F fa g hn := by
  obtain ⟨h1, h2, h3, h4⟩ := H
  refine ⟨by omega, h2, fun k hk j hj hj3 => h3 k hk j (by omega) hj3, fun t => ?_⟩
  rw [h4 t, own_sum]
  have : own_hd (u i) (c i) t = 0 := if_neg hc
  rw [this, Int64.add_zero]
theorem own_G_eq {fa g fa' g' : Nat → Int64} {t : Int64} : ∀ {F : Nat}, (∀ k, k < F → fa' k = fa k ∧ g' k = g k) → own_G fa' g' t F = own_G fa g t F
  | 0, _ => rfl
  | F + 1, h => by
    rw [own_G, own_G, own_G_eq (F := F) (fun k hk => h k (by omega)), (h F (by omega)).1, (h F (by omega)).2]
theorem own_ring1 (a b c : Int64) : (a + c) - (b + c) = a - b := by grind
theorem own_ring2 (a b c : Int64) : (a + c) - (b + 0) = (a - b) + c := by grind
theorem own_ring3 (a b x c : Int64) : (a + c) - (b + (x + c)) = a - (b + x) := by grind
theorem own_ring4 (a b c : Int64) : (a + c) - b = (a - b) + c := by grind
theorem own_inv_merge {u c fa g : Nat → Int64} {hn : Int64} {i F : Nat} (H : own_Inv u c i F fa g hn) (hc : 0 < c i) (hF : 0 < F) (he : fa (F - 1) = u i) : own_Inv u c (i + 1) F fa (own_upl g (F - 1) (g (F - 1) + c i)) (hn + c i) := by
  obtain ⟨h1, h2, h3, h4⟩ := H
  refine ⟨by omega, h2, fun k hk j hj hj3 => h3 k hk j (by omega) hj3, fun t => ?_⟩
  rw [own_sum, ← h4 t]
  obtain ⟨M, rfl⟩ : ∃ M, F = M + 1 := ⟨F - 1, by omega⟩
  have he' : fa M = u i := he
  have hq : own_G fa (own_upl g (M + 1 - 1) (g (M + 1 - 1) + c i)) t M = own_G fa g t M := own_G_eq (fun k hk => ⟨rfl, own_upl_ne _ _ (by omega)⟩)
  show hn + c i - (own_G fa (own_upl g (M + 1 - 1) (g (M + 1 - 1) + c i)) t M + (if t < fa M then 0 else own_upl g M (g M + c i) M)) = hn - (own_G fa g t M + (if t < fa M then 0 else g M)) + own_hd (u i) (c i) t
  rw [hq, own_upl_eq, own_hd, if_pos hc, he']
  by_cases ht : t < u i
  · rw [if_pos ht, if_pos ht, if_pos ht]
    exact own_ring4 _ _ _
  · rw [if_neg ht, if_neg ht, if_neg ht, own_ring3, Int64.add_zero]
theorem own_lt_of {x y : Int64} (h : ¬ y < x) (q : ¬ x = y) : x < y := by
  rw [Int64.lt_iff_toInt_lt] at h ⊢
  have : x.toInt ≠ y.toInt := fun e => q (Int64.toInt_inj.mp e)
  omega
theorem own_inv_new {u c fa g : Nat → Int64} {hn : Int64} {i F : Nat} (H : own_Inv u c i F fa g hn) (hi : i < 3) (hs : ¬ u 1 < u 0 ∧ ¬ u 2 < u 1) (hc : 0 < c i) (he : ¬ (0 < F ∧ fa (F - 1) = u i)) : own_Inv u c (i + 1) (F + 1) (own_upl fa F (u i)) (own_upl g F (c i)) (hn + c i) := by
  obtain ⟨h1, h2, h3, h4⟩ := H
  refine ⟨by omega, fun k hk => ?_, fun k hk j hj hj3 => ?_, fun t => ?_⟩
  · by_cases hk' : k + 1 = F
    · rw [hk', own_upl_eq, own_upl_ne _ _ (by omega)]
      refine own_lt_of (h3 k (by omega) i (Nat.le_refl _) hi) (fun q => he ⟨by omega, ?_⟩)
      have : F - 1 = k := by omega
      rw [this]
      exact q
    · rw [own_upl_ne _ _ (by omega), own_upl_ne _ _ hk']
      exact h2 k (by omega)
  · by_cases hk' : k = F
    · rw [hk', own_upl_eq]
      have hj' : (i = 0 ∧ j = 1) ∨ (i = 0 ∧ j = 2) ∨ (i = 1 ∧ j = 2) := by omega
      rcases hj' with ⟨rfl, rfl⟩ | ⟨rfl, rfl⟩ | ⟨rfl, rfl⟩
      · exact hs.1
      · have a1 := hs.1
        have a2 := hs.2
        rw [Int64.lt_iff_toInt_lt] at a1 a2 ⊢
        omega
      · exact hs.2
    · rw [own_upl_ne _ _ hk']
      exact h3 k (by omega) j (by omega) hj3
  · rw [own_sum, ← h4 t]
    have hq : own_G (own_upl fa F (u i)) (own_upl g F (c i)) t F = own_G fa g t F := own_G_eq (fun k hk => ⟨own_upl_ne _ _ (by omega), own_upl_ne _ _ (by omega)⟩)
    show hn + c i - (own_G (own_upl fa F (u i)) (own_upl g F (c i)) t F + (if t < own_upl fa F (u i) F then 0 else own_upl g F (c i) F)) = hn - own_G fa g t F + own_hd (u i) (c i) t
    rw [hq, own_upl_eq, own_upl_eq, own_hd, if_pos hc]
    by_cases ht : t < u i
    · rw [if_pos ht, if_pos ht]
      exact own_ring2 _ _ _
    · rw [if_neg ht, if_neg ht, own_ring1, Int64.add_zero]
theorem own_mid {lv hv : Int32} {lo hi : Nat} (h1 : lv.toInt = (lo : Int)) (h2 : hv.toInt = (hi : Int)) (h : lo + hi < 1000) : (XT.ushr (lv + hv) (1 : Int32)).toInt = (((lo + hi) / 2 : Nat) : Int) := by
  have hs : (lv + hv).toInt = ((lo + hi : Nat) : Int) := by
    rw [Jvm.Kit.i32_add (by omega) (by omega), h1, h2]
    omega
  have h0 : (0 : Int32) ≤ lv + hv := by
    rw [Int32.le_iff_toInt_le, own_i0, hs]
    omega
  have := Jvm.Kit.i32_iushr (x := lv + hv) h0 (n := ((1 : Int32) &&& 31).toUInt32) (k := 1) rfl (by decide)
  show ((lv + hv).toUInt32 >>> ((1 : Int32) &&& 31).toUInt32).toInt32.toInt = _
  rw [this, hs]
  omega
theorem own_mono {fa : Nat → Int64} {F : Nat} (h : ∀ k, k + 1 < F → fa k < fa (k + 1)) (i : Nat) : ∀ d, i + d < F → (fa i).toInt ≤ (fa (i + d)).toInt
  | 0, _ => Int.le_refl _
  | d + 1, hd => by
    have h1 := own_mono h i d (by omega)
    have h2 := h (i + d) (by omega)
    rw [Int64.lt_iff_toInt_lt] at h2
    show (fa i).toInt ≤ (fa (i + d + 1)).toInt
    omega
theorem own_up_of {fa : Nat → Int64} {F m k : Nat} {t : Int64} (h : ∀ k, k + 1 < F → fa k < fa (k + 1)) (ht : t < fa m) (h1 : m ≤ k) (h2 : k < F) : t < fa k := by
  obtain ⟨d, rfl⟩ : ∃ d, k = m + d := ⟨k - m, by omega⟩
  have := own_mono h m d h2
  rw [Int64.lt_iff_toInt_lt] at ht ⊢
  omega
theorem own_dn_of {fa : Nat → Int64} {F m k : Nat} {t : Int64} (h : ∀ k, k + 1 < F → fa k < fa (k + 1)) (ht : ¬ t < fa m) (h1 : k ≤ m) (h2 : m < F) : ¬ t < fa k := by
  obtain ⟨d, rfl⟩ : ∃ d, m = k + d := ⟨m - k, by omega⟩
  have := own_mono h k d h2
  rw [Int64.lt_iff_toInt_lt] at ht ⊢
  omega
theorem own_G_low {fa g : Nat → Int64} {t : Int64} {M : Nat} (h : ∀ k, k < M → ¬ t < fa k) : ∀ k, k ≤ M → own_G fa g t k = own_S g k
  | 0, _ => rfl
  | k + 1, hk => by rw [own_G, own_S, own_G_low h k (by omega), if_neg (h k (by omega))]
theorem own_G_high {fa g : Nat → Int64} {t : Int64} {M F : Nat} (h : ∀ k, k < M → ¬ t < fa k) (h' : ∀ k, M ≤ k → k < F → t < fa k) : ∀ d, M + d ≤ F → own_G fa g t (M + d) = own_S g M
  | 0, _ => own_G_low h M (Nat.le_refl _)
  | d + 1, hd => by
    show own_G fa g t (M + d) + (if t < fa (M + d) then 0 else g (M + d)) = _
    rw [own_G_high h h' d (by omega), if_pos (h' (M + d) (by omega) (by omega)), Int64.add_zero]
theorem own_final {a b c x y z t hn : Int64} {f0 f1 fu1 fc1 fa g : Nat → Int64} {F M : Nat} (hI : own_Inv fu1 fc1 3 F fa g hn) (pm : own_Pm (own_upl (own_upl (own_upl f0 0 a) 1 b) 2 c) (own_upl (own_upl (own_upl f1 0 x) 1 y) 2 z) fu1 fc1) (hM : M ≤ F) (h3 : ∀ k, k < M → ¬ t < fa k) (h4 : ∀ k, M ≤ k → k < F → t < fa k) :
    (if M = 0 then hn else own_cf g hn F (M - 1)) = (own_hd a x t + own_hd b y t) + own_hd c z t := by
  have e1 : (if M = 0 then hn else own_cf g hn F (M - 1)) = hn - own_S g M := by
    by_cases h : M = 0
    · rw [if_pos h, h]
      show hn = hn - 0
      grind
    · rw [if_neg h, own_cf, if_pos (by omega)]
      congr 2
      omega
  have e2 := own_G_high (g := g) h3 h4 (F - M) (by omega)
  have e3 : M + (F - M) = F := by omega
  rw [e3] at e2
  rw [e1, ← e2, hI.2.2.2 t, pm]
  show 0 + own_hd a x t + own_hd b y t + own_hd c z t = _
  rw [Int64.zero_add]
theorem own_Up_cons {x y : Addr} {l : List Addr} (h : x < y) (H : own_Up (y :: l)) : own_Up (x :: y :: l) := by
  refine List.pairwise_cons.mpr ⟨fun z hz => ?_, H⟩
  rcases List.mem_cons.mp hz with rfl | hz
  · exact h
  · exact Nat.lt_trans h ((List.pairwise_cons.mp H).1 z hz)
def own_gH (u c o fa hf oi ou : Addr) (so sz fl om : Int32) (nw hn : Int64) : Nat → Value := own_gl [.ref u, .ref c, .ref o, .int so, .ref fa, .ref hf, .ref oi, .ref ou, .long nw, .int sz, .long hn, .int fl, .int om]
def own_Qn (h0 : Heap) (v : Option Value) (h : Heap) (L : List Loc) : Prop := v = none ∧ h = h0 ∧ L = []
def own_QV (z : Value) (h0 : Heap) (v : Option Value) (h : Heap) (L : List Loc) : Prop := v = some z ∧ h = h0 ∧ L = []
def own_QJ (Z : State) (a : Addr) (ix : Int32) (h0 : Heap) (n0 : Nat) (v : Option Value) (h : Heap) (L : List Loc) : Prop := v = none ∧ Fr n0 L ∧ Keep h0 h [a] ∧ ∃ g, own_Ob Z h a "com/example/gangplank/gangplank/workload/Job" own_fs2 g ∧ g 0 = .int ix
def own_QF (Z : State) (a : Addr) (h0 : Heap) (n0 : Nat) (v : Option Value) (h : Heap) (L : List Loc) : Prop := v = none ∧ Fr n0 L ∧ Keep h0 h [a] ∧ own_Ai Z h a .int 16 (fun _ => -1)
def own_QH (Z : State) (a : Addr) (h0 : Heap) (n0 : Nat) (v : Option Value) (h : Heap) (L : List Loc) : Prop := v = none ∧ Fr n0 L ∧ Keep h0 h [a] ∧ ∃ u c o fa hf oi ou, h0.size ≤ u ∧ own_Up [a, u, c, o, fa, hf, oi, ou] ∧ own_Ob Z h a "com/example/gangplank/gangplank/space/HeldFromNow" own_fs1 (own_gH u c o fa hf oi ou 1 0 0 0 0 0) ∧ own_Al Z h u 8 (fun _ => 0) ∧ own_Al Z h c 8 (fun _ => 0) ∧ own_Rr Z h o "com/example/gangplank/gangplank/workload/Job" 8 (fun _ => .null) ∧ own_Al Z h fa 16 (fun _ => 0) ∧ own_Al Z h hf 16 (fun _ => 0) ∧ own_Ai Z h oi .int 0 (fun _ => 0)
def own_QO (Z : State) (a : Addr) (g : Nat → Value) (h0 : Heap) (n0 : Nat) (v : Option Value) (h : Heap) (L : List Loc) : Prop := v = none ∧ Fr n0 L ∧ Keep h0 h [a] ∧ own_Ob Z h a "com/example/gangplank/gangplank/space/HeldFromNow" own_fs1 g
def own_Q0 (n0 : Nat) (v : Option Value) (h : Heap) (L : List Loc) : Prop := v = some (.int 1) ∧ Fr n0 L
set_option maxRecDepth 65536 in
set_option maxHeartbeats 40000000 in
theorem own_rmMJ (l : Launch) (Z : State) (a0 : Array Value) (hw : ∀ d ∈ tables_1, d.before a0 Z = true) (ws : List Jvm.Cond) (x y : Int64) (h0 : Heap) (n0 : Nat)  :
    own_Met l (⟨"java/lang/Math", "max", "(JJ)J"⟩ : MethodName) jdk_29_method_66_code 4 (some .long) ws ({ frames := 0, cells := 0, slots := 0, locals := 0 } : Room) Z #[(.long x), (.long y)] h0 (own_QV (.long (own_mx x y)) h0) := by
  refine own_enter (pf_1) ?_
  intro p e s m below meth c T0 X0 hx hby hml hZ hown e0 hret hlk hnm
  have hown : s.vm.findClass "java/lang/Math" = some m.cls := hown
  have hml : c.maxLocals = 4 := hml
  have N0 := Fr.nil n0
  refine own_start (ef_1 m x y) ?_
  show own_Go p e below _ T0 (mkF m 0 #[.val (.long x), .second, .val (.long y), .second] [])
  refine own_go (g' := (mkF m 1 #[.val (.long x), .second, .val (.long y), .second] [(.long x)])) (fun _ k => XT.lloadN X0.here hx rfl (hb hby d1_0) rfl k) ?_
  refine own_go (g' := (mkF m 2 #[.val (.long x), .second, .val (.long y), .second] [(.long y), (.long x)])) (fun _ k => XT.lloadN X0.here hx rfl (hb hby d1_1) rfl k) ?_
  refine own_go (g' := (mkF m 3 #[.val (.long x), .second, .val (.long y), .second] [(.int (XT.cmpL x y))])) (fun _ k => XT.lcmp X0.here hx rfl (hb hby d1_2) rfl k) ?_
  by_cases cl : x < y
  · refine own_go (g' := (mkF m 10 #[.val (.long x), .second, .val (.long y), .second] [])) (fun _ k => XS.ifYes X0.here hx rfl (pc0 := 3) (pc' := 10) rfl (hb hby d1_3) rfl (XT.ll_lt_t cl) (by decide) (by decide) k) ?_
    refine own_go (g' := (mkF m 11 #[.val (.long x), .second, .val (.long y), .second] [(.long y)])) (fun _ k => XT.lloadN X0.here hx rfl (hb hby d1_10) rfl k) ?_
    exact own_retJ X0 hx hlk hret e0 (hb hby d1_11) ⟨by simp [own_mx, cl], rfl, rfl⟩ (by decide) (by decide)
  · refine own_go (g' := (mkF m 6 #[.val (.long x), .second, .val (.long y), .second] [])) (fun _ k => XS.ifNo X0.here hx rfl (hb hby d1_3) rfl (XT.ll_lt_f cl) k) ?_
    refine own_go (g' := (mkF m 7 #[.val (.long x), .second, .val (.long y), .second] [(.long x)])) (fun _ k => XT.lloadN X0.here hx rfl (hb hby d1_6) rfl k) ?_
    refine own_go (g' := (mkF m 11 #[.val (.long x), .second, .val (.long y), .second] [(.long x)])) (fun _ k => XS.goto X0.here hx rfl (pc0 := 7) (pc' := 11) rfl (hb hby d1_7) (by decide) (by decide) k) ?_
    exact own_retJ X0 hx hlk hret e0 (hb hby d1_11) ⟨by simp [own_mx, cl], rfl, rfl⟩ (by decide) (by decide)
set_option maxRecDepth 65536 in
set_option maxHeartbeats 40000000 in
theorem own_rmMI (l : Launch) (Z : State) (a0 : Array Value) (hw : ∀ d ∈ tables_1, d.before a0 Z = true) (ws : List Jvm.Cond) (x y : Int32) (h0 : Heap) (n0 : Nat)  :
    own_Met l (⟨"java/lang/Math", "max", "(II)I"⟩ : MethodName) jdk_29_method_65_code 2 (some .int) ws ({ frames := 0, cells := 0, slots := 0, locals := 0 } : Room) Z #[(.int x), (.int y)] h0 (own_QV (.int (own_mxi x y)) h0) := by
  refine own_enter (pf_13) ?_
  intro p e s m below meth c T0 X0 hx hby hml hZ hown e0 hret hlk hnm
  have hown : s.vm.findClass "java/lang/Math" = some m.cls := hown
  have hml : c.maxLocals = 2 := hml
  have N0 := Fr.nil n0
  refine own_start (ef_13 m x y) ?_
  show own_Go p e below _ T0 (mkF m 0 #[.val (.int x), .val (.int y)] [])
  refine own_go (g' := (mkF m 1 #[.val (.int x), .val (.int y)] [(.int x)])) (fun _ k => XS.iloadN X0.here hx rfl (hb hby d13_0) rfl k) ?_
  refine own_go (g' := (mkF m 2 #[.val (.int x), .val (.int y)] [(.int y), (.int x)])) (fun _ k => XS.iloadN X0.here hx rfl (hb hby d13_1) rfl k) ?_
  by_cases cl : x < y
  · refine own_go (g' := (mkF m 9 #[.val (.int x), .val (.int y)] [])) (fun _ k => XS.icmpYes X0.here hx rfl (pc0 := 2) (pc' := 9) rfl (hb hby d13_2) rfl (XT.ii_lt_t cl) (by decide) (by decide) k) ?_
    refine own_go (g' := (mkF m 10 #[.val (.int x), .val (.int y)] [(.int y)])) (fun _ k => XS.iloadN X0.here hx rfl (hb hby d13_9) rfl k) ?_
    exact own_retI X0 hx hlk hret e0 (hb hby d13_10) ⟨by simp [own_mxi, cl], rfl, rfl⟩ (by decide) (by decide)
  · refine own_go (g' := (mkF m 5 #[.val (.int x), .val (.int y)] [])) (fun _ k => XS.icmpNo X0.here hx rfl (hb hby d13_2) rfl (XT.ii_lt_f cl) k) ?_
    refine own_go (g' := (mkF m 6 #[.val (.int x), .val (.int y)] [(.int x)])) (fun _ k => XS.iloadN X0.here hx rfl (hb hby d13_5) rfl k) ?_
    refine own_go (g' := (mkF m 10 #[.val (.int x), .val (.int y)] [(.int x)])) (fun _ k => XS.goto X0.here hx rfl (pc0 := 6) (pc' := 10) rfl (hb hby d13_6) (by decide) (by decide) k) ?_
    exact own_retI X0 hx hlk hret e0 (hb hby d13_10) ⟨by simp [own_mxi, cl], rfl, rfl⟩ (by decide) (by decide)
set_option maxRecDepth 65536 in
set_option maxHeartbeats 40000000 in
theorem own_rmNLZ (l : Launch) (Z : State) (a0 : Array Value) (hw : ∀ d ∈ tables_1, d.before a0 Z = true) (ws : List Jvm.Cond)  (h0 : Heap) (n0 : Nat)  :
    own_Met l (⟨"java/lang/Integer", "numberOfLeadingZeros", "(I)I"⟩ : MethodName) jdk_33_method_47_code 2 (some .int) ws ({ frames := 0, cells := 0, slots := 0, locals := 0 } : Room) Z #[(.int (4 : Int32))] h0 (own_QV (.int 29) h0) := by
  refine own_enter (plainFor_of_name pn_15) ?_
  intro p e s m below meth c T0 X0 hx hby hml hZ hown e0 hret hlk hnm
  have hown : s.vm.findClass "java/lang/Integer" = some m.cls := hown
  have hml : c.maxLocals = 2 := hml
  have N0 := Fr.nil n0
  refine own_start (ef_15 m (4 : Int32)) ?_
  show own_Go p e below _ T0 (mkF m 0 #[.val (.int (4 : Int32)), .unset] [])
  refine own_go (g' := (mkF m 1 #[.val (.int (4 : Int32)), .unset] [(.int (4 : Int32))])) (fun _ k => XS.iloadN X0.here hx rfl (hb hby d15_0) rfl k) ?_
  refine own_go (g' := (mkF m 15 #[.val (.int (4 : Int32)), .unset] [])) (fun _ k => XS.ifYes X0.here hx rfl (pc0 := 1) (pc' := 15) rfl (hb hby d15_1) rfl (XT.i0_gt_t (by decide)) (by decide) (by decide) k) ?_
  refine own_go (g' := (mkF m 17 #[.val (.int (4 : Int32)), .unset] [(.int (31 : Int32))])) (fun _ k => XS.bipush X0.here hx rfl (hb hby d15_15) k) ?_
  refine own_go (g' := (mkF m 18 #[.val (.int (4 : Int32)), .val (.int (31 : Int32))] [])) (fun _ k => XS.istoreN X0.here hx rfl (hb hby d15_17) rfl (l' := #[.val (.int (4 : Int32)), .val (.int (31 : Int32))]) rfl k) ?_
  refine own_go (g' := (mkF m 19 #[.val (.int (4 : Int32)), .val (.int (31 : Int32))] [(.int (4 : Int32))])) (fun _ k => XS.iloadN X0.here hx rfl (hb hby d15_18) rfl k) ?_
  refine own_go (g' := (mkF m 22 #[.val (.int (4 : Int32)), .val (.int (31 : Int32))] [(.int (65536 : Int32)), (.int (4 : Int32))])) (fun _ k => X0.ldcwInt hx hown (mvT hZ (hw _ (List.mem_of_getElem? (i := 112) rfl))) (g := (mkF m 19 #[.val (.int (4 : Int32)), .val (.int (31 : Int32))] [(.int (4 : Int32))])) rfl (hb hby d15_19) _ k) ?_
  refine own_go (g' := (mkF m 33 #[.val (.int (4 : Int32)), .val (.int (31 : Int32))] [])) (fun _ k => XS.icmpYes X0.here hx rfl (pc0 := 22) (pc' := 33) rfl (hb hby d15_22) rfl (XT.ii_lt_t (by decide)) (by decide) (by decide) k) ?_
  refine own_go (g' := (mkF m 34 #[.val (.int (4 : Int32)), .val (.int (31 : Int32))] [(.int (4 : Int32))])) (fun _ k => XS.iloadN X0.here hx rfl (hb hby d15_33) rfl k) ?_
  refine own_go (g' := (mkF m 37 #[.val (.int (4 : Int32)), .val (.int (31 : Int32))] [(.int (256 : Int32)), (.int (4 : Int32))])) (fun _ k => XS.sipush X0.here hx rfl (hb hby d15_34) k) ?_
  refine own_go (g' := (mkF m 48 #[.val (.int (4 : Int32)), .val (.int (31 : Int32))] [])) (fun _ k => XS.icmpYes X0.here hx rfl (pc0 := 37) (pc' := 48) rfl (hb hby d15_37) rfl (XT.ii_lt_t (by decide)) (by decide) (by decide) k) ?_
  refine own_go (g' := (mkF m 49 #[.val (.int (4 : Int32)), .val (.int (31 : Int32))] [(.int (4 : Int32))])) (fun _ k => XS.iloadN X0.here hx rfl (hb hby d15_48) rfl k) ?_
  refine own_go (g' := (mkF m 51 #[.val (.int (4 : Int32)), .val (.int (31 : Int32))] [(.int (16 : Int32)), (.int (4 : Int32))])) (fun _ k => XS.bipush X0.here hx rfl (hb hby d15_49) k) ?_
  refine own_go (g' := (mkF m 61 #[.val (.int (4 : Int32)), .val (.int (31 : Int32))] [])) (fun _ k => XS.icmpYes X0.here hx rfl (pc0 := 51) (pc' := 61) rfl (hb hby d15_51) rfl (XT.ii_lt_t (by decide)) (by decide) (by decide) k) ?_
  refine own_go (g' := (mkF m 62 #[.val (.int (4 : Int32)), .val (.int (31 : Int32))] [(.int (4 : Int32))])) (fun _ k => XS.iloadN X0.here hx rfl (hb hby d15_61) rfl k) ?_
  refine own_go (g' := (mkF m 63 #[.val (.int (4 : Int32)), .val (.int (31 : Int32))] [(.int (4 : Int32)), (.int (4 : Int32))])) (fun _ k => XS.iconst X0.here hx rfl (hb hby d15_62) k) ?_
  refine own_go (g' := (mkF m 66 #[.val (.int (4 : Int32)), .val (.int (31 : Int32))] [])) (fun _ k => XS.icmpNo X0.here hx rfl (hb hby d15_63) rfl (XT.ii_lt_f (by decide)) k) ?_
  refine own_go (g' := (mkF m 69 #[.val (.int (4 : Int32)), .val (.int ((31 : Int32) + (-2 : Int32)))] [])) (fun _ k => XS.iinc X0.here hx rfl (hb hby d15_66) rfl (l' := #[.val (.int (4 : Int32)), .val (.int ((31 : Int32) + (-2 : Int32)))]) rfl k) ?_
  refine own_go (g' := (mkF m 70 #[.val (.int (4 : Int32)), .val (.int ((31 : Int32) + (-2 : Int32)))] [(.int (4 : Int32))])) (fun _ k => XS.iloadN X0.here hx rfl (hb hby d15_69) rfl k) ?_
  refine own_go (g' := (mkF m 71 #[.val (.int (4 : Int32)), .val (.int ((31 : Int32) + (-2 : Int32)))] [(.int (2 : Int32)), (.int (4 : Int32))])) (fun _ k => XS.iconst X0.here hx rfl (hb hby d15_70) k) ?_
  refine own_go (g' := (mkF m 72 #[.val (.int (4 : Int32)), .val (.int ((31 : Int32) + (-2 : Int32)))] [(.int (XT.ushr (4 : Int32) (2 : Int32)))])) (fun _ k => XT.iushr X0.here hx rfl (hb hby d15_71) rfl k) ?_
  refine own_go (g' := (mkF m 73 #[.val (.int (XT.ushr (4 : Int32) (2 : Int32))), .val (.int ((31 : Int32) + (-2 : Int32)))] [])) (fun _ k => XS.istoreN X0.here hx rfl (hb hby d15_72) rfl (l' := #[.val (.int (XT.ushr (4 : Int32) (2 : Int32))), .val (.int ((31 : Int32) + (-2 : Int32)))]) rfl k) ?_
  refine own_go (g' := (mkF m 74 #[.val (.int (XT.ushr (4 : Int32) (2 : Int32))), .val (.int ((31 : Int32) + (-2 : Int32)))] [(.int ((31 : Int32) + (-2 : Int32)))])) (fun _ k => XS.iloadN X0.here hx rfl (hb hby d15_73) rfl k) ?_
  refine own_go (g' := (mkF m 75 #[.val (.int (XT.ushr (4 : Int32) (2 : Int32))), .val (.int ((31 : Int32) + (-2 : Int32)))] [(.int (XT.ushr (4 : Int32) (2 : Int32))), (.int ((31 : Int32) + (-2 : Int32)))])) (fun _ k => XS.iloadN X0.here hx rfl (hb hby d15_74) rfl k) ?_
  refine own_go (g' := (mkF m 76 #[.val (.int (XT.ushr (4 : Int32) (2 : Int32))), .val (.int ((31 : Int32) + (-2 : Int32)))] [(.int (1 : Int32)), (.int (XT.ushr (4 : Int32) (2 : Int32))), (.int ((31 : Int32) + (-2 : Int32)))])) (fun _ k => XS.iconst X0.here hx rfl (hb hby d15_75) k) ?_
  refine own_go (g' := (mkF m 77 #[.val (.int (XT.ushr (4 : Int32) (2 : Int32))), .val (.int ((31 : Int32) + (-2 : Int32)))] [(.int (XT.ushr (XT.ushr (4 : Int32) (2 : Int32)) (1 : Int32))), (.int ((31 : Int32) + (-2 : Int32)))])) (fun _ k => XT.iushr X0.here hx rfl (hb hby d15_76) rfl k) ?_
  refine own_go (g' := (mkF m 78 #[.val (.int (XT.ushr (4 : Int32) (2 : Int32))), .val (.int ((31 : Int32) + (-2 : Int32)))] [(.int (((31 : Int32) + (-2 : Int32)) - (XT.ushr (XT.ushr (4 : Int32) (2 : Int32)) (1 : Int32))))])) (fun _ k => XS.isub X0.here hx rfl (hb hby d15_77) rfl k) ?_
  exact own_retI X0 hx hlk hret e0 (hb hby d15_78) ⟨rfl, rfl, rfl⟩ (by decide) (by decide)
set_option maxRecDepth 65536 in
set_option maxHeartbeats 40000000 in
theorem own_rmHOB (l : Launch) (Z : State) (a0 : Array Value) (hw : ∀ d ∈ tables_1, d.before a0 Z = true) (ws : List Jvm.Cond)  (h0 : Heap) (n0 : Nat)  :
    own_Met l (⟨"java/lang/Integer", "highestOneBit", "(I)I"⟩ : MethodName) jdk_33_method_45_code 1 (some .int) ws ({ frames := 1, cells := 0, slots := 0, locals := 15 } : Room) Z #[(.int (4 : Int32))] h0 (own_QV (.int 4) h0) := by
  refine own_enter (plainFor_of_name pn_14) ?_
  intro p e s m below meth c T0 X0 hx hby hml hZ hown e0 hret hlk hnm
  have hown : s.vm.findClass "java/lang/Integer" = some m.cls := hown
  have hml : c.maxLocals = 1 := hml
  have N0 := Fr.nil n0
  refine own_start (ef_14 m (4 : Int32)) ?_
  show own_Go p e below _ T0 (mkF m 0 #[.val (.int (4 : Int32))] [])
  refine own_go (g' := (mkF m 1 #[.val (.int (4 : Int32))] [(.int (4 : Int32))])) (fun _ k => XS.iloadN X0.here hx rfl (hb hby d14_0) rfl k) ?_
  refine own_go (g' := (mkF m 3 #[.val (.int (4 : Int32))] [(.int (-2147483648 : Int32)), (.int (4 : Int32))])) (fun _ k => X0.ldcInt hx hown (mvT hZ (hw _ (List.mem_of_getElem? (i := 108) rfl))) (g := (mkF m 1 #[.val (.int (4 : Int32))] [(.int (4 : Int32))])) rfl (hb hby d14_1) _ k) ?_
  refine own_go (g' := (mkF m 4 #[.val (.int (4 : Int32))] [(.int (4 : Int32)), (.int (-2147483648 : Int32)), (.int (4 : Int32))])) (fun _ k => XS.iloadN X0.here hx rfl (hb hby d14_3) rfl k) ?_
  refine own_callS X0 hx hZ hown e0 (y := (⟨"java/lang/Integer", "numberOfLeadingZeros", "(I)I"⟩ : MethodName)) (rm := ({ frames := 0, cells := 0, slots := 0, locals := 0 } : Room)) (hw _ (List.mem_of_getElem? (i := 109) rfl)) (hw _ (List.mem_of_getElem? (i := 110) rfl)) (hw _ (List.mem_of_getElem? (i := 106) rfl)) (hw _ (List.mem_of_getElem? (i := 111) rfl)) (by decide) (argsL := [(.int (4 : Int32))]) (rest := [(.int (-2147483648 : Int32)), (.int (4 : Int32))]) (own_rmNLZ l Z a0 hw [] h0 n0) (by rw [hml]; rfl) pd_15 rfl rfl (hb hby d14_4) (W := 2) (Nat.le_of_eq rfl) (by decide) (by decide) (by decide) (by decide) ?_
  intro v1 T1 L1 X1 hQ1
  obtain ⟨rfl, e1, rfl⟩ := hQ1
  rw [List.append_nil] at X1
  show own_Go p e below _ T1 (mkF m 7 #[.val (.int (4 : Int32))] [(.int (29 : Int32)), (.int (-2147483648 : Int32)), (.int (4 : Int32))])
  refine own_go (g' := (mkF m 8 #[.val (.int (4 : Int32))] [(.int (XT.ushr (-2147483648 : Int32) (29 : Int32))), (.int (4 : Int32))])) (fun _ k => XT.iushr X1.here hx rfl (hb hby d14_7) rfl k) ?_
  refine own_go (g' := (mkF m 9 #[.val (.int (4 : Int32))] [(.int ((4 : Int32) &&& (XT.ushr (-2147483648 : Int32) (29 : Int32))))])) (fun _ k => XS.iand X1.here hx rfl (hb hby d14_8) rfl k) ?_
  exact own_retI X1 hx hlk hret e1 (hb hby d14_9) ⟨rfl, rfl, rfl⟩ (by decide) (by decide)
set_option maxRecDepth 65536 in
set_option maxHeartbeats 40000000 in
theorem own_rmRC (l : Launch) (Z : State) (a0 : Array Value) (hw : ∀ d ∈ tables_1, d.before a0 Z = true) (ws : List Jvm.Cond)  (h0 : Heap) (n0 : Nat)  :
    own_Met l (⟨"java/util/Arrays", "rangeCheck", "(III)V"⟩ : MethodName) jdk_65_method_30_code 3 none ws ({ frames := 0, cells := 0, slots := 0, locals := 0 } : Room) Z #[(.int (16 : Int32)), (.int (0 : Int32)), (.int (16 : Int32))] h0 (own_Qn h0) := by
  refine own_enter (plainFor_of_name pn_17) ?_
  intro p e s m below meth c T0 X0 hx hby hml hZ hown e0 hret hlk hnm
  have hown : s.vm.findClass "java/util/Arrays" = some m.cls := hown
  have hml : c.maxLocals = 3 := hml
  have N0 := Fr.nil n0
  refine own_start (ef_17 m (16 : Int32) (0 : Int32) (16 : Int32)) ?_
  show own_Go p e below _ T0 (mkF m 0 #[.val (.int (16 : Int32)), .val (.int (0 : Int32)), .val (.int (16 : Int32))] [])
  refine own_go (g' := (mkF m 1 #[.val (.int (16 : Int32)), .val (.int (0 : Int32)), .val (.int (16 : Int32))] [(.int (0 : Int32))])) (fun _ k => XS.iloadN X0.here hx rfl (hb hby d17_0) rfl k) ?_
  refine own_go (g' := (mkF m 2 #[.val (.int (16 : Int32)), .val (.int (0 : Int32)), .val (.int (16 : Int32))] [(.int (16 : Int32)), (.int (0 : Int32))])) (fun _ k => XS.iloadN X0.here hx rfl (hb hby d17_1) rfl k) ?_
  refine own_go (g' := (mkF m 46 #[.val (.int (16 : Int32)), .val (.int (0 : Int32)), .val (.int (16 : Int32))] [])) (fun _ k => XS.icmpYes X0.here hx rfl (pc0 := 2) (pc' := 46) rfl (hb hby d17_2) rfl (XT.ii_le_t (by decide)) (by decide) (by decide) k) ?_
  refine own_go (g' := (mkF m 47 #[.val (.int (16 : Int32)), .val (.int (0 : Int32)), .val (.int (16 : Int32))] [(.int (0 : Int32))])) (fun _ k => XS.iloadN X0.here hx rfl (hb hby d17_46) rfl k) ?_
  refine own_go (g' := (mkF m 59 #[.val (.int (16 : Int32)), .val (.int (0 : Int32)), .val (.int (16 : Int32))] [])) (fun _ k => XS.ifYes X0.here hx rfl (pc0 := 47) (pc' := 59) rfl (hb hby d17_47) rfl (XT.i0_ge_t (by decide)) (by decide) (by decide) k) ?_
  refine own_go (g' := (mkF m 60 #[.val (.int (16 : Int32)), .val (.int (0 : Int32)), .val (.int (16 : Int32))] [(.int (16 : Int32))])) (fun _ k => XS.iloadN X0.here hx rfl (hb hby d17_59) rfl k) ?_
  refine own_go (g' := (mkF m 61 #[.val (.int (16 : Int32)), .val (.int (0 : Int32)), .val (.int (16 : Int32))] [(.int (16 : Int32)), (.int (16 : Int32))])) (fun _ k => XS.iloadN X0.here hx rfl (hb hby d17_60) rfl k) ?_
  refine own_go (g' := (mkF m 73 #[.val (.int (16 : Int32)), .val (.int (0 : Int32)), .val (.int (16 : Int32))] [])) (fun _ k => XS.icmpYes X0.here hx rfl (pc0 := 61) (pc' := 73) rfl (hb hby d17_61) rfl (XT.ii_le_t (by decide)) (by decide) (by decide) k) ?_
  exact own_ret0 X0 hx hlk hret e0 (hb hby d17_73) ⟨rfl, rfl, rfl⟩ (by decide) (by decide)
set_option maxRecDepth 65536 in
set_option maxHeartbeats 40000000 in
theorem own_rmFi (l : Launch) (Z : State) (a0 : Array Value) (hw : ∀ d ∈ tables_1, d.before a0 Z = true) (ws : List Jvm.Cond) (a : Addr) (f : Nat → Int32) (h0 : Heap) (n0 : Nat) (ga : n0 ≤ a) (F0 : own_Ai Z h0 a .int 16 f) :
    own_Met l (⟨"java/util/Arrays", "fill", "([IIII)V"⟩ : MethodName) jdk_65_method_104_code 5 none ws ({ frames := 1, cells := 0, slots := 0, locals := 14 } : Room) Z #[(.ref a), (.int (0 : Int32)), (.int (16 : Int32)), (.int (-1 : Int32))] h0 (own_QF Z a h0 n0) := by
  refine own_enter (plainFor_of_name pn_16) ?_
  intro p e s m below meth c T0 X0 hx hby hml hZ hown e0 hret hlk hnm
  have hown : s.vm.findClass "java/util/Arrays" = some m.cls := hown
  have hml : c.maxLocals = 5 := hml
  have N0 := Fr.nil n0
  refine own_start (ef_16 m a (0 : Int32) (16 : Int32) (-1 : Int32)) ?_
  show own_Go p e below _ T0 (mkF m 0 #[.val (.ref a), .val (.int (0 : Int32)), .val (.int (16 : Int32)), .val (.int (-1 : Int32)), .unset] [])
  refine own_go (g' := (mkF m 1 #[.val (.ref a), .val (.int (0 : Int32)), .val (.int (16 : Int32)), .val (.int (-1 : Int32)), .unset] [(.ref a)])) (fun _ k => XS.aloadN X0.here hx rfl (hb hby d16_0) rfl rfl k) ?_
  refine own_len X0 hx hZ e0 F0 (hb hby d16_1) (16 : Int32) rfl ?_
  show own_Go p e below _ T0 (mkF m 2 #[.val (.ref a), .val (.int (0 : Int32)), .val (.int (16 : Int32)), .val (.int (-1 : Int32)), .unset] [(.int (16 : Int32))])
  refine own_go (g' := (mkF m 3 #[.val (.ref a), .val (.int (0 : Int32)), .val (.int (16 : Int32)), .val (.int (-1 : Int32)), .unset] [(.int (0 : Int32)), (.int (16 : Int32))])) (fun _ k => XS.iloadN X0.here hx rfl (hb hby d16_2) rfl k) ?_
  refine own_go (g' := (mkF m 4 #[.val (.ref a), .val (.int (0 : Int32)), .val (.int (16 : Int32)), .val (.int (-1 : Int32)), .unset] [(.int (16 : Int32)), (.int (0 : Int32)), (.int (16 : Int32))])) (fun _ k => XS.iloadN X0.here hx rfl (hb hby d16_3) rfl k) ?_
  refine own_callS X0 hx hZ hown e0 (y := (⟨"java/util/Arrays", "rangeCheck", "(III)V"⟩ : MethodName)) (rm := ({ frames := 0, cells := 0, slots := 0, locals := 0 } : Room)) (hw _ (List.mem_of_getElem? (i := 119) rfl)) (hw _ (List.mem_of_getElem? (i := 120) rfl)) (hw _ (List.mem_of_getElem? (i := 117) rfl)) (hw _ (List.mem_of_getElem? (i := 121) rfl)) (by decide) (argsL := [(.int (16 : Int32)), (.int (0 : Int32)), (.int (16 : Int32))]) (rest := []) (own_rmRC l Z a0 hw [] h0 n0) (by rw [hml]; rfl) pd_17 rfl rfl (hb hby d16_4) (W := 0) (Nat.le_of_eq rfl) (by decide) (by decide) (by decide) (by decide) ?_
  intro v2 T2 L2 X2 hQ2
  obtain ⟨rfl, e2, rfl⟩ := hQ2
  rw [List.append_nil] at X2
  show own_Go p e below _ T2 (mkF m 7 #[.val (.ref a), .val (.int (0 : Int32)), .val (.int (16 : Int32)), .val (.int (-1 : Int32)), .unset] [])
  refine own_go (g' := (mkF m 8 #[.val (.ref a), .val (.int (0 : Int32)), .val (.int (16 : Int32)), .val (.int (-1 : Int32)), .unset] [(.int (0 : Int32))])) (fun _ k => XS.iloadN X2.here hx rfl (hb hby d16_7) rfl k) ?_
  refine own_go (g' := (mkF m 10 #[.val (.ref a), .val (.int (0 : Int32)), .val (.int (16 : Int32)), .val (.int (-1 : Int32)), .val (.int (0 : Int32))] [])) (fun _ k => XS.istore X2.here hx rfl (hb hby d16_8) rfl (l' := #[.val (.ref a), .val (.int (0 : Int32)), .val (.int (16 : Int32)), .val (.int (-1 : Int32)), .val (.int (0 : Int32))]) rfl k) ?_
  suffices loop : ∀ (d i : Nat) (iv : Int32) T' h' lo f, Stand p l e ({ frames := 1, cells := 0, slots := 0, locals := 14 } : Room) s m #[(.ref a), (.int (0 : Int32)), (.int (16 : Int32)), (.int (-1 : Int32))] below meth c T' lo 0 0 → T'.heap = h' → Fr n0 lo → Keep h0 h' [a] → own_Ai Z h' a .int 16 f → (∀ j, j < i → f j = -1) → i + d = 16 → iv.toInt = (i : Int) → own_Go p e below (own_Po s (own_QF Z a h0 n0) 0 0) T' (mkF m 10 #[.val (.ref a), .val (.int (0 : Int32)), .val (.int (16 : Int32)), .val (.int (-1 : Int32)), .val (.int iv)] []) by
    exact loop 16 0 0 _ _ _ _ X2 e2 N0 (Keep.refl h0 [a]) F0 (fun j hj => absurd hj (Nat.not_lt_zero j)) rfl rfl
  intro d
  induction d with
  | zero =>
    intro i iv T1 h1 lo f X1 e1 N1 K1 F1 hj hid hiv
    refine own_go (g' := (mkF m 12 #[.val (.ref a), .val (.int (0 : Int32)), .val (.int (16 : Int32)), .val (.int (-1 : Int32)), .val (.int iv)] [(.int iv)])) (fun _ k => XS.iload X1.here hx rfl (hb hby d16_10) rfl k) ?_
    refine own_go (g' := (mkF m 13 #[.val (.ref a), .val (.int (0 : Int32)), .val (.int (16 : Int32)), .val (.int (-1 : Int32)), .val (.int iv)] [(.int (16 : Int32)), (.int iv)])) (fun _ k => XS.iloadN X1.here hx rfl (hb hby d16_12) rfl k) ?_
    refine own_go (g' := (mkF m 27 #[.val (.ref a), .val (.int (0 : Int32)), .val (.int (16 : Int32)), .val (.int (-1 : Int32)), .val (.int iv)] [])) (fun _ k => XS.icmpYes X1.here hx rfl (pc0 := 13) (pc' := 27) rfl (hb hby d16_13) rfl (XT.ii_ge_t (by rw [Int32.lt_iff_toInt_lt, hiv]; show ¬ (_ < (16 : Int)); omega)) (by decide) (by decide) k) ?_
    exact own_ret0 X1 hx hlk hret e1 (hb hby d16_27) ⟨rfl, N1, K1, own_Ai_eq F1 (fun i hi => hj i (by omega))⟩ (by decide) (by decide)
  | succ d ih =>
    intro i iv T1 h1 lo f X1 e1 N1 K1 F1 hj hid hiv
    refine own_go (g' := (mkF m 12 #[.val (.ref a), .val (.int (0 : Int32)), .val (.int (16 : Int32)), .val (.int (-1 : Int32)), .val (.int iv)] [(.int iv)])) (fun _ k => XS.iload X1.here hx rfl (hb hby d16_10) rfl k) ?_
    refine own_go (g' := (mkF m 13 #[.val (.ref a), .val (.int (0 : Int32)), .val (.int (16 : Int32)), .val (.int (-1 : Int32)), .val (.int iv)] [(.int (16 : Int32)), (.int iv)])) (fun _ k => XS.iloadN X1.here hx rfl (hb hby d16_12) rfl k) ?_
    refine own_go (g' := (mkF m 16 #[.val (.ref a), .val (.int (0 : Int32)), .val (.int (16 : Int32)), .val (.int (-1 : Int32)), .val (.int iv)] [])) (fun _ k => XS.icmpNo X1.here hx rfl (hb hby d16_13) rfl (XT.ii_ge_f (by rw [Int32.lt_iff_toInt_lt, hiv]; show (_ < (16 : Int)); omega)) k) ?_
    refine own_go (g' := (mkF m 17 #[.val (.ref a), .val (.int (0 : Int32)), .val (.int (16 : Int32)), .val (.int (-1 : Int32)), .val (.int iv)] [(.ref a)])) (fun _ k => XS.aloadN X1.here hx rfl (hb hby d16_16) rfl rfl k) ?_
    refine own_go (g' := (mkF m 19 #[.val (.ref a), .val (.int (0 : Int32)), .val (.int (16 : Int32)), .val (.int (-1 : Int32)), .val (.int iv)] [(.int iv), (.ref a)])) (fun _ k => XS.iload X1.here hx rfl (hb hby d16_17) rfl k) ?_
    refine own_go (g' := (mkF m 20 #[.val (.ref a), .val (.int (0 : Int32)), .val (.int (16 : Int32)), .val (.int (-1 : Int32)), .val (.int iv)] [(.int (-1 : Int32)), (.int iv), (.ref a)])) (fun _ k => XS.iloadN X1.here hx rfl (hb hby d16_19) rfl k) ?_
    refine own_iastore X1 hx hZ e1 F1 i hiv (by omega) (hb hby d16_20) ?_
    intro T3 h3 X3 e3 W3
    have A3 : own_Ai Z h3 a .int 16 (own_upi f i (-1 : Int32)) := own_Ai_set (f := f) F1 W3
    have K3 := K1.wr W3 (Or.inl (List.mem_of_getElem? (i := 0) rfl))
    have N3 := Fr.snoc X3 N1 ga
    show own_Go p e below _ T3 (mkF m 21 #[.val (.ref a), .val (.int (0 : Int32)), .val (.int (16 : Int32)), .val (.int (-1 : Int32)), .val (.int iv)] [])
    refine own_go (g' := (mkF m 24 #[.val (.ref a), .val (.int (0 : Int32)), .val (.int (16 : Int32)), .val (.int (-1 : Int32)), .val (.int (iv + (1 : Int32)))] [])) (fun _ k => XS.iinc X3.here hx rfl (hb hby d16_21) rfl (l' := #[.val (.ref a), .val (.int (0 : Int32)), .val (.int (16 : Int32)), .val (.int (-1 : Int32)), .val (.int (iv + (1 : Int32)))]) rfl k) ?_
    refine own_go (g' := (mkF m 10 #[.val (.ref a), .val (.int (0 : Int32)), .val (.int (16 : Int32)), .val (.int (-1 : Int32)), .val (.int (iv + (1 : Int32)))] [])) (fun _ k => XS.goto X3.here hx rfl (pc0 := 24) (pc' := 10) rfl (hb hby d16_24) (by decide) (by decide) k) ?_
    exact ih (i + 1) _ _ _ _ _ X3 e3 N3 K3 A3 (own_fill_step hj) (by omega) (own_inc hiv (by omega))
set_option maxRecDepth 65536 in
set_option maxHeartbeats 40000000 in
theorem own_rmRec (l : Launch) (Z : State) (a0 : Array Value) (hw : ∀ d ∈ tables_1, d.before a0 Z = true) (ws : List Jvm.Cond) (a : Addr) (h0 : Heap) (n0 : Nat)  :
    own_Met l (⟨"java/lang/Record", "<init>", "()V"⟩ : MethodName) jdk_30_method_1_code 1 none ws ({ frames := 1, cells := 0, slots := 0, locals := 12 } : Room) Z #[(.ref a)] h0 (own_Qn h0) := by
  refine own_enter (plainFor_of_name pn_4) ?_
  intro p e s m below meth c T0 X0 hx hby hml hZ hown e0 hret hlk hnm
  have hown : s.vm.findClass "java/lang/Record" = some m.cls := hown
  have hml : c.maxLocals = 1 := hml
  have N0 := Fr.nil n0
  refine own_start (ef_4 m a) ?_
  show own_Go p e below _ T0 (mkF m 0 #[.val (.ref a)] [])
  refine own_go (g' := (mkF m 1 #[.val (.ref a)] [(.ref a)])) (fun _ k => XS.aloadN X0.here hx rfl (hb hby d4_0) rfl rfl k) ?_
  refine own_initO X0 hx hZ hown e0 (hw _ (List.mem_of_getElem? (i := 21) rfl)) (hw _ (List.mem_of_getElem? (i := 22) rfl)) (hw _ (List.mem_of_getElem? (i := 23) rfl)) (by rw [hml]; rfl) (hb hby d4_1) (by decide) (W := 0) (Nat.le_of_eq rfl) (by decide) ?_
  intro T4 X4 e4
  show own_Go p e below _ T4 (mkF m 4 #[.val (.ref a)] [])
  exact own_ret0 X4 hx hlk hret e4 (hb hby d4_4) ⟨rfl, rfl, rfl⟩ (by decide) (by decide)
set_option maxRecDepth 65536 in
set_option maxHeartbeats 40000000 in
theorem own_rmJ7 (l : Launch) (Z : State) (a0 : Array Value) (hw : ∀ d ∈ tables_1, d.before a0 Z = true) (ws : List Jvm.Cond) (a : Addr) (ix i3 : Int32) (q2 q4 q5 q6 q7 : Int64) (g : Nat → Value) (h0 : Heap) (n0 : Nat) (ga : n0 ≤ a) (B0 : own_Ob Z h0 a "com/example/gangplank/gangplank/workload/Job" own_fs2 g) :
    own_Met l (⟨"com/example/gangplank/gangplank/workload/Job", "<init>", "(IJIJJJJ)V"⟩ : MethodName) prog_245_method_3_code 13 none ws ({ frames := 2, cells := 0, slots := 0, locals := 24 } : Room) Z #[(.ref a), (.int ix), (.long q2), (.int i3), (.long q4), (.long q5), (.long q6), (.long q7)] h0 (own_QJ Z a ix h0 n0) := by
  refine own_enter (plainFor_of_name pn_3) ?_
  intro p e s m below meth c T0 X0 hx hby hml hZ hown e0 hret hlk hnm
  have hown : s.vm.findClass "com/example/gangplank/gangplank/workload/Job" = some m.cls := hown
  have hml : c.maxLocals = 13 := hml
  have N0 := Fr.nil n0
  refine own_start (ef_3 m a ix q2 i3 q4 q5 q6 q7) ?_
  show own_Go p e below _ T0 (mkF m 0 #[.val (.ref a), .val (.int ix), .val (.long q2), .second, .val (.int i3), .val (.long q4), .second, .val (.long q5), .second, .val (.long q6), .second, .val (.long q7), .second] [])
  have K0 := Keep.refl h0 [a]
  refine own_go (g' := (mkF m 1 #[.val (.ref a), .val (.int ix), .val (.long q2), .second, .val (.int i3), .val (.long q4), .second, .val (.long q5), .second, .val (.long q6), .second, .val (.long q7), .second] [(.ref a)])) (fun _ k => XS.aloadN X0.here hx rfl (hb hby d3_0) rfl rfl k) ?_
  refine own_callC X0 hx hZ hown e0 (y := (⟨"java/lang/Record", "<init>", "()V"⟩ : MethodName)) (rm := ({ frames := 1, cells := 0, slots := 0, locals := 12 } : Room)) rfl (hw _ (List.mem_of_getElem? (i := 16) rfl)) (hw _ (List.mem_of_getElem? (i := 17) rfl)) (hw _ (List.mem_of_getElem? (i := 19) rfl)) (hw _ (List.mem_of_getElem? (i := 20) rfl)) (by decide) (a := a) (argsL := []) (rest := []) (own_rmRec l Z a0 hw [] a h0 n0) (by rw [hml]; rfl) pd_4 rfl rfl (hb hby d3_1) (W := 0) (Nat.le_of_eq rfl) (by decide) (by decide) (by decide) (by decide) ?_
  intro v5 T5 L5 X5 hQ5
  obtain ⟨rfl, e5, rfl⟩ := hQ5
  rw [List.append_nil] at X5
  show own_Go p e below _ T5 (mkF m 4 #[.val (.ref a), .val (.int ix), .val (.long q2), .second, .val (.int i3), .val (.long q4), .second, .val (.long q5), .second, .val (.long q6), .second, .val (.long q7), .second] [])
  refine own_go (g' := (mkF m 5 #[.val (.ref a), .val (.int ix), .val (.long q2), .second, .val (.int i3), .val (.long q4), .second, .val (.long q5), .second, .val (.long q6), .second, .val (.long q7), .second] [(.ref a)])) (fun _ k => XS.aloadN X5.here hx rfl (hb hby d3_4) rfl rfl k) ?_
  refine own_go (g' := (mkF m 6 #[.val (.ref a), .val (.int ix), .val (.long q2), .second, .val (.int i3), .val (.long q4), .second, .val (.long q5), .second, .val (.long q6), .second, .val (.long q7), .second] [(.int ix), (.ref a)])) (fun _ k => XS.iloadN X5.here hx rfl (hb hby d3_5) rfl k) ?_
  refine own_putF X5 hx hZ (host := "") (ty := .int) hown e5 (Or.inl (hw _ (List.mem_of_getElem? (i := 24) rfl))) Via.refl (own_Ob_fld B0 0 rfl) B0.1 (Or.inr ⟨(hw _ (List.mem_of_getElem? (i := 25) rfl)), rfl, hnm⟩) (hw _ (List.mem_of_getElem? (i := 8) rfl)) (by decide) rfl rfl (hb hby d3_6) ?_
  intro T6 h6 X6 e6 W6
  have B6 := own_Ob_put B0 own_ok2 (own_ld2 hw) 0 rfl W6
  have K6 := K0.wr W6 (Or.inl (List.mem_of_getElem? (i := 0) rfl))
  have N6 := Fr.snoc X6 N0 ga
  show own_Go p e below _ T6 (mkF m 9 #[.val (.ref a), .val (.int ix), .val (.long q2), .second, .val (.int i3), .val (.long q4), .second, .val (.long q5), .second, .val (.long q6), .second, .val (.long q7), .second] [])
  refine own_go (g' := (mkF m 10 #[.val (.ref a), .val (.int ix), .val (.long q2), .second, .val (.int i3), .val (.long q4), .second, .val (.long q5), .second, .val (.long q6), .second, .val (.long q7), .second] [(.ref a)])) (fun _ k => XS.aloadN X6.here hx rfl (hb hby d3_9) rfl rfl k) ?_
  refine own_go (g' := (mkF m 11 #[.val (.ref a), .val (.int ix), .val (.long q2), .second, .val (.int i3), .val (.long q4), .second, .val (.long q5), .second, .val (.long q6), .second, .val (.long q7), .second] [(.long q2), (.ref a)])) (fun _ k => XT.lloadN X6.here hx rfl (hb hby d3_10) rfl k) ?_
  refine own_putF X6 hx hZ (host := "") (ty := .long) hown e6 (Or.inl (hw _ (List.mem_of_getElem? (i := 26) rfl))) Via.refl (own_Ob_fld B6 1 rfl) B6.1 (Or.inr ⟨(hw _ (List.mem_of_getElem? (i := 27) rfl)), rfl, hnm⟩) (hw _ (List.mem_of_getElem? (i := 8) rfl)) (by decide) rfl rfl (hb hby d3_11) ?_
  intro T7 h7 X7 e7 W7
  have B7 := own_Ob_put B6 own_ok2 (own_ld2 hw) 1 rfl W7
  have K7 := K6.wr W7 (Or.inl (List.mem_of_getElem? (i := 0) rfl))
  have N7 := Fr.snoc X7 N6 ga
  show own_Go p e below _ T7 (mkF m 14 #[.val (.ref a), .val (.int ix), .val (.long q2), .second, .val (.int i3), .val (.long q4), .second, .val (.long q5), .second, .val (.long q6), .second, .val (.long q7), .second] [])
  refine own_go (g' := (mkF m 15 #[.val (.ref a), .val (.int ix), .val (.long q2), .second, .val (.int i3), .val (.long q4), .second, .val (.long q5), .second, .val (.long q6), .second, .val (.long q7), .second] [(.ref a)])) (fun _ k => XS.aloadN X7.here hx rfl (hb hby d3_14) rfl rfl k) ?_
  refine own_go (g' := (mkF m 17 #[.val (.ref a), .val (.int ix), .val (.long q2), .second, .val (.int i3), .val (.long q4), .second, .val (.long q5), .second, .val (.long q6), .second, .val (.long q7), .second] [(.int i3), (.ref a)])) (fun _ k => XS.iload X7.here hx rfl (hb hby d3_15) rfl k) ?_
  refine own_putF X7 hx hZ (host := "") (ty := .int) hown e7 (Or.inl (hw _ (List.mem_of_getElem? (i := 28) rfl))) Via.refl (own_Ob_fld B7 2 rfl) B7.1 (Or.inr ⟨(hw _ (List.mem_of_getElem? (i := 29) rfl)), rfl, hnm⟩) (hw _ (List.mem_of_getElem? (i := 8) rfl)) (by decide) rfl rfl (hb hby d3_17) ?_
  intro T8 h8 X8 e8 W8
  have B8 := own_Ob_put B7 own_ok2 (own_ld2 hw) 2 rfl W8
  have K8 := K7.wr W8 (Or.inl (List.mem_of_getElem? (i := 0) rfl))
  have N8 := Fr.snoc X8 N7 ga
  show own_Go p e below _ T8 (mkF m 20 #[.val (.ref a), .val (.int ix), .val (.long q2), .second, .val (.int i3), .val (.long q4), .second, .val (.long q5), .second, .val (.long q6), .second, .val (.long q7), .second] [])
  refine own_go (g' := (mkF m 21 #[.val (.ref a), .val (.int ix), .val (.long q2), .second, .val (.int i3), .val (.long q4), .second, .val (.long q5), .second, .val (.long q6), .second, .val (.long q7), .second] [(.ref a)])) (fun _ k => XS.aloadN X8.here hx rfl (hb hby d3_20) rfl rfl k) ?_
  refine own_go (g' := (mkF m 23 #[.val (.ref a), .val (.int ix), .val (.long q2), .second, .val (.int i3), .val (.long q4), .second, .val (.long q5), .second, .val (.long q6), .second, .val (.long q7), .second] [(.long q4), (.ref a)])) (fun _ k => XT.lload X8.here hx rfl (hb hby d3_21) rfl k) ?_
  refine own_putF X8 hx hZ (host := "") (ty := .long) hown e8 (Or.inl (hw _ (List.mem_of_getElem? (i := 30) rfl))) Via.refl (own_Ob_fld B8 3 rfl) B8.1 (Or.inr ⟨(hw _ (List.mem_of_getElem? (i := 31) rfl)), rfl, hnm⟩) (hw _ (List.mem_of_getElem? (i := 8) rfl)) (by decide) rfl rfl (hb hby d3_23) ?_
  intro T9 h9 X9 e9 W9
  have B9 := own_Ob_put B8 own_ok2 (own_ld2 hw) 3 rfl W9
  have K9 := K8.wr W9 (Or.inl (List.mem_of_getElem? (i := 0) rfl))
  have N9 := Fr.snoc X9 N8 ga
  show own_Go p e below _ T9 (mkF m 26 #[.val (.ref a), .val (.int ix), .val (.long q2), .second, .val (.int i3), .val (.long q4), .second, .val (.long q5), .second, .val (.long q6), .second, .val (.long q7), .second] [])
  refine own_go (g' := (mkF m 27 #[.val (.ref a), .val (.int ix), .val (.long q2), .second, .val (.int i3), .val (.long q4), .second, .val (.long q5), .second, .val (.long q6), .second, .val (.long q7), .second] [(.ref a)])) (fun _ k => XS.aloadN X9.here hx rfl (hb hby d3_26) rfl rfl k) ?_
  refine own_go (g' := (mkF m 29 #[.val (.ref a), .val (.int ix), .val (.long q2), .second, .val (.int i3), .val (.long q4), .second, .val (.long q5), .second, .val (.long q6), .second, .val (.long q7), .second] [(.long q5), (.ref a)])) (fun _ k => XT.lload X9.here hx rfl (hb hby d3_27) rfl k) ?_
  refine own_putF X9 hx hZ (host := "") (ty := .long) hown e9 (Or.inl (hw _ (List.mem_of_getElem? (i := 32) rfl))) Via.refl (own_Ob_fld B9 4 rfl) B9.1 (Or.inr ⟨(hw _ (List.mem_of_getElem? (i := 33) rfl)), rfl, hnm⟩) (hw _ (List.mem_of_getElem? (i := 8) rfl)) (by decide) rfl rfl (hb hby d3_29) ?_
  intro T10 h10 X10 e10 W10
  have B10 := own_Ob_put B9 own_ok2 (own_ld2 hw) 4 rfl W10
  have K10 := K9.wr W10 (Or.inl (List.mem_of_getElem? (i := 0) rfl))
  have N10 := Fr.snoc X10 N9 ga
  show own_Go p e below _ T10 (mkF m 32 #[.val (.ref a), .val (.int ix), .val (.long q2), .second, .val (.int i3), .val (.long q4), .second, .val (.long q5), .second, .val (.long q6), .second, .val (.long q7), .second] [])
  refine own_go (g' := (mkF m 33 #[.val (.ref a), .val (.int ix), .val (.long q2), .second, .val (.int i3), .val (.long q4), .second, .val (.long q5), .second, .val (.long q6), .second, .val (.long q7), .second] [(.ref a)])) (fun _ k => XS.aloadN X10.here hx rfl (hb hby d3_32) rfl rfl k) ?_
  refine own_go (g' := (mkF m 35 #[.val (.ref a), .val (.int ix), .val (.long q2), .second, .val (.int i3), .val (.long q4), .second, .val (.long q5), .second, .val (.long q6), .second, .val (.long q7), .second] [(.long q6), (.ref a)])) (fun _ k => XT.lload X10.here hx rfl (hb hby d3_33) rfl k) ?_
  refine own_putF X10 hx hZ (host := "") (ty := .long) hown e10 (Or.inl (hw _ (List.mem_of_getElem? (i := 34) rfl))) Via.refl (own_Ob_fld B10 5 rfl) B10.1 (Or.inr ⟨(hw _ (List.mem_of_getElem? (i := 35) rfl)), rfl, hnm⟩) (hw _ (List.mem_of_getElem? (i := 8) rfl)) (by decide) rfl rfl (hb hby d3_35) ?_
  intro T11 h11 X11 e11 W11
  have B11 := own_Ob_put B10 own_ok2 (own_ld2 hw) 5 rfl W11
  have K11 := K10.wr W11 (Or.inl (List.mem_of_getElem? (i := 0) rfl))
  have N11 := Fr.snoc X11 N10 ga
  show own_Go p e below _ T11 (mkF m 38 #[.val (.ref a), .val (.int ix), .val (.long q2), .second, .val (.int i3), .val (.long q4), .second, .val (.long q5), .second, .val (.long q6), .second, .val (.long q7), .second] [])
  refine own_go (g' := (mkF m 39 #[.val (.ref a), .val (.int ix), .val (.long q2), .second, .val (.int i3), .val (.long q4), .second, .val (.long q5), .second, .val (.long q6), .second, .val (.long q7), .second] [(.ref a)])) (fun _ k => XS.aloadN X11.here hx rfl (hb hby d3_38) rfl rfl k) ?_
  refine own_go (g' := (mkF m 41 #[.val (.ref a), .val (.int ix), .val (.long q2), .second, .val (.int i3), .val (.long q4), .second, .val (.long q5), .second, .val (.long q6), .second, .val (.long q7), .second] [(.long q7), (.ref a)])) (fun _ k => XT.lload X11.here hx rfl (hb hby d3_39) rfl k) ?_
  refine own_putF X11 hx hZ (host := "") (ty := .long) hown e11 (Or.inl (hw _ (List.mem_of_getElem? (i := 36) rfl))) Via.refl (own_Ob_fld B11 6 rfl) B11.1 (Or.inr ⟨(hw _ (List.mem_of_getElem? (i := 37) rfl)), rfl, hnm⟩) (hw _ (List.mem_of_getElem? (i := 8) rfl)) (by decide) rfl rfl (hb hby d3_41) ?_
  intro T12 h12 X12 e12 W12
  have B12 := own_Ob_put B11 own_ok2 (own_ld2 hw) 6 rfl W12
  have K12 := K11.wr W12 (Or.inl (List.mem_of_getElem? (i := 0) rfl))
  have N12 := Fr.snoc X12 N11 ga
  show own_Go p e below _ T12 (mkF m 44 #[.val (.ref a), .val (.int ix), .val (.long q2), .second, .val (.int i3), .val (.long q4), .second, .val (.long q5), .second, .val (.long q6), .second, .val (.long q7), .second] [])
  exact own_ret0 X12 hx hlk hret e12 (hb hby d3_44) ⟨rfl, N12, K12, _, B12, rfl⟩ (by decide) (by decide)
set_option maxRecDepth 65536 in
set_option maxHeartbeats 40000000 in
theorem own_rmJ5 (l : Launch) (Z : State) (a0 : Array Value) (hw : ∀ d ∈ tables_1, d.before a0 Z = true) (ws : List Jvm.Cond) (a : Addr) (ix i3 : Int32) (q2 q4 q5 : Int64) (g : Nat → Value) (h0 : Heap) (n0 : Nat) (ga : n0 ≤ a) (B0 : own_Ob Z h0 a "com/example/gangplank/gangplank/workload/Job" own_fs2 g) :
    own_Met l (⟨"com/example/gangplank/gangplank/workload/Job", "<init>", "(IJIJJ)V"⟩ : MethodName) prog_245_method_1_code 9 none ws ({ frames := 3, cells := 0, slots := 0, locals := 48 } : Room) Z #[(.ref a), (.int ix), (.long q2), (.int i3), (.long q4), (.long q5)] h0 (own_QJ Z a ix h0 n0) := by
  refine own_enter (plainFor_of_name pn_2) ?_
  intro p e s m below meth c T0 X0 hx hby hml hZ hown e0 hret hlk hnm
  have hown : s.vm.findClass "com/example/gangplank/gangplank/workload/Job" = some m.cls := hown
  have hml : c.maxLocals = 9 := hml
  have N0 := Fr.nil n0
  refine own_start (ef_2 m a ix q2 i3 q4 q5) ?_
  show own_Go p e below _ T0 (mkF m 0 #[.val (.ref a), .val (.int ix), .val (.long q2), .second, .val (.int i3), .val (.long q4), .second, .val (.long q5), .second] [])
  refine own_go (g' := (mkF m 1 #[.val (.ref a), .val (.int ix), .val (.long q2), .second, .val (.int i3), .val (.long q4), .second, .val (.long q5), .second] [(.ref a)])) (fun _ k => XS.aloadN X0.here hx rfl (hb hby d2_0) rfl rfl k) ?_
  refine own_go (g' := (mkF m 2 #[.val (.ref a), .val (.int ix), .val (.long q2), .second, .val (.int i3), .val (.long q4), .second, .val (.long q5), .second] [(.int ix), (.ref a)])) (fun _ k => XS.iloadN X0.here hx rfl (hb hby d2_1) rfl k) ?_
  refine own_go (g' := (mkF m 3 #[.val (.ref a), .val (.int ix), .val (.long q2), .second, .val (.int i3), .val (.long q4), .second, .val (.long q5), .second] [(.long q2), (.int ix), (.ref a)])) (fun _ k => XT.lloadN X0.here hx rfl (hb hby d2_2) rfl k) ?_
  refine own_go (g' := (mkF m 5 #[.val (.ref a), .val (.int ix), .val (.long q2), .second, .val (.int i3), .val (.long q4), .second, .val (.long q5), .second] [(.int i3), (.long q2), (.int ix), (.ref a)])) (fun _ k => XS.iload X0.here hx rfl (hb hby d2_3) rfl k) ?_
  refine own_go (g' := (mkF m 7 #[.val (.ref a), .val (.int ix), .val (.long q2), .second, .val (.int i3), .val (.long q4), .second, .val (.long q5), .second] [(.long q4), (.int i3), (.long q2), (.int ix), (.ref a)])) (fun _ k => XT.lload X0.here hx rfl (hb hby d2_5) rfl k) ?_
  refine own_go (g' := (mkF m 9 #[.val (.ref a), .val (.int ix), .val (.long q2), .second, .val (.int i3), .val (.long q4), .second, .val (.long q5), .second] [(.long q5), (.long q4), (.int i3), (.long q2), (.int ix), (.ref a)])) (fun _ k => XT.lload X0.here hx rfl (hb hby d2_7) rfl k) ?_
  refine own_go (g' := (mkF m 11 #[.val (.ref a), .val (.int ix), .val (.long q2), .second, .val (.int i3), .val (.long q4), .second, .val (.long q5), .second] [(.int i3), (.long q5), (.long q4), (.int i3), (.long q2), (.int ix), (.ref a)])) (fun _ k => XS.iload X0.here hx rfl (hb hby d2_9) rfl k) ?_
  refine own_go (g' := (mkF m 12 #[.val (.ref a), .val (.int ix), .val (.long q2), .second, .val (.int i3), .val (.long q4), .second, .val (.long q5), .second] [(.long ((i3).toInt64)), (.long q5), (.long q4), (.int i3), (.long q2), (.int ix), (.ref a)])) (fun _ k => XT.i2l X0.here hx rfl (hb hby d2_11) rfl k) ?_
  refine own_go (g' := (mkF m 13 #[.val (.ref a), .val (.int ix), .val (.long q2), .second, .val (.int i3), .val (.long q4), .second, .val (.long q5), .second] [(.long (0 : Int64)), (.long ((i3).toInt64)), (.long q5), (.long q4), (.int i3), (.long q2), (.int ix), (.ref a)])) (fun _ k => XT.lconst X0.here hx rfl (hb hby d2_12) k) ?_
  refine own_callC X0 hx hZ hown e0 (y := (⟨"com/example/gangplank/gangplank/workload/Job", "<init>", "(IJIJJJJ)V"⟩ : MethodName)) (rm := ({ frames := 2, cells := 0, slots := 0, locals := 24 } : Room)) rfl (hw _ (List.mem_of_getElem? (i := 13) rfl)) (hw _ (List.mem_of_getElem? (i := 14) rfl)) (hw _ (List.mem_of_getElem? (i := 9) rfl)) (hw _ (List.mem_of_getElem? (i := 15) rfl)) (by decide) (a := a) (argsL := [(.int ix), (.long q2), (.int i3), (.long q4), (.long q5), (.long ((i3).toInt64)), (.long (0 : Int64))]) (rest := []) (own_rmJ7 l Z a0 hw [] a ix i3 q2 q4 q5 (i3).toInt64 (0 : Int64) g h0 n0 ga B0) (by rw [hml]; rfl) pd_3 rfl rfl (hb hby d2_13) (W := 0) (Nat.le_of_eq rfl) (by decide) (by decide) (by decide) (by decide) ?_
  intro v13 T13 L13 X13 hQ13
  obtain ⟨rfl, N1, K1, r⟩ := hQ13
  show own_Go p e below _ T13 (mkF m 16 #[.val (.ref a), .val (.int ix), .val (.long q2), .second, .val (.int i3), .val (.long q4), .second, .val (.long q5), .second] [])
  exact own_ret0 X13 hx hlk hret rfl (hb hby d2_16) ⟨rfl, Fr.app N0 N1, K1, r⟩ (by decide) (by decide)
set_option maxRecDepth 65536 in
set_option maxHeartbeats 40000000 in
theorem own_rmIx (l : Launch) (Z : State) (a0 : Array Value) (hw : ∀ d ∈ tables_1, d.before a0 Z = true) (ws : List Jvm.Cond) (a : Addr) (ix : Int32) (g : Nat → Value) (h0 : Heap) (n0 : Nat) (B0 : own_Ob Z h0 a "com/example/gangplank/gangplank/workload/Job" own_fs2 g) (hg : g 0 = .int ix) :
    own_Met l (⟨"com/example/gangplank/gangplank/workload/Job", "index", "()I"⟩ : MethodName) prog_245_method_7_code 1 (some .int) ws ({ frames := 0, cells := 0, slots := 0, locals := 0 } : Room) Z #[(.ref a)] h0 (own_QV (.int ix) h0) := by
  refine own_enter (plainFor_of_name pn_18) ?_
  intro p e s m below meth c T0 X0 hx hby hml hZ hown e0 hret hlk hnm
  have hown : s.vm.findClass "com/example/gangplank/gangplank/workload/Job" = some m.cls := hown
  have hml : c.maxLocals = 1 := hml
  have N0 := Fr.nil n0
  refine own_start (ef_18 m a) ?_
  show own_Go p e below _ T0 (mkF m 0 #[.val (.ref a)] [])
  refine own_go (g' := (mkF m 1 #[.val (.ref a)] [(.ref a)])) (fun _ k => XS.aloadN X0.here hx rfl (hb hby d18_0) rfl rfl k) ?_
  refine own_getF X0 hx hZ (host := "") hown e0 (Or.inl (hw _ (List.mem_of_getElem? (i := 24) rfl))) Via.refl (own_Ob_fld B0 0 rfl) (hb hby d18_1) ?_
  intro T14 X14 e14
  show own_Go p e below _ T14 (mkF m 4 #[.val (.ref a)] [(g 0)])
  rw [hg]
  show own_Go p e below _ T14 (mkF m 4 #[.val (.ref a)] [(.int ix)])
  exact own_retI X14 hx hlk hret e14 (hb hby d18_4) ⟨rfl, rfl, rfl⟩ (by decide) (by decide)
set_option maxRecDepth 65536 in
set_option maxHeartbeats 40000000 in
theorem own_rmH (l : Launch) (Z : State) (a0 : Array Value) (hw : ∀ d ∈ tables_1, d.before a0 Z = true) (ws : List Jvm.Cond) (a : Addr) (h0 : Heap) (n0 : Nat) (Z0 : n0 ≤ h0.size) (ga : n0 ≤ a) (B0 : own_Ob Z h0 a "com/example/gangplank/gangplank/space/HeldFromNow" own_fs1 (own_gl own_dl1)) :
    own_Met l (⟨"com/example/gangplank/gangplank/space/HeldFromNow", "<init>", "()V"⟩ : MethodName) prog_214_method_1_code 1 none ws ({ frames := 1, cells := 7, slots := 56, locals := 12 } : Room) Z #[(.ref a)] h0 (own_QH Z a h0 n0) := by
  refine own_enter (plainFor_of_name pn_6) ?_
  intro p e s m below meth c T0 X0 hx hby hml hZ hown e0 hret hlk hnm
  have hown : s.vm.findClass "com/example/gangplank/gangplank/space/HeldFromNow" = some m.cls := hown
  have hml : c.maxLocals = 1 := hml
  have N0 := Fr.nil n0
  refine own_start (ef_6 m a) ?_
  show own_Go p e below _ T0 (mkF m 0 #[.val (.ref a)] [])
  have K0 := Keep.refl h0 [a]
  refine own_go (g' := (mkF m 1 #[.val (.ref a)] [(.ref a)])) (fun _ k => XS.aloadN X0.here hx rfl (hb hby d6_0) rfl rfl k) ?_
  refine own_initO X0 hx hZ hown e0 (hw _ (List.mem_of_getElem? (i := 44) rfl)) (hw _ (List.mem_of_getElem? (i := 22) rfl)) (hw _ (List.mem_of_getElem? (i := 23) rfl)) (by rw [hml]; rfl) (hb hby d6_1) (by decide) (W := 0) (Nat.le_of_eq rfl) (by decide) ?_
  intro T15 X15 e15
  show own_Go p e below _ T15 (mkF m 4 #[.val (.ref a)] [])
  have U0 : own_Up [a] := List.pairwise_singleton _ _
  refine own_go (g' := (mkF m 5 #[.val (.ref a)] [(.ref a)])) (fun _ k => XS.aloadN X15.here hx rfl (hb hby d6_4) rfl rfl k) ?_
  refine own_go (g' := (mkF m 7 #[.val (.ref a)] [(.int (8 : Int32)), (.ref a)])) (fun _ k => XS.bipush X15.here hx rfl (hb hby d6_5) k) ?_
  refine own_newP X15 hx hZ e15 (aty := .long) (hw _ (List.mem_of_getElem? (i := 45) rfl)) 8 (by decide) (by decide) (by decide) (by decide) (by decide) (hb hby d6_7) ?_
  intro T16 h16 b16 g16 X16 e16 E16 A16
  have ne17 : a ≠ b16 := Nat.ne_of_lt (Nat.lt_of_lt_of_le (own_Ob_lt B0) (Nat.le_of_eq g16.symm))
  have sz16 : h0.size ≤ b16 := Nat.le_trans K0.1 (Nat.le_of_eq g16.symm)
  have ge16 : n0 ≤ b16 := Nat.le_trans Z0 sz16
  have K16 := K0.ext E16
  show own_Go p e below _ T16 (mkF m 9 #[.val (.ref a)] [(.ref b16), (.ref a)])
  have L16 : own_Al Z h16 b16 8 (fun _ => 0) := A16
  have U16 : own_Up [a, b16] := own_Up_snoc U0 (allS (Nat.lt_of_lt_of_le (own_Ob_lt B0) (Nat.le_of_eq g16.symm)) all0)
  have f18 := (own_Ob_ext B0 E16)
  refine own_putF X16 hx hZ (host := "") (ty := (.array .long)) hown e16 (Or.inl (hw _ (List.mem_of_getElem? (i := 46) rfl))) Via.refl (own_Ob_fld f18 0 rfl) f18.1 (Or.inl (hw _ (List.mem_of_getElem? (i := 47) rfl))) (hw _ (List.mem_of_getElem? (i := 39) rfl)) (by decide) rfl rfl (hb hby d6_9) ?_
  intro T19 h19 X19 e19 W19
  have B19 := own_Ob_put f18 own_ok1 (own_ld1 hw) 0 rfl W19
  have K19 := K16.wr W19 (Or.inl (List.mem_of_getElem? (i := 0) rfl))
  have N19 := Fr.snoc X19 N0 ga
  show own_Go p e below _ T19 (mkF m 12 #[.val (.ref a)] [])
  refine own_go (g' := (mkF m 13 #[.val (.ref a)] [(.ref a)])) (fun _ k => XS.aloadN X19.here hx rfl (hb hby d6_12) rfl rfl k) ?_
  refine own_go (g' := (mkF m 15 #[.val (.ref a)] [(.int (8 : Int32)), (.ref a)])) (fun _ k => XS.bipush X19.here hx rfl (hb hby d6_13) k) ?_
  have f20 := (own_Ar_other L16 W19 (Ne.symm ne17))
  refine own_newP X19 hx hZ e19 (aty := .long) (hw _ (List.mem_of_getElem? (i := 45) rfl)) 8 (by decide) (by decide) (by decide) (by decide) (by decide) (hb hby d6_15) ?_
  intro T21 h21 b21 g21 X21 e21 E21 A21
  have ne22 : a ≠ b21 := Nat.ne_of_lt (Nat.lt_of_lt_of_le (own_Ob_lt B19) (Nat.le_of_eq g21.symm))
  have ne23 : b16 ≠ b21 := Nat.ne_of_lt (Nat.lt_of_lt_of_le (own_Ar_lt f20) (Nat.le_of_eq g21.symm))
  have sz21 : h0.size ≤ b21 := Nat.le_trans K19.1 (Nat.le_of_eq g21.symm)
  have ge21 : n0 ≤ b21 := Nat.le_trans Z0 sz21
  have K21 := K19.ext E21
  show own_Go p e below _ T21 (mkF m 17 #[.val (.ref a)] [(.ref b21), (.ref a)])
  have L21 : own_Al Z h21 b21 8 (fun _ => 0) := A21
  have U21 : own_Up [a, b16, b21] := own_Up_snoc U16 (allS (Nat.lt_of_lt_of_le (own_Ob_lt B19) (Nat.le_of_eq g21.symm)) (allS (Nat.lt_of_lt_of_le (own_Ar_lt f20) (Nat.le_of_eq g21.symm)) all0))
  have f24 := (own_Ob_ext B19 E21)
  refine own_putF X21 hx hZ (host := "") (ty := (.array .long)) hown e21 (Or.inl (hw _ (List.mem_of_getElem? (i := 48) rfl))) Via.refl (own_Ob_fld f24 1 rfl) f24.1 (Or.inl (hw _ (List.mem_of_getElem? (i := 49) rfl))) (hw _ (List.mem_of_getElem? (i := 39) rfl)) (by decide) rfl rfl (hb hby d6_17) ?_
  intro T25 h25 X25 e25 W25
  have B25 := own_Ob_put f24 own_ok1 (own_ld1 hw) 1 rfl W25
  have K25 := K21.wr W25 (Or.inl (List.mem_of_getElem? (i := 0) rfl))
  have N25 := Fr.snoc X25 N19 ga
  show own_Go p e below _ T25 (mkF m 20 #[.val (.ref a)] [])
  refine own_go (g' := (mkF m 21 #[.val (.ref a)] [(.ref a)])) (fun _ k => XS.aloadN X25.here hx rfl (hb hby d6_20) rfl rfl k) ?_
  refine own_go (g' := (mkF m 23 #[.val (.ref a)] [(.int (8 : Int32)), (.ref a)])) (fun _ k => XS.bipush X25.here hx rfl (hb hby d6_21) k) ?_
  have f26 := (own_Ar_other L21 W25 (Ne.symm ne22))
  have f27 := (own_Ar_other (own_Ar_ext f20 E21) W25 (Ne.symm ne17))
  refine own_newR X25 hx hZ hown e25 (hw _ (List.mem_of_getElem? (i := 50) rfl)) (hw _ (List.mem_of_getElem? (i := 51) rfl)) 8 (by decide) (by decide) (by decide) (by decide) (by decide) (hb hby d6_23) ?_
  intro T28 h28 b28 g28 X28 e28 E28 A28
  have ne29 : a ≠ b28 := Nat.ne_of_lt (Nat.lt_of_lt_of_le (own_Ob_lt B25) (Nat.le_of_eq g28.symm))
  have ne30 : b16 ≠ b28 := Nat.ne_of_lt (Nat.lt_of_lt_of_le (own_Ar_lt f27) (Nat.le_of_eq g28.symm))
  have ne31 : b21 ≠ b28 := Nat.ne_of_lt (Nat.lt_of_lt_of_le (own_Ar_lt f26) (Nat.le_of_eq g28.symm))
  have sz28 : h0.size ≤ b28 := Nat.le_trans K25.1 (Nat.le_of_eq g28.symm)
  have ge28 : n0 ≤ b28 := Nat.le_trans Z0 sz28
  have K28 := K25.ext E28
  show own_Go p e below _ T28 (mkF m 26 #[.val (.ref a)] [(.ref b28), (.ref a)])
  have U28 : own_Up [a, b16, b21, b28] := own_Up_snoc U21 (allS (Nat.lt_of_lt_of_le (own_Ob_lt B25) (Nat.le_of_eq g28.symm)) (allS (Nat.lt_of_lt_of_le (own_Ar_lt f27) (Nat.le_of_eq g28.symm)) (allS (Nat.lt_of_lt_of_le (own_Ar_lt f26) (Nat.le_of_eq g28.symm)) all0)))
  have f32 := (own_Ob_ext B25 E28)
  refine own_putF X28 hx hZ (host := "") (ty := (.array (.object "com/example/gangplank/gangplank/workload/Job"))) hown e28 (Or.inl (hw _ (List.mem_of_getElem? (i := 52) rfl))) Via.refl (own_Ob_fld f32 2 rfl) f32.1 (Or.inl (hw _ (List.mem_of_getElem? (i := 53) rfl))) (hw _ (List.mem_of_getElem? (i := 39) rfl)) (by decide) rfl rfl (hb hby d6_26) ?_
  intro T33 h33 X33 e33 W33
  have B33 := own_Ob_put f32 own_ok1 (own_ld1 hw) 2 rfl W33
  have K33 := K28.wr W33 (Or.inl (List.mem_of_getElem? (i := 0) rfl))
  have N33 := Fr.snoc X33 N25 ga
  show own_Go p e below _ T33 (mkF m 29 #[.val (.ref a)] [])
  refine own_go (g' := (mkF m 30 #[.val (.ref a)] [(.ref a)])) (fun _ k => XS.aloadN X33.here hx rfl (hb hby d6_29) rfl rfl k) ?_
  refine own_go (g' := (mkF m 31 #[.val (.ref a)] [(.int (1 : Int32)), (.ref a)])) (fun _ k => XS.iconst X33.here hx rfl (hb hby d6_30) k) ?_
  refine own_putFN X33 hx hZ (ty := .boolean) (v := (.int (1 : Int32))) (v' := (.int (nar .boolean (1 : Int32)))) hown e33 (hw _ (List.mem_of_getElem? (i := 54) rfl)) Via.refl (own_Ob_fld B33 3 rfl) B33.1 (Or.inl (hw _ (List.mem_of_getElem? (i := 55) rfl))) (hw _ (List.mem_of_getElem? (i := 39) rfl)) (by decide) rfl (fits_nar_bool _) (hb hby d6_31) ?_
  intro T34 h34 X34 e34 W34
  have B34 := own_Ob_put B33 own_ok1 (own_ld1 hw) 3 rfl W34
  have K34 := K33.wr W34 (Or.inl (List.mem_of_getElem? (i := 0) rfl))
  have N34 := Fr.snoc X34 N33 ga
  show own_Go p e below _ T34 (mkF m 34 #[.val (.ref a)] [])
  refine own_go (g' := (mkF m 35 #[.val (.ref a)] [(.ref a)])) (fun _ k => XS.aloadN X34.here hx rfl (hb hby d6_34) rfl rfl k) ?_
  refine own_go (g' := (mkF m 37 #[.val (.ref a)] [(.int (16 : Int32)), (.ref a)])) (fun _ k => XS.bipush X34.here hx rfl (hb hby d6_35) k) ?_
  have f35 := (own_Rr_other (own_Rr_other A28 W33 (Ne.symm ne29)) W34 (Ne.symm ne29))
  have f36 := (own_Ar_other (own_Ar_other (own_Ar_ext f27 E28) W33 (Ne.symm ne17)) W34 (Ne.symm ne17))
  have f37 := (own_Ar_other (own_Ar_other (own_Ar_ext f26 E28) W33 (Ne.symm ne22)) W34 (Ne.symm ne22))
  refine own_newP X34 hx hZ e34 (aty := .long) (hw _ (List.mem_of_getElem? (i := 45) rfl)) 16 (by decide) (by decide) (by decide) (by decide) (by decide) (hb hby d6_37) ?_
  intro T38 h38 b38 g38 X38 e38 E38 A38
  have ne39 : a ≠ b38 := Nat.ne_of_lt (Nat.lt_of_lt_of_le (own_Ob_lt B34) (Nat.le_of_eq g38.symm))
  have ne40 : b16 ≠ b38 := Nat.ne_of_lt (Nat.lt_of_lt_of_le (own_Ar_lt f36) (Nat.le_of_eq g38.symm))
  have ne41 : b21 ≠ b38 := Nat.ne_of_lt (Nat.lt_of_lt_of_le (own_Ar_lt f37) (Nat.le_of_eq g38.symm))
  have ne42 : b28 ≠ b38 := Nat.ne_of_lt (Nat.lt_of_lt_of_le (own_Rr_lt f35) (Nat.le_of_eq g38.symm))
  have sz38 : h0.size ≤ b38 := Nat.le_trans K34.1 (Nat.le_of_eq g38.symm)
  have ge38 : n0 ≤ b38 := Nat.le_trans Z0 sz38
  have K38 := K34.ext E38
  show own_Go p e below _ T38 (mkF m 39 #[.val (.ref a)] [(.ref b38), (.ref a)])
  have L38 : own_Al Z h38 b38 16 (fun _ => 0) := A38
  have U38 : own_Up [a, b16, b21, b28, b38] := own_Up_snoc U28 (allS (Nat.lt_of_lt_of_le (own_Ob_lt B34) (Nat.le_of_eq g38.symm)) (allS (Nat.lt_of_lt_of_le (own_Ar_lt f36) (Nat.le_of_eq g38.symm)) (allS (Nat.lt_of_lt_of_le (own_Ar_lt f37) (Nat.le_of_eq g38.symm)) (allS (Nat.lt_of_lt_of_le (own_Rr_lt f35) (Nat.le_of_eq g38.symm)) all0))))
  have f43 := (own_Ob_ext B34 E38)
  refine own_putF X38 hx hZ (host := "") (ty := (.array .long)) hown e38 (Or.inl (hw _ (List.mem_of_getElem? (i := 56) rfl))) Via.refl (own_Ob_fld f43 4 rfl) f43.1 (Or.inl (hw _ (List.mem_of_getElem? (i := 57) rfl))) (hw _ (List.mem_of_getElem? (i := 39) rfl)) (by decide) rfl rfl (hb hby d6_39) ?_
  intro T44 h44 X44 e44 W44
  have B44 := own_Ob_put f43 own_ok1 (own_ld1 hw) 4 rfl W44
  have K44 := K38.wr W44 (Or.inl (List.mem_of_getElem? (i := 0) rfl))
  have N44 := Fr.snoc X44 N34 ga
  show own_Go p e below _ T44 (mkF m 42 #[.val (.ref a)] [])
  refine own_go (g' := (mkF m 43 #[.val (.ref a)] [(.ref a)])) (fun _ k => XS.aloadN X44.here hx rfl (hb hby d6_42) rfl rfl k) ?_
  refine own_go (g' := (mkF m 45 #[.val (.ref a)] [(.int (16 : Int32)), (.ref a)])) (fun _ k => XS.bipush X44.here hx rfl (hb hby d6_43) k) ?_
  have f45 := (own_Ar_other L38 W44 (Ne.symm ne39))
  have f46 := (own_Ar_other (own_Ar_ext f36 E38) W44 (Ne.symm ne17))
  have f47 := (own_Ar_other (own_Ar_ext f37 E38) W44 (Ne.symm ne22))
  have f48 := (own_Rr_other (own_Rr_ext f35 E38) W44 (Ne.symm ne29))
  refine own_newP X44 hx hZ e44 (aty := .long) (hw _ (List.mem_of_getElem? (i := 45) rfl)) 16 (by decide) (by decide) (by decide) (by decide) (by decide) (hb hby d6_45) ?_
  intro T49 h49 b49 g49 X49 e49 E49 A49
  have ne50 : a ≠ b49 := Nat.ne_of_lt (Nat.lt_of_lt_of_le (own_Ob_lt B44) (Nat.le_of_eq g49.symm))
  have ne51 : b16 ≠ b49 := Nat.ne_of_lt (Nat.lt_of_lt_of_le (own_Ar_lt f46) (Nat.le_of_eq g49.symm))
  have ne52 : b21 ≠ b49 := Nat.ne_of_lt (Nat.lt_of_lt_of_le (own_Ar_lt f47) (Nat.le_of_eq g49.symm))
  have ne53 : b28 ≠ b49 := Nat.ne_of_lt (Nat.lt_of_lt_of_le (own_Rr_lt f48) (Nat.le_of_eq g49.symm))
  have ne54 : b38 ≠ b49 := Nat.ne_of_lt (Nat.lt_of_lt_of_le (own_Ar_lt f45) (Nat.le_of_eq g49.symm))
  have sz49 : h0.size ≤ b49 := Nat.le_trans K44.1 (Nat.le_of_eq g49.symm)
  have ge49 : n0 ≤ b49 := Nat.le_trans Z0 sz49
  have K49 := K44.ext E49
  show own_Go p e below _ T49 (mkF m 47 #[.val (.ref a)] [(.ref b49), (.ref a)])
  have L49 : own_Al Z h49 b49 16 (fun _ => 0) := A49
  have U49 : own_Up [a, b16, b21, b28, b38, b49] := own_Up_snoc U38 (allS (Nat.lt_of_lt_of_le (own_Ob_lt B44) (Nat.le_of_eq g49.symm)) (allS (Nat.lt_of_lt_of_le (own_Ar_lt f46) (Nat.le_of_eq g49.symm)) (allS (Nat.lt_of_lt_of_le (own_Ar_lt f47) (Nat.le_of_eq g49.symm)) (allS (Nat.lt_of_lt_of_le (own_Rr_lt f48) (Nat.le_of_eq g49.symm)) (allS (Nat.lt_of_lt_of_le (own_Ar_lt f45) (Nat.le_of_eq g49.symm)) all0)))))
  have f55 := (own_Ob_ext B44 E49)
  refine own_putF X49 hx hZ (host := "") (ty := (.array .long)) hown e49 (Or.inl (hw _ (List.mem_of_getElem? (i := 58) rfl))) Via.refl (own_Ob_fld f55 5 rfl) f55.1 (Or.inl (hw _ (List.mem_of_getElem? (i := 59) rfl))) (hw _ (List.mem_of_getElem? (i := 39) rfl)) (by decide) rfl rfl (hb hby d6_47) ?_
  intro T56 h56 X56 e56 W56
  have B56 := own_Ob_put f55 own_ok1 (own_ld1 hw) 5 rfl W56
  have K56 := K49.wr W56 (Or.inl (List.mem_of_getElem? (i := 0) rfl))
  have N56 := Fr.snoc X56 N44 ga
  show own_Go p e below _ T56 (mkF m 50 #[.val (.ref a)] [])
  refine own_go (g' := (mkF m 51 #[.val (.ref a)] [(.ref a)])) (fun _ k => XS.aloadN X56.here hx rfl (hb hby d6_50) rfl rfl k) ?_
  refine own_go (g' := (mkF m 52 #[.val (.ref a)] [(.int (0 : Int32)), (.ref a)])) (fun _ k => XS.iconst X56.here hx rfl (hb hby d6_51) k) ?_
  have f57 := (own_Ar_other L49 W56 (Ne.symm ne50))
  have f58 := (own_Ar_other (own_Ar_ext f46 E49) W56 (Ne.symm ne17))
  have f59 := (own_Ar_other (own_Ar_ext f47 E49) W56 (Ne.symm ne22))
  have f60 := (own_Rr_other (own_Rr_ext f48 E49) W56 (Ne.symm ne29))
  have f61 := (own_Ar_other (own_Ar_ext f45 E49) W56 (Ne.symm ne39))
  refine own_newP X56 hx hZ e56 (aty := .int) (hw _ (List.mem_of_getElem? (i := 60) rfl)) 0 (by decide) (by decide) (by decide) (by decide) (by decide) (hb hby d6_52) ?_
  intro T62 h62 b62 g62 X62 e62 E62 A62
  have ne63 : a ≠ b62 := Nat.ne_of_lt (Nat.lt_of_lt_of_le (own_Ob_lt B56) (Nat.le_of_eq g62.symm))
  have ne64 : b16 ≠ b62 := Nat.ne_of_lt (Nat.lt_of_lt_of_le (own_Ar_lt f58) (Nat.le_of_eq g62.symm))
  have ne65 : b21 ≠ b62 := Nat.ne_of_lt (Nat.lt_of_lt_of_le (own_Ar_lt f59) (Nat.le_of_eq g62.symm))
  have ne66 : b28 ≠ b62 := Nat.ne_of_lt (Nat.lt_of_lt_of_le (own_Rr_lt f60) (Nat.le_of_eq g62.symm))
  have ne67 : b38 ≠ b62 := Nat.ne_of_lt (Nat.lt_of_lt_of_le (own_Ar_lt f61) (Nat.le_of_eq g62.symm))
  have ne68 : b49 ≠ b62 := Nat.ne_of_lt (Nat.lt_of_lt_of_le (own_Ar_lt f57) (Nat.le_of_eq g62.symm))
  have sz62 : h0.size ≤ b62 := Nat.le_trans K56.1 (Nat.le_of_eq g62.symm)
  have ge62 : n0 ≤ b62 := Nat.le_trans Z0 sz62
  have K62 := K56.ext E62
  show own_Go p e below _ T62 (mkF m 54 #[.val (.ref a)] [(.ref b62), (.ref a)])
  have L62 : own_Ai Z h62 b62 .int 0 (fun _ => 0) := A62
  have U62 : own_Up [a, b16, b21, b28, b38, b49, b62] := own_Up_snoc U49 (allS (Nat.lt_of_lt_of_le (own_Ob_lt B56) (Nat.le_of_eq g62.symm)) (allS (Nat.lt_of_lt_of_le (own_Ar_lt f58) (Nat.le_of_eq g62.symm)) (allS (Nat.lt_of_lt_of_le (own_Ar_lt f59) (Nat.le_of_eq g62.symm)) (allS (Nat.lt_of_lt_of_le (own_Rr_lt f60) (Nat.le_of_eq g62.symm)) (allS (Nat.lt_of_lt_of_le (own_Ar_lt f61) (Nat.le_of_eq g62.symm)) (allS (Nat.lt_of_lt_of_le (own_Ar_lt f57) (Nat.le_of_eq g62.symm)) all0))))))
  have f69 := (own_Ob_ext B56 E62)
  refine own_putF X62 hx hZ (host := "") (ty := (.array .int)) hown e62 (Or.inl (hw _ (List.mem_of_getElem? (i := 61) rfl))) Via.refl (own_Ob_fld f69 6 rfl) f69.1 (Or.inl (hw _ (List.mem_of_getElem? (i := 62) rfl))) (hw _ (List.mem_of_getElem? (i := 39) rfl)) (by decide) rfl rfl (hb hby d6_54) ?_
  intro T70 h70 X70 e70 W70
  have B70 := own_Ob_put f69 own_ok1 (own_ld1 hw) 6 rfl W70
  have K70 := K62.wr W70 (Or.inl (List.mem_of_getElem? (i := 0) rfl))
  have N70 := Fr.snoc X70 N56 ga
  show own_Go p e below _ T70 (mkF m 57 #[.val (.ref a)] [])
  refine own_go (g' := (mkF m 58 #[.val (.ref a)] [(.ref a)])) (fun _ k => XS.aloadN X70.here hx rfl (hb hby d6_57) rfl rfl k) ?_
  refine own_go (g' := (mkF m 59 #[.val (.ref a)] [(.int (0 : Int32)), (.ref a)])) (fun _ k => XS.iconst X70.here hx rfl (hb hby d6_58) k) ?_
  have f71 := (own_Ar_other L62 W70 (Ne.symm ne63))
  have f72 := (own_Ar_other (own_Ar_ext f58 E62) W70 (Ne.symm ne17))
  have f73 := (own_Ar_other (own_Ar_ext f59 E62) W70 (Ne.symm ne22))
  have f74 := (own_Rr_other (own_Rr_ext f60 E62) W70 (Ne.symm ne29))
  have f75 := (own_Ar_other (own_Ar_ext f61 E62) W70 (Ne.symm ne39))
  have f76 := (own_Ar_other (own_Ar_ext f57 E62) W70 (Ne.symm ne50))
  refine own_newP X70 hx hZ e70 (aty := .long) (hw _ (List.mem_of_getElem? (i := 45) rfl)) 0 (by decide) (by decide) (by decide) (by decide) (by decide) (hb hby d6_59) ?_
  intro T77 h77 b77 g77 X77 e77 E77 A77
  have ne78 : a ≠ b77 := Nat.ne_of_lt (Nat.lt_of_lt_of_le (own_Ob_lt B70) (Nat.le_of_eq g77.symm))
  have ne79 : b16 ≠ b77 := Nat.ne_of_lt (Nat.lt_of_lt_of_le (own_Ar_lt f72) (Nat.le_of_eq g77.symm))
  have ne80 : b21 ≠ b77 := Nat.ne_of_lt (Nat.lt_of_lt_of_le (own_Ar_lt f73) (Nat.le_of_eq g77.symm))
  have ne81 : b28 ≠ b77 := Nat.ne_of_lt (Nat.lt_of_lt_of_le (own_Rr_lt f74) (Nat.le_of_eq g77.symm))
  have ne82 : b38 ≠ b77 := Nat.ne_of_lt (Nat.lt_of_lt_of_le (own_Ar_lt f75) (Nat.le_of_eq g77.symm))
  have ne83 : b49 ≠ b77 := Nat.ne_of_lt (Nat.lt_of_lt_of_le (own_Ar_lt f76) (Nat.le_of_eq g77.symm))
  have ne84 : b62 ≠ b77 := Nat.ne_of_lt (Nat.lt_of_lt_of_le (own_Ar_lt f71) (Nat.le_of_eq g77.symm))
  have sz77 : h0.size ≤ b77 := Nat.le_trans K70.1 (Nat.le_of_eq g77.symm)
  have ge77 : n0 ≤ b77 := Nat.le_trans Z0 sz77
  have K77 := K70.ext E77
  show own_Go p e below _ T77 (mkF m 61 #[.val (.ref a)] [(.ref b77), (.ref a)])
  have L77 : own_Al Z h77 b77 0 (fun _ => 0) := A77
  have U77 : own_Up [a, b16, b21, b28, b38, b49, b62, b77] := own_Up_snoc U62 (allS (Nat.lt_of_lt_of_le (own_Ob_lt B70) (Nat.le_of_eq g77.symm)) (allS (Nat.lt_of_lt_of_le (own_Ar_lt f72) (Nat.le_of_eq g77.symm)) (allS (Nat.lt_of_lt_of_le (own_Ar_lt f73) (Nat.le_of_eq g77.symm)) (allS (Nat.lt_of_lt_of_le (own_Rr_lt f74) (Nat.le_of_eq g77.symm)) (allS (Nat.lt_of_lt_of_le (own_Ar_lt f75) (Nat.le_of_eq g77.symm)) (allS (Nat.lt_of_lt_of_le (own_Ar_lt f76) (Nat.le_of_eq g77.symm)) (allS (Nat.lt_of_lt_of_le (own_Ar_lt f71) (Nat.le_of_eq g77.symm)) all0)))))))
  have f85 := (own_Ob_ext B70 E77)
  refine own_putF X77 hx hZ (host := "") (ty := (.array .long)) hown e77 (Or.inl (hw _ (List.mem_of_getElem? (i := 63) rfl))) Via.refl (own_Ob_fld f85 7 rfl) f85.1 (Or.inl (hw _ (List.mem_of_getElem? (i := 64) rfl))) (hw _ (List.mem_of_getElem? (i := 39) rfl)) (by decide) rfl rfl (hb hby d6_61) ?_
  intro T86 h86 X86 e86 W86
  have B86 := own_Ob_put f85 own_ok1 (own_ld1 hw) 7 rfl W86
  have K86 := K77.wr W86 (Or.inl (List.mem_of_getElem? (i := 0) rfl))
  have N86 := Fr.snoc X86 N70 ga
  show own_Go p e below _ T86 (mkF m 64 #[.val (.ref a)] [])
  have f87 := (own_Ar_other (own_Ar_ext f72 E77) W86 (Ne.symm ne17))
  have f88 := (own_Ar_other (own_Ar_ext f73 E77) W86 (Ne.symm ne22))
  have f89 := (own_Rr_other (own_Rr_ext f74 E77) W86 (Ne.symm ne29))
  have f90 := (own_Ar_other (own_Ar_ext f75 E77) W86 (Ne.symm ne39))
  have f91 := (own_Ar_other (own_Ar_ext f76 E77) W86 (Ne.symm ne50))
  have f92 := (own_Ar_other (own_Ar_ext f71 E77) W86 (Ne.symm ne63))
  exact own_ret0 X86 hx hlk hret e86 (hb hby d6_64) ⟨rfl, N86, K86, b16, b21, b28, b38, b49, b62, b77, sz16, U77, (own_Ob_eq B86 (fun i hi => by have hi' : i < 13 := hi; match i, hi' with | 0, _ => rfl | 1, _ => rfl | 2, _ => rfl | 3, _ => rfl | 4, _ => rfl | 5, _ => rfl | 6, _ => rfl | 7, _ => rfl | 8, _ => rfl | 9, _ => rfl | 10, _ => rfl | 11, _ => rfl | 12, _ => rfl)), f87, f88, f89, f90, f91, f92⟩ (by decide) (by decide)
set_option maxRecDepth 65536 in
set_option maxHeartbeats 40000000 in
theorem own_rmRe (l : Launch) (Z : State) (a0 : Array Value) (hw : ∀ d ∈ tables_1, d.before a0 Z = true) (ws : List Jvm.Cond) (a : Addr) (q1 : Int64) (au ac ao af ah ai aj : Addr) (so sz fl om : Int32) (nw hn : Int64) (h0 : Heap) (n0 : Nat) (ga : n0 ≤ a) (B0 : own_Ob Z h0 a "com/example/gangplank/gangplank/space/HeldFromNow" own_fs1 (own_gH au ac ao af ah ai aj so sz fl om nw hn)) :
    own_Met l (⟨"com/example/gangplank/gangplank/space/HeldFromNow", "restart", "(J)V"⟩ : MethodName) prog_214_method_3_code 3 none ws ({ frames := 0, cells := 0, slots := 0, locals := 0 } : Room) Z #[(.ref a), (.long q1)] h0 (own_QO Z a (own_gH au ac ao af ah ai aj 1 0 fl om q1 hn) h0 n0) := by
  refine own_enter (plainFor_of_name pn_7) ?_
  intro p e s m below meth c T0 X0 hx hby hml hZ hown e0 hret hlk hnm
  have hown : s.vm.findClass "com/example/gangplank/gangplank/space/HeldFromNow" = some m.cls := hown
  have hml : c.maxLocals = 3 := hml
  have N0 := Fr.nil n0
  refine own_start (ef_7 m a q1) ?_
  show own_Go p e below _ T0 (mkF m 0 #[.val (.ref a), .val (.long q1), .second] [])
  have K0 := Keep.refl h0 [a]
  refine own_go (g' := (mkF m 1 #[.val (.ref a), .val (.long q1), .second] [(.ref a)])) (fun _ k => XS.aloadN X0.here hx rfl (hb hby d7_0) rfl rfl k) ?_
  refine own_go (g' := (mkF m 2 #[.val (.ref a), .val (.long q1), .second] [(.long q1), (.ref a)])) (fun _ k => XT.lloadN X0.here hx rfl (hb hby d7_1) rfl k) ?_
  refine own_putF X0 hx hZ (host := "") (ty := .long) hown e0 (Or.inl (hw _ (List.mem_of_getElem? (i := 71) rfl))) Via.refl (own_Ob_fld B0 8 rfl) B0.1 (Or.inl (hw _ (List.mem_of_getElem? (i := 72) rfl))) (hw _ (List.mem_of_getElem? (i := 39) rfl)) (by decide) rfl rfl (hb hby d7_2) ?_
  intro T93 h93 X93 e93 W93
  have B93 := own_Ob_put B0 own_ok1 (own_ld1 hw) 8 rfl W93
  have K93 := K0.wr W93 (Or.inl (List.mem_of_getElem? (i := 0) rfl))
  have N93 := Fr.snoc X93 N0 ga
  show own_Go p e below _ T93 (mkF m 5 #[.val (.ref a), .val (.long q1), .second] [])
  refine own_go (g' := (mkF m 6 #[.val (.ref a), .val (.long q1), .second] [(.ref a)])) (fun _ k => XS.aloadN X93.here hx rfl (hb hby d7_5) rfl rfl k) ?_
  refine own_go (g' := (mkF m 7 #[.val (.ref a), .val (.long q1), .second] [(.int (0 : Int32)), (.ref a)])) (fun _ k => XS.iconst X93.here hx rfl (hb hby d7_6) k) ?_
  refine own_putF X93 hx hZ (host := "") (ty := .int) hown e93 (Or.inl (hw _ (List.mem_of_getElem? (i := 73) rfl))) Via.refl (own_Ob_fld B93 9 rfl) B93.1 (Or.inl (hw _ (List.mem_of_getElem? (i := 74) rfl))) (hw _ (List.mem_of_getElem? (i := 39) rfl)) (by decide) rfl rfl (hb hby d7_7) ?_
  intro T94 h94 X94 e94 W94
  have B94 := own_Ob_put B93 own_ok1 (own_ld1 hw) 9 rfl W94
  have K94 := K93.wr W94 (Or.inl (List.mem_of_getElem? (i := 0) rfl))
  have N94 := Fr.snoc X94 N93 ga
  show own_Go p e below _ T94 (mkF m 10 #[.val (.ref a), .val (.long q1), .second] [])
  refine own_go (g' := (mkF m 11 #[.val (.ref a), .val (.long q1), .second] [(.ref a)])) (fun _ k => XS.aloadN X94.here hx rfl (hb hby d7_10) rfl rfl k) ?_
  refine own_go (g' := (mkF m 12 #[.val (.ref a), .val (.long q1), .second] [(.int (1 : Int32)), (.ref a)])) (fun _ k => XS.iconst X94.here hx rfl (hb hby d7_11) k) ?_
  refine own_putFN X94 hx hZ (ty := .boolean) (v := (.int (1 : Int32))) (v' := (.int (nar .boolean (1 : Int32)))) hown e94 (hw _ (List.mem_of_getElem? (i := 54) rfl)) Via.refl (own_Ob_fld B94 3 rfl) B94.1 (Or.inl (hw _ (List.mem_of_getElem? (i := 55) rfl))) (hw _ (List.mem_of_getElem? (i := 39) rfl)) (by decide) rfl (fits_nar_bool _) (hb hby d7_12) ?_
  intro T95 h95 X95 e95 W95
  have B95 := own_Ob_put B94 own_ok1 (own_ld1 hw) 3 rfl W95
  have K95 := K94.wr W95 (Or.inl (List.mem_of_getElem? (i := 0) rfl))
  have N95 := Fr.snoc X95 N94 ga
  show own_Go p e below _ T95 (mkF m 15 #[.val (.ref a), .val (.long q1), .second] [])
  exact own_ret0 X95 hx hlk hret e95 (hb hby d7_15) ⟨rfl, N95, K95, (own_Ob_eq B95 (fun i hi => by have hi' : i < 13 := hi; match i, hi' with | 0, _ => rfl | 1, _ => rfl | 2, _ => rfl | 3, _ => rfl | 4, _ => rfl | 5, _ => rfl | 6, _ => rfl | 7, _ => rfl | 8, _ => rfl | 9, _ => rfl | 10, _ => rfl | 11, _ => rfl | 12, _ => rfl))⟩ (by decide) (by decide)
def own_sf (so : Int32) (k : Nat) (fu : Nat → Int64) (un : Int64) : Int32 := (so &&& (if k = 0 then 1 else if un < fu (k - 1) then 0 else 1)) &&& 1
def own_QA (Z : State) (a u c o jb : Addr) (g : Nat → Value) (k : Nat) (fu fc : Nat → Int64) (fo : Nat → Value) (un ct : Int64) (h0 : Heap) (n0 : Nat) (v : Option Value) (h : Heap) (L : List Loc) : Prop := v = none ∧ Fr n0 L ∧ Keep h0 h [a, u, c, o] ∧ own_Ob Z h a "com/example/gangplank/gangplank/space/HeldFromNow" own_fs1 g ∧ own_Al Z h u 8 (own_upl fu k un) ∧ own_Al Z h c 8 (own_upl fc k ct) ∧ own_Rr Z h o "com/example/gangplank/gangplank/workload/Job" 8 (own_up fo k (.ref jb))
set_option maxRecDepth 65536 in
set_option maxHeartbeats 40000000 in
theorem own_rmAdd (l : Launch) (Z : State) (a0 : Array Value) (hw : ∀ d ∈ tables_1, d.before a0 Z = true) (ws : List Jvm.Cond) (a jb : Addr) (au ac ao af ah ai aj : Addr) (so sz fl om : Int32) (nw hn : Int64) (un ct : Int64) (k : Nat) (fu fc : Nat → Int64) (fo : Nat → Value) (h0 : Heap) (n0 : Nat) (HU : own_Up [jb, a, au, ac, ao, af, ah, ai, aj]) (gj : n0 ≤ jb) (B0 : own_Ob Z h0 a "com/example/gangplank/gangplank/space/HeldFromNow" own_fs1 (own_gH au ac ao af ah ai aj so sz fl om nw hn)) (Fu : own_Al Z h0 au 8 fu) (Fc : own_Al Z h0 ac 8 fc) (Fo : own_Rr Z h0 ao "com/example/gangplank/gangplank/workload/Job" 8 fo) (EJ : Exa Z h0 jb "com/example/gangplank/gangplank/workload/Job") (hk : sz.toInt = (k : Int)) (hk7 : k ≤ 7) :
    own_Met l (⟨"com/example/gangplank/gangplank/space/HeldFromNow", "add", "(JJLcom/example/gangplank/gangplank/workload/Job;)V"⟩ : MethodName) prog_214_method_4_code 6 none ws ({ frames := 0, cells := 0, slots := 0, locals := 0 } : Room) Z #[(.ref a), (.long un), (.long ct), (.ref jb)] h0 (own_QA Z a au ac ao jb (own_gH au ac ao af ah ai aj (own_sf so k fu un) (sz + 1) fl om nw hn) k fu fc fo un ct h0 n0) := by
  refine own_enter (plainFor_of_name pn_8) ?_
  intro p e s m below meth c T0 X0 hx hby hml hZ hown e0 hret hlk hnm
  have hown : s.vm.findClass "com/example/gangplank/gangplank/space/HeldFromNow" = some m.cls := hown
  have hml : c.maxLocals = 6 := hml
  have N0 := Fr.nil n0
  refine own_start (ef_8 m a un ct jb) ?_
  show own_Go p e below _ T0 (mkF m 0 #[.val (.ref a), .val (.long un), .second, .val (.long ct), .second, .val (.ref jb)] [])
  have K0 := Keep.refl h0 [a, au, ac, ao]
  refine own_go (g' := (mkF m 1 #[.val (.ref a), .val (.long un), .second, .val (.long ct), .second, .val (.ref jb)] [(.ref a)])) (fun _ k => XS.aloadN X0.here hx rfl (hb hby d8_0) rfl rfl k) ?_
  refine own_getF X0 hx hZ (host := "") hown e0 (Or.inl (hw _ (List.mem_of_getElem? (i := 73) rfl))) Via.refl (own_Ob_fld B0 9 rfl) (hb hby d8_1) ?_
  intro T96 X96 e96
  show own_Go p e below _ T96 (mkF m 4 #[.val (.ref a), .val (.long un), .second, .val (.long ct), .second, .val (.ref jb)] [(.int sz)])
  refine own_go (g' := (mkF m 5 #[.val (.ref a), .val (.long un), .second, .val (.long ct), .second, .val (.ref jb)] [(.ref a), (.int sz)])) (fun _ k => XS.aloadN X96.here hx rfl (hb hby d8_4) rfl rfl k) ?_
  refine own_getF X96 hx hZ (host := "") hown e96 (Or.inl (hw _ (List.mem_of_getElem? (i := 46) rfl))) Via.refl (own_Ob_fld B0 0 rfl) (hb hby d8_5) ?_
  intro T97 X97 e97
  show own_Go p e below _ T97 (mkF m 8 #[.val (.ref a), .val (.long un), .second, .val (.long ct), .second, .val (.ref jb)] [(.ref au), (.int sz)])
  refine own_len X97 hx hZ e97 Fu (hb hby d8_8) (8 : Int32) rfl ?_
  show own_Go p e below _ T97 (mkF m 9 #[.val (.ref a), .val (.long un), .second, .val (.long ct), .second, .val (.ref jb)] [(.int (8 : Int32)), (.int sz)])
  refine own_go (g' := (mkF m 66 #[.val (.ref a), .val (.long un), .second, .val (.long ct), .second, .val (.ref jb)] [])) (fun _ k => XS.icmpYes X97.here hx rfl (pc0 := 9) (pc' := 66) rfl (hb hby d8_9) rfl (XT.ii_ne_t (own_nek hk 8 (by decide) (by omega))) (by decide) (by decide) k) ?_
  refine own_go (g' := (mkF m 67 #[.val (.ref a), .val (.long un), .second, .val (.long ct), .second, .val (.ref jb)] [(.ref a)])) (fun _ k => XS.aloadN X97.here hx rfl (hb hby d8_66) rfl rfl k) ?_
  refine own_go (g' := (mkF m 68 #[.val (.ref a), .val (.long un), .second, .val (.long ct), .second, .val (.ref jb)] [(.ref a), (.ref a)])) (fun _ k => XS.dup X97.here hx rfl (hb hby d8_67) rfl rfl k) ?_
  refine own_getF X97 hx hZ (host := "") hown e97 (Or.inl (hw _ (List.mem_of_getElem? (i := 54) rfl))) Via.refl (own_Ob_fld B0 3 rfl) (hb hby d8_68) ?_
  intro T98 X98 e98
  show own_Go p e below _ T98 (mkF m 71 #[.val (.ref a), .val (.long un), .second, .val (.long ct), .second, .val (.ref jb)] [(.int so), (.ref a)])
  refine own_go (g' := (mkF m 72 #[.val (.ref a), .val (.long un), .second, .val (.long ct), .second, .val (.ref jb)] [(.ref a), (.int so), (.ref a)])) (fun _ k => XS.aloadN X98.here hx rfl (hb hby d8_71) rfl rfl k) ?_
  refine own_getF X98 hx hZ (host := "") hown e98 (Or.inl (hw _ (List.mem_of_getElem? (i := 73) rfl))) Via.refl (own_Ob_fld B0 9 rfl) (hb hby d8_72) ?_
  intro T99 X99 e99
  show own_Go p e below _ T99 (mkF m 75 #[.val (.ref a), .val (.long un), .second, .val (.long ct), .second, .val (.ref jb)] [(.int sz), (.int so), (.ref a)])
  suffices J : ∀ (T' : State) (b : Int32), b = (if k = 0 then 1 else if un < fu (k - 1) then 0 else 1) → Stand p l e ({ frames := 0, cells := 0, slots := 0, locals := 0 } : Room) s m #[(.ref a), (.long un), (.long ct), (.ref jb)] below meth c T' [] 0 0 → T'.heap = h0 → own_Go p e below (own_Po s (own_QA Z a au ac ao jb (own_gH au ac ao af ah ai aj (own_sf so k fu un) (sz + 1) fl om nw hn) k fu fc fo un ct h0 n0) 0 0) T' (mkF m 99 #[.val (.ref a), .val (.long un), .second, .val (.long ct), .second, .val (.ref jb)] [(.int b), (.int so), (.ref a)]) by
    by_cases c0 : sz = 0
    · refine own_go (g' := (mkF m 94 #[.val (.ref a), .val (.long un), .second, .val (.long ct), .second, .val (.ref jb)] [(.int so), (.ref a)])) (fun _ k => XS.ifYes X99.here hx rfl (pc0 := 75) (pc' := 94) rfl (hb hby d8_75) rfl (XT.i0_eq_t c0) (by decide) (by decide) k) ?_
      refine own_go (g' := (mkF m 95 #[.val (.ref a), .val (.long un), .second, .val (.long ct), .second, .val (.ref jb)] [(.int (1 : Int32)), (.int so), (.ref a)])) (fun _ k => XS.iconst X99.here hx rfl (hb hby d8_94) k) ?_
      refine own_go (g' := (mkF m 99 #[.val (.ref a), .val (.long un), .second, .val (.long ct), .second, .val (.ref jb)] [(.int (1 : Int32)), (.int so), (.ref a)])) (fun _ k => XS.goto X99.here hx rfl (pc0 := 95) (pc' := 99) rfl (hb hby d8_95) (by decide) (by decide) k) ?_
      exact J _ _ (by rw [if_pos (own_eq0 hk c0)]) X99 e99
    · refine own_go (g' := (mkF m 78 #[.val (.ref a), .val (.long un), .second, .val (.long ct), .second, .val (.ref jb)] [(.int so), (.ref a)])) (fun _ k => XS.ifNo X99.here hx rfl (hb hby d8_75) rfl (XT.i0_eq_f c0) k) ?_
      have hk0 : ¬ k = 0 := fun q => c0 (own_eq0' hk q)
      refine own_go (g' := (mkF m 79 #[.val (.ref a), .val (.long un), .second, .val (.long ct), .second, .val (.ref jb)] [(.ref a), (.int so), (.ref a)])) (fun _ k => XS.aloadN X99.here hx rfl (hb hby d8_78) rfl rfl k) ?_
      refine own_getF X99 hx hZ (host := "") hown e99 (Or.inl (hw _ (List.mem_of_getElem? (i := 46) rfl))) Via.refl (own_Ob_fld B0 0 rfl) (hb hby d8_79) ?_
      intro T100 X100 e100
      show own_Go p e below _ T100 (mkF m 82 #[.val (.ref a), .val (.long un), .second, .val (.long ct), .second, .val (.ref jb)] [(.ref au), (.int so), (.ref a)])
      refine own_go (g' := (mkF m 83 #[.val (.ref a), .val (.long un), .second, .val (.long ct), .second, .val (.ref jb)] [(.ref a), (.ref au), (.int so), (.ref a)])) (fun _ k => XS.aloadN X100.here hx rfl (hb hby d8_82) rfl rfl k) ?_
      refine own_getF X100 hx hZ (host := "") hown e100 (Or.inl (hw _ (List.mem_of_getElem? (i := 73) rfl))) Via.refl (own_Ob_fld B0 9 rfl) (hb hby d8_83) ?_
      intro T101 X101 e101
      show own_Go p e below _ T101 (mkF m 86 #[.val (.ref a), .val (.long un), .second, .val (.long ct), .second, .val (.ref jb)] [(.int sz), (.ref au), (.int so), (.ref a)])
      refine own_go (g' := (mkF m 87 #[.val (.ref a), .val (.long un), .second, .val (.long ct), .second, .val (.ref jb)] [(.int (1 : Int32)), (.int sz), (.ref au), (.int so), (.ref a)])) (fun _ k => XS.iconst X101.here hx rfl (hb hby d8_86) k) ?_
      refine own_go (g' := (mkF m 88 #[.val (.ref a), .val (.long un), .second, .val (.long ct), .second, .val (.ref jb)] [(.int (sz - (1 : Int32))), (.ref au), (.int so), (.ref a)])) (fun _ k => XS.isub X101.here hx rfl (hb hby d8_87) rfl k) ?_
      refine own_laload X101 hx hZ e101 Fu (k - 1) (own_sub1 hk (by omega) (by omega)) (by omega) (hb hby d8_88) ?_
      show own_Go p e below _ T101 (mkF m 89 #[.val (.ref a), .val (.long un), .second, .val (.long ct), .second, .val (.ref jb)] [(.long (fu (k - 1))), (.int so), (.ref a)])
      refine own_go (g' := (mkF m 90 #[.val (.ref a), .val (.long un), .second, .val (.long ct), .second, .val (.ref jb)] [(.long un), (.long (fu (k - 1))), (.int so), (.ref a)])) (fun _ k => XT.lloadN X101.here hx rfl (hb hby d8_89) rfl k) ?_
      refine own_go (g' := (mkF m 91 #[.val (.ref a), .val (.long un), .second, .val (.long ct), .second, .val (.ref jb)] [(.int (XT.cmpL (fu (k - 1)) un)), (.int so), (.ref a)])) (fun _ k => XT.lcmp X101.here hx rfl (hb hby d8_90) rfl k) ?_
      by_cases cl : un < (fu (k - 1))
      · refine own_go (g' := (mkF m 98 #[.val (.ref a), .val (.long un), .second, .val (.long ct), .second, .val (.ref jb)] [(.int so), (.ref a)])) (fun _ k => XS.ifYes X101.here hx rfl (pc0 := 91) (pc' := 98) rfl (hb hby d8_91) rfl (XT.ll_gt_t cl) (by decide) (by decide) k) ?_
        refine own_go (g' := (mkF m 99 #[.val (.ref a), .val (.long un), .second, .val (.long ct), .second, .val (.ref jb)] [(.int (0 : Int32)), (.int so), (.ref a)])) (fun _ k => XS.iconst X101.here hx rfl (hb hby d8_98) k) ?_
        exact J _ _ (by rw [if_neg hk0, if_pos cl]) X101 e101
      · refine own_go (g' := (mkF m 94 #[.val (.ref a), .val (.long un), .second, .val (.long ct), .second, .val (.ref jb)] [(.int so), (.ref a)])) (fun _ k => XS.ifNo X101.here hx rfl (hb hby d8_91) rfl (XT.ll_gt_f cl) k) ?_
        refine own_go (g' := (mkF m 95 #[.val (.ref a), .val (.long un), .second, .val (.long ct), .second, .val (.ref jb)] [(.int (1 : Int32)), (.int so), (.ref a)])) (fun _ k => XS.iconst X101.here hx rfl (hb hby d8_94) k) ?_
        refine own_go (g' := (mkF m 99 #[.val (.ref a), .val (.long un), .second, .val (.long ct), .second, .val (.ref jb)] [(.int (1 : Int32)), (.int so), (.ref a)])) (fun _ k => XS.goto X101.here hx rfl (pc0 := 95) (pc' := 99) rfl (hb hby d8_95) (by decide) (by decide) k) ?_
        exact J _ _ (by rw [if_neg hk0, if_neg cl]) X101 e101
  intro T1 b hbq X1 e1
  refine own_go (g' := (mkF m 100 #[.val (.ref a), .val (.long un), .second, .val (.long ct), .second, .val (.ref jb)] [(.int (so &&& b)), (.ref a)])) (fun _ k => XS.iand X1.here hx rfl (hb hby d8_99) rfl k) ?_
  refine own_putFN X1 hx hZ (ty := .boolean) (v := (.int (so &&& b))) (v' := (.int (nar .boolean (so &&& b)))) hown e1 (hw _ (List.mem_of_getElem? (i := 54) rfl)) Via.refl (own_Ob_fld B0 3 rfl) B0.1 (Or.inl (hw _ (List.mem_of_getElem? (i := 55) rfl))) (hw _ (List.mem_of_getElem? (i := 39) rfl)) (by decide) rfl (fits_nar_bool _) (hb hby d8_100) ?_
  intro T102 h102 X102 e102 W102
  have B102 := own_Ob_put B0 own_ok1 (own_ld1 hw) 3 rfl W102
  have K102 := K0.wr W102 (Or.inl (List.mem_of_getElem? (i := 0) rfl))
  have N102 := Fr.snoc X102 N0 (own_Up_ge HU gj 1 rfl)
  show own_Go p e below _ T102 (mkF m 103 #[.val (.ref a), .val (.long un), .second, .val (.long ct), .second, .val (.ref jb)] [])
  refine own_go (g' := (mkF m 104 #[.val (.ref a), .val (.long un), .second, .val (.long ct), .second, .val (.ref jb)] [(.ref a)])) (fun _ k => XS.aloadN X102.here hx rfl (hb hby d8_103) rfl rfl k) ?_
  refine own_getF X102 hx hZ (host := "") hown e102 (Or.inl (hw _ (List.mem_of_getElem? (i := 46) rfl))) Via.refl (own_Ob_fld B102 0 rfl) (hb hby d8_104) ?_
  intro T103 X103 e103
  show own_Go p e below _ T103 (mkF m 107 #[.val (.ref a), .val (.long un), .second, .val (.long ct), .second, .val (.ref jb)] [(.ref au)])
  refine own_go (g' := (mkF m 108 #[.val (.ref a), .val (.long un), .second, .val (.long ct), .second, .val (.ref jb)] [(.ref a), (.ref au)])) (fun _ k => XS.aloadN X103.here hx rfl (hb hby d8_107) rfl rfl k) ?_
  refine own_getF X103 hx hZ (host := "") hown e103 (Or.inl (hw _ (List.mem_of_getElem? (i := 73) rfl))) Via.refl (own_Ob_fld B102 9 rfl) (hb hby d8_108) ?_
  intro T104 X104 e104
  show own_Go p e below _ T104 (mkF m 111 #[.val (.ref a), .val (.long un), .second, .val (.long ct), .second, .val (.ref jb)] [(.int sz), (.ref au)])
  refine own_go (g' := (mkF m 112 #[.val (.ref a), .val (.long un), .second, .val (.long ct), .second, .val (.ref jb)] [(.long un), (.int sz), (.ref au)])) (fun _ k => XT.lloadN X104.here hx rfl (hb hby d8_111) rfl k) ?_
  have f105 := (own_Ar_other Fu W102 (Ne.symm (own_Up_ne HU 1 2 rfl rfl (by decide))))
  refine own_lastore X104 hx hZ e104 f105 k hk (by omega) (hb hby d8_112) ?_
  intro T106 h106 X106 e106 W106
  have A106 : own_Al Z h106 au 8 (own_upl fu k un) := own_Al_set (f := fu) f105 W106
  have K106 := K102.wr W106 (Or.inl (List.mem_of_getElem? (i := 1) rfl))
  have N106 := Fr.snoc X106 N102 (own_Up_ge HU gj 2 rfl)
  show own_Go p e below _ T106 (mkF m 113 #[.val (.ref a), .val (.long un), .second, .val (.long ct), .second, .val (.ref jb)] [])
  refine own_go (g' := (mkF m 114 #[.val (.ref a), .val (.long un), .second, .val (.long ct), .second, .val (.ref jb)] [(.ref a)])) (fun _ k => XS.aloadN X106.here hx rfl (hb hby d8_113) rfl rfl k) ?_
  have f107 := (own_Ob_other B102 W106 (own_Up_ne HU 1 2 rfl rfl (by decide)))
  refine own_getF X106 hx hZ (host := "") hown e106 (Or.inl (hw _ (List.mem_of_getElem? (i := 48) rfl))) Via.refl (own_Ob_fld f107 1 rfl) (hb hby d8_114) ?_
  intro T108 X108 e108
  show own_Go p e below _ T108 (mkF m 117 #[.val (.ref a), .val (.long un), .second, .val (.long ct), .second, .val (.ref jb)] [(.ref ac)])
  refine own_go (g' := (mkF m 118 #[.val (.ref a), .val (.long un), .second, .val (.long ct), .second, .val (.ref jb)] [(.ref a), (.ref ac)])) (fun _ k => XS.aloadN X108.here hx rfl (hb hby d8_117) rfl rfl k) ?_
  refine own_getF X108 hx hZ (host := "") hown e108 (Or.inl (hw _ (List.mem_of_getElem? (i := 73) rfl))) Via.refl (own_Ob_fld f107 9 rfl) (hb hby d8_118) ?_
  intro T109 X109 e109
  show own_Go p e below _ T109 (mkF m 121 #[.val (.ref a), .val (.long un), .second, .val (.long ct), .second, .val (.ref jb)] [(.int sz), (.ref ac)])
  refine own_go (g' := (mkF m 122 #[.val (.ref a), .val (.long un), .second, .val (.long ct), .second, .val (.ref jb)] [(.long ct), (.int sz), (.ref ac)])) (fun _ k => XT.lloadN X109.here hx rfl (hb hby d8_121) rfl k) ?_
  have f110 := (own_Ar_other (own_Ar_other Fc W102 (Ne.symm (own_Up_ne HU 1 3 rfl rfl (by decide)))) W106 (Ne.symm (own_Up_ne HU 2 3 rfl rfl (by decide))))
  refine own_lastore X109 hx hZ e109 f110 k hk (by omega) (hb hby d8_122) ?_
  intro T111 h111 X111 e111 W111
  have A111 : own_Al Z h111 ac 8 (own_upl fc k ct) := own_Al_set (f := fc) f110 W111
  have K111 := K106.wr W111 (Or.inl (List.mem_of_getElem? (i := 2) rfl))
  have N111 := Fr.snoc X111 N106 (own_Up_ge HU gj 3 rfl)
  show own_Go p e below _ T111 (mkF m 123 #[.val (.ref a), .val (.long un), .second, .val (.long ct), .second, .val (.ref jb)] [])
  refine own_go (g' := (mkF m 124 #[.val (.ref a), .val (.long un), .second, .val (.long ct), .second, .val (.ref jb)] [(.ref a)])) (fun _ k => XS.aloadN X111.here hx rfl (hb hby d8_123) rfl rfl k) ?_
  have f112 := (own_Ob_other f107 W111 (own_Up_ne HU 1 3 rfl rfl (by decide)))
  refine own_getF X111 hx hZ (host := "") hown e111 (Or.inl (hw _ (List.mem_of_getElem? (i := 52) rfl))) Via.refl (own_Ob_fld f112 2 rfl) (hb hby d8_124) ?_
  intro T113 X113 e113
  show own_Go p e below _ T113 (mkF m 127 #[.val (.ref a), .val (.long un), .second, .val (.long ct), .second, .val (.ref jb)] [(.ref ao)])
  refine own_go (g' := (mkF m 128 #[.val (.ref a), .val (.long un), .second, .val (.long ct), .second, .val (.ref jb)] [(.ref a), (.ref ao)])) (fun _ k => XS.aloadN X113.here hx rfl (hb hby d8_127) rfl rfl k) ?_
  refine own_getF X113 hx hZ (host := "") hown e113 (Or.inl (hw _ (List.mem_of_getElem? (i := 73) rfl))) Via.refl (own_Ob_fld f112 9 rfl) (hb hby d8_128) ?_
  intro T114 X114 e114
  show own_Go p e below _ T114 (mkF m 131 #[.val (.ref a), .val (.long un), .second, .val (.long ct), .second, .val (.ref jb)] [(.int sz), (.ref ao)])
  refine own_go (g' := (mkF m 133 #[.val (.ref a), .val (.long un), .second, .val (.long ct), .second, .val (.ref jb)] [(.ref jb), (.int sz), (.ref ao)])) (fun _ k => XS.aload X114.here hx rfl (hb hby d8_131) rfl rfl k) ?_
  have EJ0 : Exa Z h0 jb "com/example/gangplank/gangplank/workload/Job" := EJ
  have EJ1 : Exa Z h111 jb "com/example/gangplank/gangplank/workload/Job" := EJ0.keep K111
  have f116 := (own_Rr_other (own_Rr_other (own_Rr_other Fo W102 (Ne.symm (own_Up_ne HU 1 4 rfl rfl (by decide)))) W106 (Ne.symm (own_Up_ne HU 2 4 rfl rfl (by decide)))) W111 (Ne.symm (own_Up_ne HU 3 4 rfl rfl (by decide))))
  refine own_aastore X114 hx hZ e114 f116 (Ins.self EJ1) k hk (by omega) (hb hby d8_133) ?_
  intro T115 h115 X115 e115 W115
  have A115 := own_Rr_set f116 W115
  have K115 := K111.wr W115 (Or.inl (List.mem_of_getElem? (i := 3) rfl))
  have N115 := Fr.snoc X115 N111 (own_Up_ge HU gj 4 rfl)
  show own_Go p e below _ T115 (mkF m 134 #[.val (.ref a), .val (.long un), .second, .val (.long ct), .second, .val (.ref jb)] [])
  refine own_go (g' := (mkF m 135 #[.val (.ref a), .val (.long un), .second, .val (.long ct), .second, .val (.ref jb)] [(.ref a)])) (fun _ k => XS.aloadN X115.here hx rfl (hb hby d8_134) rfl rfl k) ?_
  refine own_go (g' := (mkF m 136 #[.val (.ref a), .val (.long un), .second, .val (.long ct), .second, .val (.ref jb)] [(.ref a), (.ref a)])) (fun _ k => XS.dup X115.here hx rfl (hb hby d8_135) rfl rfl k) ?_
  have f117 := (own_Ob_other f112 W115 (own_Up_ne HU 1 4 rfl rfl (by decide)))
  refine own_getF X115 hx hZ (host := "") hown e115 (Or.inl (hw _ (List.mem_of_getElem? (i := 73) rfl))) Via.refl (own_Ob_fld f117 9 rfl) (hb hby d8_136) ?_
  intro T118 X118 e118
  show own_Go p e below _ T118 (mkF m 139 #[.val (.ref a), .val (.long un), .second, .val (.long ct), .second, .val (.ref jb)] [(.int sz), (.ref a)])
  refine own_go (g' := (mkF m 140 #[.val (.ref a), .val (.long un), .second, .val (.long ct), .second, .val (.ref jb)] [(.int (1 : Int32)), (.int sz), (.ref a)])) (fun _ k => XS.iconst X118.here hx rfl (hb hby d8_139) k) ?_
  refine own_go (g' := (mkF m 141 #[.val (.ref a), .val (.long un), .second, .val (.long ct), .second, .val (.ref jb)] [(.int (sz + (1 : Int32))), (.ref a)])) (fun _ k => XS.iadd X118.here hx rfl (hb hby d8_140) rfl k) ?_
  refine own_putF X118 hx hZ (host := "") (ty := .int) hown e118 (Or.inl (hw _ (List.mem_of_getElem? (i := 73) rfl))) Via.refl (own_Ob_fld f117 9 rfl) f117.1 (Or.inl (hw _ (List.mem_of_getElem? (i := 74) rfl))) (hw _ (List.mem_of_getElem? (i := 39) rfl)) (by decide) rfl rfl (hb hby d8_141) ?_
  intro T119 h119 X119 e119 W119
  have B119 := own_Ob_put f117 own_ok1 (own_ld1 hw) 9 rfl W119
  have K119 := K115.wr W119 (Or.inl (List.mem_of_getElem? (i := 0) rfl))
  have N119 := Fr.snoc X119 N115 (own_Up_ge HU gj 1 rfl)
  show own_Go p e below _ T119 (mkF m 144 #[.val (.ref a), .val (.long un), .second, .val (.long ct), .second, .val (.ref jb)] [])
  subst hbq
  have f120 := (own_Ar_other (own_Ar_other (own_Ar_other A106 W111 (own_Up_ne HU 2 3 rfl rfl (by decide))) W115 (own_Up_ne HU 2 4 rfl rfl (by decide))) W119 (Ne.symm (own_Up_ne HU 1 2 rfl rfl (by decide))))
  have f121 := (own_Ar_other (own_Ar_other A111 W115 (own_Up_ne HU 3 4 rfl rfl (by decide))) W119 (Ne.symm (own_Up_ne HU 1 3 rfl rfl (by decide))))
  have f122 := (own_Rr_other A115 W119 (Ne.symm (own_Up_ne HU 1 4 rfl rfl (by decide))))
  exact own_ret0 X119 hx hlk hret e119 (hb hby d8_144) ⟨rfl, N119, K119, (own_Ob_eq B119 (fun i hi => by have hi' : i < 13 := hi; match i, hi' with | 0, _ => rfl | 1, _ => rfl | 2, _ => rfl | 3, _ => rfl | 4, _ => rfl | 5, _ => rfl | 6, _ => rfl | 7, _ => rfl | 8, _ => rfl | 9, _ => rfl | 10, _ => rfl | 11, _ => rfl | 12, _ => rfl)), f120, f121, f122⟩ (by decide) (by decide)
def own_QSo (Z : State) (a au ac ao jb : Addr) (g : Nat → Value) (fu fc : Nat → Int64) (h0 : Heap) (n0 : Nat) (v : Option Value) (h : Heap) (L : List Loc) : Prop := v = none ∧ Fr n0 L ∧ Keep h0 h [a, au, ac, ao] ∧ own_Ob Z h a "com/example/gangplank/gangplank/space/HeldFromNow" own_fs1 g ∧ ∃ fu' fc' fo', own_Al Z h au 8 fu' ∧ own_Al Z h ac 8 fc' ∧ own_Rr Z h ao "com/example/gangplank/gangplank/workload/Job" 8 fo' ∧ own_Pm fu fc fu' fc' ∧ ¬ fu' 1 < fu' 0 ∧ ¬ fu' 2 < fu' 1 ∧ ∀ i, i < 3 → fo' i = .ref jb
set_option maxRecDepth 65536 in
set_option maxHeartbeats 40000000 in
theorem own_rmSo (l : Launch) (Z : State) (a0 : Array Value) (hw : ∀ d ∈ tables_1, d.before a0 Z = true) (ws : List Jvm.Cond) (a jb : Addr) (au ac ao af ah ai aj : Addr) (so fl om : Int32) (nw hn : Int64) (fu fc : Nat → Int64) (fo : Nat → Value) (h0 : Heap) (n0 : Nat) (HU : own_Up [jb, a, au, ac, ao, af, ah, ai, aj]) (gj : n0 ≤ jb) (B0 : own_Ob Z h0 a "com/example/gangplank/gangplank/space/HeldFromNow" own_fs1 (own_gH au ac ao af ah ai aj so (3 : Int32) fl om nw hn)) (Fu : own_Al Z h0 au 8 fu) (Fc : own_Al Z h0 ac 8 fc) (Fo : own_Rr Z h0 ao "com/example/gangplank/gangplank/workload/Job" 8 fo) (EJ : Exa Z h0 jb "com/example/gangplank/gangplank/workload/Job") (hso : ¬ so = 0 → ¬ fu 1 < fu 0 ∧ ¬ fu 2 < fu 1) (ho : ∀ i, i < 3 → fo i = .ref jb) :
    own_Met l (⟨"com/example/gangplank/gangplank/space/HeldFromNow", "sortByEnd", "()V"⟩ : MethodName) prog_214_method_12_code 8 none ws ({ frames := 0, cells := 0, slots := 0, locals := 0 } : Room) Z #[(.ref a)] h0 (own_QSo Z a au ac ao jb (own_gH au ac ao af ah ai aj 1 (3 : Int32) fl om nw hn) fu fc h0 n0) := by
  refine own_enter (plainFor_of_name pn_10) ?_
  intro p e s m below meth c T0 X0 hx hby hml hZ hown e0 hret hlk hnm
  have hown : s.vm.findClass "com/example/gangplank/gangplank/space/HeldFromNow" = some m.cls := hown
  have hml : c.maxLocals = 8 := hml
  have N0 := Fr.nil n0
  refine own_start (ef_10 m a) ?_
  show own_Go p e below _ T0 (mkF m 0 #[.val (.ref a), .unset, .unset, .unset, .unset, .unset, .unset, .unset] [])
  have K0 := Keep.refl h0 [a, au, ac, ao]
  refine own_go (g' := (mkF m 1 #[.val (.ref a), .unset, .unset, .unset, .unset, .unset, .unset, .unset] [(.int (1 : Int32))])) (fun _ k => XS.iconst X0.here hx rfl (hb hby d10_0) k) ?_
  refine own_go (g' := (mkF m 2 #[.val (.ref a), .val (.int (1 : Int32)), .unset, .unset, .unset, .unset, .unset, .unset] [])) (fun _ k => XS.istoreN X0.here hx rfl (hb hby d10_1) rfl (l' := #[.val (.ref a), .val (.int (1 : Int32)), .unset, .unset, .unset, .unset, .unset, .unset]) rfl k) ?_
  refine own_go (g' := (mkF m 3 #[.val (.ref a), .val (.int (1 : Int32)), .unset, .unset, .unset, .unset, .unset, .unset] [(.ref a)])) (fun _ k => XS.aloadN X0.here hx rfl (hb hby d10_2) rfl rfl k) ?_
  refine own_getF X0 hx hZ (host := "") hown e0 (Or.inl (hw _ (List.mem_of_getElem? (i := 54) rfl))) Via.refl (own_Ob_fld B0 3 rfl) (hb hby d10_3) ?_
  intro T123 X123 e123
  show own_Go p e below _ T123 (mkF m 6 #[.val (.ref a), .val (.int (1 : Int32)), .unset, .unset, .unset, .unset, .unset, .unset] [(.int so)])
  by_cases cs : so = 0
  · refine own_go (g' := (mkF m 9 #[.val (.ref a), .val (.int (1 : Int32)), .unset, .unset, .unset, .unset, .unset, .unset] [])) (fun _ k => XS.ifNo X123.here hx rfl (hb hby d10_6) rfl (XT.i0_ne_f cs) k) ?_
    refine own_go (g' := (mkF m 10 #[.val (.ref a), .val (.int (1 : Int32)), .unset, .unset, .unset, .unset, .unset, .unset] [(.int (1 : Int32))])) (fun _ k => XS.iloadN X123.here hx rfl (hb hby d10_9) rfl k) ?_
    refine own_go (g' := (mkF m 11 #[.val (.ref a), .val (.int (1 : Int32)), .unset, .unset, .unset, .unset, .unset, .unset] [(.ref a), (.int (1 : Int32))])) (fun _ k => XS.aloadN X123.here hx rfl (hb hby d10_10) rfl rfl k) ?_
    refine own_getF X123 hx hZ (host := "") hown e123 (Or.inl (hw _ (List.mem_of_getElem? (i := 73) rfl))) Via.refl (own_Ob_fld B0 9 rfl) (hb hby d10_11) ?_
    intro T128 X128 e128
    show own_Go p e below _ T128 (mkF m 14 #[.val (.ref a), .val (.int (1 : Int32)), .unset, .unset, .unset, .unset, .unset, .unset] [(.int (3 : Int32)), (.int (1 : Int32))])
    refine own_go (g' := (mkF m 17 #[.val (.ref a), .val (.int (1 : Int32)), .unset, .unset, .unset, .unset, .unset, .unset] [])) (fun _ k => XS.icmpNo X128.here hx rfl (hb hby d10_14) rfl (XT.ii_ge_f (by decide)) k) ?_
    refine own_go (g' := (mkF m 18 #[.val (.ref a), .val (.int (1 : Int32)), .unset, .unset, .unset, .unset, .unset, .unset] [(.ref a)])) (fun _ k => XS.aloadN X128.here hx rfl (hb hby d10_17) rfl rfl k) ?_
    refine own_getF X128 hx hZ (host := "") hown e128 (Or.inl (hw _ (List.mem_of_getElem? (i := 46) rfl))) Via.refl (own_Ob_fld B0 0 rfl) (hb hby d10_18) ?_
    intro T129 X129 e129
    show own_Go p e below _ T129 (mkF m 21 #[.val (.ref a), .val (.int (1 : Int32)), .unset, .unset, .unset, .unset, .unset, .unset] [(.ref au)])
    refine own_go (g' := (mkF m 22 #[.val (.ref a), .val (.int (1 : Int32)), .unset, .unset, .unset, .unset, .unset, .unset] [(.int (1 : Int32)), (.ref au)])) (fun _ k => XS.iloadN X129.here hx rfl (hb hby d10_21) rfl k) ?_
    refine own_laload X129 hx hZ e129 Fu 1 (by decide) (by decide) (hb hby d10_22) ?_
    show own_Go p e below _ T129 (mkF m 23 #[.val (.ref a), .val (.int (1 : Int32)), .unset, .unset, .unset, .unset, .unset, .unset] [(.long (fu 1))])
    refine own_go (g' := (mkF m 24 #[.val (.ref a), .val (.int (1 : Int32)), .val (.long (fu 1)), .second, .unset, .unset, .unset, .unset] [])) (fun _ k => XT.lstoreN X129.here hx rfl (hb hby d10_23) rfl (l' := #[.val (.ref a), .val (.int (1 : Int32)), .val (.long (fu 1)), .second, .unset, .unset, .unset, .unset]) rfl k) ?_
    refine own_go (g' := (mkF m 25 #[.val (.ref a), .val (.int (1 : Int32)), .val (.long (fu 1)), .second, .unset, .unset, .unset, .unset] [(.ref a)])) (fun _ k => XS.aloadN X129.here hx rfl (hb hby d10_24) rfl rfl k) ?_
    refine own_getF X129 hx hZ (host := "") hown e129 (Or.inl (hw _ (List.mem_of_getElem? (i := 48) rfl))) Via.refl (own_Ob_fld B0 1 rfl) (hb hby d10_25) ?_
    intro T130 X130 e130
    show own_Go p e below _ T130 (mkF m 28 #[.val (.ref a), .val (.int (1 : Int32)), .val (.long (fu 1)), .second, .unset, .unset, .unset, .unset] [(.ref ac)])
    refine own_go (g' := (mkF m 29 #[.val (.ref a), .val (.int (1 : Int32)), .val (.long (fu 1)), .second, .unset, .unset, .unset, .unset] [(.int (1 : Int32)), (.ref ac)])) (fun _ k => XS.iloadN X130.here hx rfl (hb hby d10_28) rfl k) ?_
    refine own_laload X130 hx hZ e130 Fc 1 (by decide) (by decide) (hb hby d10_29) ?_
    show own_Go p e below _ T130 (mkF m 30 #[.val (.ref a), .val (.int (1 : Int32)), .val (.long (fu 1)), .second, .unset, .unset, .unset, .unset] [(.long (fc 1))])
    refine own_go (g' := (mkF m 32 #[.val (.ref a), .val (.int (1 : Int32)), .val (.long (fu 1)), .second, .val (.long (fc 1)), .second, .unset, .unset] [])) (fun _ k => XT.lstore X130.here hx rfl (hb hby d10_30) rfl (l' := #[.val (.ref a), .val (.int (1 : Int32)), .val (.long (fu 1)), .second, .val (.long (fc 1)), .second, .unset, .unset]) rfl k) ?_
    refine own_go (g' := (mkF m 33 #[.val (.ref a), .val (.int (1 : Int32)), .val (.long (fu 1)), .second, .val (.long (fc 1)), .second, .unset, .unset] [(.ref a)])) (fun _ k => XS.aloadN X130.here hx rfl (hb hby d10_32) rfl rfl k) ?_
    refine own_getF X130 hx hZ (host := "") hown e130 (Or.inl (hw _ (List.mem_of_getElem? (i := 52) rfl))) Via.refl (own_Ob_fld B0 2 rfl) (hb hby d10_33) ?_
    intro T131 X131 e131
    show own_Go p e below _ T131 (mkF m 36 #[.val (.ref a), .val (.int (1 : Int32)), .val (.long (fu 1)), .second, .val (.long (fc 1)), .second, .unset, .unset] [(.ref ao)])
    refine own_go (g' := (mkF m 37 #[.val (.ref a), .val (.int (1 : Int32)), .val (.long (fu 1)), .second, .val (.long (fc 1)), .second, .unset, .unset] [(.int (1 : Int32)), (.ref ao)])) (fun _ k => XS.iloadN X131.here hx rfl (hb hby d10_36) rfl k) ?_
    refine own_aaload X131 hx hZ e131 (own_Rr_ar Fo) rfl 1 (by decide) (by decide) (hb hby d10_37) ?_
    rw [show (fo) 1 = Value.ref jb from (ho 1 (by decide))]
    show own_Go p e below _ T131 (mkF m 38 #[.val (.ref a), .val (.int (1 : Int32)), .val (.long (fu 1)), .second, .val (.long (fc 1)), .second, .unset, .unset] [(.ref jb)])
    refine own_go (g' := (mkF m 40 #[.val (.ref a), .val (.int (1 : Int32)), .val (.long (fu 1)), .second, .val (.long (fc 1)), .second, .val (.ref jb), .unset] [])) (fun _ k => XS.astore X131.here hx rfl (hb hby d10_38) rfl rfl (l' := #[.val (.ref a), .val (.int (1 : Int32)), .val (.long (fu 1)), .second, .val (.long (fc 1)), .second, .val (.ref jb), .unset]) rfl k) ?_
    refine own_go (g' := (mkF m 41 #[.val (.ref a), .val (.int (1 : Int32)), .val (.long (fu 1)), .second, .val (.long (fc 1)), .second, .val (.ref jb), .unset] [(.int (1 : Int32))])) (fun _ k => XS.iloadN X131.here hx rfl (hb hby d10_40) rfl k) ?_
    refine own_go (g' := (mkF m 43 #[.val (.ref a), .val (.int (1 : Int32)), .val (.long (fu 1)), .second, .val (.long (fc 1)), .second, .val (.ref jb), .val (.int (1 : Int32))] [])) (fun _ k => XS.istore X131.here hx rfl (hb hby d10_41) rfl (l' := #[.val (.ref a), .val (.int (1 : Int32)), .val (.long (fu 1)), .second, .val (.long (fc 1)), .second, .val (.ref jb), .val (.int (1 : Int32))]) rfl k) ?_
    suffices J : ∀ T' h' lo fu1 fc1 fo1 t2 t4 t7, Stand p l e ({ frames := 0, cells := 0, slots := 0, locals := 0 } : Room) s m #[(.ref a)] below meth c T' lo 0 0 → T'.heap = h' → Fr n0 lo → Keep h0 h' [a, au, ac, ao] → own_Ob Z h' a "com/example/gangplank/gangplank/space/HeldFromNow" own_fs1 (own_gH au ac ao af ah ai aj so (3 : Int32) fl om nw hn) → own_Al Z h' au 8 fu1 → own_Al Z h' ac 8 fc1 → own_Rr Z h' ao "com/example/gangplank/gangplank/workload/Job" 8 fo1 → own_Pm fu fc fu1 fc1 → ¬ fu1 1 < fu1 0 → (∀ i, i < 3 → fo1 i = .ref jb) → own_Go p e below (own_Po s (own_QSo Z a au ac ao jb (own_gH au ac ao af ah ai aj 1 (3 : Int32) fl om nw hn) fu fc h0 n0) 0 0) T' (mkF m 2 #[.val (.ref a), .val (.int (2 : Int32)), .val (.long t2), .second, .val (.long t4), .second, .val (.ref jb), .val (.int t7)] []) by
      refine own_go (g' := (mkF m 45 #[.val (.ref a), .val (.int (1 : Int32)), .val (.long (fu 1)), .second, .val (.long (fc 1)), .second, .val (.ref jb), .val (.int (1 : Int32))] [(.int (1 : Int32))])) (fun _ k => XS.iload X131.here hx rfl (hb hby d10_43) rfl k) ?_
      refine own_go (g' := (mkF m 48 #[.val (.ref a), .val (.int (1 : Int32)), .val (.long (fu 1)), .second, .val (.long (fc 1)), .second, .val (.ref jb), .val (.int (1 : Int32))] [])) (fun _ k => XS.ifNo X131.here hx rfl (hb hby d10_45) rfl (XT.i0_le_f (by decide)) k) ?_
      refine own_go (g' := (mkF m 49 #[.val (.ref a), .val (.int (1 : Int32)), .val (.long (fu 1)), .second, .val (.long (fc 1)), .second, .val (.ref jb), .val (.int (1 : Int32))] [(.ref a)])) (fun _ k => XS.aloadN X131.here hx rfl (hb hby d10_48) rfl rfl k) ?_
      refine own_getF X131 hx hZ (host := "") hown e131 (Or.inl (hw _ (List.mem_of_getElem? (i := 46) rfl))) Via.refl (own_Ob_fld B0 0 rfl) (hb hby d10_49) ?_
      intro T132 X132 e132
      show own_Go p e below _ T132 (mkF m 52 #[.val (.ref a), .val (.int (1 : Int32)), .val (.long (fu 1)), .second, .val (.long (fc 1)), .second, .val (.ref jb), .val (.int (1 : Int32))] [(.ref au)])
      refine own_go (g' := (mkF m 54 #[.val (.ref a), .val (.int (1 : Int32)), .val (.long (fu 1)), .second, .val (.long (fc 1)), .second, .val (.ref jb), .val (.int (1 : Int32))] [(.int (1 : Int32)), (.ref au)])) (fun _ k => XS.iload X132.here hx rfl (hb hby d10_52) rfl k) ?_
      refine own_go (g' := (mkF m 55 #[.val (.ref a), .val (.int (1 : Int32)), .val (.long (fu 1)), .second, .val (.long (fc 1)), .second, .val (.ref jb), .val (.int (1 : Int32))] [(.int (1 : Int32)), (.int (1 : Int32)), (.ref au)])) (fun _ k => XS.iconst X132.here hx rfl (hb hby d10_54) k) ?_
      refine own_go (g' := (mkF m 56 #[.val (.ref a), .val (.int (1 : Int32)), .val (.long (fu 1)), .second, .val (.long (fc 1)), .second, .val (.ref jb), .val (.int (1 : Int32))] [(.int ((1 : Int32) - (1 : Int32))), (.ref au)])) (fun _ k => XS.isub X132.here hx rfl (hb hby d10_55) rfl k) ?_
      refine own_laload X132 hx hZ e132 Fu 0 (by decide) (by decide) (hb hby d10_56) ?_
      show own_Go p e below _ T132 (mkF m 57 #[.val (.ref a), .val (.int (1 : Int32)), .val (.long (fu 1)), .second, .val (.long (fc 1)), .second, .val (.ref jb), .val (.int (1 : Int32))] [(.long (fu 0))])
      refine own_go (g' := (mkF m 58 #[.val (.ref a), .val (.int (1 : Int32)), .val (.long (fu 1)), .second, .val (.long (fc 1)), .second, .val (.ref jb), .val (.int (1 : Int32))] [(.long (fu 1)), (.long (fu 0))])) (fun _ k => XT.lloadN X132.here hx rfl (hb hby d10_57) rfl k) ?_
      refine own_go (g' := (mkF m 59 #[.val (.ref a), .val (.int (1 : Int32)), .val (.long (fu 1)), .second, .val (.long (fc 1)), .second, .val (.ref jb), .val (.int (1 : Int32))] [(.int (XT.cmpL (fu 0) (fu 1)))])) (fun _ k => XT.lcmp X132.here hx rfl (hb hby d10_58) rfl k) ?_
      by_cases ci1 : (fu 1) < (fu 0)
      · refine own_go (g' := (mkF m 62 #[.val (.ref a), .val (.int (1 : Int32)), .val (.long (fu 1)), .second, .val (.long (fc 1)), .second, .val (.ref jb), .val (.int (1 : Int32))] [])) (fun _ k => XS.ifNo X132.here hx rfl (hb hby d10_59) rfl (XT.ll_le_f ci1) k) ?_
        refine own_go (g' := (mkF m 63 #[.val (.ref a), .val (.int (1 : Int32)), .val (.long (fu 1)), .second, .val (.long (fc 1)), .second, .val (.ref jb), .val (.int (1 : Int32))] [(.ref a)])) (fun _ k => XS.aloadN X132.here hx rfl (hb hby d10_62) rfl rfl k) ?_
        refine own_getF X132 hx hZ (host := "") hown e132 (Or.inl (hw _ (List.mem_of_getElem? (i := 46) rfl))) Via.refl (own_Ob_fld B0 0 rfl) (hb hby d10_63) ?_
        intro T147 X147 e147
        show own_Go p e below _ T147 (mkF m 66 #[.val (.ref a), .val (.int (1 : Int32)), .val (.long (fu 1)), .second, .val (.long (fc 1)), .second, .val (.ref jb), .val (.int (1 : Int32))] [(.ref au)])
        refine own_go (g' := (mkF m 68 #[.val (.ref a), .val (.int (1 : Int32)), .val (.long (fu 1)), .second, .val (.long (fc 1)), .second, .val (.ref jb), .val (.int (1 : Int32))] [(.int (1 : Int32)), (.ref au)])) (fun _ k => XS.iload X147.here hx rfl (hb hby d10_66) rfl k) ?_
        refine own_go (g' := (mkF m 69 #[.val (.ref a), .val (.int (1 : Int32)), .val (.long (fu 1)), .second, .val (.long (fc 1)), .second, .val (.ref jb), .val (.int (1 : Int32))] [(.ref a), (.int (1 : Int32)), (.ref au)])) (fun _ k => XS.aloadN X147.here hx rfl (hb hby d10_68) rfl rfl k) ?_
        refine own_getF X147 hx hZ (host := "") hown e147 (Or.inl (hw _ (List.mem_of_getElem? (i := 46) rfl))) Via.refl (own_Ob_fld B0 0 rfl) (hb hby d10_69) ?_
        intro T148 X148 e148
        show own_Go p e below _ T148 (mkF m 72 #[.val (.ref a), .val (.int (1 : Int32)), .val (.long (fu 1)), .second, .val (.long (fc 1)), .second, .val (.ref jb), .val (.int (1 : Int32))] [(.ref au), (.int (1 : Int32)), (.ref au)])
        refine own_go (g' := (mkF m 74 #[.val (.ref a), .val (.int (1 : Int32)), .val (.long (fu 1)), .second, .val (.long (fc 1)), .second, .val (.ref jb), .val (.int (1 : Int32))] [(.int (1 : Int32)), (.ref au), (.int (1 : Int32)), (.ref au)])) (fun _ k => XS.iload X148.here hx rfl (hb hby d10_72) rfl k) ?_
        refine own_go (g' := (mkF m 75 #[.val (.ref a), .val (.int (1 : Int32)), .val (.long (fu 1)), .second, .val (.long (fc 1)), .second, .val (.ref jb), .val (.int (1 : Int32))] [(.int (1 : Int32)), (.int (1 : Int32)), (.ref au), (.int (1 : Int32)), (.ref au)])) (fun _ k => XS.iconst X148.here hx rfl (hb hby d10_74) k) ?_
        refine own_go (g' := (mkF m 76 #[.val (.ref a), .val (.int (1 : Int32)), .val (.long (fu 1)), .second, .val (.long (fc 1)), .second, .val (.ref jb), .val (.int (1 : Int32))] [(.int ((1 : Int32) - (1 : Int32))), (.ref au), (.int (1 : Int32)), (.ref au)])) (fun _ k => XS.isub X148.here hx rfl (hb hby d10_75) rfl k) ?_
        refine own_laload X148 hx hZ e148 Fu 0 (by decide) (by decide) (hb hby d10_76) ?_
        show own_Go p e below _ T148 (mkF m 77 #[.val (.ref a), .val (.int (1 : Int32)), .val (.long (fu 1)), .second, .val (.long (fc 1)), .second, .val (.ref jb), .val (.int (1 : Int32))] [(.long (fu 0)), (.int (1 : Int32)), (.ref au)])
        refine own_lastore X148 hx hZ e148 Fu 1 (by decide) (by decide) (hb hby d10_77) ?_
        intro T149 h149 X149 e149 W149
        have A149 : own_Al Z h149 au 8 (own_upl fu 1 (fu 0)) := own_Al_set (f := fu) Fu W149
        have K149 := K0.wr W149 (Or.inl (List.mem_of_getElem? (i := 1) rfl))
        have N149 := Fr.snoc X149 N0 (own_Up_ge HU gj 2 rfl)
        show own_Go p e below _ T149 (mkF m 78 #[.val (.ref a), .val (.int (1 : Int32)), .val (.long (fu 1)), .second, .val (.long (fc 1)), .second, .val (.ref jb), .val (.int (1 : Int32))] [])
        refine own_go (g' := (mkF m 79 #[.val (.ref a), .val (.int (1 : Int32)), .val (.long (fu 1)), .second, .val (.long (fc 1)), .second, .val (.ref jb), .val (.int (1 : Int32))] [(.ref a)])) (fun _ k => XS.aloadN X149.here hx rfl (hb hby d10_78) rfl rfl k) ?_
        have f150 := (own_Ob_other B0 W149 (own_Up_ne HU 1 2 rfl rfl (by decide)))
        refine own_getF X149 hx hZ (host := "") hown e149 (Or.inl (hw _ (List.mem_of_getElem? (i := 48) rfl))) Via.refl (own_Ob_fld f150 1 rfl) (hb hby d10_79) ?_
        intro T151 X151 e151
        show own_Go p e below _ T151 (mkF m 82 #[.val (.ref a), .val (.int (1 : Int32)), .val (.long (fu 1)), .second, .val (.long (fc 1)), .second, .val (.ref jb), .val (.int (1 : Int32))] [(.ref ac)])
        refine own_go (g' := (mkF m 84 #[.val (.ref a), .val (.int (1 : Int32)), .val (.long (fu 1)), .second, .val (.long (fc 1)), .second, .val (.ref jb), .val (.int (1 : Int32))] [(.int (1 : Int32)), (.ref ac)])) (fun _ k => XS.iload X151.here hx rfl (hb hby d10_82) rfl k) ?_
        refine own_go (g' := (mkF m 85 #[.val (.ref a), .val (.int (1 : Int32)), .val (.long (fu 1)), .second, .val (.long (fc 1)), .second, .val (.ref jb), .val (.int (1 : Int32))] [(.ref a), (.int (1 : Int32)), (.ref ac)])) (fun _ k => XS.aloadN X151.here hx rfl (hb hby d10_84) rfl rfl k) ?_
        refine own_getF X151 hx hZ (host := "") hown e151 (Or.inl (hw _ (List.mem_of_getElem? (i := 48) rfl))) Via.refl (own_Ob_fld f150 1 rfl) (hb hby d10_85) ?_
        intro T152 X152 e152
        show own_Go p e below _ T152 (mkF m 88 #[.val (.ref a), .val (.int (1 : Int32)), .val (.long (fu 1)), .second, .val (.long (fc 1)), .second, .val (.ref jb), .val (.int (1 : Int32))] [(.ref ac), (.int (1 : Int32)), (.ref ac)])
        refine own_go (g' := (mkF m 90 #[.val (.ref a), .val (.int (1 : Int32)), .val (.long (fu 1)), .second, .val (.long (fc 1)), .second, .val (.ref jb), .val (.int (1 : Int32))] [(.int (1 : Int32)), (.ref ac), (.int (1 : Int32)), (.ref ac)])) (fun _ k => XS.iload X152.here hx rfl (hb hby d10_88) rfl k) ?_
        refine own_go (g' := (mkF m 91 #[.val (.ref a), .val (.int (1 : Int32)), .val (.long (fu 1)), .second, .val (.long (fc 1)), .second, .val (.ref jb), .val (.int (1 : Int32))] [(.int (1 : Int32)), (.int (1 : Int32)), (.ref ac), (.int (1 : Int32)), (.ref ac)])) (fun _ k => XS.iconst X152.here hx rfl (hb hby d10_90) k) ?_
        refine own_go (g' := (mkF m 92 #[.val (.ref a), .val (.int (1 : Int32)), .val (.long (fu 1)), .second, .val (.long (fc 1)), .second, .val (.ref jb), .val (.int (1 : Int32))] [(.int ((1 : Int32) - (1 : Int32))), (.ref ac), (.int (1 : Int32)), (.ref ac)])) (fun _ k => XS.isub X152.here hx rfl (hb hby d10_91) rfl k) ?_
        have f153 := (own_Ar_other Fc W149 (Ne.symm (own_Up_ne HU 2 3 rfl rfl (by decide))))
        refine own_laload X152 hx hZ e152 f153 0 (by decide) (by decide) (hb hby d10_92) ?_
        show own_Go p e below _ T152 (mkF m 93 #[.val (.ref a), .val (.int (1 : Int32)), .val (.long (fu 1)), .second, .val (.long (fc 1)), .second, .val (.ref jb), .val (.int (1 : Int32))] [(.long (fc 0)), (.int (1 : Int32)), (.ref ac)])
        refine own_lastore X152 hx hZ e152 f153 1 (by decide) (by decide) (hb hby d10_93) ?_
        intro T154 h154 X154 e154 W154
        have A154 : own_Al Z h154 ac 8 (own_upl fc 1 (fc 0)) := own_Al_set (f := fc) f153 W154
        have K154 := K149.wr W154 (Or.inl (List.mem_of_getElem? (i := 2) rfl))
        have N154 := Fr.snoc X154 N149 (own_Up_ge HU gj 3 rfl)
        show own_Go p e below _ T154 (mkF m 94 #[.val (.ref a), .val (.int (1 : Int32)), .val (.long (fu 1)), .second, .val (.long (fc 1)), .second, .val (.ref jb), .val (.int (1 : Int32))] [])
        refine own_go (g' := (mkF m 95 #[.val (.ref a), .val (.int (1 : Int32)), .val (.long (fu 1)), .second, .val (.long (fc 1)), .second, .val (.ref jb), .val (.int (1 : Int32))] [(.ref a)])) (fun _ k => XS.aloadN X154.here hx rfl (hb hby d10_94) rfl rfl k) ?_
        have f155 := (own_Ob_other f150 W154 (own_Up_ne HU 1 3 rfl rfl (by decide)))
        refine own_getF X154 hx hZ (host := "") hown e154 (Or.inl (hw _ (List.mem_of_getElem? (i := 52) rfl))) Via.refl (own_Ob_fld f155 2 rfl) (hb hby d10_95) ?_
        intro T156 X156 e156
        show own_Go p e below _ T156 (mkF m 98 #[.val (.ref a), .val (.int (1 : Int32)), .val (.long (fu 1)), .second, .val (.long (fc 1)), .second, .val (.ref jb), .val (.int (1 : Int32))] [(.ref ao)])
        refine own_go (g' := (mkF m 100 #[.val (.ref a), .val (.int (1 : Int32)), .val (.long (fu 1)), .second, .val (.long (fc 1)), .second, .val (.ref jb), .val (.int (1 : Int32))] [(.int (1 : Int32)), (.ref ao)])) (fun _ k => XS.iload X156.here hx rfl (hb hby d10_98) rfl k) ?_
        refine own_go (g' := (mkF m 101 #[.val (.ref a), .val (.int (1 : Int32)), .val (.long (fu 1)), .second, .val (.long (fc 1)), .second, .val (.ref jb), .val (.int (1 : Int32))] [(.ref a), (.int (1 : Int32)), (.ref ao)])) (fun _ k => XS.aloadN X156.here hx rfl (hb hby d10_100) rfl rfl k) ?_
        refine own_getF X156 hx hZ (host := "") hown e156 (Or.inl (hw _ (List.mem_of_getElem? (i := 52) rfl))) Via.refl (own_Ob_fld f155 2 rfl) (hb hby d10_101) ?_
        intro T157 X157 e157
        show own_Go p e below _ T157 (mkF m 104 #[.val (.ref a), .val (.int (1 : Int32)), .val (.long (fu 1)), .second, .val (.long (fc 1)), .second, .val (.ref jb), .val (.int (1 : Int32))] [(.ref ao), (.int (1 : Int32)), (.ref ao)])
        refine own_go (g' := (mkF m 106 #[.val (.ref a), .val (.int (1 : Int32)), .val (.long (fu 1)), .second, .val (.long (fc 1)), .second, .val (.ref jb), .val (.int (1 : Int32))] [(.int (1 : Int32)), (.ref ao), (.int (1 : Int32)), (.ref ao)])) (fun _ k => XS.iload X157.here hx rfl (hb hby d10_104) rfl k) ?_
        refine own_go (g' := (mkF m 107 #[.val (.ref a), .val (.int (1 : Int32)), .val (.long (fu 1)), .second, .val (.long (fc 1)), .second, .val (.ref jb), .val (.int (1 : Int32))] [(.int (1 : Int32)), (.int (1 : Int32)), (.ref ao), (.int (1 : Int32)), (.ref ao)])) (fun _ k => XS.iconst X157.here hx rfl (hb hby d10_106) k) ?_
        refine own_go (g' := (mkF m 108 #[.val (.ref a), .val (.int (1 : Int32)), .val (.long (fu 1)), .second, .val (.long (fc 1)), .second, .val (.ref jb), .val (.int (1 : Int32))] [(.int ((1 : Int32) - (1 : Int32))), (.ref ao), (.int (1 : Int32)), (.ref ao)])) (fun _ k => XS.isub X157.here hx rfl (hb hby d10_107) rfl k) ?_
        have f158 := (own_Rr_other (own_Rr_other Fo W149 (Ne.symm (own_Up_ne HU 2 4 rfl rfl (by decide)))) W154 (Ne.symm (own_Up_ne HU 3 4 rfl rfl (by decide))))
        refine own_aaload X157 hx hZ e157 (own_Rr_ar f158) rfl 0 (by decide) (by decide) (hb hby d10_108) ?_
        rw [show (fo) 0 = Value.ref jb from (ho 0 (by decide))]
        show own_Go p e below _ T157 (mkF m 109 #[.val (.ref a), .val (.int (1 : Int32)), .val (.long (fu 1)), .second, .val (.long (fc 1)), .second, .val (.ref jb), .val (.int (1 : Int32))] [(.ref jb), (.int (1 : Int32)), (.ref ao)])
        have EJ159 : Exa Z h154 jb "com/example/gangplank/gangplank/workload/Job" := EJ.keep K154
        refine own_aastore X157 hx hZ e157 f158 (Ins.self EJ159) 1 (by decide) (by decide) (hb hby d10_109) ?_
        intro T160 h160 X160 e160 W160
        have A160 := own_Rr_set f158 W160
        have K160 := K154.wr W160 (Or.inl (List.mem_of_getElem? (i := 3) rfl))
        have N160 := Fr.snoc X160 N154 (own_Up_ge HU gj 4 rfl)
        show own_Go p e below _ T160 (mkF m 110 #[.val (.ref a), .val (.int (1 : Int32)), .val (.long (fu 1)), .second, .val (.long (fc 1)), .second, .val (.ref jb), .val (.int (1 : Int32))] [])
        refine own_go (g' := (mkF m 113 #[.val (.ref a), .val (.int (1 : Int32)), .val (.long (fu 1)), .second, .val (.long (fc 1)), .second, .val (.ref jb), .val (.int ((1 : Int32) + (-1 : Int32)))] [])) (fun _ k => XS.iinc X160.here hx rfl (hb hby d10_110) rfl (l' := #[.val (.ref a), .val (.int (1 : Int32)), .val (.long (fu 1)), .second, .val (.long (fc 1)), .second, .val (.ref jb), .val (.int ((1 : Int32) + (-1 : Int32)))]) rfl k) ?_
        show own_Go p e below _ T160 (mkF m 113 #[.val (.ref a), .val (.int (1 : Int32)), .val (.long (fu 1)), .second, .val (.long (fc 1)), .second, .val (.ref jb), .val (.int (0 : Int32))] [])
        refine own_go (g' := (mkF m 43 #[.val (.ref a), .val (.int (1 : Int32)), .val (.long (fu 1)), .second, .val (.long (fc 1)), .second, .val (.ref jb), .val (.int (0 : Int32))] [])) (fun _ k => XS.goto X160.here hx rfl (pc0 := 113) (pc' := 43) rfl (hb hby d10_113) (by decide) (by decide) k) ?_
        refine own_go (g' := (mkF m 45 #[.val (.ref a), .val (.int (1 : Int32)), .val (.long (fu 1)), .second, .val (.long (fc 1)), .second, .val (.ref jb), .val (.int (0 : Int32))] [(.int (0 : Int32))])) (fun _ k => XS.iload X160.here hx rfl (hb hby d10_43) rfl k) ?_
        refine own_go (g' := (mkF m 116 #[.val (.ref a), .val (.int (1 : Int32)), .val (.long (fu 1)), .second, .val (.long (fc 1)), .second, .val (.ref jb), .val (.int (0 : Int32))] [])) (fun _ k => XS.ifYes X160.here hx rfl (pc0 := 45) (pc' := 116) rfl (hb hby d10_45) rfl (XT.i0_le_t (by decide)) (by decide) (by decide) k) ?_
        refine own_go (g' := (mkF m 117 #[.val (.ref a), .val (.int (1 : Int32)), .val (.long (fu 1)), .second, .val (.long (fc 1)), .second, .val (.ref jb), .val (.int (0 : Int32))] [(.ref a)])) (fun _ k => XS.aloadN X160.here hx rfl (hb hby d10_116) rfl rfl k) ?_
        have f161 := (own_Ob_other f155 W160 (own_Up_ne HU 1 4 rfl rfl (by decide)))
        refine own_getF X160 hx hZ (host := "") hown e160 (Or.inl (hw _ (List.mem_of_getElem? (i := 46) rfl))) Via.refl (own_Ob_fld f161 0 rfl) (hb hby d10_117) ?_
        intro T162 X162 e162
        show own_Go p e below _ T162 (mkF m 120 #[.val (.ref a), .val (.int (1 : Int32)), .val (.long (fu 1)), .second, .val (.long (fc 1)), .second, .val (.ref jb), .val (.int (0 : Int32))] [(.ref au)])
        refine own_go (g' := (mkF m 122 #[.val (.ref a), .val (.int (1 : Int32)), .val (.long (fu 1)), .second, .val (.long (fc 1)), .second, .val (.ref jb), .val (.int (0 : Int32))] [(.int (0 : Int32)), (.ref au)])) (fun _ k => XS.iload X162.here hx rfl (hb hby d10_120) rfl k) ?_
        refine own_go (g' := (mkF m 123 #[.val (.ref a), .val (.int (1 : Int32)), .val (.long (fu 1)), .second, .val (.long (fc 1)), .second, .val (.ref jb), .val (.int (0 : Int32))] [(.long (fu 1)), (.int (0 : Int32)), (.ref au)])) (fun _ k => XT.lloadN X162.here hx rfl (hb hby d10_122) rfl k) ?_
        have f163 := (own_Ar_other (own_Ar_other A149 W154 (own_Up_ne HU 2 3 rfl rfl (by decide))) W160 (own_Up_ne HU 2 4 rfl rfl (by decide)))
        refine own_lastore X162 hx hZ e162 f163 0 (by decide) (by decide) (hb hby d10_123) ?_
        intro T164 h164 X164 e164 W164
        have A164 : own_Al Z h164 au 8 (own_upl (own_upl fu 1 (fu 0)) 0 (fu 1)) := own_Al_set (f := (own_upl fu 1 (fu 0))) f163 W164
        have K164 := K160.wr W164 (Or.inl (List.mem_of_getElem? (i := 1) rfl))
        have N164 := Fr.snoc X164 N160 (own_Up_ge HU gj 2 rfl)
        show own_Go p e below _ T164 (mkF m 124 #[.val (.ref a), .val (.int (1 : Int32)), .val (.long (fu 1)), .second, .val (.long (fc 1)), .second, .val (.ref jb), .val (.int (0 : Int32))] [])
        refine own_go (g' := (mkF m 125 #[.val (.ref a), .val (.int (1 : Int32)), .val (.long (fu 1)), .second, .val (.long (fc 1)), .second, .val (.ref jb), .val (.int (0 : Int32))] [(.ref a)])) (fun _ k => XS.aloadN X164.here hx rfl (hb hby d10_124) rfl rfl k) ?_
        have f165 := (own_Ob_other f161 W164 (own_Up_ne HU 1 2 rfl rfl (by decide)))
        refine own_getF X164 hx hZ (host := "") hown e164 (Or.inl (hw _ (List.mem_of_getElem? (i := 48) rfl))) Via.refl (own_Ob_fld f165 1 rfl) (hb hby d10_125) ?_
        intro T166 X166 e166
        show own_Go p e below _ T166 (mkF m 128 #[.val (.ref a), .val (.int (1 : Int32)), .val (.long (fu 1)), .second, .val (.long (fc 1)), .second, .val (.ref jb), .val (.int (0 : Int32))] [(.ref ac)])
        refine own_go (g' := (mkF m 130 #[.val (.ref a), .val (.int (1 : Int32)), .val (.long (fu 1)), .second, .val (.long (fc 1)), .second, .val (.ref jb), .val (.int (0 : Int32))] [(.int (0 : Int32)), (.ref ac)])) (fun _ k => XS.iload X166.here hx rfl (hb hby d10_128) rfl k) ?_
        refine own_go (g' := (mkF m 132 #[.val (.ref a), .val (.int (1 : Int32)), .val (.long (fu 1)), .second, .val (.long (fc 1)), .second, .val (.ref jb), .val (.int (0 : Int32))] [(.long (fc 1)), (.int (0 : Int32)), (.ref ac)])) (fun _ k => XT.lload X166.here hx rfl (hb hby d10_130) rfl k) ?_
        have f167 := (own_Ar_other (own_Ar_other A154 W160 (own_Up_ne HU 3 4 rfl rfl (by decide))) W164 (Ne.symm (own_Up_ne HU 2 3 rfl rfl (by decide))))
        refine own_lastore X166 hx hZ e166 f167 0 (by decide) (by decide) (hb hby d10_132) ?_
        intro T168 h168 X168 e168 W168
        have A168 : own_Al Z h168 ac 8 (own_upl (own_upl fc 1 (fc 0)) 0 (fc 1)) := own_Al_set (f := (own_upl fc 1 (fc 0))) f167 W168
        have K168 := K164.wr W168 (Or.inl (List.mem_of_getElem? (i := 2) rfl))
        have N168 := Fr.snoc X168 N164 (own_Up_ge HU gj 3 rfl)
        show own_Go p e below _ T168 (mkF m 133 #[.val (.ref a), .val (.int (1 : Int32)), .val (.long (fu 1)), .second, .val (.long (fc 1)), .second, .val (.ref jb), .val (.int (0 : Int32))] [])
        refine own_go (g' := (mkF m 134 #[.val (.ref a), .val (.int (1 : Int32)), .val (.long (fu 1)), .second, .val (.long (fc 1)), .second, .val (.ref jb), .val (.int (0 : Int32))] [(.ref a)])) (fun _ k => XS.aloadN X168.here hx rfl (hb hby d10_133) rfl rfl k) ?_
        have f169 := (own_Ob_other f165 W168 (own_Up_ne HU 1 3 rfl rfl (by decide)))
        refine own_getF X168 hx hZ (host := "") hown e168 (Or.inl (hw _ (List.mem_of_getElem? (i := 52) rfl))) Via.refl (own_Ob_fld f169 2 rfl) (hb hby d10_134) ?_
        intro T170 X170 e170
        show own_Go p e below _ T170 (mkF m 137 #[.val (.ref a), .val (.int (1 : Int32)), .val (.long (fu 1)), .second, .val (.long (fc 1)), .second, .val (.ref jb), .val (.int (0 : Int32))] [(.ref ao)])
        refine own_go (g' := (mkF m 139 #[.val (.ref a), .val (.int (1 : Int32)), .val (.long (fu 1)), .second, .val (.long (fc 1)), .second, .val (.ref jb), .val (.int (0 : Int32))] [(.int (0 : Int32)), (.ref ao)])) (fun _ k => XS.iload X170.here hx rfl (hb hby d10_137) rfl k) ?_
        refine own_go (g' := (mkF m 141 #[.val (.ref a), .val (.int (1 : Int32)), .val (.long (fu 1)), .second, .val (.long (fc 1)), .second, .val (.ref jb), .val (.int (0 : Int32))] [(.ref jb), (.int (0 : Int32)), (.ref ao)])) (fun _ k => XS.aload X170.here hx rfl (hb hby d10_139) rfl rfl k) ?_
        have EJ171 : Exa Z h168 jb "com/example/gangplank/gangplank/workload/Job" := EJ.keep K168
        have f173 := (own_Rr_other (own_Rr_other A160 W164 (Ne.symm (own_Up_ne HU 2 4 rfl rfl (by decide)))) W168 (Ne.symm (own_Up_ne HU 3 4 rfl rfl (by decide))))
        refine own_aastore X170 hx hZ e170 f173 (Ins.self EJ171) 0 (by decide) (by decide) (hb hby d10_141) ?_
        intro T172 h172 X172 e172 W172
        have A172 := own_Rr_set f173 W172
        have K172 := K168.wr W172 (Or.inl (List.mem_of_getElem? (i := 3) rfl))
        have N172 := Fr.snoc X172 N168 (own_Up_ge HU gj 4 rfl)
        show own_Go p e below _ T172 (mkF m 142 #[.val (.ref a), .val (.int (1 : Int32)), .val (.long (fu 1)), .second, .val (.long (fc 1)), .second, .val (.ref jb), .val (.int (0 : Int32))] [])
        refine own_go (g' := (mkF m 145 #[.val (.ref a), .val (.int ((1 : Int32) + (1 : Int32))), .val (.long (fu 1)), .second, .val (.long (fc 1)), .second, .val (.ref jb), .val (.int (0 : Int32))] [])) (fun _ k => XS.iinc X172.here hx rfl (hb hby d10_142) rfl (l' := #[.val (.ref a), .val (.int ((1 : Int32) + (1 : Int32))), .val (.long (fu 1)), .second, .val (.long (fc 1)), .second, .val (.ref jb), .val (.int (0 : Int32))]) rfl k) ?_
        show own_Go p e below _ T172 (mkF m 145 #[.val (.ref a), .val (.int (2 : Int32)), .val (.long (fu 1)), .second, .val (.long (fc 1)), .second, .val (.ref jb), .val (.int (0 : Int32))] [])
        refine own_go (g' := (mkF m 2 #[.val (.ref a), .val (.int (2 : Int32)), .val (.long (fu 1)), .second, .val (.long (fc 1)), .second, .val (.ref jb), .val (.int (0 : Int32))] [])) (fun _ k => XS.goto X172.here hx rfl (pc0 := 145) (pc' := 2) rfl (hb hby d10_145) (by decide) (by decide) k) ?_
        have f174 := (own_Ob_other f169 W172 (own_Up_ne HU 1 4 rfl rfl (by decide)))
        have f175 := (own_Ar_other (own_Ar_other A164 W168 (own_Up_ne HU 2 3 rfl rfl (by decide))) W172 (own_Up_ne HU 2 4 rfl rfl (by decide)))
        have f176 := (own_Ar_other A168 W172 (own_Up_ne HU 3 4 rfl rfl (by decide)))
        refine J _ _ _ _ _ _ _ _ _ X172 e172 N172 K172 f174 f175 f176 A172 (own_pm1b fu fc) ?_ ?_
        · exact own_nlt ci1
        · intro i hi
          exact own_fo_up (own_fo_up ho _ _) _ _ i hi
      · refine own_go (g' := (mkF m 116 #[.val (.ref a), .val (.int (1 : Int32)), .val (.long (fu 1)), .second, .val (.long (fc 1)), .second, .val (.ref jb), .val (.int (1 : Int32))] [])) (fun _ k => XS.ifYes X132.here hx rfl (pc0 := 59) (pc' := 116) rfl (hb hby d10_59) rfl (XT.ll_le_t ci1) (by decide) (by decide) k) ?_
        refine own_go (g' := (mkF m 117 #[.val (.ref a), .val (.int (1 : Int32)), .val (.long (fu 1)), .second, .val (.long (fc 1)), .second, .val (.ref jb), .val (.int (1 : Int32))] [(.ref a)])) (fun _ k => XS.aloadN X132.here hx rfl (hb hby d10_116) rfl rfl k) ?_
        refine own_getF X132 hx hZ (host := "") hown e132 (Or.inl (hw _ (List.mem_of_getElem? (i := 46) rfl))) Via.refl (own_Ob_fld B0 0 rfl) (hb hby d10_117) ?_
        intro T133 X133 e133
        show own_Go p e below _ T133 (mkF m 120 #[.val (.ref a), .val (.int (1 : Int32)), .val (.long (fu 1)), .second, .val (.long (fc 1)), .second, .val (.ref jb), .val (.int (1 : Int32))] [(.ref au)])
        refine own_go (g' := (mkF m 122 #[.val (.ref a), .val (.int (1 : Int32)), .val (.long (fu 1)), .second, .val (.long (fc 1)), .second, .val (.ref jb), .val (.int (1 : Int32))] [(.int (1 : Int32)), (.ref au)])) (fun _ k => XS.iload X133.here hx rfl (hb hby d10_120) rfl k) ?_
        refine own_go (g' := (mkF m 123 #[.val (.ref a), .val (.int (1 : Int32)), .val (.long (fu 1)), .second, .val (.long (fc 1)), .second, .val (.ref jb), .val (.int (1 : Int32))] [(.long (fu 1)), (.int (1 : Int32)), (.ref au)])) (fun _ k => XT.lloadN X133.here hx rfl (hb hby d10_122) rfl k) ?_
        refine own_lastore X133 hx hZ e133 Fu 1 (by decide) (by decide) (hb hby d10_123) ?_
        intro T134 h134 X134 e134 W134
        have A134 : own_Al Z h134 au 8 (own_upl fu 1 (fu 1)) := own_Al_set (f := fu) Fu W134
        have K134 := K0.wr W134 (Or.inl (List.mem_of_getElem? (i := 1) rfl))
        have N134 := Fr.snoc X134 N0 (own_Up_ge HU gj 2 rfl)
        show own_Go p e below _ T134 (mkF m 124 #[.val (.ref a), .val (.int (1 : Int32)), .val (.long (fu 1)), .second, .val (.long (fc 1)), .second, .val (.ref jb), .val (.int (1 : Int32))] [])
        refine own_go (g' := (mkF m 125 #[.val (.ref a), .val (.int (1 : Int32)), .val (.long (fu 1)), .second, .val (.long (fc 1)), .second, .val (.ref jb), .val (.int (1 : Int32))] [(.ref a)])) (fun _ k => XS.aloadN X134.here hx rfl (hb hby d10_124) rfl rfl k) ?_
        have f135 := (own_Ob_other B0 W134 (own_Up_ne HU 1 2 rfl rfl (by decide)))
        refine own_getF X134 hx hZ (host := "") hown e134 (Or.inl (hw _ (List.mem_of_getElem? (i := 48) rfl))) Via.refl (own_Ob_fld f135 1 rfl) (hb hby d10_125) ?_
        intro T136 X136 e136
        show own_Go p e below _ T136 (mkF m 128 #[.val (.ref a), .val (.int (1 : Int32)), .val (.long (fu 1)), .second, .val (.long (fc 1)), .second, .val (.ref jb), .val (.int (1 : Int32))] [(.ref ac)])
        refine own_go (g' := (mkF m 130 #[.val (.ref a), .val (.int (1 : Int32)), .val (.long (fu 1)), .second, .val (.long (fc 1)), .second, .val (.ref jb), .val (.int (1 : Int32))] [(.int (1 : Int32)), (.ref ac)])) (fun _ k => XS.iload X136.here hx rfl (hb hby d10_128) rfl k) ?_
        refine own_go (g' := (mkF m 132 #[.val (.ref a), .val (.int (1 : Int32)), .val (.long (fu 1)), .second, .val (.long (fc 1)), .second, .val (.ref jb), .val (.int (1 : Int32))] [(.long (fc 1)), (.int (1 : Int32)), (.ref ac)])) (fun _ k => XT.lload X136.here hx rfl (hb hby d10_130) rfl k) ?_
        have f137 := (own_Ar_other Fc W134 (Ne.symm (own_Up_ne HU 2 3 rfl rfl (by decide))))
        refine own_lastore X136 hx hZ e136 f137 1 (by decide) (by decide) (hb hby d10_132) ?_
        intro T138 h138 X138 e138 W138
        have A138 : own_Al Z h138 ac 8 (own_upl fc 1 (fc 1)) := own_Al_set (f := fc) f137 W138
        have K138 := K134.wr W138 (Or.inl (List.mem_of_getElem? (i := 2) rfl))
        have N138 := Fr.snoc X138 N134 (own_Up_ge HU gj 3 rfl)
        show own_Go p e below _ T138 (mkF m 133 #[.val (.ref a), .val (.int (1 : Int32)), .val (.long (fu 1)), .second, .val (.long (fc 1)), .second, .val (.ref jb), .val (.int (1 : Int32))] [])
        refine own_go (g' := (mkF m 134 #[.val (.ref a), .val (.int (1 : Int32)), .val (.long (fu 1)), .second, .val (.long (fc 1)), .second, .val (.ref jb), .val (.int (1 : Int32))] [(.ref a)])) (fun _ k => XS.aloadN X138.here hx rfl (hb hby d10_133) rfl rfl k) ?_
        have f139 := (own_Ob_other f135 W138 (own_Up_ne HU 1 3 rfl rfl (by decide)))
        refine own_getF X138 hx hZ (host := "") hown e138 (Or.inl (hw _ (List.mem_of_getElem? (i := 52) rfl))) Via.refl (own_Ob_fld f139 2 rfl) (hb hby d10_134) ?_
        intro T140 X140 e140
        show own_Go p e below _ T140 (mkF m 137 #[.val (.ref a), .val (.int (1 : Int32)), .val (.long (fu 1)), .second, .val (.long (fc 1)), .second, .val (.ref jb), .val (.int (1 : Int32))] [(.ref ao)])
        refine own_go (g' := (mkF m 139 #[.val (.ref a), .val (.int (1 : Int32)), .val (.long (fu 1)), .second, .val (.long (fc 1)), .second, .val (.ref jb), .val (.int (1 : Int32))] [(.int (1 : Int32)), (.ref ao)])) (fun _ k => XS.iload X140.here hx rfl (hb hby d10_137) rfl k) ?_
        refine own_go (g' := (mkF m 141 #[.val (.ref a), .val (.int (1 : Int32)), .val (.long (fu 1)), .second, .val (.long (fc 1)), .second, .val (.ref jb), .val (.int (1 : Int32))] [(.ref jb), (.int (1 : Int32)), (.ref ao)])) (fun _ k => XS.aload X140.here hx rfl (hb hby d10_139) rfl rfl k) ?_
        have EJ141 : Exa Z h138 jb "com/example/gangplank/gangplank/workload/Job" := EJ.keep K138
        have f143 := (own_Rr_other (own_Rr_other Fo W134 (Ne.symm (own_Up_ne HU 2 4 rfl rfl (by decide)))) W138 (Ne.symm (own_Up_ne HU 3 4 rfl rfl (by decide))))
        refine own_aastore X140 hx hZ e140 f143 (Ins.self EJ141) 1 (by decide) (by decide) (hb hby d10_141) ?_
        intro T142 h142 X142 e142 W142
        have A142 := own_Rr_set f143 W142
        have K142 := K138.wr W142 (Or.inl (List.mem_of_getElem? (i := 3) rfl))
        have N142 := Fr.snoc X142 N138 (own_Up_ge HU gj 4 rfl)
        show own_Go p e below _ T142 (mkF m 142 #[.val (.ref a), .val (.int (1 : Int32)), .val (.long (fu 1)), .second, .val (.long (fc 1)), .second, .val (.ref jb), .val (.int (1 : Int32))] [])
        refine own_go (g' := (mkF m 145 #[.val (.ref a), .val (.int ((1 : Int32) + (1 : Int32))), .val (.long (fu 1)), .second, .val (.long (fc 1)), .second, .val (.ref jb), .val (.int (1 : Int32))] [])) (fun _ k => XS.iinc X142.here hx rfl (hb hby d10_142) rfl (l' := #[.val (.ref a), .val (.int ((1 : Int32) + (1 : Int32))), .val (.long (fu 1)), .second, .val (.long (fc 1)), .second, .val (.ref jb), .val (.int (1 : Int32))]) rfl k) ?_
        show own_Go p e below _ T142 (mkF m 145 #[.val (.ref a), .val (.int (2 : Int32)), .val (.long (fu 1)), .second, .val (.long (fc 1)), .second, .val (.ref jb), .val (.int (1 : Int32))] [])
        refine own_go (g' := (mkF m 2 #[.val (.ref a), .val (.int (2 : Int32)), .val (.long (fu 1)), .second, .val (.long (fc 1)), .second, .val (.ref jb), .val (.int (1 : Int32))] [])) (fun _ k => XS.goto X142.here hx rfl (pc0 := 145) (pc' := 2) rfl (hb hby d10_145) (by decide) (by decide) k) ?_
        have f144 := (own_Ob_other f139 W142 (own_Up_ne HU 1 4 rfl rfl (by decide)))
        have f145 := (own_Ar_other (own_Ar_other A134 W138 (own_Up_ne HU 2 3 rfl rfl (by decide))) W142 (own_Up_ne HU 2 4 rfl rfl (by decide)))
        have f146 := (own_Ar_other A138 W142 (own_Up_ne HU 3 4 rfl rfl (by decide)))
        refine J _ _ _ _ _ _ _ _ _ X142 e142 N142 K142 f144 f145 f146 A142 (own_pm1a fu fc) ?_ ?_
        · exact ci1
        · intro i hi
          exact own_fo_up ho _ _ i hi
    intro T1 h1 lo fu1 fc1 fo1 t2 t4 t7 X1 e1 N1 K1 B1 Fu1 Fc1 Fo1 pm1 s1 ho1
    refine own_go (g' := (mkF m 3 #[.val (.ref a), .val (.int (2 : Int32)), .val (.long t2), .second, .val (.long t4), .second, .val (.ref jb), .val (.int t7)] [(.ref a)])) (fun _ k => XS.aloadN X1.here hx rfl (hb hby d10_2) rfl rfl k) ?_
    refine own_getF X1 hx hZ (host := "") hown e1 (Or.inl (hw _ (List.mem_of_getElem? (i := 54) rfl))) Via.refl (own_Ob_fld B1 3 rfl) (hb hby d10_3) ?_
    intro T177 X177 e177
    show own_Go p e below _ T177 (mkF m 6 #[.val (.ref a), .val (.int (2 : Int32)), .val (.long t2), .second, .val (.long t4), .second, .val (.ref jb), .val (.int t7)] [(.int so)])
    refine own_go (g' := (mkF m 9 #[.val (.ref a), .val (.int (2 : Int32)), .val (.long t2), .second, .val (.long t4), .second, .val (.ref jb), .val (.int t7)] [])) (fun _ k => XS.ifNo X177.here hx rfl (hb hby d10_6) rfl (XT.i0_ne_f cs) k) ?_
    refine own_go (g' := (mkF m 10 #[.val (.ref a), .val (.int (2 : Int32)), .val (.long t2), .second, .val (.long t4), .second, .val (.ref jb), .val (.int t7)] [(.int (2 : Int32))])) (fun _ k => XS.iloadN X177.here hx rfl (hb hby d10_9) rfl k) ?_
    refine own_go (g' := (mkF m 11 #[.val (.ref a), .val (.int (2 : Int32)), .val (.long t2), .second, .val (.long t4), .second, .val (.ref jb), .val (.int t7)] [(.ref a), (.int (2 : Int32))])) (fun _ k => XS.aloadN X177.here hx rfl (hb hby d10_10) rfl rfl k) ?_
    refine own_getF X177 hx hZ (host := "") hown e177 (Or.inl (hw _ (List.mem_of_getElem? (i := 73) rfl))) Via.refl (own_Ob_fld B1 9 rfl) (hb hby d10_11) ?_
    intro T178 X178 e178
    show own_Go p e below _ T178 (mkF m 14 #[.val (.ref a), .val (.int (2 : Int32)), .val (.long t2), .second, .val (.long t4), .second, .val (.ref jb), .val (.int t7)] [(.int (3 : Int32)), (.int (2 : Int32))])
    refine own_go (g' := (mkF m 17 #[.val (.ref a), .val (.int (2 : Int32)), .val (.long t2), .second, .val (.long t4), .second, .val (.ref jb), .val (.int t7)] [])) (fun _ k => XS.icmpNo X178.here hx rfl (hb hby d10_14) rfl (XT.ii_ge_f (by decide)) k) ?_
    refine own_go (g' := (mkF m 18 #[.val (.ref a), .val (.int (2 : Int32)), .val (.long t2), .second, .val (.long t4), .second, .val (.ref jb), .val (.int t7)] [(.ref a)])) (fun _ k => XS.aloadN X178.here hx rfl (hb hby d10_17) rfl rfl k) ?_
    refine own_getF X178 hx hZ (host := "") hown e178 (Or.inl (hw _ (List.mem_of_getElem? (i := 46) rfl))) Via.refl (own_Ob_fld B1 0 rfl) (hb hby d10_18) ?_
    intro T179 X179 e179
    show own_Go p e below _ T179 (mkF m 21 #[.val (.ref a), .val (.int (2 : Int32)), .val (.long t2), .second, .val (.long t4), .second, .val (.ref jb), .val (.int t7)] [(.ref au)])
    refine own_go (g' := (mkF m 22 #[.val (.ref a), .val (.int (2 : Int32)), .val (.long t2), .second, .val (.long t4), .second, .val (.ref jb), .val (.int t7)] [(.int (2 : Int32)), (.ref au)])) (fun _ k => XS.iloadN X179.here hx rfl (hb hby d10_21) rfl k) ?_
    refine own_laload X179 hx hZ e179 Fu1 2 (by decide) (by decide) (hb hby d10_22) ?_
    show own_Go p e below _ T179 (mkF m 23 #[.val (.ref a), .val (.int (2 : Int32)), .val (.long t2), .second, .val (.long t4), .second, .val (.ref jb), .val (.int t7)] [(.long (fu1 2))])
    refine own_go (g' := (mkF m 24 #[.val (.ref a), .val (.int (2 : Int32)), .val (.long (fu1 2)), .second, .val (.long t4), .second, .val (.ref jb), .val (.int t7)] [])) (fun _ k => XT.lstoreN X179.here hx rfl (hb hby d10_23) rfl (l' := #[.val (.ref a), .val (.int (2 : Int32)), .val (.long (fu1 2)), .second, .val (.long t4), .second, .val (.ref jb), .val (.int t7)]) rfl k) ?_
    refine own_go (g' := (mkF m 25 #[.val (.ref a), .val (.int (2 : Int32)), .val (.long (fu1 2)), .second, .val (.long t4), .second, .val (.ref jb), .val (.int t7)] [(.ref a)])) (fun _ k => XS.aloadN X179.here hx rfl (hb hby d10_24) rfl rfl k) ?_
    refine own_getF X179 hx hZ (host := "") hown e179 (Or.inl (hw _ (List.mem_of_getElem? (i := 48) rfl))) Via.refl (own_Ob_fld B1 1 rfl) (hb hby d10_25) ?_
    intro T180 X180 e180
    show own_Go p e below _ T180 (mkF m 28 #[.val (.ref a), .val (.int (2 : Int32)), .val (.long (fu1 2)), .second, .val (.long t4), .second, .val (.ref jb), .val (.int t7)] [(.ref ac)])
    refine own_go (g' := (mkF m 29 #[.val (.ref a), .val (.int (2 : Int32)), .val (.long (fu1 2)), .second, .val (.long t4), .second, .val (.ref jb), .val (.int t7)] [(.int (2 : Int32)), (.ref ac)])) (fun _ k => XS.iloadN X180.here hx rfl (hb hby d10_28) rfl k) ?_
    refine own_laload X180 hx hZ e180 Fc1 2 (by decide) (by decide) (hb hby d10_29) ?_
    show own_Go p e below _ T180 (mkF m 30 #[.val (.ref a), .val (.int (2 : Int32)), .val (.long (fu1 2)), .second, .val (.long t4), .second, .val (.ref jb), .val (.int t7)] [(.long (fc1 2))])
    refine own_go (g' := (mkF m 32 #[.val (.ref a), .val (.int (2 : Int32)), .val (.long (fu1 2)), .second, .val (.long (fc1 2)), .second, .val (.ref jb), .val (.int t7)] [])) (fun _ k => XT.lstore X180.here hx rfl (hb hby d10_30) rfl (l' := #[.val (.ref a), .val (.int (2 : Int32)), .val (.long (fu1 2)), .second, .val (.long (fc1 2)), .second, .val (.ref jb), .val (.int t7)]) rfl k) ?_
    refine own_go (g' := (mkF m 33 #[.val (.ref a), .val (.int (2 : Int32)), .val (.long (fu1 2)), .second, .val (.long (fc1 2)), .second, .val (.ref jb), .val (.int t7)] [(.ref a)])) (fun _ k => XS.aloadN X180.here hx rfl (hb hby d10_32) rfl rfl k) ?_
    refine own_getF X180 hx hZ (host := "") hown e180 (Or.inl (hw _ (List.mem_of_getElem? (i := 52) rfl))) Via.refl (own_Ob_fld B1 2 rfl) (hb hby d10_33) ?_
    intro T181 X181 e181
    show own_Go p e below _ T181 (mkF m 36 #[.val (.ref a), .val (.int (2 : Int32)), .val (.long (fu1 2)), .second, .val (.long (fc1 2)), .second, .val (.ref jb), .val (.int t7)] [(.ref ao)])
    refine own_go (g' := (mkF m 37 #[.val (.ref a), .val (.int (2 : Int32)), .val (.long (fu1 2)), .second, .val (.long (fc1 2)), .second, .val (.ref jb), .val (.int t7)] [(.int (2 : Int32)), (.ref ao)])) (fun _ k => XS.iloadN X181.here hx rfl (hb hby d10_36) rfl k) ?_
    refine own_aaload X181 hx hZ e181 (own_Rr_ar Fo1) rfl 2 (by decide) (by decide) (hb hby d10_37) ?_
    rw [show (fo1) 2 = Value.ref jb from (ho1 2 (by decide))]
    show own_Go p e below _ T181 (mkF m 38 #[.val (.ref a), .val (.int (2 : Int32)), .val (.long (fu1 2)), .second, .val (.long (fc1 2)), .second, .val (.ref jb), .val (.int t7)] [(.ref jb)])
    refine own_go (g' := (mkF m 40 #[.val (.ref a), .val (.int (2 : Int32)), .val (.long (fu1 2)), .second, .val (.long (fc1 2)), .second, .val (.ref jb), .val (.int t7)] [])) (fun _ k => XS.astore X181.here hx rfl (hb hby d10_38) rfl rfl (l' := #[.val (.ref a), .val (.int (2 : Int32)), .val (.long (fu1 2)), .second, .val (.long (fc1 2)), .second, .val (.ref jb), .val (.int t7)]) rfl k) ?_
    refine own_go (g' := (mkF m 41 #[.val (.ref a), .val (.int (2 : Int32)), .val (.long (fu1 2)), .second, .val (.long (fc1 2)), .second, .val (.ref jb), .val (.int t7)] [(.int (2 : Int32))])) (fun _ k => XS.iloadN X181.here hx rfl (hb hby d10_40) rfl k) ?_
    refine own_go (g' := (mkF m 43 #[.val (.ref a), .val (.int (2 : Int32)), .val (.long (fu1 2)), .second, .val (.long (fc1 2)), .second, .val (.ref jb), .val (.int (2 : Int32))] [])) (fun _ k => XS.istore X181.here hx rfl (hb hby d10_41) rfl (l' := #[.val (.ref a), .val (.int (2 : Int32)), .val (.long (fu1 2)), .second, .val (.long (fc1 2)), .second, .val (.ref jb), .val (.int (2 : Int32))]) rfl k) ?_
    refine own_go (g' := (mkF m 45 #[.val (.ref a), .val (.int (2 : Int32)), .val (.long (fu1 2)), .second, .val (.long (fc1 2)), .second, .val (.ref jb), .val (.int (2 : Int32))] [(.int (2 : Int32))])) (fun _ k => XS.iload X181.here hx rfl (hb hby d10_43) rfl k) ?_
    refine own_go (g' := (mkF m 48 #[.val (.ref a), .val (.int (2 : Int32)), .val (.long (fu1 2)), .second, .val (.long (fc1 2)), .second, .val (.ref jb), .val (.int (2 : Int32))] [])) (fun _ k => XS.ifNo X181.here hx rfl (hb hby d10_45) rfl (XT.i0_le_f (by decide)) k) ?_
    refine own_go (g' := (mkF m 49 #[.val (.ref a), .val (.int (2 : Int32)), .val (.long (fu1 2)), .second, .val (.long (fc1 2)), .second, .val (.ref jb), .val (.int (2 : Int32))] [(.ref a)])) (fun _ k => XS.aloadN X181.here hx rfl (hb hby d10_48) rfl rfl k) ?_
    refine own_getF X181 hx hZ (host := "") hown e181 (Or.inl (hw _ (List.mem_of_getElem? (i := 46) rfl))) Via.refl (own_Ob_fld B1 0 rfl) (hb hby d10_49) ?_
    intro T182 X182 e182
    show own_Go p e below _ T182 (mkF m 52 #[.val (.ref a), .val (.int (2 : Int32)), .val (.long (fu1 2)), .second, .val (.long (fc1 2)), .second, .val (.ref jb), .val (.int (2 : Int32))] [(.ref au)])
    refine own_go (g' := (mkF m 54 #[.val (.ref a), .val (.int (2 : Int32)), .val (.long (fu1 2)), .second, .val (.long (fc1 2)), .second, .val (.ref jb), .val (.int (2 : Int32))] [(.int (2 : Int32)), (.ref au)])) (fun _ k => XS.iload X182.here hx rfl (hb hby d10_52) rfl k) ?_
    refine own_go (g' := (mkF m 55 #[.val (.ref a), .val (.int (2 : Int32)), .val (.long (fu1 2)), .second, .val (.long (fc1 2)), .second, .val (.ref jb), .val (.int (2 : Int32))] [(.int (1 : Int32)), (.int (2 : Int32)), (.ref au)])) (fun _ k => XS.iconst X182.here hx rfl (hb hby d10_54) k) ?_
    refine own_go (g' := (mkF m 56 #[.val (.ref a), .val (.int (2 : Int32)), .val (.long (fu1 2)), .second, .val (.long (fc1 2)), .second, .val (.ref jb), .val (.int (2 : Int32))] [(.int ((2 : Int32) - (1 : Int32))), (.ref au)])) (fun _ k => XS.isub X182.here hx rfl (hb hby d10_55) rfl k) ?_
    refine own_laload X182 hx hZ e182 Fu1 1 (by decide) (by decide) (hb hby d10_56) ?_
    show own_Go p e below _ T182 (mkF m 57 #[.val (.ref a), .val (.int (2 : Int32)), .val (.long (fu1 2)), .second, .val (.long (fc1 2)), .second, .val (.ref jb), .val (.int (2 : Int32))] [(.long (fu1 1))])
    refine own_go (g' := (mkF m 58 #[.val (.ref a), .val (.int (2 : Int32)), .val (.long (fu1 2)), .second, .val (.long (fc1 2)), .second, .val (.ref jb), .val (.int (2 : Int32))] [(.long (fu1 2)), (.long (fu1 1))])) (fun _ k => XT.lloadN X182.here hx rfl (hb hby d10_57) rfl k) ?_
    refine own_go (g' := (mkF m 59 #[.val (.ref a), .val (.int (2 : Int32)), .val (.long (fu1 2)), .second, .val (.long (fc1 2)), .second, .val (.ref jb), .val (.int (2 : Int32))] [(.int (XT.cmpL (fu1 1) (fu1 2)))])) (fun _ k => XT.lcmp X182.here hx rfl (hb hby d10_58) rfl k) ?_
    by_cases ci2 : (fu1 2) < (fu1 1)
    · refine own_go (g' := (mkF m 62 #[.val (.ref a), .val (.int (2 : Int32)), .val (.long (fu1 2)), .second, .val (.long (fc1 2)), .second, .val (.ref jb), .val (.int (2 : Int32))] [])) (fun _ k => XS.ifNo X182.here hx rfl (hb hby d10_59) rfl (XT.ll_le_f ci2) k) ?_
      refine own_go (g' := (mkF m 63 #[.val (.ref a), .val (.int (2 : Int32)), .val (.long (fu1 2)), .second, .val (.long (fc1 2)), .second, .val (.ref jb), .val (.int (2 : Int32))] [(.ref a)])) (fun _ k => XS.aloadN X182.here hx rfl (hb hby d10_62) rfl rfl k) ?_
      refine own_getF X182 hx hZ (host := "") hown e182 (Or.inl (hw _ (List.mem_of_getElem? (i := 46) rfl))) Via.refl (own_Ob_fld B1 0 rfl) (hb hby d10_63) ?_
      intro T201 X201 e201
      show own_Go p e below _ T201 (mkF m 66 #[.val (.ref a), .val (.int (2 : Int32)), .val (.long (fu1 2)), .second, .val (.long (fc1 2)), .second, .val (.ref jb), .val (.int (2 : Int32))] [(.ref au)])
      refine own_go (g' := (mkF m 68 #[.val (.ref a), .val (.int (2 : Int32)), .val (.long (fu1 2)), .second, .val (.long (fc1 2)), .second, .val (.ref jb), .val (.int (2 : Int32))] [(.int (2 : Int32)), (.ref au)])) (fun _ k => XS.iload X201.here hx rfl (hb hby d10_66) rfl k) ?_
      refine own_go (g' := (mkF m 69 #[.val (.ref a), .val (.int (2 : Int32)), .val (.long (fu1 2)), .second, .val (.long (fc1 2)), .second, .val (.ref jb), .val (.int (2 : Int32))] [(.ref a), (.int (2 : Int32)), (.ref au)])) (fun _ k => XS.aloadN X201.here hx rfl (hb hby d10_68) rfl rfl k) ?_
      refine own_getF X201 hx hZ (host := "") hown e201 (Or.inl (hw _ (List.mem_of_getElem? (i := 46) rfl))) Via.refl (own_Ob_fld B1 0 rfl) (hb hby d10_69) ?_
      intro T202 X202 e202
      show own_Go p e below _ T202 (mkF m 72 #[.val (.ref a), .val (.int (2 : Int32)), .val (.long (fu1 2)), .second, .val (.long (fc1 2)), .second, .val (.ref jb), .val (.int (2 : Int32))] [(.ref au), (.int (2 : Int32)), (.ref au)])
      refine own_go (g' := (mkF m 74 #[.val (.ref a), .val (.int (2 : Int32)), .val (.long (fu1 2)), .second, .val (.long (fc1 2)), .second, .val (.ref jb), .val (.int (2 : Int32))] [(.int (2 : Int32)), (.ref au), (.int (2 : Int32)), (.ref au)])) (fun _ k => XS.iload X202.here hx rfl (hb hby d10_72) rfl k) ?_
      refine own_go (g' := (mkF m 75 #[.val (.ref a), .val (.int (2 : Int32)), .val (.long (fu1 2)), .second, .val (.long (fc1 2)), .second, .val (.ref jb), .val (.int (2 : Int32))] [(.int (1 : Int32)), (.int (2 : Int32)), (.ref au), (.int (2 : Int32)), (.ref au)])) (fun _ k => XS.iconst X202.here hx rfl (hb hby d10_74) k) ?_
      refine own_go (g' := (mkF m 76 #[.val (.ref a), .val (.int (2 : Int32)), .val (.long (fu1 2)), .second, .val (.long (fc1 2)), .second, .val (.ref jb), .val (.int (2 : Int32))] [(.int ((2 : Int32) - (1 : Int32))), (.ref au), (.int (2 : Int32)), (.ref au)])) (fun _ k => XS.isub X202.here hx rfl (hb hby d10_75) rfl k) ?_
      refine own_laload X202 hx hZ e202 Fu1 1 (by decide) (by decide) (hb hby d10_76) ?_
      show own_Go p e below _ T202 (mkF m 77 #[.val (.ref a), .val (.int (2 : Int32)), .val (.long (fu1 2)), .second, .val (.long (fc1 2)), .second, .val (.ref jb), .val (.int (2 : Int32))] [(.long (fu1 1)), (.int (2 : Int32)), (.ref au)])
      refine own_lastore X202 hx hZ e202 Fu1 2 (by decide) (by decide) (hb hby d10_77) ?_
      intro T203 h203 X203 e203 W203
      have A203 : own_Al Z h203 au 8 (own_upl fu1 2 (fu1 1)) := own_Al_set (f := fu1) Fu1 W203
      have K203 := K1.wr W203 (Or.inl (List.mem_of_getElem? (i := 1) rfl))
      have N203 := Fr.snoc X203 N1 (own_Up_ge HU gj 2 rfl)
      show own_Go p e below _ T203 (mkF m 78 #[.val (.ref a), .val (.int (2 : Int32)), .val (.long (fu1 2)), .second, .val (.long (fc1 2)), .second, .val (.ref jb), .val (.int (2 : Int32))] [])
      refine own_go (g' := (mkF m 79 #[.val (.ref a), .val (.int (2 : Int32)), .val (.long (fu1 2)), .second, .val (.long (fc1 2)), .second, .val (.ref jb), .val (.int (2 : Int32))] [(.ref a)])) (fun _ k => XS.aloadN X203.here hx rfl (hb hby d10_78) rfl rfl k) ?_
      have f204 := (own_Ob_other B1 W203 (own_Up_ne HU 1 2 rfl rfl (by decide)))
      refine own_getF X203 hx hZ (host := "") hown e203 (Or.inl (hw _ (List.mem_of_getElem? (i := 48) rfl))) Via.refl (own_Ob_fld f204 1 rfl) (hb hby d10_79) ?_
      intro T205 X205 e205
      show own_Go p e below _ T205 (mkF m 82 #[.val (.ref a), .val (.int (2 : Int32)), .val (.long (fu1 2)), .second, .val (.long (fc1 2)), .second, .val (.ref jb), .val (.int (2 : Int32))] [(.ref ac)])
      refine own_go (g' := (mkF m 84 #[.val (.ref a), .val (.int (2 : Int32)), .val (.long (fu1 2)), .second, .val (.long (fc1 2)), .second, .val (.ref jb), .val (.int (2 : Int32))] [(.int (2 : Int32)), (.ref ac)])) (fun _ k => XS.iload X205.here hx rfl (hb hby d10_82) rfl k) ?_
      refine own_go (g' := (mkF m 85 #[.val (.ref a), .val (.int (2 : Int32)), .val (.long (fu1 2)), .second, .val (.long (fc1 2)), .second, .val (.ref jb), .val (.int (2 : Int32))] [(.ref a), (.int (2 : Int32)), (.ref ac)])) (fun _ k => XS.aloadN X205.here hx rfl (hb hby d10_84) rfl rfl k) ?_
      refine own_getF X205 hx hZ (host := "") hown e205 (Or.inl (hw _ (List.mem_of_getElem? (i := 48) rfl))) Via.refl (own_Ob_fld f204 1 rfl) (hb hby d10_85) ?_
      intro T206 X206 e206
      show own_Go p e below _ T206 (mkF m 88 #[.val (.ref a), .val (.int (2 : Int32)), .val (.long (fu1 2)), .second, .val (.long (fc1 2)), .second, .val (.ref jb), .val (.int (2 : Int32))] [(.ref ac), (.int (2 : Int32)), (.ref ac)])
      refine own_go (g' := (mkF m 90 #[.val (.ref a), .val (.int (2 : Int32)), .val (.long (fu1 2)), .second, .val (.long (fc1 2)), .second, .val (.ref jb), .val (.int (2 : Int32))] [(.int (2 : Int32)), (.ref ac), (.int (2 : Int32)), (.ref ac)])) (fun _ k => XS.iload X206.here hx rfl (hb hby d10_88) rfl k) ?_
      refine own_go (g' := (mkF m 91 #[.val (.ref a), .val (.int (2 : Int32)), .val (.long (fu1 2)), .second, .val (.long (fc1 2)), .second, .val (.ref jb), .val (.int (2 : Int32))] [(.int (1 : Int32)), (.int (2 : Int32)), (.ref ac), (.int (2 : Int32)), (.ref ac)])) (fun _ k => XS.iconst X206.here hx rfl (hb hby d10_90) k) ?_
      refine own_go (g' := (mkF m 92 #[.val (.ref a), .val (.int (2 : Int32)), .val (.long (fu1 2)), .second, .val (.long (fc1 2)), .second, .val (.ref jb), .val (.int (2 : Int32))] [(.int ((2 : Int32) - (1 : Int32))), (.ref ac), (.int (2 : Int32)), (.ref ac)])) (fun _ k => XS.isub X206.here hx rfl (hb hby d10_91) rfl k) ?_
      have f207 := (own_Ar_other Fc1 W203 (Ne.symm (own_Up_ne HU 2 3 rfl rfl (by decide))))
      refine own_laload X206 hx hZ e206 f207 1 (by decide) (by decide) (hb hby d10_92) ?_
      show own_Go p e below _ T206 (mkF m 93 #[.val (.ref a), .val (.int (2 : Int32)), .val (.long (fu1 2)), .second, .val (.long (fc1 2)), .second, .val (.ref jb), .val (.int (2 : Int32))] [(.long (fc1 1)), (.int (2 : Int32)), (.ref ac)])
      refine own_lastore X206 hx hZ e206 f207 2 (by decide) (by decide) (hb hby d10_93) ?_
      intro T208 h208 X208 e208 W208
      have A208 : own_Al Z h208 ac 8 (own_upl fc1 2 (fc1 1)) := own_Al_set (f := fc1) f207 W208
      have K208 := K203.wr W208 (Or.inl (List.mem_of_getElem? (i := 2) rfl))
      have N208 := Fr.snoc X208 N203 (own_Up_ge HU gj 3 rfl)
      show own_Go p e below _ T208 (mkF m 94 #[.val (.ref a), .val (.int (2 : Int32)), .val (.long (fu1 2)), .second, .val (.long (fc1 2)), .second, .val (.ref jb), .val (.int (2 : Int32))] [])
      refine own_go (g' := (mkF m 95 #[.val (.ref a), .val (.int (2 : Int32)), .val (.long (fu1 2)), .second, .val (.long (fc1 2)), .second, .val (.ref jb), .val (.int (2 : Int32))] [(.ref a)])) (fun _ k => XS.aloadN X208.here hx rfl (hb hby d10_94) rfl rfl k) ?_
      have f209 := (own_Ob_other f204 W208 (own_Up_ne HU 1 3 rfl rfl (by decide)))
      refine own_getF X208 hx hZ (host := "") hown e208 (Or.inl (hw _ (List.mem_of_getElem? (i := 52) rfl))) Via.refl (own_Ob_fld f209 2 rfl) (hb hby d10_95) ?_
      intro T210 X210 e210
      show own_Go p e below _ T210 (mkF m 98 #[.val (.ref a), .val (.int (2 : Int32)), .val (.long (fu1 2)), .second, .val (.long (fc1 2)), .second, .val (.ref jb), .val (.int (2 : Int32))] [(.ref ao)])
      refine own_go (g' := (mkF m 100 #[.val (.ref a), .val (.int (2 : Int32)), .val (.long (fu1 2)), .second, .val (.long (fc1 2)), .second, .val (.ref jb), .val (.int (2 : Int32))] [(.int (2 : Int32)), (.ref ao)])) (fun _ k => XS.iload X210.here hx rfl (hb hby d10_98) rfl k) ?_
      refine own_go (g' := (mkF m 101 #[.val (.ref a), .val (.int (2 : Int32)), .val (.long (fu1 2)), .second, .val (.long (fc1 2)), .second, .val (.ref jb), .val (.int (2 : Int32))] [(.ref a), (.int (2 : Int32)), (.ref ao)])) (fun _ k => XS.aloadN X210.here hx rfl (hb hby d10_100) rfl rfl k) ?_
      refine own_getF X210 hx hZ (host := "") hown e210 (Or.inl (hw _ (List.mem_of_getElem? (i := 52) rfl))) Via.refl (own_Ob_fld f209 2 rfl) (hb hby d10_101) ?_
      intro T211 X211 e211
      show own_Go p e below _ T211 (mkF m 104 #[.val (.ref a), .val (.int (2 : Int32)), .val (.long (fu1 2)), .second, .val (.long (fc1 2)), .second, .val (.ref jb), .val (.int (2 : Int32))] [(.ref ao), (.int (2 : Int32)), (.ref ao)])
      refine own_go (g' := (mkF m 106 #[.val (.ref a), .val (.int (2 : Int32)), .val (.long (fu1 2)), .second, .val (.long (fc1 2)), .second, .val (.ref jb), .val (.int (2 : Int32))] [(.int (2 : Int32)), (.ref ao), (.int (2 : Int32)), (.ref ao)])) (fun _ k => XS.iload X211.here hx rfl (hb hby d10_104) rfl k) ?_
      refine own_go (g' := (mkF m 107 #[.val (.ref a), .val (.int (2 : Int32)), .val (.long (fu1 2)), .second, .val (.long (fc1 2)), .second, .val (.ref jb), .val (.int (2 : Int32))] [(.int (1 : Int32)), (.int (2 : Int32)), (.ref ao), (.int (2 : Int32)), (.ref ao)])) (fun _ k => XS.iconst X211.here hx rfl (hb hby d10_106) k) ?_
      refine own_go (g' := (mkF m 108 #[.val (.ref a), .val (.int (2 : Int32)), .val (.long (fu1 2)), .second, .val (.long (fc1 2)), .second, .val (.ref jb), .val (.int (2 : Int32))] [(.int ((2 : Int32) - (1 : Int32))), (.ref ao), (.int (2 : Int32)), (.ref ao)])) (fun _ k => XS.isub X211.here hx rfl (hb hby d10_107) rfl k) ?_
      have f212 := (own_Rr_other (own_Rr_other Fo1 W203 (Ne.symm (own_Up_ne HU 2 4 rfl rfl (by decide)))) W208 (Ne.symm (own_Up_ne HU 3 4 rfl rfl (by decide))))
      refine own_aaload X211 hx hZ e211 (own_Rr_ar f212) rfl 1 (by decide) (by decide) (hb hby d10_108) ?_
      rw [show (fo1) 1 = Value.ref jb from (ho1 1 (by decide))]
      show own_Go p e below _ T211 (mkF m 109 #[.val (.ref a), .val (.int (2 : Int32)), .val (.long (fu1 2)), .second, .val (.long (fc1 2)), .second, .val (.ref jb), .val (.int (2 : Int32))] [(.ref jb), (.int (2 : Int32)), (.ref ao)])
      have EJ213 : Exa Z h208 jb "com/example/gangplank/gangplank/workload/Job" := EJ.keep K208
      refine own_aastore X211 hx hZ e211 f212 (Ins.self EJ213) 2 (by decide) (by decide) (hb hby d10_109) ?_
      intro T214 h214 X214 e214 W214
      have A214 := own_Rr_set f212 W214
      have K214 := K208.wr W214 (Or.inl (List.mem_of_getElem? (i := 3) rfl))
      have N214 := Fr.snoc X214 N208 (own_Up_ge HU gj 4 rfl)
      show own_Go p e below _ T214 (mkF m 110 #[.val (.ref a), .val (.int (2 : Int32)), .val (.long (fu1 2)), .second, .val (.long (fc1 2)), .second, .val (.ref jb), .val (.int (2 : Int32))] [])
      refine own_go (g' := (mkF m 113 #[.val (.ref a), .val (.int (2 : Int32)), .val (.long (fu1 2)), .second, .val (.long (fc1 2)), .second, .val (.ref jb), .val (.int ((2 : Int32) + (-1 : Int32)))] [])) (fun _ k => XS.iinc X214.here hx rfl (hb hby d10_110) rfl (l' := #[.val (.ref a), .val (.int (2 : Int32)), .val (.long (fu1 2)), .second, .val (.long (fc1 2)), .second, .val (.ref jb), .val (.int ((2 : Int32) + (-1 : Int32)))]) rfl k) ?_
      show own_Go p e below _ T214 (mkF m 113 #[.val (.ref a), .val (.int (2 : Int32)), .val (.long (fu1 2)), .second, .val (.long (fc1 2)), .second, .val (.ref jb), .val (.int (1 : Int32))] [])
      refine own_go (g' := (mkF m 43 #[.val (.ref a), .val (.int (2 : Int32)), .val (.long (fu1 2)), .second, .val (.long (fc1 2)), .second, .val (.ref jb), .val (.int (1 : Int32))] [])) (fun _ k => XS.goto X214.here hx rfl (pc0 := 113) (pc' := 43) rfl (hb hby d10_113) (by decide) (by decide) k) ?_
      refine own_go (g' := (mkF m 45 #[.val (.ref a), .val (.int (2 : Int32)), .val (.long (fu1 2)), .second, .val (.long (fc1 2)), .second, .val (.ref jb), .val (.int (1 : Int32))] [(.int (1 : Int32))])) (fun _ k => XS.iload X214.here hx rfl (hb hby d10_43) rfl k) ?_
      refine own_go (g' := (mkF m 48 #[.val (.ref a), .val (.int (2 : Int32)), .val (.long (fu1 2)), .second, .val (.long (fc1 2)), .second, .val (.ref jb), .val (.int (1 : Int32))] [])) (fun _ k => XS.ifNo X214.here hx rfl (hb hby d10_45) rfl (XT.i0_le_f (by decide)) k) ?_
      refine own_go (g' := (mkF m 49 #[.val (.ref a), .val (.int (2 : Int32)), .val (.long (fu1 2)), .second, .val (.long (fc1 2)), .second, .val (.ref jb), .val (.int (1 : Int32))] [(.ref a)])) (fun _ k => XS.aloadN X214.here hx rfl (hb hby d10_48) rfl rfl k) ?_
      have f215 := (own_Ob_other f209 W214 (own_Up_ne HU 1 4 rfl rfl (by decide)))
      refine own_getF X214 hx hZ (host := "") hown e214 (Or.inl (hw _ (List.mem_of_getElem? (i := 46) rfl))) Via.refl (own_Ob_fld f215 0 rfl) (hb hby d10_49) ?_
      intro T216 X216 e216
      show own_Go p e below _ T216 (mkF m 52 #[.val (.ref a), .val (.int (2 : Int32)), .val (.long (fu1 2)), .second, .val (.long (fc1 2)), .second, .val (.ref jb), .val (.int (1 : Int32))] [(.ref au)])
      refine own_go (g' := (mkF m 54 #[.val (.ref a), .val (.int (2 : Int32)), .val (.long (fu1 2)), .second, .val (.long (fc1 2)), .second, .val (.ref jb), .val (.int (1 : Int32))] [(.int (1 : Int32)), (.ref au)])) (fun _ k => XS.iload X216.here hx rfl (hb hby d10_52) rfl k) ?_
      refine own_go (g' := (mkF m 55 #[.val (.ref a), .val (.int (2 : Int32)), .val (.long (fu1 2)), .second, .val (.long (fc1 2)), .second, .val (.ref jb), .val (.int (1 : Int32))] [(.int (1 : Int32)), (.int (1 : Int32)), (.ref au)])) (fun _ k => XS.iconst X216.here hx rfl (hb hby d10_54) k) ?_
      refine own_go (g' := (mkF m 56 #[.val (.ref a), .val (.int (2 : Int32)), .val (.long (fu1 2)), .second, .val (.long (fc1 2)), .second, .val (.ref jb), .val (.int (1 : Int32))] [(.int ((1 : Int32) - (1 : Int32))), (.ref au)])) (fun _ k => XS.isub X216.here hx rfl (hb hby d10_55) rfl k) ?_
      have f217 := (own_Ar_other (own_Ar_other A203 W208 (own_Up_ne HU 2 3 rfl rfl (by decide))) W214 (own_Up_ne HU 2 4 rfl rfl (by decide)))
      refine own_laload X216 hx hZ e216 f217 0 (by decide) (by decide) (hb hby d10_56) ?_
      show own_Go p e below _ T216 (mkF m 57 #[.val (.ref a), .val (.int (2 : Int32)), .val (.long (fu1 2)), .second, .val (.long (fc1 2)), .second, .val (.ref jb), .val (.int (1 : Int32))] [(.long (fu1 0))])
      refine own_go (g' := (mkF m 58 #[.val (.ref a), .val (.int (2 : Int32)), .val (.long (fu1 2)), .second, .val (.long (fc1 2)), .second, .val (.ref jb), .val (.int (1 : Int32))] [(.long (fu1 2)), (.long (fu1 0))])) (fun _ k => XT.lloadN X216.here hx rfl (hb hby d10_57) rfl k) ?_
      refine own_go (g' := (mkF m 59 #[.val (.ref a), .val (.int (2 : Int32)), .val (.long (fu1 2)), .second, .val (.long (fc1 2)), .second, .val (.ref jb), .val (.int (1 : Int32))] [(.int (XT.cmpL (fu1 0) (fu1 2)))])) (fun _ k => XT.lcmp X216.here hx rfl (hb hby d10_58) rfl k) ?_
      by_cases ci1 : (fu1 2) < (fu1 0)
      · refine own_go (g' := (mkF m 62 #[.val (.ref a), .val (.int (2 : Int32)), .val (.long (fu1 2)), .second, .val (.long (fc1 2)), .second, .val (.ref jb), .val (.int (1 : Int32))] [])) (fun _ k => XS.ifNo X216.here hx rfl (hb hby d10_59) rfl (XT.ll_le_f ci1) k) ?_
        refine own_go (g' := (mkF m 63 #[.val (.ref a), .val (.int (2 : Int32)), .val (.long (fu1 2)), .second, .val (.long (fc1 2)), .second, .val (.ref jb), .val (.int (1 : Int32))] [(.ref a)])) (fun _ k => XS.aloadN X216.here hx rfl (hb hby d10_62) rfl rfl k) ?_
        refine own_getF X216 hx hZ (host := "") hown e216 (Or.inl (hw _ (List.mem_of_getElem? (i := 46) rfl))) Via.refl (own_Ob_fld f215 0 rfl) (hb hby d10_63) ?_
        intro T236 X236 e236
        show own_Go p e below _ T236 (mkF m 66 #[.val (.ref a), .val (.int (2 : Int32)), .val (.long (fu1 2)), .second, .val (.long (fc1 2)), .second, .val (.ref jb), .val (.int (1 : Int32))] [(.ref au)])
        refine own_go (g' := (mkF m 68 #[.val (.ref a), .val (.int (2 : Int32)), .val (.long (fu1 2)), .second, .val (.long (fc1 2)), .second, .val (.ref jb), .val (.int (1 : Int32))] [(.int (1 : Int32)), (.ref au)])) (fun _ k => XS.iload X236.here hx rfl (hb hby d10_66) rfl k) ?_
        refine own_go (g' := (mkF m 69 #[.val (.ref a), .val (.int (2 : Int32)), .val (.long (fu1 2)), .second, .val (.long (fc1 2)), .second, .val (.ref jb), .val (.int (1 : Int32))] [(.ref a), (.int (1 : Int32)), (.ref au)])) (fun _ k => XS.aloadN X236.here hx rfl (hb hby d10_68) rfl rfl k) ?_
        refine own_getF X236 hx hZ (host := "") hown e236 (Or.inl (hw _ (List.mem_of_getElem? (i := 46) rfl))) Via.refl (own_Ob_fld f215 0 rfl) (hb hby d10_69) ?_
        intro T237 X237 e237
        show own_Go p e below _ T237 (mkF m 72 #[.val (.ref a), .val (.int (2 : Int32)), .val (.long (fu1 2)), .second, .val (.long (fc1 2)), .second, .val (.ref jb), .val (.int (1 : Int32))] [(.ref au), (.int (1 : Int32)), (.ref au)])
        refine own_go (g' := (mkF m 74 #[.val (.ref a), .val (.int (2 : Int32)), .val (.long (fu1 2)), .second, .val (.long (fc1 2)), .second, .val (.ref jb), .val (.int (1 : Int32))] [(.int (1 : Int32)), (.ref au), (.int (1 : Int32)), (.ref au)])) (fun _ k => XS.iload X237.here hx rfl (hb hby d10_72) rfl k) ?_
        refine own_go (g' := (mkF m 75 #[.val (.ref a), .val (.int (2 : Int32)), .val (.long (fu1 2)), .second, .val (.long (fc1 2)), .second, .val (.ref jb), .val (.int (1 : Int32))] [(.int (1 : Int32)), (.int (1 : Int32)), (.ref au), (.int (1 : Int32)), (.ref au)])) (fun _ k => XS.iconst X237.here hx rfl (hb hby d10_74) k) ?_
        refine own_go (g' := (mkF m 76 #[.val (.ref a), .val (.int (2 : Int32)), .val (.long (fu1 2)), .second, .val (.long (fc1 2)), .second, .val (.ref jb), .val (.int (1 : Int32))] [(.int ((1 : Int32) - (1 : Int32))), (.ref au), (.int (1 : Int32)), (.ref au)])) (fun _ k => XS.isub X237.here hx rfl (hb hby d10_75) rfl k) ?_
        refine own_laload X237 hx hZ e237 f217 0 (by decide) (by decide) (hb hby d10_76) ?_
        show own_Go p e below _ T237 (mkF m 77 #[.val (.ref a), .val (.int (2 : Int32)), .val (.long (fu1 2)), .second, .val (.long (fc1 2)), .second, .val (.ref jb), .val (.int (1 : Int32))] [(.long ((own_upl fu1 2 (fu1 1)) 0)), (.int (1 : Int32)), (.ref au)])
        refine own_lastore X237 hx hZ e237 f217 1 (by decide) (by decide) (hb hby d10_77) ?_
        intro T238 h238 X238 e238 W238
        have A238 : own_Al Z h238 au 8 (own_upl (own_upl fu1 2 (fu1 1)) 1 ((own_upl fu1 2 (fu1 1)) 0)) := own_Al_set (f := (own_upl fu1 2 (fu1 1))) f217 W238
        have K238 := K214.wr W238 (Or.inl (List.mem_of_getElem? (i := 1) rfl))
        have N238 := Fr.snoc X238 N214 (own_Up_ge HU gj 2 rfl)
        show own_Go p e below _ T238 (mkF m 78 #[.val (.ref a), .val (.int (2 : Int32)), .val (.long (fu1 2)), .second, .val (.long (fc1 2)), .second, .val (.ref jb), .val (.int (1 : Int32))] [])
        refine own_go (g' := (mkF m 79 #[.val (.ref a), .val (.int (2 : Int32)), .val (.long (fu1 2)), .second, .val (.long (fc1 2)), .second, .val (.ref jb), .val (.int (1 : Int32))] [(.ref a)])) (fun _ k => XS.aloadN X238.here hx rfl (hb hby d10_78) rfl rfl k) ?_
        have f239 := (own_Ob_other f215 W238 (own_Up_ne HU 1 2 rfl rfl (by decide)))
        refine own_getF X238 hx hZ (host := "") hown e238 (Or.inl (hw _ (List.mem_of_getElem? (i := 48) rfl))) Via.refl (own_Ob_fld f239 1 rfl) (hb hby d10_79) ?_
        intro T240 X240 e240
        show own_Go p e below _ T240 (mkF m 82 #[.val (.ref a), .val (.int (2 : Int32)), .val (.long (fu1 2)), .second, .val (.long (fc1 2)), .second, .val (.ref jb), .val (.int (1 : Int32))] [(.ref ac)])
        refine own_go (g' := (mkF m 84 #[.val (.ref a), .val (.int (2 : Int32)), .val (.long (fu1 2)), .second, .val (.long (fc1 2)), .second, .val (.ref jb), .val (.int (1 : Int32))] [(.int (1 : Int32)), (.ref ac)])) (fun _ k => XS.iload X240.here hx rfl (hb hby d10_82) rfl k) ?_
        refine own_go (g' := (mkF m 85 #[.val (.ref a), .val (.int (2 : Int32)), .val (.long (fu1 2)), .second, .val (.long (fc1 2)), .second, .val (.ref jb), .val (.int (1 : Int32))] [(.ref a), (.int (1 : Int32)), (.ref ac)])) (fun _ k => XS.aloadN X240.here hx rfl (hb hby d10_84) rfl rfl k) ?_
        refine own_getF X240 hx hZ (host := "") hown e240 (Or.inl (hw _ (List.mem_of_getElem? (i := 48) rfl))) Via.refl (own_Ob_fld f239 1 rfl) (hb hby d10_85) ?_
        intro T241 X241 e241
        show own_Go p e below _ T241 (mkF m 88 #[.val (.ref a), .val (.int (2 : Int32)), .val (.long (fu1 2)), .second, .val (.long (fc1 2)), .second, .val (.ref jb), .val (.int (1 : Int32))] [(.ref ac), (.int (1 : Int32)), (.ref ac)])
        refine own_go (g' := (mkF m 90 #[.val (.ref a), .val (.int (2 : Int32)), .val (.long (fu1 2)), .second, .val (.long (fc1 2)), .second, .val (.ref jb), .val (.int (1 : Int32))] [(.int (1 : Int32)), (.ref ac), (.int (1 : Int32)), (.ref ac)])) (fun _ k => XS.iload X241.here hx rfl (hb hby d10_88) rfl k) ?_
        refine own_go (g' := (mkF m 91 #[.val (.ref a), .val (.int (2 : Int32)), .val (.long (fu1 2)), .second, .val (.long (fc1 2)), .second, .val (.ref jb), .val (.int (1 : Int32))] [(.int (1 : Int32)), (.int (1 : Int32)), (.ref ac), (.int (1 : Int32)), (.ref ac)])) (fun _ k => XS.iconst X241.here hx rfl (hb hby d10_90) k) ?_
        refine own_go (g' := (mkF m 92 #[.val (.ref a), .val (.int (2 : Int32)), .val (.long (fu1 2)), .second, .val (.long (fc1 2)), .second, .val (.ref jb), .val (.int (1 : Int32))] [(.int ((1 : Int32) - (1 : Int32))), (.ref ac), (.int (1 : Int32)), (.ref ac)])) (fun _ k => XS.isub X241.here hx rfl (hb hby d10_91) rfl k) ?_
        have f242 := (own_Ar_other (own_Ar_other A208 W214 (own_Up_ne HU 3 4 rfl rfl (by decide))) W238 (Ne.symm (own_Up_ne HU 2 3 rfl rfl (by decide))))
        refine own_laload X241 hx hZ e241 f242 0 (by decide) (by decide) (hb hby d10_92) ?_
        show own_Go p e below _ T241 (mkF m 93 #[.val (.ref a), .val (.int (2 : Int32)), .val (.long (fu1 2)), .second, .val (.long (fc1 2)), .second, .val (.ref jb), .val (.int (1 : Int32))] [(.long ((own_upl fc1 2 (fc1 1)) 0)), (.int (1 : Int32)), (.ref ac)])
        refine own_lastore X241 hx hZ e241 f242 1 (by decide) (by decide) (hb hby d10_93) ?_
        intro T243 h243 X243 e243 W243
        have A243 : own_Al Z h243 ac 8 (own_upl (own_upl fc1 2 (fc1 1)) 1 ((own_upl fc1 2 (fc1 1)) 0)) := own_Al_set (f := (own_upl fc1 2 (fc1 1))) f242 W243
        have K243 := K238.wr W243 (Or.inl (List.mem_of_getElem? (i := 2) rfl))
        have N243 := Fr.snoc X243 N238 (own_Up_ge HU gj 3 rfl)
        show own_Go p e below _ T243 (mkF m 94 #[.val (.ref a), .val (.int (2 : Int32)), .val (.long (fu1 2)), .second, .val (.long (fc1 2)), .second, .val (.ref jb), .val (.int (1 : Int32))] [])
        refine own_go (g' := (mkF m 95 #[.val (.ref a), .val (.int (2 : Int32)), .val (.long (fu1 2)), .second, .val (.long (fc1 2)), .second, .val (.ref jb), .val (.int (1 : Int32))] [(.ref a)])) (fun _ k => XS.aloadN X243.here hx rfl (hb hby d10_94) rfl rfl k) ?_
        have f244 := (own_Ob_other f239 W243 (own_Up_ne HU 1 3 rfl rfl (by decide)))
        refine own_getF X243 hx hZ (host := "") hown e243 (Or.inl (hw _ (List.mem_of_getElem? (i := 52) rfl))) Via.refl (own_Ob_fld f244 2 rfl) (hb hby d10_95) ?_
        intro T245 X245 e245
        show own_Go p e below _ T245 (mkF m 98 #[.val (.ref a), .val (.int (2 : Int32)), .val (.long (fu1 2)), .second, .val (.long (fc1 2)), .second, .val (.ref jb), .val (.int (1 : Int32))] [(.ref ao)])
        refine own_go (g' := (mkF m 100 #[.val (.ref a), .val (.int (2 : Int32)), .val (.long (fu1 2)), .second, .val (.long (fc1 2)), .second, .val (.ref jb), .val (.int (1 : Int32))] [(.int (1 : Int32)), (.ref ao)])) (fun _ k => XS.iload X245.here hx rfl (hb hby d10_98) rfl k) ?_
        refine own_go (g' := (mkF m 101 #[.val (.ref a), .val (.int (2 : Int32)), .val (.long (fu1 2)), .second, .val (.long (fc1 2)), .second, .val (.ref jb), .val (.int (1 : Int32))] [(.ref a), (.int (1 : Int32)), (.ref ao)])) (fun _ k => XS.aloadN X245.here hx rfl (hb hby d10_100) rfl rfl k) ?_
        refine own_getF X245 hx hZ (host := "") hown e245 (Or.inl (hw _ (List.mem_of_getElem? (i := 52) rfl))) Via.refl (own_Ob_fld f244 2 rfl) (hb hby d10_101) ?_
        intro T246 X246 e246
        show own_Go p e below _ T246 (mkF m 104 #[.val (.ref a), .val (.int (2 : Int32)), .val (.long (fu1 2)), .second, .val (.long (fc1 2)), .second, .val (.ref jb), .val (.int (1 : Int32))] [(.ref ao), (.int (1 : Int32)), (.ref ao)])
        refine own_go (g' := (mkF m 106 #[.val (.ref a), .val (.int (2 : Int32)), .val (.long (fu1 2)), .second, .val (.long (fc1 2)), .second, .val (.ref jb), .val (.int (1 : Int32))] [(.int (1 : Int32)), (.ref ao), (.int (1 : Int32)), (.ref ao)])) (fun _ k => XS.iload X246.here hx rfl (hb hby d10_104) rfl k) ?_
        refine own_go (g' := (mkF m 107 #[.val (.ref a), .val (.int (2 : Int32)), .val (.long (fu1 2)), .second, .val (.long (fc1 2)), .second, .val (.ref jb), .val (.int (1 : Int32))] [(.int (1 : Int32)), (.int (1 : Int32)), (.ref ao), (.int (1 : Int32)), (.ref ao)])) (fun _ k => XS.iconst X246.here hx rfl (hb hby d10_106) k) ?_
        refine own_go (g' := (mkF m 108 #[.val (.ref a), .val (.int (2 : Int32)), .val (.long (fu1 2)), .second, .val (.long (fc1 2)), .second, .val (.ref jb), .val (.int (1 : Int32))] [(.int ((1 : Int32) - (1 : Int32))), (.ref ao), (.int (1 : Int32)), (.ref ao)])) (fun _ k => XS.isub X246.here hx rfl (hb hby d10_107) rfl k) ?_
        have f247 := (own_Rr_other (own_Rr_other A214 W238 (Ne.symm (own_Up_ne HU 2 4 rfl rfl (by decide)))) W243 (Ne.symm (own_Up_ne HU 3 4 rfl rfl (by decide))))
        refine own_aaload X246 hx hZ e246 (own_Rr_ar f247) rfl 0 (by decide) (by decide) (hb hby d10_108) ?_
        rw [show (own_up (fo1) 2 (.ref jb)) 0 = Value.ref jb from (ho1 0 (by decide))]
        show own_Go p e below _ T246 (mkF m 109 #[.val (.ref a), .val (.int (2 : Int32)), .val (.long (fu1 2)), .second, .val (.long (fc1 2)), .second, .val (.ref jb), .val (.int (1 : Int32))] [(.ref jb), (.int (1 : Int32)), (.ref ao)])
        have EJ248 : Exa Z h243 jb "com/example/gangplank/gangplank/workload/Job" := EJ.keep K243
        refine own_aastore X246 hx hZ e246 f247 (Ins.self EJ248) 1 (by decide) (by decide) (hb hby d10_109) ?_
        intro T249 h249 X249 e249 W249
        have A249 := own_Rr_set f247 W249
        have K249 := K243.wr W249 (Or.inl (List.mem_of_getElem? (i := 3) rfl))
        have N249 := Fr.snoc X249 N243 (own_Up_ge HU gj 4 rfl)
        show own_Go p e below _ T249 (mkF m 110 #[.val (.ref a), .val (.int (2 : Int32)), .val (.long (fu1 2)), .second, .val (.long (fc1 2)), .second, .val (.ref jb), .val (.int (1 : Int32))] [])
        refine own_go (g' := (mkF m 113 #[.val (.ref a), .val (.int (2 : Int32)), .val (.long (fu1 2)), .second, .val (.long (fc1 2)), .second, .val (.ref jb), .val (.int ((1 : Int32) + (-1 : Int32)))] [])) (fun _ k => XS.iinc X249.here hx rfl (hb hby d10_110) rfl (l' := #[.val (.ref a), .val (.int (2 : Int32)), .val (.long (fu1 2)), .second, .val (.long (fc1 2)), .second, .val (.ref jb), .val (.int ((1 : Int32) + (-1 : Int32)))]) rfl k) ?_
        show own_Go p e below _ T249 (mkF m 113 #[.val (.ref a), .val (.int (2 : Int32)), .val (.long (fu1 2)), .second, .val (.long (fc1 2)), .second, .val (.ref jb), .val (.int (0 : Int32))] [])
        refine own_go (g' := (mkF m 43 #[.val (.ref a), .val (.int (2 : Int32)), .val (.long (fu1 2)), .second, .val (.long (fc1 2)), .second, .val (.ref jb), .val (.int (0 : Int32))] [])) (fun _ k => XS.goto X249.here hx rfl (pc0 := 113) (pc' := 43) rfl (hb hby d10_113) (by decide) (by decide) k) ?_
        refine own_go (g' := (mkF m 45 #[.val (.ref a), .val (.int (2 : Int32)), .val (.long (fu1 2)), .second, .val (.long (fc1 2)), .second, .val (.ref jb), .val (.int (0 : Int32))] [(.int (0 : Int32))])) (fun _ k => XS.iload X249.here hx rfl (hb hby d10_43) rfl k) ?_
        refine own_go (g' := (mkF m 116 #[.val (.ref a), .val (.int (2 : Int32)), .val (.long (fu1 2)), .second, .val (.long (fc1 2)), .second, .val (.ref jb), .val (.int (0 : Int32))] [])) (fun _ k => XS.ifYes X249.here hx rfl (pc0 := 45) (pc' := 116) rfl (hb hby d10_45) rfl (XT.i0_le_t (by decide)) (by decide) (by decide) k) ?_
        refine own_go (g' := (mkF m 117 #[.val (.ref a), .val (.int (2 : Int32)), .val (.long (fu1 2)), .second, .val (.long (fc1 2)), .second, .val (.ref jb), .val (.int (0 : Int32))] [(.ref a)])) (fun _ k => XS.aloadN X249.here hx rfl (hb hby d10_116) rfl rfl k) ?_
        have f250 := (own_Ob_other f244 W249 (own_Up_ne HU 1 4 rfl rfl (by decide)))
        refine own_getF X249 hx hZ (host := "") hown e249 (Or.inl (hw _ (List.mem_of_getElem? (i := 46) rfl))) Via.refl (own_Ob_fld f250 0 rfl) (hb hby d10_117) ?_
        intro T251 X251 e251
        show own_Go p e below _ T251 (mkF m 120 #[.val (.ref a), .val (.int (2 : Int32)), .val (.long (fu1 2)), .second, .val (.long (fc1 2)), .second, .val (.ref jb), .val (.int (0 : Int32))] [(.ref au)])
        refine own_go (g' := (mkF m 122 #[.val (.ref a), .val (.int (2 : Int32)), .val (.long (fu1 2)), .second, .val (.long (fc1 2)), .second, .val (.ref jb), .val (.int (0 : Int32))] [(.int (0 : Int32)), (.ref au)])) (fun _ k => XS.iload X251.here hx rfl (hb hby d10_120) rfl k) ?_
        refine own_go (g' := (mkF m 123 #[.val (.ref a), .val (.int (2 : Int32)), .val (.long (fu1 2)), .second, .val (.long (fc1 2)), .second, .val (.ref jb), .val (.int (0 : Int32))] [(.long (fu1 2)), (.int (0 : Int32)), (.ref au)])) (fun _ k => XT.lloadN X251.here hx rfl (hb hby d10_122) rfl k) ?_
        have f252 := (own_Ar_other (own_Ar_other A238 W243 (own_Up_ne HU 2 3 rfl rfl (by decide))) W249 (own_Up_ne HU 2 4 rfl rfl (by decide)))
        refine own_lastore X251 hx hZ e251 f252 0 (by decide) (by decide) (hb hby d10_123) ?_
        intro T253 h253 X253 e253 W253
        have A253 : own_Al Z h253 au 8 (own_upl (own_upl (own_upl fu1 2 (fu1 1)) 1 ((own_upl fu1 2 (fu1 1)) 0)) 0 (fu1 2)) := own_Al_set (f := (own_upl (own_upl fu1 2 (fu1 1)) 1 ((own_upl fu1 2 (fu1 1)) 0))) f252 W253
        have K253 := K249.wr W253 (Or.inl (List.mem_of_getElem? (i := 1) rfl))
        have N253 := Fr.snoc X253 N249 (own_Up_ge HU gj 2 rfl)
        show own_Go p e below _ T253 (mkF m 124 #[.val (.ref a), .val (.int (2 : Int32)), .val (.long (fu1 2)), .second, .val (.long (fc1 2)), .second, .val (.ref jb), .val (.int (0 : Int32))] [])
        refine own_go (g' := (mkF m 125 #[.val (.ref a), .val (.int (2 : Int32)), .val (.long (fu1 2)), .second, .val (.long (fc1 2)), .second, .val (.ref jb), .val (.int (0 : Int32))] [(.ref a)])) (fun _ k => XS.aloadN X253.here hx rfl (hb hby d10_124) rfl rfl k) ?_
        have f254 := (own_Ob_other f250 W253 (own_Up_ne HU 1 2 rfl rfl (by decide)))
        refine own_getF X253 hx hZ (host := "") hown e253 (Or.inl (hw _ (List.mem_of_getElem? (i := 48) rfl))) Via.refl (own_Ob_fld f254 1 rfl) (hb hby d10_125) ?_
        intro T255 X255 e255
        show own_Go p e below _ T255 (mkF m 128 #[.val (.ref a), .val (.int (2 : Int32)), .val (.long (fu1 2)), .second, .val (.long (fc1 2)), .second, .val (.ref jb), .val (.int (0 : Int32))] [(.ref ac)])
        refine own_go (g' := (mkF m 130 #[.val (.ref a), .val (.int (2 : Int32)), .val (.long (fu1 2)), .second, .val (.long (fc1 2)), .second, .val (.ref jb), .val (.int (0 : Int32))] [(.int (0 : Int32)), (.ref ac)])) (fun _ k => XS.iload X255.here hx rfl (hb hby d10_128) rfl k) ?_
        refine own_go (g' := (mkF m 132 #[.val (.ref a), .val (.int (2 : Int32)), .val (.long (fu1 2)), .second, .val (.long (fc1 2)), .second, .val (.ref jb), .val (.int (0 : Int32))] [(.long (fc1 2)), (.int (0 : Int32)), (.ref ac)])) (fun _ k => XT.lload X255.here hx rfl (hb hby d10_130) rfl k) ?_
        have f256 := (own_Ar_other (own_Ar_other A243 W249 (own_Up_ne HU 3 4 rfl rfl (by decide))) W253 (Ne.symm (own_Up_ne HU 2 3 rfl rfl (by decide))))
        refine own_lastore X255 hx hZ e255 f256 0 (by decide) (by decide) (hb hby d10_132) ?_
        intro T257 h257 X257 e257 W257
        have A257 : own_Al Z h257 ac 8 (own_upl (own_upl (own_upl fc1 2 (fc1 1)) 1 ((own_upl fc1 2 (fc1 1)) 0)) 0 (fc1 2)) := own_Al_set (f := (own_upl (own_upl fc1 2 (fc1 1)) 1 ((own_upl fc1 2 (fc1 1)) 0))) f256 W257
        have K257 := K253.wr W257 (Or.inl (List.mem_of_getElem? (i := 2) rfl))
        have N257 := Fr.snoc X257 N253 (own_Up_ge HU gj 3 rfl)
        show own_Go p e below _ T257 (mkF m 133 #[.val (.ref a), .val (.int (2 : Int32)), .val (.long (fu1 2)), .second, .val (.long (fc1 2)), .second, .val (.ref jb), .val (.int (0 : Int32))] [])
        refine own_go (g' := (mkF m 134 #[.val (.ref a), .val (.int (2 : Int32)), .val (.long (fu1 2)), .second, .val (.long (fc1 2)), .second, .val (.ref jb), .val (.int (0 : Int32))] [(.ref a)])) (fun _ k => XS.aloadN X257.here hx rfl (hb hby d10_133) rfl rfl k) ?_
        have f258 := (own_Ob_other f254 W257 (own_Up_ne HU 1 3 rfl rfl (by decide)))
        refine own_getF X257 hx hZ (host := "") hown e257 (Or.inl (hw _ (List.mem_of_getElem? (i := 52) rfl))) Via.refl (own_Ob_fld f258 2 rfl) (hb hby d10_134) ?_
        intro T259 X259 e259
        show own_Go p e below _ T259 (mkF m 137 #[.val (.ref a), .val (.int (2 : Int32)), .val (.long (fu1 2)), .second, .val (.long (fc1 2)), .second, .val (.ref jb), .val (.int (0 : Int32))] [(.ref ao)])
        refine own_go (g' := (mkF m 139 #[.val (.ref a), .val (.int (2 : Int32)), .val (.long (fu1 2)), .second, .val (.long (fc1 2)), .second, .val (.ref jb), .val (.int (0 : Int32))] [(.int (0 : Int32)), (.ref ao)])) (fun _ k => XS.iload X259.here hx rfl (hb hby d10_137) rfl k) ?_
        refine own_go (g' := (mkF m 141 #[.val (.ref a), .val (.int (2 : Int32)), .val (.long (fu1 2)), .second, .val (.long (fc1 2)), .second, .val (.ref jb), .val (.int (0 : Int32))] [(.ref jb), (.int (0 : Int32)), (.ref ao)])) (fun _ k => XS.aload X259.here hx rfl (hb hby d10_139) rfl rfl k) ?_
        have EJ260 : Exa Z h257 jb "com/example/gangplank/gangplank/workload/Job" := EJ.keep K257
        have f262 := (own_Rr_other (own_Rr_other A249 W253 (Ne.symm (own_Up_ne HU 2 4 rfl rfl (by decide)))) W257 (Ne.symm (own_Up_ne HU 3 4 rfl rfl (by decide))))
        refine own_aastore X259 hx hZ e259 f262 (Ins.self EJ260) 0 (by decide) (by decide) (hb hby d10_141) ?_
        intro T261 h261 X261 e261 W261
        have A261 := own_Rr_set f262 W261
        have K261 := K257.wr W261 (Or.inl (List.mem_of_getElem? (i := 3) rfl))
        have N261 := Fr.snoc X261 N257 (own_Up_ge HU gj 4 rfl)
        show own_Go p e below _ T261 (mkF m 142 #[.val (.ref a), .val (.int (2 : Int32)), .val (.long (fu1 2)), .second, .val (.long (fc1 2)), .second, .val (.ref jb), .val (.int (0 : Int32))] [])
        refine own_go (g' := (mkF m 145 #[.val (.ref a), .val (.int ((2 : Int32) + (1 : Int32))), .val (.long (fu1 2)), .second, .val (.long (fc1 2)), .second, .val (.ref jb), .val (.int (0 : Int32))] [])) (fun _ k => XS.iinc X261.here hx rfl (hb hby d10_142) rfl (l' := #[.val (.ref a), .val (.int ((2 : Int32) + (1 : Int32))), .val (.long (fu1 2)), .second, .val (.long (fc1 2)), .second, .val (.ref jb), .val (.int (0 : Int32))]) rfl k) ?_
        show own_Go p e below _ T261 (mkF m 145 #[.val (.ref a), .val (.int (3 : Int32)), .val (.long (fu1 2)), .second, .val (.long (fc1 2)), .second, .val (.ref jb), .val (.int (0 : Int32))] [])
        refine own_go (g' := (mkF m 2 #[.val (.ref a), .val (.int (3 : Int32)), .val (.long (fu1 2)), .second, .val (.long (fc1 2)), .second, .val (.ref jb), .val (.int (0 : Int32))] [])) (fun _ k => XS.goto X261.here hx rfl (pc0 := 145) (pc' := 2) rfl (hb hby d10_145) (by decide) (by decide) k) ?_
        refine own_go (g' := (mkF m 3 #[.val (.ref a), .val (.int (3 : Int32)), .val (.long (fu1 2)), .second, .val (.long (fc1 2)), .second, .val (.ref jb), .val (.int (0 : Int32))] [(.ref a)])) (fun _ k => XS.aloadN X261.here hx rfl (hb hby d10_2) rfl rfl k) ?_
        have f263 := (own_Ob_other f258 W261 (own_Up_ne HU 1 4 rfl rfl (by decide)))
        refine own_getF X261 hx hZ (host := "") hown e261 (Or.inl (hw _ (List.mem_of_getElem? (i := 54) rfl))) Via.refl (own_Ob_fld f263 3 rfl) (hb hby d10_3) ?_
        intro T264 X264 e264
        show own_Go p e below _ T264 (mkF m 6 #[.val (.ref a), .val (.int (3 : Int32)), .val (.long (fu1 2)), .second, .val (.long (fc1 2)), .second, .val (.ref jb), .val (.int (0 : Int32))] [(.int so)])
        refine own_go (g' := (mkF m 9 #[.val (.ref a), .val (.int (3 : Int32)), .val (.long (fu1 2)), .second, .val (.long (fc1 2)), .second, .val (.ref jb), .val (.int (0 : Int32))] [])) (fun _ k => XS.ifNo X264.here hx rfl (hb hby d10_6) rfl (XT.i0_ne_f cs) k) ?_
        refine own_go (g' := (mkF m 10 #[.val (.ref a), .val (.int (3 : Int32)), .val (.long (fu1 2)), .second, .val (.long (fc1 2)), .second, .val (.ref jb), .val (.int (0 : Int32))] [(.int (3 : Int32))])) (fun _ k => XS.iloadN X264.here hx rfl (hb hby d10_9) rfl k) ?_
        refine own_go (g' := (mkF m 11 #[.val (.ref a), .val (.int (3 : Int32)), .val (.long (fu1 2)), .second, .val (.long (fc1 2)), .second, .val (.ref jb), .val (.int (0 : Int32))] [(.ref a), (.int (3 : Int32))])) (fun _ k => XS.aloadN X264.here hx rfl (hb hby d10_10) rfl rfl k) ?_
        refine own_getF X264 hx hZ (host := "") hown e264 (Or.inl (hw _ (List.mem_of_getElem? (i := 73) rfl))) Via.refl (own_Ob_fld f263 9 rfl) (hb hby d10_11) ?_
        intro T265 X265 e265
        show own_Go p e below _ T265 (mkF m 14 #[.val (.ref a), .val (.int (3 : Int32)), .val (.long (fu1 2)), .second, .val (.long (fc1 2)), .second, .val (.ref jb), .val (.int (0 : Int32))] [(.int (3 : Int32)), (.int (3 : Int32))])
        refine own_go (g' := (mkF m 148 #[.val (.ref a), .val (.int (3 : Int32)), .val (.long (fu1 2)), .second, .val (.long (fc1 2)), .second, .val (.ref jb), .val (.int (0 : Int32))] [])) (fun _ k => XS.icmpYes X265.here hx rfl (pc0 := 14) (pc' := 148) rfl (hb hby d10_14) rfl (XT.ii_ge_t (by decide)) (by decide) (by decide) k) ?_
        refine own_go (g' := (mkF m 149 #[.val (.ref a), .val (.int (3 : Int32)), .val (.long (fu1 2)), .second, .val (.long (fc1 2)), .second, .val (.ref jb), .val (.int (0 : Int32))] [(.ref a)])) (fun _ k => XS.aloadN X265.here hx rfl (hb hby d10_148) rfl rfl k) ?_
        refine own_go (g' := (mkF m 150 #[.val (.ref a), .val (.int (3 : Int32)), .val (.long (fu1 2)), .second, .val (.long (fc1 2)), .second, .val (.ref jb), .val (.int (0 : Int32))] [(.int (1 : Int32)), (.ref a)])) (fun _ k => XS.iconst X265.here hx rfl (hb hby d10_149) k) ?_
        refine own_putFN X265 hx hZ (ty := .boolean) (v := (.int (1 : Int32))) (v' := (.int (nar .boolean (1 : Int32)))) hown e265 (hw _ (List.mem_of_getElem? (i := 54) rfl)) Via.refl (own_Ob_fld f263 3 rfl) f263.1 (Or.inl (hw _ (List.mem_of_getElem? (i := 55) rfl))) (hw _ (List.mem_of_getElem? (i := 39) rfl)) (by decide) rfl (fits_nar_bool _) (hb hby d10_150) ?_
        intro T266 h266 X266 e266 W266
        have B266 := own_Ob_put f263 own_ok1 (own_ld1 hw) 3 rfl W266
        have K266 := K261.wr W266 (Or.inl (List.mem_of_getElem? (i := 0) rfl))
        have N266 := Fr.snoc X266 N261 (own_Up_ge HU gj 1 rfl)
        show own_Go p e below _ T266 (mkF m 153 #[.val (.ref a), .val (.int (3 : Int32)), .val (.long (fu1 2)), .second, .val (.long (fc1 2)), .second, .val (.ref jb), .val (.int (0 : Int32))] [])
        have f267 := (own_Ar_other (own_Ar_other (own_Ar_other A253 W257 (own_Up_ne HU 2 3 rfl rfl (by decide))) W261 (own_Up_ne HU 2 4 rfl rfl (by decide))) W266 (Ne.symm (own_Up_ne HU 1 2 rfl rfl (by decide))))
        have f268 := (own_Ar_other (own_Ar_other A257 W261 (own_Up_ne HU 3 4 rfl rfl (by decide))) W266 (Ne.symm (own_Up_ne HU 1 3 rfl rfl (by decide))))
        have f269 := (own_Rr_other A261 W266 (Ne.symm (own_Up_ne HU 1 4 rfl rfl (by decide))))
        exact own_ret0 X266 hx hlk hret e266 (hb hby d10_153) ⟨rfl, N266, K266, (own_Ob_eq B266 (fun i hi => by have hi' : i < 13 := hi; match i, hi' with | 0, _ => rfl | 1, _ => rfl | 2, _ => rfl | 3, _ => rfl | 4, _ => rfl | 5, _ => rfl | 6, _ => rfl | 7, _ => rfl | 8, _ => rfl | 9, _ => rfl | 10, _ => rfl | 11, _ => rfl | 12, _ => rfl)), _, _, _, f267, f268, f269, (own_Pm_trans pm1 (own_pm2c fu1 fc1)), (own_nlt ci1), s1, (fun i hi => own_fo_up (own_fo_up (own_fo_up ho1 _ _) _ _) _ _ i hi)⟩ (by decide) (by decide)
      · refine own_go (g' := (mkF m 116 #[.val (.ref a), .val (.int (2 : Int32)), .val (.long (fu1 2)), .second, .val (.long (fc1 2)), .second, .val (.ref jb), .val (.int (1 : Int32))] [])) (fun _ k => XS.ifYes X216.here hx rfl (pc0 := 59) (pc' := 116) rfl (hb hby d10_59) rfl (XT.ll_le_t ci1) (by decide) (by decide) k) ?_
        refine own_go (g' := (mkF m 117 #[.val (.ref a), .val (.int (2 : Int32)), .val (.long (fu1 2)), .second, .val (.long (fc1 2)), .second, .val (.ref jb), .val (.int (1 : Int32))] [(.ref a)])) (fun _ k => XS.aloadN X216.here hx rfl (hb hby d10_116) rfl rfl k) ?_
        refine own_getF X216 hx hZ (host := "") hown e216 (Or.inl (hw _ (List.mem_of_getElem? (i := 46) rfl))) Via.refl (own_Ob_fld f215 0 rfl) (hb hby d10_117) ?_
        intro T218 X218 e218
        show own_Go p e below _ T218 (mkF m 120 #[.val (.ref a), .val (.int (2 : Int32)), .val (.long (fu1 2)), .second, .val (.long (fc1 2)), .second, .val (.ref jb), .val (.int (1 : Int32))] [(.ref au)])
        refine own_go (g' := (mkF m 122 #[.val (.ref a), .val (.int (2 : Int32)), .val (.long (fu1 2)), .second, .val (.long (fc1 2)), .second, .val (.ref jb), .val (.int (1 : Int32))] [(.int (1 : Int32)), (.ref au)])) (fun _ k => XS.iload X218.here hx rfl (hb hby d10_120) rfl k) ?_
        refine own_go (g' := (mkF m 123 #[.val (.ref a), .val (.int (2 : Int32)), .val (.long (fu1 2)), .second, .val (.long (fc1 2)), .second, .val (.ref jb), .val (.int (1 : Int32))] [(.long (fu1 2)), (.int (1 : Int32)), (.ref au)])) (fun _ k => XT.lloadN X218.here hx rfl (hb hby d10_122) rfl k) ?_
        refine own_lastore X218 hx hZ e218 f217 1 (by decide) (by decide) (hb hby d10_123) ?_
        intro T219 h219 X219 e219 W219
        have A219 : own_Al Z h219 au 8 (own_upl (own_upl fu1 2 (fu1 1)) 1 (fu1 2)) := own_Al_set (f := (own_upl fu1 2 (fu1 1))) f217 W219
        have K219 := K214.wr W219 (Or.inl (List.mem_of_getElem? (i := 1) rfl))
        have N219 := Fr.snoc X219 N214 (own_Up_ge HU gj 2 rfl)
        show own_Go p e below _ T219 (mkF m 124 #[.val (.ref a), .val (.int (2 : Int32)), .val (.long (fu1 2)), .second, .val (.long (fc1 2)), .second, .val (.ref jb), .val (.int (1 : Int32))] [])
        refine own_go (g' := (mkF m 125 #[.val (.ref a), .val (.int (2 : Int32)), .val (.long (fu1 2)), .second, .val (.long (fc1 2)), .second, .val (.ref jb), .val (.int (1 : Int32))] [(.ref a)])) (fun _ k => XS.aloadN X219.here hx rfl (hb hby d10_124) rfl rfl k) ?_
        have f220 := (own_Ob_other f215 W219 (own_Up_ne HU 1 2 rfl rfl (by decide)))
        refine own_getF X219 hx hZ (host := "") hown e219 (Or.inl (hw _ (List.mem_of_getElem? (i := 48) rfl))) Via.refl (own_Ob_fld f220 1 rfl) (hb hby d10_125) ?_
        intro T221 X221 e221
        show own_Go p e below _ T221 (mkF m 128 #[.val (.ref a), .val (.int (2 : Int32)), .val (.long (fu1 2)), .second, .val (.long (fc1 2)), .second, .val (.ref jb), .val (.int (1 : Int32))] [(.ref ac)])
        refine own_go (g' := (mkF m 130 #[.val (.ref a), .val (.int (2 : Int32)), .val (.long (fu1 2)), .second, .val (.long (fc1 2)), .second, .val (.ref jb), .val (.int (1 : Int32))] [(.int (1 : Int32)), (.ref ac)])) (fun _ k => XS.iload X221.here hx rfl (hb hby d10_128) rfl k) ?_
        refine own_go (g' := (mkF m 132 #[.val (.ref a), .val (.int (2 : Int32)), .val (.long (fu1 2)), .second, .val (.long (fc1 2)), .second, .val (.ref jb), .val (.int (1 : Int32))] [(.long (fc1 2)), (.int (1 : Int32)), (.ref ac)])) (fun _ k => XT.lload X221.here hx rfl (hb hby d10_130) rfl k) ?_
        have f222 := (own_Ar_other (own_Ar_other A208 W214 (own_Up_ne HU 3 4 rfl rfl (by decide))) W219 (Ne.symm (own_Up_ne HU 2 3 rfl rfl (by decide))))
        refine own_lastore X221 hx hZ e221 f222 1 (by decide) (by decide) (hb hby d10_132) ?_
        intro T223 h223 X223 e223 W223
        have A223 : own_Al Z h223 ac 8 (own_upl (own_upl fc1 2 (fc1 1)) 1 (fc1 2)) := own_Al_set (f := (own_upl fc1 2 (fc1 1))) f222 W223
        have K223 := K219.wr W223 (Or.inl (List.mem_of_getElem? (i := 2) rfl))
        have N223 := Fr.snoc X223 N219 (own_Up_ge HU gj 3 rfl)
        show own_Go p e below _ T223 (mkF m 133 #[.val (.ref a), .val (.int (2 : Int32)), .val (.long (fu1 2)), .second, .val (.long (fc1 2)), .second, .val (.ref jb), .val (.int (1 : Int32))] [])
        refine own_go (g' := (mkF m 134 #[.val (.ref a), .val (.int (2 : Int32)), .val (.long (fu1 2)), .second, .val (.long (fc1 2)), .second, .val (.ref jb), .val (.int (1 : Int32))] [(.ref a)])) (fun _ k => XS.aloadN X223.here hx rfl (hb hby d10_133) rfl rfl k) ?_
        have f224 := (own_Ob_other f220 W223 (own_Up_ne HU 1 3 rfl rfl (by decide)))
        refine own_getF X223 hx hZ (host := "") hown e223 (Or.inl (hw _ (List.mem_of_getElem? (i := 52) rfl))) Via.refl (own_Ob_fld f224 2 rfl) (hb hby d10_134) ?_
        intro T225 X225 e225
        show own_Go p e below _ T225 (mkF m 137 #[.val (.ref a), .val (.int (2 : Int32)), .val (.long (fu1 2)), .second, .val (.long (fc1 2)), .second, .val (.ref jb), .val (.int (1 : Int32))] [(.ref ao)])
        refine own_go (g' := (mkF m 139 #[.val (.ref a), .val (.int (2 : Int32)), .val (.long (fu1 2)), .second, .val (.long (fc1 2)), .second, .val (.ref jb), .val (.int (1 : Int32))] [(.int (1 : Int32)), (.ref ao)])) (fun _ k => XS.iload X225.here hx rfl (hb hby d10_137) rfl k) ?_
        refine own_go (g' := (mkF m 141 #[.val (.ref a), .val (.int (2 : Int32)), .val (.long (fu1 2)), .second, .val (.long (fc1 2)), .second, .val (.ref jb), .val (.int (1 : Int32))] [(.ref jb), (.int (1 : Int32)), (.ref ao)])) (fun _ k => XS.aload X225.here hx rfl (hb hby d10_139) rfl rfl k) ?_
        have EJ226 : Exa Z h223 jb "com/example/gangplank/gangplank/workload/Job" := EJ.keep K223
        have f228 := (own_Rr_other (own_Rr_other A214 W219 (Ne.symm (own_Up_ne HU 2 4 rfl rfl (by decide)))) W223 (Ne.symm (own_Up_ne HU 3 4 rfl rfl (by decide))))
        refine own_aastore X225 hx hZ e225 f228 (Ins.self EJ226) 1 (by decide) (by decide) (hb hby d10_141) ?_
        intro T227 h227 X227 e227 W227
        have A227 := own_Rr_set f228 W227
        have K227 := K223.wr W227 (Or.inl (List.mem_of_getElem? (i := 3) rfl))
        have N227 := Fr.snoc X227 N223 (own_Up_ge HU gj 4 rfl)
        show own_Go p e below _ T227 (mkF m 142 #[.val (.ref a), .val (.int (2 : Int32)), .val (.long (fu1 2)), .second, .val (.long (fc1 2)), .second, .val (.ref jb), .val (.int (1 : Int32))] [])
        refine own_go (g' := (mkF m 145 #[.val (.ref a), .val (.int ((2 : Int32) + (1 : Int32))), .val (.long (fu1 2)), .second, .val (.long (fc1 2)), .second, .val (.ref jb), .val (.int (1 : Int32))] [])) (fun _ k => XS.iinc X227.here hx rfl (hb hby d10_142) rfl (l' := #[.val (.ref a), .val (.int ((2 : Int32) + (1 : Int32))), .val (.long (fu1 2)), .second, .val (.long (fc1 2)), .second, .val (.ref jb), .val (.int (1 : Int32))]) rfl k) ?_
        show own_Go p e below _ T227 (mkF m 145 #[.val (.ref a), .val (.int (3 : Int32)), .val (.long (fu1 2)), .second, .val (.long (fc1 2)), .second, .val (.ref jb), .val (.int (1 : Int32))] [])
        refine own_go (g' := (mkF m 2 #[.val (.ref a), .val (.int (3 : Int32)), .val (.long (fu1 2)), .second, .val (.long (fc1 2)), .second, .val (.ref jb), .val (.int (1 : Int32))] [])) (fun _ k => XS.goto X227.here hx rfl (pc0 := 145) (pc' := 2) rfl (hb hby d10_145) (by decide) (by decide) k) ?_
        refine own_go (g' := (mkF m 3 #[.val (.ref a), .val (.int (3 : Int32)), .val (.long (fu1 2)), .second, .val (.long (fc1 2)), .second, .val (.ref jb), .val (.int (1 : Int32))] [(.ref a)])) (fun _ k => XS.aloadN X227.here hx rfl (hb hby d10_2) rfl rfl k) ?_
        have f229 := (own_Ob_other f224 W227 (own_Up_ne HU 1 4 rfl rfl (by decide)))
        refine own_getF X227 hx hZ (host := "") hown e227 (Or.inl (hw _ (List.mem_of_getElem? (i := 54) rfl))) Via.refl (own_Ob_fld f229 3 rfl) (hb hby d10_3) ?_
        intro T230 X230 e230
        show own_Go p e below _ T230 (mkF m 6 #[.val (.ref a), .val (.int (3 : Int32)), .val (.long (fu1 2)), .second, .val (.long (fc1 2)), .second, .val (.ref jb), .val (.int (1 : Int32))] [(.int so)])
        refine own_go (g' := (mkF m 9 #[.val (.ref a), .val (.int (3 : Int32)), .val (.long (fu1 2)), .second, .val (.long (fc1 2)), .second, .val (.ref jb), .val (.int (1 : Int32))] [])) (fun _ k => XS.ifNo X230.here hx rfl (hb hby d10_6) rfl (XT.i0_ne_f cs) k) ?_
        refine own_go (g' := (mkF m 10 #[.val (.ref a), .val (.int (3 : Int32)), .val (.long (fu1 2)), .second, .val (.long (fc1 2)), .second, .val (.ref jb), .val (.int (1 : Int32))] [(.int (3 : Int32))])) (fun _ k => XS.iloadN X230.here hx rfl (hb hby d10_9) rfl k) ?_
        refine own_go (g' := (mkF m 11 #[.val (.ref a), .val (.int (3 : Int32)), .val (.long (fu1 2)), .second, .val (.long (fc1 2)), .second, .val (.ref jb), .val (.int (1 : Int32))] [(.ref a), (.int (3 : Int32))])) (fun _ k => XS.aloadN X230.here hx rfl (hb hby d10_10) rfl rfl k) ?_
        refine own_getF X230 hx hZ (host := "") hown e230 (Or.inl (hw _ (List.mem_of_getElem? (i := 73) rfl))) Via.refl (own_Ob_fld f229 9 rfl) (hb hby d10_11) ?_
        intro T231 X231 e231
        show own_Go p e below _ T231 (mkF m 14 #[.val (.ref a), .val (.int (3 : Int32)), .val (.long (fu1 2)), .second, .val (.long (fc1 2)), .second, .val (.ref jb), .val (.int (1 : Int32))] [(.int (3 : Int32)), (.int (3 : Int32))])
        refine own_go (g' := (mkF m 148 #[.val (.ref a), .val (.int (3 : Int32)), .val (.long (fu1 2)), .second, .val (.long (fc1 2)), .second, .val (.ref jb), .val (.int (1 : Int32))] [])) (fun _ k => XS.icmpYes X231.here hx rfl (pc0 := 14) (pc' := 148) rfl (hb hby d10_14) rfl (XT.ii_ge_t (by decide)) (by decide) (by decide) k) ?_
        refine own_go (g' := (mkF m 149 #[.val (.ref a), .val (.int (3 : Int32)), .val (.long (fu1 2)), .second, .val (.long (fc1 2)), .second, .val (.ref jb), .val (.int (1 : Int32))] [(.ref a)])) (fun _ k => XS.aloadN X231.here hx rfl (hb hby d10_148) rfl rfl k) ?_
        refine own_go (g' := (mkF m 150 #[.val (.ref a), .val (.int (3 : Int32)), .val (.long (fu1 2)), .second, .val (.long (fc1 2)), .second, .val (.ref jb), .val (.int (1 : Int32))] [(.int (1 : Int32)), (.ref a)])) (fun _ k => XS.iconst X231.here hx rfl (hb hby d10_149) k) ?_
        refine own_putFN X231 hx hZ (ty := .boolean) (v := (.int (1 : Int32))) (v' := (.int (nar .boolean (1 : Int32)))) hown e231 (hw _ (List.mem_of_getElem? (i := 54) rfl)) Via.refl (own_Ob_fld f229 3 rfl) f229.1 (Or.inl (hw _ (List.mem_of_getElem? (i := 55) rfl))) (hw _ (List.mem_of_getElem? (i := 39) rfl)) (by decide) rfl (fits_nar_bool _) (hb hby d10_150) ?_
        intro T232 h232 X232 e232 W232
        have B232 := own_Ob_put f229 own_ok1 (own_ld1 hw) 3 rfl W232
        have K232 := K227.wr W232 (Or.inl (List.mem_of_getElem? (i := 0) rfl))
        have N232 := Fr.snoc X232 N227 (own_Up_ge HU gj 1 rfl)
        show own_Go p e below _ T232 (mkF m 153 #[.val (.ref a), .val (.int (3 : Int32)), .val (.long (fu1 2)), .second, .val (.long (fc1 2)), .second, .val (.ref jb), .val (.int (1 : Int32))] [])
        have f233 := (own_Ar_other (own_Ar_other (own_Ar_other A219 W223 (own_Up_ne HU 2 3 rfl rfl (by decide))) W227 (own_Up_ne HU 2 4 rfl rfl (by decide))) W232 (Ne.symm (own_Up_ne HU 1 2 rfl rfl (by decide))))
        have f234 := (own_Ar_other (own_Ar_other A223 W227 (own_Up_ne HU 3 4 rfl rfl (by decide))) W232 (Ne.symm (own_Up_ne HU 1 3 rfl rfl (by decide))))
        have f235 := (own_Rr_other A227 W232 (Ne.symm (own_Up_ne HU 1 4 rfl rfl (by decide))))
        exact own_ret0 X232 hx hlk hret e232 (hb hby d10_153) ⟨rfl, N232, K232, (own_Ob_eq B232 (fun i hi => by have hi' : i < 13 := hi; match i, hi' with | 0, _ => rfl | 1, _ => rfl | 2, _ => rfl | 3, _ => rfl | 4, _ => rfl | 5, _ => rfl | 6, _ => rfl | 7, _ => rfl | 8, _ => rfl | 9, _ => rfl | 10, _ => rfl | 11, _ => rfl | 12, _ => rfl)), _, _, _, f233, f234, f235, (own_Pm_trans pm1 (own_pm2b fu1 fc1)), ci1, (own_nlt ci2), (fun i hi => own_fo_up (own_fo_up ho1 _ _) _ _ i hi)⟩ (by decide) (by decide)
    · refine own_go (g' := (mkF m 116 #[.val (.ref a), .val (.int (2 : Int32)), .val (.long (fu1 2)), .second, .val (.long (fc1 2)), .second, .val (.ref jb), .val (.int (2 : Int32))] [])) (fun _ k => XS.ifYes X182.here hx rfl (pc0 := 59) (pc' := 116) rfl (hb hby d10_59) rfl (XT.ll_le_t ci2) (by decide) (by decide) k) ?_
      refine own_go (g' := (mkF m 117 #[.val (.ref a), .val (.int (2 : Int32)), .val (.long (fu1 2)), .second, .val (.long (fc1 2)), .second, .val (.ref jb), .val (.int (2 : Int32))] [(.ref a)])) (fun _ k => XS.aloadN X182.here hx rfl (hb hby d10_116) rfl rfl k) ?_
      refine own_getF X182 hx hZ (host := "") hown e182 (Or.inl (hw _ (List.mem_of_getElem? (i := 46) rfl))) Via.refl (own_Ob_fld B1 0 rfl) (hb hby d10_117) ?_
      intro T183 X183 e183
      show own_Go p e below _ T183 (mkF m 120 #[.val (.ref a), .val (.int (2 : Int32)), .val (.long (fu1 2)), .second, .val (.long (fc1 2)), .second, .val (.ref jb), .val (.int (2 : Int32))] [(.ref au)])
      refine own_go (g' := (mkF m 122 #[.val (.ref a), .val (.int (2 : Int32)), .val (.long (fu1 2)), .second, .val (.long (fc1 2)), .second, .val (.ref jb), .val (.int (2 : Int32))] [(.int (2 : Int32)), (.ref au)])) (fun _ k => XS.iload X183.here hx rfl (hb hby d10_120) rfl k) ?_
      refine own_go (g' := (mkF m 123 #[.val (.ref a), .val (.int (2 : Int32)), .val (.long (fu1 2)), .second, .val (.long (fc1 2)), .second, .val (.ref jb), .val (.int (2 : Int32))] [(.long (fu1 2)), (.int (2 : Int32)), (.ref au)])) (fun _ k => XT.lloadN X183.here hx rfl (hb hby d10_122) rfl k) ?_
      refine own_lastore X183 hx hZ e183 Fu1 2 (by decide) (by decide) (hb hby d10_123) ?_
      intro T184 h184 X184 e184 W184
      have A184 : own_Al Z h184 au 8 (own_upl fu1 2 (fu1 2)) := own_Al_set (f := fu1) Fu1 W184
      have K184 := K1.wr W184 (Or.inl (List.mem_of_getElem? (i := 1) rfl))
      have N184 := Fr.snoc X184 N1 (own_Up_ge HU gj 2 rfl)
      show own_Go p e below _ T184 (mkF m 124 #[.val (.ref a), .val (.int (2 : Int32)), .val (.long (fu1 2)), .second, .val (.long (fc1 2)), .second, .val (.ref jb), .val (.int (2 : Int32))] [])
      refine own_go (g' := (mkF m 125 #[.val (.ref a), .val (.int (2 : Int32)), .val (.long (fu1 2)), .second, .val (.long (fc1 2)), .second, .val (.ref jb), .val (.int (2 : Int32))] [(.ref a)])) (fun _ k => XS.aloadN X184.here hx rfl (hb hby d10_124) rfl rfl k) ?_
      have f185 := (own_Ob_other B1 W184 (own_Up_ne HU 1 2 rfl rfl (by decide)))
      refine own_getF X184 hx hZ (host := "") hown e184 (Or.inl (hw _ (List.mem_of_getElem? (i := 48) rfl))) Via.refl (own_Ob_fld f185 1 rfl) (hb hby d10_125) ?_
      intro T186 X186 e186
      show own_Go p e below _ T186 (mkF m 128 #[.val (.ref a), .val (.int (2 : Int32)), .val (.long (fu1 2)), .second, .val (.long (fc1 2)), .second, .val (.ref jb), .val (.int (2 : Int32))] [(.ref ac)])
      refine own_go (g' := (mkF m 130 #[.val (.ref a), .val (.int (2 : Int32)), .val (.long (fu1 2)), .second, .val (.long (fc1 2)), .second, .val (.ref jb), .val (.int (2 : Int32))] [(.int (2 : Int32)), (.ref ac)])) (fun _ k => XS.iload X186.here hx rfl (hb hby d10_128) rfl k) ?_
      refine own_go (g' := (mkF m 132 #[.val (.ref a), .val (.int (2 : Int32)), .val (.long (fu1 2)), .second, .val (.long (fc1 2)), .second, .val (.ref jb), .val (.int (2 : Int32))] [(.long (fc1 2)), (.int (2 : Int32)), (.ref ac)])) (fun _ k => XT.lload X186.here hx rfl (hb hby d10_130) rfl k) ?_
      have f187 := (own_Ar_other Fc1 W184 (Ne.symm (own_Up_ne HU 2 3 rfl rfl (by decide))))
      refine own_lastore X186 hx hZ e186 f187 2 (by decide) (by decide) (hb hby d10_132) ?_
      intro T188 h188 X188 e188 W188
      have A188 : own_Al Z h188 ac 8 (own_upl fc1 2 (fc1 2)) := own_Al_set (f := fc1) f187 W188
      have K188 := K184.wr W188 (Or.inl (List.mem_of_getElem? (i := 2) rfl))
      have N188 := Fr.snoc X188 N184 (own_Up_ge HU gj 3 rfl)
      show own_Go p e below _ T188 (mkF m 133 #[.val (.ref a), .val (.int (2 : Int32)), .val (.long (fu1 2)), .second, .val (.long (fc1 2)), .second, .val (.ref jb), .val (.int (2 : Int32))] [])
      refine own_go (g' := (mkF m 134 #[.val (.ref a), .val (.int (2 : Int32)), .val (.long (fu1 2)), .second, .val (.long (fc1 2)), .second, .val (.ref jb), .val (.int (2 : Int32))] [(.ref a)])) (fun _ k => XS.aloadN X188.here hx rfl (hb hby d10_133) rfl rfl k) ?_
      have f189 := (own_Ob_other f185 W188 (own_Up_ne HU 1 3 rfl rfl (by decide)))
      refine own_getF X188 hx hZ (host := "") hown e188 (Or.inl (hw _ (List.mem_of_getElem? (i := 52) rfl))) Via.refl (own_Ob_fld f189 2 rfl) (hb hby d10_134) ?_
      intro T190 X190 e190
      show own_Go p e below _ T190 (mkF m 137 #[.val (.ref a), .val (.int (2 : Int32)), .val (.long (fu1 2)), .second, .val (.long (fc1 2)), .second, .val (.ref jb), .val (.int (2 : Int32))] [(.ref ao)])
      refine own_go (g' := (mkF m 139 #[.val (.ref a), .val (.int (2 : Int32)), .val (.long (fu1 2)), .second, .val (.long (fc1 2)), .second, .val (.ref jb), .val (.int (2 : Int32))] [(.int (2 : Int32)), (.ref ao)])) (fun _ k => XS.iload X190.here hx rfl (hb hby d10_137) rfl k) ?_
      refine own_go (g' := (mkF m 141 #[.val (.ref a), .val (.int (2 : Int32)), .val (.long (fu1 2)), .second, .val (.long (fc1 2)), .second, .val (.ref jb), .val (.int (2 : Int32))] [(.ref jb), (.int (2 : Int32)), (.ref ao)])) (fun _ k => XS.aload X190.here hx rfl (hb hby d10_139) rfl rfl k) ?_
      have EJ191 : Exa Z h188 jb "com/example/gangplank/gangplank/workload/Job" := EJ.keep K188
      have f193 := (own_Rr_other (own_Rr_other Fo1 W184 (Ne.symm (own_Up_ne HU 2 4 rfl rfl (by decide)))) W188 (Ne.symm (own_Up_ne HU 3 4 rfl rfl (by decide))))
      refine own_aastore X190 hx hZ e190 f193 (Ins.self EJ191) 2 (by decide) (by decide) (hb hby d10_141) ?_
      intro T192 h192 X192 e192 W192
      have A192 := own_Rr_set f193 W192
      have K192 := K188.wr W192 (Or.inl (List.mem_of_getElem? (i := 3) rfl))
      have N192 := Fr.snoc X192 N188 (own_Up_ge HU gj 4 rfl)
      show own_Go p e below _ T192 (mkF m 142 #[.val (.ref a), .val (.int (2 : Int32)), .val (.long (fu1 2)), .second, .val (.long (fc1 2)), .second, .val (.ref jb), .val (.int (2 : Int32))] [])
      refine own_go (g' := (mkF m 145 #[.val (.ref a), .val (.int ((2 : Int32) + (1 : Int32))), .val (.long (fu1 2)), .second, .val (.long (fc1 2)), .second, .val (.ref jb), .val (.int (2 : Int32))] [])) (fun _ k => XS.iinc X192.here hx rfl (hb hby d10_142) rfl (l' := #[.val (.ref a), .val (.int ((2 : Int32) + (1 : Int32))), .val (.long (fu1 2)), .second, .val (.long (fc1 2)), .second, .val (.ref jb), .val (.int (2 : Int32))]) rfl k) ?_
      show own_Go p e below _ T192 (mkF m 145 #[.val (.ref a), .val (.int (3 : Int32)), .val (.long (fu1 2)), .second, .val (.long (fc1 2)), .second, .val (.ref jb), .val (.int (2 : Int32))] [])
      refine own_go (g' := (mkF m 2 #[.val (.ref a), .val (.int (3 : Int32)), .val (.long (fu1 2)), .second, .val (.long (fc1 2)), .second, .val (.ref jb), .val (.int (2 : Int32))] [])) (fun _ k => XS.goto X192.here hx rfl (pc0 := 145) (pc' := 2) rfl (hb hby d10_145) (by decide) (by decide) k) ?_
      refine own_go (g' := (mkF m 3 #[.val (.ref a), .val (.int (3 : Int32)), .val (.long (fu1 2)), .second, .val (.long (fc1 2)), .second, .val (.ref jb), .val (.int (2 : Int32))] [(.ref a)])) (fun _ k => XS.aloadN X192.here hx rfl (hb hby d10_2) rfl rfl k) ?_
      have f194 := (own_Ob_other f189 W192 (own_Up_ne HU 1 4 rfl rfl (by decide)))
      refine own_getF X192 hx hZ (host := "") hown e192 (Or.inl (hw _ (List.mem_of_getElem? (i := 54) rfl))) Via.refl (own_Ob_fld f194 3 rfl) (hb hby d10_3) ?_
      intro T195 X195 e195
      show own_Go p e below _ T195 (mkF m 6 #[.val (.ref a), .val (.int (3 : Int32)), .val (.long (fu1 2)), .second, .val (.long (fc1 2)), .second, .val (.ref jb), .val (.int (2 : Int32))] [(.int so)])
      refine own_go (g' := (mkF m 9 #[.val (.ref a), .val (.int (3 : Int32)), .val (.long (fu1 2)), .second, .val (.long (fc1 2)), .second, .val (.ref jb), .val (.int (2 : Int32))] [])) (fun _ k => XS.ifNo X195.here hx rfl (hb hby d10_6) rfl (XT.i0_ne_f cs) k) ?_
      refine own_go (g' := (mkF m 10 #[.val (.ref a), .val (.int (3 : Int32)), .val (.long (fu1 2)), .second, .val (.long (fc1 2)), .second, .val (.ref jb), .val (.int (2 : Int32))] [(.int (3 : Int32))])) (fun _ k => XS.iloadN X195.here hx rfl (hb hby d10_9) rfl k) ?_
      refine own_go (g' := (mkF m 11 #[.val (.ref a), .val (.int (3 : Int32)), .val (.long (fu1 2)), .second, .val (.long (fc1 2)), .second, .val (.ref jb), .val (.int (2 : Int32))] [(.ref a), (.int (3 : Int32))])) (fun _ k => XS.aloadN X195.here hx rfl (hb hby d10_10) rfl rfl k) ?_
      refine own_getF X195 hx hZ (host := "") hown e195 (Or.inl (hw _ (List.mem_of_getElem? (i := 73) rfl))) Via.refl (own_Ob_fld f194 9 rfl) (hb hby d10_11) ?_
      intro T196 X196 e196
      show own_Go p e below _ T196 (mkF m 14 #[.val (.ref a), .val (.int (3 : Int32)), .val (.long (fu1 2)), .second, .val (.long (fc1 2)), .second, .val (.ref jb), .val (.int (2 : Int32))] [(.int (3 : Int32)), (.int (3 : Int32))])
      refine own_go (g' := (mkF m 148 #[.val (.ref a), .val (.int (3 : Int32)), .val (.long (fu1 2)), .second, .val (.long (fc1 2)), .second, .val (.ref jb), .val (.int (2 : Int32))] [])) (fun _ k => XS.icmpYes X196.here hx rfl (pc0 := 14) (pc' := 148) rfl (hb hby d10_14) rfl (XT.ii_ge_t (by decide)) (by decide) (by decide) k) ?_
      refine own_go (g' := (mkF m 149 #[.val (.ref a), .val (.int (3 : Int32)), .val (.long (fu1 2)), .second, .val (.long (fc1 2)), .second, .val (.ref jb), .val (.int (2 : Int32))] [(.ref a)])) (fun _ k => XS.aloadN X196.here hx rfl (hb hby d10_148) rfl rfl k) ?_
      refine own_go (g' := (mkF m 150 #[.val (.ref a), .val (.int (3 : Int32)), .val (.long (fu1 2)), .second, .val (.long (fc1 2)), .second, .val (.ref jb), .val (.int (2 : Int32))] [(.int (1 : Int32)), (.ref a)])) (fun _ k => XS.iconst X196.here hx rfl (hb hby d10_149) k) ?_
      refine own_putFN X196 hx hZ (ty := .boolean) (v := (.int (1 : Int32))) (v' := (.int (nar .boolean (1 : Int32)))) hown e196 (hw _ (List.mem_of_getElem? (i := 54) rfl)) Via.refl (own_Ob_fld f194 3 rfl) f194.1 (Or.inl (hw _ (List.mem_of_getElem? (i := 55) rfl))) (hw _ (List.mem_of_getElem? (i := 39) rfl)) (by decide) rfl (fits_nar_bool _) (hb hby d10_150) ?_
      intro T197 h197 X197 e197 W197
      have B197 := own_Ob_put f194 own_ok1 (own_ld1 hw) 3 rfl W197
      have K197 := K192.wr W197 (Or.inl (List.mem_of_getElem? (i := 0) rfl))
      have N197 := Fr.snoc X197 N192 (own_Up_ge HU gj 1 rfl)
      show own_Go p e below _ T197 (mkF m 153 #[.val (.ref a), .val (.int (3 : Int32)), .val (.long (fu1 2)), .second, .val (.long (fc1 2)), .second, .val (.ref jb), .val (.int (2 : Int32))] [])
      have f198 := (own_Ar_other (own_Ar_other (own_Ar_other A184 W188 (own_Up_ne HU 2 3 rfl rfl (by decide))) W192 (own_Up_ne HU 2 4 rfl rfl (by decide))) W197 (Ne.symm (own_Up_ne HU 1 2 rfl rfl (by decide))))
      have f199 := (own_Ar_other (own_Ar_other A188 W192 (own_Up_ne HU 3 4 rfl rfl (by decide))) W197 (Ne.symm (own_Up_ne HU 1 3 rfl rfl (by decide))))
      have f200 := (own_Rr_other A192 W197 (Ne.symm (own_Up_ne HU 1 4 rfl rfl (by decide))))
      exact own_ret0 X197 hx hlk hret e197 (hb hby d10_153) ⟨rfl, N197, K197, (own_Ob_eq B197 (fun i hi => by have hi' : i < 13 := hi; match i, hi' with | 0, _ => rfl | 1, _ => rfl | 2, _ => rfl | 3, _ => rfl | 4, _ => rfl | 5, _ => rfl | 6, _ => rfl | 7, _ => rfl | 8, _ => rfl | 9, _ => rfl | 10, _ => rfl | 11, _ => rfl | 12, _ => rfl)), _, _, _, f198, f199, f200, (own_Pm_trans pm1 (own_pm2a fu1 fc1)), s1, ci2, (fun i hi => own_fo_up ho1 _ _ i hi)⟩ (by decide) (by decide)
  · refine own_go (g' := (mkF m 148 #[.val (.ref a), .val (.int (1 : Int32)), .unset, .unset, .unset, .unset, .unset, .unset] [])) (fun _ k => XS.ifYes X123.here hx rfl (pc0 := 6) (pc' := 148) rfl (hb hby d10_6) rfl (XT.i0_ne_t cs) (by decide) (by decide) k) ?_
    refine own_go (g' := (mkF m 149 #[.val (.ref a), .val (.int (1 : Int32)), .unset, .unset, .unset, .unset, .unset, .unset] [(.ref a)])) (fun _ k => XS.aloadN X123.here hx rfl (hb hby d10_148) rfl rfl k) ?_
    refine own_go (g' := (mkF m 150 #[.val (.ref a), .val (.int (1 : Int32)), .unset, .unset, .unset, .unset, .unset, .unset] [(.int (1 : Int32)), (.ref a)])) (fun _ k => XS.iconst X123.here hx rfl (hb hby d10_149) k) ?_
    refine own_putFN X123 hx hZ (ty := .boolean) (v := (.int (1 : Int32))) (v' := (.int (nar .boolean (1 : Int32)))) hown e123 (hw _ (List.mem_of_getElem? (i := 54) rfl)) Via.refl (own_Ob_fld B0 3 rfl) B0.1 (Or.inl (hw _ (List.mem_of_getElem? (i := 55) rfl))) (hw _ (List.mem_of_getElem? (i := 39) rfl)) (by decide) rfl (fits_nar_bool _) (hb hby d10_150) ?_
    intro T124 h124 X124 e124 W124
    have B124 := own_Ob_put B0 own_ok1 (own_ld1 hw) 3 rfl W124
    have K124 := K0.wr W124 (Or.inl (List.mem_of_getElem? (i := 0) rfl))
    have N124 := Fr.snoc X124 N0 (own_Up_ge HU gj 1 rfl)
    show own_Go p e below _ T124 (mkF m 153 #[.val (.ref a), .val (.int (1 : Int32)), .unset, .unset, .unset, .unset, .unset, .unset] [])
    have f125 := (own_Ar_other Fu W124 (Ne.symm (own_Up_ne HU 1 2 rfl rfl (by decide))))
    have f126 := (own_Ar_other Fc W124 (Ne.symm (own_Up_ne HU 1 3 rfl rfl (by decide))))
    have f127 := (own_Rr_other Fo W124 (Ne.symm (own_Up_ne HU 1 4 rfl rfl (by decide))))
    exact own_ret0 X124 hx hlk hret e124 (hb hby d10_153) ⟨rfl, N124, K124, (own_Ob_eq B124 (fun i hi => by have hi' : i < 13 := hi; match i, hi' with | 0, _ => rfl | 1, _ => rfl | 2, _ => rfl | 3, _ => rfl | 4, _ => rfl | 5, _ => rfl | 6, _ => rfl | 7, _ => rfl | 8, _ => rfl | 9, _ => rfl | 10, _ => rfl | 11, _ => rfl | 12, _ => rfl)), _, _, _, f125, f126, f127, (own_Pm_refl fu fc), (hso cs).1, (hso cs).2, ho⟩ (by decide) (by decide)
def own_QFa (Z : State) (af ah : Addr) (f g : Nat → Int64) (h0 : Heap) (n0 : Nat) (v : Option Value) (h : Heap) (L : List Loc) : Prop := v = none ∧ Fr n0 L ∧ Keep h0 h [af, ah] ∧ own_Al Z h af 16 f ∧ own_Al Z h ah 16 g
def own_QCF (Z : State) (ah : Addr) (g : Nat → Int64) (h0 : Heap) (n0 : Nat) (v : Option Value) (h : Heap) (L : List Loc) : Prop := v = none ∧ Fr n0 L ∧ Keep h0 h [ah] ∧ own_Al Z h ah 16 g
def own_QOS (Z : State) (aj : Addr) (h0 : Heap) (n0 : Nat) (v : Option Value) (h : Heap) (L : List Loc) : Prop := v = some (.int 0) ∧ Fr n0 L ∧ Keep h0 h [aj] ∧ ∃ f, own_Al Z h aj 16 f
def own_QLo (Z : State) (a au ac ao af ah : Addr) (so fl : Int32) (nw hn : Int64) (h0 : Heap) (n0 : Nat) (v : Option Value) (h : Heap) (L : List Loc) : Prop := v = none ∧ Fr n0 L ∧ Keep h0 h [a] ∧ ∃ oi ou om, own_Ob Z h a "com/example/gangplank/gangplank/space/HeldFromNow" own_fs1 (own_gH au ac ao af ah oi ou so 3 fl om nw hn)
def own_QSe (Z : State) (a au ac ao af ah : Addr) (fu fc : Nat → Int64) (nw : Int64) (h0 : Heap) (n0 : Nat) (v : Option Value) (h : Heap) (L : List Loc) : Prop := v = some (.ref a) ∧ Fr n0 L ∧ Keep h0 h [a, au, ac, ao, af, ah] ∧ ∃ (F : Nat) (oi ou : Addr) (fl om : Int32) (hn : Int64) (fa g fu' fc' : Nat → Int64), own_Ob Z h a "com/example/gangplank/gangplank/space/HeldFromNow" own_fs1 (own_gH au ac ao af ah oi ou 1 3 fl om nw hn) ∧ own_Al Z h af 16 fa ∧ own_Al Z h ah 16 (own_cf g hn F) ∧ fl.toInt = (F : Int) ∧ own_Pm fu fc fu' fc' ∧ own_Inv fu' fc' 3 F fa g hn
def own_QHa (t hn : Int64) (F : Nat) (fa fh : Nat → Int64) (h0 : Heap) (v : Option Value) (h : Heap) (L : List Loc) : Prop := (∃ M, M ≤ F ∧ (∀ k, k < M → ¬ t < fa k) ∧ (∀ k, M ≤ k → k < F → t < fa k) ∧ v = some (.long (if M = 0 then hn else fh (M - 1)))) ∧ h = h0 ∧ L = []
set_option maxRecDepth 65536 in
set_option maxHeartbeats 40000000 in
theorem own_rmFa (l : Launch) (Z : State) (a0 : Array Value) (hw : ∀ d ∈ tables_1, d.before a0 Z = true) (ws : List Jvm.Cond) (af ah : Addr) (fi : Int32) (un ct : Int64) (f g : Nat → Int64) (F : Nat) (h0 : Heap) (n0 : Nat) (gf : n0 ≤ af) (gh : n0 ≤ ah) (hne : af ≠ ah) (Fa : own_Al Z h0 af 16 f) (Fh : own_Al Z h0 ah 16 g) (hF : fi.toInt = (F : Int)) (hF15 : F ≤ 15) :
    own_Met l (⟨"com/example/gangplank/gangplank/space/HeldFromNow", "fall", "([J[JIJJ)V"⟩ : MethodName) prog_214_method_10_code 7 none ws ({ frames := 0, cells := 0, slots := 0, locals := 0 } : Room) Z #[(.ref af), (.ref ah), (.int fi), (.long un), (.long ct)] h0 (own_QFa Z af ah (own_ff f F un) (own_fg f g F un ct) h0 n0) := by
  refine own_enter (plainFor_of_name pn_22) ?_
  intro p e s m below meth c T0 X0 hx hby hml hZ hown e0 hret hlk hnm
  have hown : s.vm.findClass "com/example/gangplank/gangplank/space/HeldFromNow" = some m.cls := hown
  have hml : c.maxLocals = 7 := hml
  have N0 := Fr.nil n0
  refine own_start (ef_22 m af ah fi un ct) ?_
  show own_Go p e below _ T0 (mkF m 0 #[.val (.ref af), .val (.ref ah), .val (.int fi), .val (.long un), .second, .val (.long ct), .second] [])
  have K0 := Keep.refl h0 [af, ah]
  refine own_go (g' := (mkF m 1 #[.val (.ref af), .val (.ref ah), .val (.int fi), .val (.long un), .second, .val (.long ct), .second] [(.int fi)])) (fun _ k => XS.iloadN X0.here hx rfl (hb hby d22_0) rfl k) ?_
  by_cases c0 : 0 < fi
  · refine own_go (g' := (mkF m 4 #[.val (.ref af), .val (.ref ah), .val (.int fi), .val (.long un), .second, .val (.long ct), .second] [])) (fun _ k => XS.ifNo X0.here hx rfl (hb hby d22_1) rfl (XT.i0_le_f c0) k) ?_
    have hF0 : 0 < F := own_pos' hF c0
    refine own_go (g' := (mkF m 5 #[.val (.ref af), .val (.ref ah), .val (.int fi), .val (.long un), .second, .val (.long ct), .second] [(.ref af)])) (fun _ k => XS.aloadN X0.here hx rfl (hb hby d22_4) rfl rfl k) ?_
    refine own_go (g' := (mkF m 6 #[.val (.ref af), .val (.ref ah), .val (.int fi), .val (.long un), .second, .val (.long ct), .second] [(.int fi), (.ref af)])) (fun _ k => XS.iloadN X0.here hx rfl (hb hby d22_5) rfl k) ?_
    refine own_go (g' := (mkF m 7 #[.val (.ref af), .val (.ref ah), .val (.int fi), .val (.long un), .second, .val (.long ct), .second] [(.int (1 : Int32)), (.int fi), (.ref af)])) (fun _ k => XS.iconst X0.here hx rfl (hb hby d22_6) k) ?_
    refine own_go (g' := (mkF m 8 #[.val (.ref af), .val (.ref ah), .val (.int fi), .val (.long un), .second, .val (.long ct), .second] [(.int (fi - (1 : Int32))), (.ref af)])) (fun _ k => XS.isub X0.here hx rfl (hb hby d22_7) rfl k) ?_
    refine own_laload X0 hx hZ e0 Fa (F - 1) (own_sub1 hF (by omega) (by omega)) (by omega) (hb hby d22_8) ?_
    show own_Go p e below _ T0 (mkF m 9 #[.val (.ref af), .val (.ref ah), .val (.int fi), .val (.long un), .second, .val (.long ct), .second] [(.long (f (F - 1)))])
    refine own_go (g' := (mkF m 10 #[.val (.ref af), .val (.ref ah), .val (.int fi), .val (.long un), .second, .val (.long ct), .second] [(.long un), (.long (f (F - 1)))])) (fun _ k => XT.lloadN X0.here hx rfl (hb hby d22_9) rfl k) ?_
    refine own_go (g' := (mkF m 11 #[.val (.ref af), .val (.ref ah), .val (.int fi), .val (.long un), .second, .val (.long ct), .second] [(.int (XT.cmpL (f (F - 1)) un))])) (fun _ k => XT.lcmp X0.here hx rfl (hb hby d22_10) rfl k) ?_
    by_cases ce : (f (F - 1)) = un
    · refine own_go (g' := (mkF m 14 #[.val (.ref af), .val (.ref ah), .val (.int fi), .val (.long un), .second, .val (.long ct), .second] [])) (fun _ k => XS.ifNo X0.here hx rfl (hb hby d22_11) rfl (XT.ll_ne_f ce) k) ?_
      refine own_go (g' := (mkF m 15 #[.val (.ref af), .val (.ref ah), .val (.int fi), .val (.long un), .second, .val (.long ct), .second] [(.ref ah)])) (fun _ k => XS.aloadN X0.here hx rfl (hb hby d22_14) rfl rfl k) ?_
      refine own_go (g' := (mkF m 16 #[.val (.ref af), .val (.ref ah), .val (.int fi), .val (.long un), .second, .val (.long ct), .second] [(.int fi), (.ref ah)])) (fun _ k => XS.iloadN X0.here hx rfl (hb hby d22_15) rfl k) ?_
      refine own_go (g' := (mkF m 17 #[.val (.ref af), .val (.ref ah), .val (.int fi), .val (.long un), .second, .val (.long ct), .second] [(.int (1 : Int32)), (.int fi), (.ref ah)])) (fun _ k => XS.iconst X0.here hx rfl (hb hby d22_16) k) ?_
      refine own_go (g' := (mkF m 18 #[.val (.ref af), .val (.ref ah), .val (.int fi), .val (.long un), .second, .val (.long ct), .second] [(.int (fi - (1 : Int32))), (.ref ah)])) (fun _ k => XS.isub X0.here hx rfl (hb hby d22_17) rfl k) ?_
      refine own_go (g' := (mkF m 19 #[.val (.ref af), .val (.ref ah), .val (.int fi), .val (.long un), .second, .val (.long ct), .second] [(.int (fi - (1 : Int32))), (.ref ah), (.int (fi - (1 : Int32))), (.ref ah)])) (fun _ k => XT.dup2 X0.here hx rfl (hb hby d22_18) rfl rfl rfl k) ?_
      refine own_laload X0 hx hZ e0 Fh (F - 1) (own_sub1 hF (by omega) (by omega)) (by omega) (hb hby d22_19) ?_
      show own_Go p e below _ T0 (mkF m 20 #[.val (.ref af), .val (.ref ah), .val (.int fi), .val (.long un), .second, .val (.long ct), .second] [(.long (g (F - 1))), (.int (fi - (1 : Int32))), (.ref ah)])
      refine own_go (g' := (mkF m 22 #[.val (.ref af), .val (.ref ah), .val (.int fi), .val (.long un), .second, .val (.long ct), .second] [(.long ct), (.long (g (F - 1))), (.int (fi - (1 : Int32))), (.ref ah)])) (fun _ k => XT.lload X0.here hx rfl (hb hby d22_20) rfl k) ?_
      refine own_go (g' := (mkF m 23 #[.val (.ref af), .val (.ref ah), .val (.int fi), .val (.long un), .second, .val (.long ct), .second] [(.long ((g (F - 1)) + ct)), (.int (fi - (1 : Int32))), (.ref ah)])) (fun _ k => XT.ladd X0.here hx rfl (hb hby d22_22) rfl k) ?_
      refine own_lastore X0 hx hZ e0 Fh (F - 1) (own_sub1 hF (by omega) (by omega)) (by omega) (hb hby d22_23) ?_
      intro T278 h278 X278 e278 W278
      have A278 : own_Al Z h278 ah 16 (own_upl g (F - 1) ((g (F - 1)) + ct)) := own_Al_set (f := g) Fh W278
      have K278 := K0.wr W278 (Or.inl (List.mem_of_getElem? (i := 1) rfl))
      have N278 := Fr.snoc X278 N0 gh
      show own_Go p e below _ T278 (mkF m 24 #[.val (.ref af), .val (.ref ah), .val (.int fi), .val (.long un), .second, .val (.long ct), .second] [])
      refine own_go (g' := (mkF m 36 #[.val (.ref af), .val (.ref ah), .val (.int fi), .val (.long un), .second, .val (.long ct), .second] [])) (fun _ k => XS.goto X278.here hx rfl (pc0 := 24) (pc' := 36) rfl (hb hby d22_24) (by decide) (by decide) k) ?_
      have hc : 0 < F ∧ f (F - 1) = un := ⟨hF0, ce⟩
      have f279 := (own_Ar_other Fa W278 hne)
      exact own_ret0 X278 hx hlk hret e278 (hb hby d22_36) ⟨rfl, N278, K278, by rw [own_ff, if_pos hc]; exact f279, by rw [own_fg, if_pos hc]; exact A278⟩ (by decide) (by decide)
    · refine own_go (g' := (mkF m 27 #[.val (.ref af), .val (.ref ah), .val (.int fi), .val (.long un), .second, .val (.long ct), .second] [])) (fun _ k => XS.ifYes X0.here hx rfl (pc0 := 11) (pc' := 27) rfl (hb hby d22_11) rfl (XT.ll_ne_t ce) (by decide) (by decide) k) ?_
      refine own_go (g' := (mkF m 28 #[.val (.ref af), .val (.ref ah), .val (.int fi), .val (.long un), .second, .val (.long ct), .second] [(.ref af)])) (fun _ k => XS.aloadN X0.here hx rfl (hb hby d22_27) rfl rfl k) ?_
      refine own_go (g' := (mkF m 29 #[.val (.ref af), .val (.ref ah), .val (.int fi), .val (.long un), .second, .val (.long ct), .second] [(.int fi), (.ref af)])) (fun _ k => XS.iloadN X0.here hx rfl (hb hby d22_28) rfl k) ?_
      refine own_go (g' := (mkF m 30 #[.val (.ref af), .val (.ref ah), .val (.int fi), .val (.long un), .second, .val (.long ct), .second] [(.long un), (.int fi), (.ref af)])) (fun _ k => XT.lloadN X0.here hx rfl (hb hby d22_29) rfl k) ?_
      refine own_lastore X0 hx hZ e0 Fa F hF (by omega) (hb hby d22_30) ?_
      intro T274 h274 X274 e274 W274
      have A274 : own_Al Z h274 af 16 (own_upl f F un) := own_Al_set (f := f) Fa W274
      have K274 := K0.wr W274 (Or.inl (List.mem_of_getElem? (i := 0) rfl))
      have N274 := Fr.snoc X274 N0 gf
      show own_Go p e below _ T274 (mkF m 31 #[.val (.ref af), .val (.ref ah), .val (.int fi), .val (.long un), .second, .val (.long ct), .second] [])
      refine own_go (g' := (mkF m 32 #[.val (.ref af), .val (.ref ah), .val (.int fi), .val (.long un), .second, .val (.long ct), .second] [(.ref ah)])) (fun _ k => XS.aloadN X274.here hx rfl (hb hby d22_31) rfl rfl k) ?_
      refine own_go (g' := (mkF m 33 #[.val (.ref af), .val (.ref ah), .val (.int fi), .val (.long un), .second, .val (.long ct), .second] [(.int fi), (.ref ah)])) (fun _ k => XS.iloadN X274.here hx rfl (hb hby d22_32) rfl k) ?_
      refine own_go (g' := (mkF m 35 #[.val (.ref af), .val (.ref ah), .val (.int fi), .val (.long un), .second, .val (.long ct), .second] [(.long ct), (.int fi), (.ref ah)])) (fun _ k => XT.lload X274.here hx rfl (hb hby d22_33) rfl k) ?_
      have f275 := (own_Ar_other Fh W274 (Ne.symm hne))
      refine own_lastore X274 hx hZ e274 f275 F hF (by omega) (hb hby d22_35) ?_
      intro T276 h276 X276 e276 W276
      have A276 : own_Al Z h276 ah 16 (own_upl g F ct) := own_Al_set (f := g) f275 W276
      have K276 := K274.wr W276 (Or.inl (List.mem_of_getElem? (i := 1) rfl))
      have N276 := Fr.snoc X276 N274 gh
      show own_Go p e below _ T276 (mkF m 36 #[.val (.ref af), .val (.ref ah), .val (.int fi), .val (.long un), .second, .val (.long ct), .second] [])
      have hc : ¬ (0 < F ∧ f (F - 1) = un) := fun q => ce q.2
      have f277 := (own_Ar_other A274 W276 hne)
      exact own_ret0 X276 hx hlk hret e276 (hb hby d22_36) ⟨rfl, N276, K276, by rw [own_ff, if_neg hc]; exact f277, by rw [own_fg, if_neg hc]; exact A276⟩ (by decide) (by decide)
  · refine own_go (g' := (mkF m 27 #[.val (.ref af), .val (.ref ah), .val (.int fi), .val (.long un), .second, .val (.long ct), .second] [])) (fun _ k => XS.ifYes X0.here hx rfl (pc0 := 1) (pc' := 27) rfl (hb hby d22_1) rfl (XT.i0_le_t c0) (by decide) (by decide) k) ?_
    refine own_go (g' := (mkF m 28 #[.val (.ref af), .val (.ref ah), .val (.int fi), .val (.long un), .second, .val (.long ct), .second] [(.ref af)])) (fun _ k => XS.aloadN X0.here hx rfl (hb hby d22_27) rfl rfl k) ?_
    refine own_go (g' := (mkF m 29 #[.val (.ref af), .val (.ref ah), .val (.int fi), .val (.long un), .second, .val (.long ct), .second] [(.int fi), (.ref af)])) (fun _ k => XS.iloadN X0.here hx rfl (hb hby d22_28) rfl k) ?_
    refine own_go (g' := (mkF m 30 #[.val (.ref af), .val (.ref ah), .val (.int fi), .val (.long un), .second, .val (.long ct), .second] [(.long un), (.int fi), (.ref af)])) (fun _ k => XT.lloadN X0.here hx rfl (hb hby d22_29) rfl k) ?_
    refine own_lastore X0 hx hZ e0 Fa F hF (by omega) (hb hby d22_30) ?_
    intro T270 h270 X270 e270 W270
    have A270 : own_Al Z h270 af 16 (own_upl f F un) := own_Al_set (f := f) Fa W270
    have K270 := K0.wr W270 (Or.inl (List.mem_of_getElem? (i := 0) rfl))
    have N270 := Fr.snoc X270 N0 gf
    show own_Go p e below _ T270 (mkF m 31 #[.val (.ref af), .val (.ref ah), .val (.int fi), .val (.long un), .second, .val (.long ct), .second] [])
    refine own_go (g' := (mkF m 32 #[.val (.ref af), .val (.ref ah), .val (.int fi), .val (.long un), .second, .val (.long ct), .second] [(.ref ah)])) (fun _ k => XS.aloadN X270.here hx rfl (hb hby d22_31) rfl rfl k) ?_
    refine own_go (g' := (mkF m 33 #[.val (.ref af), .val (.ref ah), .val (.int fi), .val (.long un), .second, .val (.long ct), .second] [(.int fi), (.ref ah)])) (fun _ k => XS.iloadN X270.here hx rfl (hb hby d22_32) rfl k) ?_
    refine own_go (g' := (mkF m 35 #[.val (.ref af), .val (.ref ah), .val (.int fi), .val (.long un), .second, .val (.long ct), .second] [(.long ct), (.int fi), (.ref ah)])) (fun _ k => XT.lload X270.here hx rfl (hb hby d22_33) rfl k) ?_
    have f271 := (own_Ar_other Fh W270 (Ne.symm hne))
    refine own_lastore X270 hx hZ e270 f271 F hF (by omega) (hb hby d22_35) ?_
    intro T272 h272 X272 e272 W272
    have A272 : own_Al Z h272 ah 16 (own_upl g F ct) := own_Al_set (f := g) f271 W272
    have K272 := K270.wr W272 (Or.inl (List.mem_of_getElem? (i := 1) rfl))
    have N272 := Fr.snoc X272 N270 gh
    show own_Go p e below _ T272 (mkF m 36 #[.val (.ref af), .val (.ref ah), .val (.int fi), .val (.long un), .second, .val (.long ct), .second] [])
    have hc : ¬ (0 < F ∧ f (F - 1) = un) := fun q => c0 (own_pos hF q.1)
    have f273 := (own_Ar_other A270 W272 hne)
    exact own_ret0 X272 hx hlk hret e272 (hb hby d22_36) ⟨rfl, N272, K272, by rw [own_ff, if_neg hc]; exact f273, by rw [own_fg, if_neg hc]; exact A272⟩ (by decide) (by decide)
set_option maxRecDepth 65536 in
set_option maxHeartbeats 40000000 in
theorem own_rmCF (l : Launch) (Z : State) (a0 : Array Value) (hw : ∀ d ∈ tables_1, d.before a0 Z = true) (ws : List Jvm.Cond) (af ah : Addr) (fi : Int32) (hn : Int64) (g : Nat → Int64) (F : Nat) (h0 : Heap) (n0 : Nat) (gh : n0 ≤ ah) (Fh : own_Al Z h0 ah 16 g) (hF : fi.toInt = (F : Int)) (hF16 : F ≤ 16) :
    own_Met l (⟨"com/example/gangplank/gangplank/space/HeldFromNow", "countsFrom", "([J[JIJ)V"⟩ : MethodName) prog_214_method_11_code 8 none ws ({ frames := 0, cells := 0, slots := 0, locals := 0 } : Room) Z #[(.ref af), (.ref ah), (.int fi), (.long hn)] h0 (own_QCF Z ah (own_cf g hn F) h0 n0) := by
  refine own_enter (plainFor_of_name pn_11) ?_
  intro p e s m below meth c T0 X0 hx hby hml hZ hown e0 hret hlk hnm
  have hown : s.vm.findClass "com/example/gangplank/gangplank/space/HeldFromNow" = some m.cls := hown
  have hml : c.maxLocals = 8 := hml
  have N0 := Fr.nil n0
  refine own_start (ef_11 m af ah fi hn) ?_
  show own_Go p e below _ T0 (mkF m 0 #[.val (.ref af), .val (.ref ah), .val (.int fi), .val (.long hn), .second, .unset, .unset, .unset] [])
  refine own_go (g' := (mkF m 1 #[.val (.ref af), .val (.ref ah), .val (.int fi), .val (.long hn), .second, .unset, .unset, .unset] [(.long (0 : Int64))])) (fun _ k => XT.lconst X0.here hx rfl (hb hby d11_0) k) ?_
  refine own_go (g' := (mkF m 3 #[.val (.ref af), .val (.ref ah), .val (.int fi), .val (.long hn), .second, .val (.long (0 : Int64)), .second, .unset] [])) (fun _ k => XT.lstore X0.here hx rfl (hb hby d11_1) rfl (l' := #[.val (.ref af), .val (.ref ah), .val (.int fi), .val (.long hn), .second, .val (.long (0 : Int64)), .second, .unset]) rfl k) ?_
  refine own_go (g' := (mkF m 4 #[.val (.ref af), .val (.ref ah), .val (.int fi), .val (.long hn), .second, .val (.long (0 : Int64)), .second, .unset] [(.int (0 : Int32))])) (fun _ k => XS.iconst X0.here hx rfl (hb hby d11_3) k) ?_
  refine own_go (g' := (mkF m 6 #[.val (.ref af), .val (.ref ah), .val (.int fi), .val (.long hn), .second, .val (.long (0 : Int64)), .second, .val (.int (0 : Int32))] [])) (fun _ k => XS.istore X0.here hx rfl (hb hby d11_4) rfl (l' := #[.val (.ref af), .val (.ref ah), .val (.int fi), .val (.long hn), .second, .val (.long (0 : Int64)), .second, .val (.int (0 : Int32))]) rfl k) ?_
  suffices loop : ∀ (d i : Nat) (iv : Int32) T' h' lo, Stand p l e ({ frames := 0, cells := 0, slots := 0, locals := 0 } : Room) s m #[(.ref af), (.ref ah), (.int fi), (.long hn)] below meth c T' lo 0 0 → T'.heap = h' → Fr n0 lo → Keep h0 h' [ah] → own_Al Z h' ah 16 (own_cf g hn i) → i + d = F → iv.toInt = (i : Int) → own_Go p e below (own_Po s (own_QCF Z ah (own_cf g hn F) h0 n0) 0 0) T' (mkF m 6 #[.val (.ref af), .val (.ref ah), .val (.int fi), .val (.long hn), .second, .val (.long (own_S g i)), .second, .val (.int iv)] []) by
    exact loop F 0 0 _ _ _ X0 e0 N0 (Keep.refl h0 [ah]) (by rw [own_cf_0]; exact Fh) (by omega) rfl
  intro d
  induction d with
  | zero =>
    intro i iv T1 h1 lo X1 e1 N1 K1 F1 hid hiv
    refine own_go (g' := (mkF m 8 #[.val (.ref af), .val (.ref ah), .val (.int fi), .val (.long hn), .second, .val (.long (own_S g i)), .second, .val (.int iv)] [(.int iv)])) (fun _ k => XS.iload X1.here hx rfl (hb hby d11_6) rfl k) ?_
    refine own_go (g' := (mkF m 9 #[.val (.ref af), .val (.ref ah), .val (.int fi), .val (.long hn), .second, .val (.long (own_S g i)), .second, .val (.int iv)] [(.int fi), (.int iv)])) (fun _ k => XS.iloadN X1.here hx rfl (hb hby d11_8) rfl k) ?_
    refine own_go (g' := (mkF m 35 #[.val (.ref af), .val (.ref ah), .val (.int fi), .val (.long hn), .second, .val (.long (own_S g i)), .second, .val (.int iv)] [])) (fun _ k => XS.icmpYes X1.here hx rfl (pc0 := 9) (pc' := 35) rfl (hb hby d11_9) rfl (XT.ii_ge_t (by rw [Int32.lt_iff_toInt_lt, hiv, hF]; omega)) (by decide) (by decide) k) ?_
    obtain rfl : i = F := by omega
    exact own_ret0 X1 hx hlk hret e1 (hb hby d11_35) ⟨rfl, N1, K1, F1⟩ (by decide) (by decide)
  | succ d ih =>
    intro i iv T1 h1 lo X1 e1 N1 K1 F1 hid hiv
    refine own_go (g' := (mkF m 8 #[.val (.ref af), .val (.ref ah), .val (.int fi), .val (.long hn), .second, .val (.long (own_S g i)), .second, .val (.int iv)] [(.int iv)])) (fun _ k => XS.iload X1.here hx rfl (hb hby d11_6) rfl k) ?_
    refine own_go (g' := (mkF m 9 #[.val (.ref af), .val (.ref ah), .val (.int fi), .val (.long hn), .second, .val (.long (own_S g i)), .second, .val (.int iv)] [(.int fi), (.int iv)])) (fun _ k => XS.iloadN X1.here hx rfl (hb hby d11_8) rfl k) ?_
    refine own_go (g' := (mkF m 12 #[.val (.ref af), .val (.ref ah), .val (.int fi), .val (.long hn), .second, .val (.long (own_S g i)), .second, .val (.int iv)] [])) (fun _ k => XS.icmpNo X1.here hx rfl (hb hby d11_9) rfl (XT.ii_ge_f (by rw [Int32.lt_iff_toInt_lt, hiv, hF]; omega)) k) ?_
    refine own_go (g' := (mkF m 14 #[.val (.ref af), .val (.ref ah), .val (.int fi), .val (.long hn), .second, .val (.long (own_S g i)), .second, .val (.int iv)] [(.long (own_S g i))])) (fun _ k => XT.lload X1.here hx rfl (hb hby d11_12) rfl k) ?_
    refine own_go (g' := (mkF m 15 #[.val (.ref af), .val (.ref ah), .val (.int fi), .val (.long hn), .second, .val (.long (own_S g i)), .second, .val (.int iv)] [(.ref ah), (.long (own_S g i))])) (fun _ k => XS.aloadN X1.here hx rfl (hb hby d11_14) rfl rfl k) ?_
    refine own_go (g' := (mkF m 17 #[.val (.ref af), .val (.ref ah), .val (.int fi), .val (.long hn), .second, .val (.long (own_S g i)), .second, .val (.int iv)] [(.int iv), (.ref ah), (.long (own_S g i))])) (fun _ k => XS.iload X1.here hx rfl (hb hby d11_15) rfl k) ?_
    refine own_laload X1 hx hZ e1 F1 i hiv (by omega) (hb hby d11_17) ?_
    rw [own_cf_at]
    show own_Go p e below _ T1 (mkF m 18 #[.val (.ref af), .val (.ref ah), .val (.int fi), .val (.long hn), .second, .val (.long (own_S g i)), .second, .val (.int iv)] [(.long (g i)), (.long (own_S g i))])
    refine own_go (g' := (mkF m 19 #[.val (.ref af), .val (.ref ah), .val (.int fi), .val (.long hn), .second, .val (.long (own_S g i)), .second, .val (.int iv)] [(.long ((own_S g i) + (g i)))])) (fun _ k => XT.ladd X1.here hx rfl (hb hby d11_18) rfl k) ?_
    refine own_go (g' := (mkF m 21 #[.val (.ref af), .val (.ref ah), .val (.int fi), .val (.long hn), .second, .val (.long ((own_S g i) + (g i))), .second, .val (.int iv)] [])) (fun _ k => XT.lstore X1.here hx rfl (hb hby d11_19) rfl (l' := #[.val (.ref af), .val (.ref ah), .val (.int fi), .val (.long hn), .second, .val (.long ((own_S g i) + (g i))), .second, .val (.int iv)]) rfl k) ?_
    show own_Go p e below _ T1 (mkF m 21 #[.val (.ref af), .val (.ref ah), .val (.int fi), .val (.long hn), .second, .val (.long (own_S g (i + 1))), .second, .val (.int iv)] [])
    refine own_go (g' := (mkF m 22 #[.val (.ref af), .val (.ref ah), .val (.int fi), .val (.long hn), .second, .val (.long (own_S g (i + 1))), .second, .val (.int iv)] [(.ref ah)])) (fun _ k => XS.aloadN X1.here hx rfl (hb hby d11_21) rfl rfl k) ?_
    refine own_go (g' := (mkF m 24 #[.val (.ref af), .val (.ref ah), .val (.int fi), .val (.long hn), .second, .val (.long (own_S g (i + 1))), .second, .val (.int iv)] [(.int iv), (.ref ah)])) (fun _ k => XS.iload X1.here hx rfl (hb hby d11_22) rfl k) ?_
    refine own_go (g' := (mkF m 25 #[.val (.ref af), .val (.ref ah), .val (.int fi), .val (.long hn), .second, .val (.long (own_S g (i + 1))), .second, .val (.int iv)] [(.long hn), (.int iv), (.ref ah)])) (fun _ k => XT.lloadN X1.here hx rfl (hb hby d11_24) rfl k) ?_
    refine own_go (g' := (mkF m 27 #[.val (.ref af), .val (.ref ah), .val (.int fi), .val (.long hn), .second, .val (.long (own_S g (i + 1))), .second, .val (.int iv)] [(.long (own_S g (i + 1))), (.long hn), (.int iv), (.ref ah)])) (fun _ k => XT.lload X1.here hx rfl (hb hby d11_25) rfl k) ?_
    refine own_go (g' := (mkF m 28 #[.val (.ref af), .val (.ref ah), .val (.int fi), .val (.long hn), .second, .val (.long (own_S g (i + 1))), .second, .val (.int iv)] [(.long (hn - (own_S g (i + 1)))), (.int iv), (.ref ah)])) (fun _ k => XT.lsub X1.here hx rfl (hb hby d11_27) rfl k) ?_
    refine own_lastore X1 hx hZ e1 F1 i hiv (by omega) (hb hby d11_28) ?_
    intro T280 h280 X280 e280 W280
    have A280 : own_Al Z h280 ah 16 (own_upl (own_cf g hn i) i (hn - (own_S g (i + 1)))) := own_Al_set (f := (own_cf g hn i)) F1 W280
    have K280 := K1.wr W280 (Or.inl (List.mem_of_getElem? (i := 0) rfl))
    have N280 := Fr.snoc X280 N1 gh
    show own_Go p e below _ T280 (mkF m 29 #[.val (.ref af), .val (.ref ah), .val (.int fi), .val (.long hn), .second, .val (.long (own_S g (i + 1))), .second, .val (.int iv)] [])
    refine own_go (g' := (mkF m 32 #[.val (.ref af), .val (.ref ah), .val (.int fi), .val (.long hn), .second, .val (.long (own_S g (i + 1))), .second, .val (.int (iv + (1 : Int32)))] [])) (fun _ k => XS.iinc X280.here hx rfl (hb hby d11_29) rfl (l' := #[.val (.ref af), .val (.ref ah), .val (.int fi), .val (.long hn), .second, .val (.long (own_S g (i + 1))), .second, .val (.int (iv + (1 : Int32)))]) rfl k) ?_
    refine own_go (g' := (mkF m 6 #[.val (.ref af), .val (.ref ah), .val (.int fi), .val (.long hn), .second, .val (.long (own_S g (i + 1))), .second, .val (.int (iv + (1 : Int32)))] [])) (fun _ k => XS.goto X280.here hx rfl (pc0 := 32) (pc' := 6) rfl (hb hby d11_32) (by decide) (by decide) k) ?_
    exact ih (i + 1) _ _ _ _ X280 e280 N280 K280 (by rw [← own_cf_step]; exact A280) (by omega) (own_inc hiv (by omega))
set_option maxRecDepth 65536 in
set_option maxHeartbeats 40000000 in
theorem own_rmOS (l : Launch) (Z : State) (a0 : Array Value) (hw : ∀ d ∈ tables_1, d.before a0 Z = true) (ws : List Jvm.Cond) (a : Addr) (au ac ao af ah ai aj : Addr) (so fl : Int32) (nw hn : Int64) (fI : Nat → Int32) (fJ : Nat → Int64) (h0 : Heap) (n0 : Nat) (gq : n0 ≤ aj) (B0 : own_Ob Z h0 a "com/example/gangplank/gangplank/space/HeldFromNow" own_fs1 (own_gH au ac ao af ah ai aj so (3 : Int32) fl 15 nw hn)) (Fi : own_Ai Z h0 ai .int 16 fI) (Fj : own_Al Z h0 aj 16 fJ) (hxx : fI 0 = -1 ∨ fI 0 = 0) :
    own_Met l (⟨"com/example/gangplank/gangplank/space/HeldFromNow", "ownerSlot", "(I)I"⟩ : MethodName) prog_214_method_7_code 3 (some .int) ws ({ frames := 0, cells := 0, slots := 0, locals := 0 } : Room) Z #[(.ref a), (.int (0 : Int32))] h0 (own_QOS Z aj h0 n0) := by
  refine own_enter (plainFor_of_name pn_19) ?_
  intro p e s m below meth c T0 X0 hx hby hml hZ hown e0 hret hlk hnm
  have hown : s.vm.findClass "com/example/gangplank/gangplank/space/HeldFromNow" = some m.cls := hown
  have hml : c.maxLocals = 3 := hml
  have N0 := Fr.nil n0
  refine own_start (ef_19 m a (0 : Int32)) ?_
  show own_Go p e below _ T0 (mkF m 0 #[.val (.ref a), .val (.int (0 : Int32)), .unset] [])
  have K0 := Keep.refl h0 [aj]
  refine own_go (g' := (mkF m 1 #[.val (.ref a), .val (.int (0 : Int32)), .unset] [(.int (0 : Int32))])) (fun _ k => XS.iloadN X0.here hx rfl (hb hby d19_0) rfl k) ?_
  refine own_go (g' := (mkF m 2 #[.val (.ref a), .val (.int (0 : Int32)), .unset] [(.long (((0 : Int32)).toInt64))])) (fun _ k => XT.i2l X0.here hx rfl (hb hby d19_1) rfl k) ?_
  refine own_go (g' := (mkF m 5 #[.val (.ref a), .val (.int (0 : Int32)), .unset] [(.long (-7046029254386353131 : Int64)), (.long (((0 : Int32)).toInt64))])) (fun _ k => X0.ldc2Long hx hown (mvT hZ (hw _ (List.mem_of_getElem? (i := 131) rfl))) (g := (mkF m 2 #[.val (.ref a), .val (.int (0 : Int32)), .unset] [(.long (((0 : Int32)).toInt64))])) rfl (hb hby d19_2) _ k) ?_
  refine own_go (g' := (mkF m 6 #[.val (.ref a), .val (.int (0 : Int32)), .unset] [(.long ((((0 : Int32)).toInt64) * (-7046029254386353131 : Int64)))])) (fun _ k => XT.lmul X0.here hx rfl (hb hby d19_5) rfl k) ?_
  refine own_go (g' := (mkF m 8 #[.val (.ref a), .val (.int (0 : Int32)), .unset] [(.int (40 : Int32)), (.long ((((0 : Int32)).toInt64) * (-7046029254386353131 : Int64)))])) (fun _ k => XS.bipush X0.here hx rfl (hb hby d19_6) k) ?_
  refine own_go (g' := (mkF m 9 #[.val (.ref a), .val (.int (0 : Int32)), .unset] [(.long (XT.ushrL ((((0 : Int32)).toInt64) * (-7046029254386353131 : Int64)) (40 : Int32)))])) (fun _ k => XT.lushr X0.here hx rfl (hb hby d19_8) rfl k) ?_
  refine own_go (g' := (mkF m 10 #[.val (.ref a), .val (.int (0 : Int32)), .unset] [(.int (((XT.ushrL ((((0 : Int32)).toInt64) * (-7046029254386353131 : Int64)) (40 : Int32))).toInt32))])) (fun _ k => XT.l2i X0.here hx rfl (hb hby d19_9) rfl k) ?_
  refine own_go (g' := (mkF m 11 #[.val (.ref a), .val (.int (0 : Int32)), .unset] [(.ref a), (.int (((XT.ushrL ((((0 : Int32)).toInt64) * (-7046029254386353131 : Int64)) (40 : Int32))).toInt32))])) (fun _ k => XS.aloadN X0.here hx rfl (hb hby d19_10) rfl rfl k) ?_
  refine own_getF X0 hx hZ (host := "") hown e0 (Or.inl (hw _ (List.mem_of_getElem? (i := 113) rfl))) Via.refl (own_Ob_fld B0 12 rfl) (hb hby d19_11) ?_
  intro T281 X281 e281
  show own_Go p e below _ T281 (mkF m 14 #[.val (.ref a), .val (.int (0 : Int32)), .unset] [(.int (15 : Int32)), (.int (((XT.ushrL ((((0 : Int32)).toInt64) * (-7046029254386353131 : Int64)) (40 : Int32))).toInt32))])
  refine own_go (g' := (mkF m 15 #[.val (.ref a), .val (.int (0 : Int32)), .unset] [(.int ((((XT.ushrL ((((0 : Int32)).toInt64) * (-7046029254386353131 : Int64)) (40 : Int32))).toInt32) &&& (15 : Int32)))])) (fun _ k => XS.iand X281.here hx rfl (hb hby d19_14) rfl k) ?_
  refine own_go (g' := (mkF m 16 #[.val (.ref a), .val (.int (0 : Int32)), .val (.int ((((XT.ushrL ((((0 : Int32)).toInt64) * (-7046029254386353131 : Int64)) (40 : Int32))).toInt32) &&& (15 : Int32)))] [])) (fun _ k => XS.istoreN X281.here hx rfl (hb hby d19_15) rfl (l' := #[.val (.ref a), .val (.int (0 : Int32)), .val (.int ((((XT.ushrL ((((0 : Int32)).toInt64) * (-7046029254386353131 : Int64)) (40 : Int32))).toInt32) &&& (15 : Int32)))]) rfl k) ?_
  show own_Go p e below _ T281 (mkF m 16 #[.val (.ref a), .val (.int (0 : Int32)), .val (.int (0 : Int32))] [])
  refine own_go (g' := (mkF m 17 #[.val (.ref a), .val (.int (0 : Int32)), .val (.int (0 : Int32))] [(.ref a)])) (fun _ k => XS.aloadN X281.here hx rfl (hb hby d19_16) rfl rfl k) ?_
  refine own_getF X281 hx hZ (host := "") hown e281 (Or.inl (hw _ (List.mem_of_getElem? (i := 61) rfl))) Via.refl (own_Ob_fld B0 6 rfl) (hb hby d19_17) ?_
  intro T282 X282 e282
  show own_Go p e below _ T282 (mkF m 20 #[.val (.ref a), .val (.int (0 : Int32)), .val (.int (0 : Int32))] [(.ref ai)])
  refine own_go (g' := (mkF m 21 #[.val (.ref a), .val (.int (0 : Int32)), .val (.int (0 : Int32))] [(.int (0 : Int32)), (.ref ai)])) (fun _ k => XS.iloadN X282.here hx rfl (hb hby d19_20) rfl k) ?_
  refine own_iaload X282 hx hZ e282 Fi 0 (by decide) (by decide) (hb hby d19_21) ?_
  show own_Go p e below _ T282 (mkF m 22 #[.val (.ref a), .val (.int (0 : Int32)), .val (.int (0 : Int32))] [(.int (fI 0))])
  refine own_go (g' := (mkF m 23 #[.val (.ref a), .val (.int (0 : Int32)), .val (.int (0 : Int32))] [(.int (0 : Int32)), (.int (fI 0))])) (fun _ k => XS.iloadN X282.here hx rfl (hb hby d19_22) rfl k) ?_
  by_cases cz : (fI 0) = (0 : Int32)
  · refine own_go (g' := (mkF m 48 #[.val (.ref a), .val (.int (0 : Int32)), .val (.int (0 : Int32))] [])) (fun _ k => XS.icmpYes X282.here hx rfl (pc0 := 23) (pc' := 48) rfl (hb hby d19_23) rfl (XT.ii_eq_t cz) (by decide) (by decide) k) ?_
    refine own_go (g' := (mkF m 49 #[.val (.ref a), .val (.int (0 : Int32)), .val (.int (0 : Int32))] [(.ref a)])) (fun _ k => XS.aloadN X282.here hx rfl (hb hby d19_48) rfl rfl k) ?_
    refine own_getF X282 hx hZ (host := "") hown e282 (Or.inl (hw _ (List.mem_of_getElem? (i := 61) rfl))) Via.refl (own_Ob_fld B0 6 rfl) (hb hby d19_49) ?_
    intro T283 X283 e283
    show own_Go p e below _ T283 (mkF m 52 #[.val (.ref a), .val (.int (0 : Int32)), .val (.int (0 : Int32))] [(.ref ai)])
    refine own_go (g' := (mkF m 53 #[.val (.ref a), .val (.int (0 : Int32)), .val (.int (0 : Int32))] [(.int (0 : Int32)), (.ref ai)])) (fun _ k => XS.iloadN X283.here hx rfl (hb hby d19_52) rfl k) ?_
    refine own_iaload X283 hx hZ e283 Fi 0 (by decide) (by decide) (hb hby d19_53) ?_
    show own_Go p e below _ T283 (mkF m 54 #[.val (.ref a), .val (.int (0 : Int32)), .val (.int (0 : Int32))] [(.int (fI 0))])
    refine own_go (g' := (mkF m 55 #[.val (.ref a), .val (.int (0 : Int32)), .val (.int (0 : Int32))] [(.int (-1 : Int32)), (.int (fI 0))])) (fun _ k => XS.iconst X283.here hx rfl (hb hby d19_54) k) ?_
    refine own_go (g' := (mkF m 67 #[.val (.ref a), .val (.int (0 : Int32)), .val (.int (0 : Int32))] [])) (fun _ k => XS.icmpYes X283.here hx rfl (pc0 := 55) (pc' := 67) rfl (hb hby d19_55) rfl (XT.ii_ne_t (by rw [cz]; decide)) (by decide) (by decide) k) ?_
    refine own_go (g' := (mkF m 68 #[.val (.ref a), .val (.int (0 : Int32)), .val (.int (0 : Int32))] [(.int (0 : Int32))])) (fun _ k => XS.iloadN X283.here hx rfl (hb hby d19_67) rfl k) ?_
    exact own_retI X283 hx hlk hret e283 (hb hby d19_68) ⟨rfl, N0, K0, _, Fj⟩ (by decide) (by decide)
  · refine own_go (g' := (mkF m 26 #[.val (.ref a), .val (.int (0 : Int32)), .val (.int (0 : Int32))] [])) (fun _ k => XS.icmpNo X282.here hx rfl (hb hby d19_23) rfl (XT.ii_eq_f cz) k) ?_
    have hm : fI 0 = -1 := hxx.resolve_right cz
    refine own_go (g' := (mkF m 27 #[.val (.ref a), .val (.int (0 : Int32)), .val (.int (0 : Int32))] [(.ref a)])) (fun _ k => XS.aloadN X282.here hx rfl (hb hby d19_26) rfl rfl k) ?_
    refine own_getF X282 hx hZ (host := "") hown e282 (Or.inl (hw _ (List.mem_of_getElem? (i := 61) rfl))) Via.refl (own_Ob_fld B0 6 rfl) (hb hby d19_27) ?_
    intro T284 X284 e284
    show own_Go p e below _ T284 (mkF m 30 #[.val (.ref a), .val (.int (0 : Int32)), .val (.int (0 : Int32))] [(.ref ai)])
    refine own_go (g' := (mkF m 31 #[.val (.ref a), .val (.int (0 : Int32)), .val (.int (0 : Int32))] [(.int (0 : Int32)), (.ref ai)])) (fun _ k => XS.iloadN X284.here hx rfl (hb hby d19_30) rfl k) ?_
    refine own_iaload X284 hx hZ e284 Fi 0 (by decide) (by decide) (hb hby d19_31) ?_
    show own_Go p e below _ T284 (mkF m 32 #[.val (.ref a), .val (.int (0 : Int32)), .val (.int (0 : Int32))] [(.int (fI 0))])
    refine own_go (g' := (mkF m 33 #[.val (.ref a), .val (.int (0 : Int32)), .val (.int (0 : Int32))] [(.int (-1 : Int32)), (.int (fI 0))])) (fun _ k => XS.iconst X284.here hx rfl (hb hby d19_32) k) ?_
    refine own_go (g' := (mkF m 48 #[.val (.ref a), .val (.int (0 : Int32)), .val (.int (0 : Int32))] [])) (fun _ k => XS.icmpYes X284.here hx rfl (pc0 := 33) (pc' := 48) rfl (hb hby d19_33) rfl (XT.ii_eq_t hm) (by decide) (by decide) k) ?_
    refine own_go (g' := (mkF m 49 #[.val (.ref a), .val (.int (0 : Int32)), .val (.int (0 : Int32))] [(.ref a)])) (fun _ k => XS.aloadN X284.here hx rfl (hb hby d19_48) rfl rfl k) ?_
    refine own_getF X284 hx hZ (host := "") hown e284 (Or.inl (hw _ (List.mem_of_getElem? (i := 61) rfl))) Via.refl (own_Ob_fld B0 6 rfl) (hb hby d19_49) ?_
    intro T285 X285 e285
    show own_Go p e below _ T285 (mkF m 52 #[.val (.ref a), .val (.int (0 : Int32)), .val (.int (0 : Int32))] [(.ref ai)])
    refine own_go (g' := (mkF m 53 #[.val (.ref a), .val (.int (0 : Int32)), .val (.int (0 : Int32))] [(.int (0 : Int32)), (.ref ai)])) (fun _ k => XS.iloadN X285.here hx rfl (hb hby d19_52) rfl k) ?_
    refine own_iaload X285 hx hZ e285 Fi 0 (by decide) (by decide) (hb hby d19_53) ?_
    show own_Go p e below _ T285 (mkF m 54 #[.val (.ref a), .val (.int (0 : Int32)), .val (.int (0 : Int32))] [(.int (fI 0))])
    refine own_go (g' := (mkF m 55 #[.val (.ref a), .val (.int (0 : Int32)), .val (.int (0 : Int32))] [(.int (-1 : Int32)), (.int (fI 0))])) (fun _ k => XS.iconst X285.here hx rfl (hb hby d19_54) k) ?_
    refine own_go (g' := (mkF m 58 #[.val (.ref a), .val (.int (0 : Int32)), .val (.int (0 : Int32))] [])) (fun _ k => XS.icmpNo X285.here hx rfl (hb hby d19_55) rfl (XT.ii_ne_f hm) k) ?_
    refine own_go (g' := (mkF m 59 #[.val (.ref a), .val (.int (0 : Int32)), .val (.int (0 : Int32))] [(.ref a)])) (fun _ k => XS.aloadN X285.here hx rfl (hb hby d19_58) rfl rfl k) ?_
    refine own_getF X285 hx hZ (host := "") hown e285 (Or.inl (hw _ (List.mem_of_getElem? (i := 63) rfl))) Via.refl (own_Ob_fld B0 7 rfl) (hb hby d19_59) ?_
    intro T286 X286 e286
    show own_Go p e below _ T286 (mkF m 62 #[.val (.ref a), .val (.int (0 : Int32)), .val (.int (0 : Int32))] [(.ref aj)])
    refine own_go (g' := (mkF m 63 #[.val (.ref a), .val (.int (0 : Int32)), .val (.int (0 : Int32))] [(.int (0 : Int32)), (.ref aj)])) (fun _ k => XS.iloadN X286.here hx rfl (hb hby d19_62) rfl k) ?_
    refine own_go (g' := (mkF m 66 #[.val (.ref a), .val (.int (0 : Int32)), .val (.int (0 : Int32))] [(.long (-9223372036854775808 : Int64)), (.int (0 : Int32)), (.ref aj)])) (fun _ k => X286.ldc2Long hx hown (mvT hZ (hw _ (List.mem_of_getElem? (i := 132) rfl))) (g := (mkF m 63 #[.val (.ref a), .val (.int (0 : Int32)), .val (.int (0 : Int32))] [(.int (0 : Int32)), (.ref aj)])) rfl (hb hby d19_63) _ k) ?_
    refine own_lastore X286 hx hZ e286 Fj 0 (by decide) (by decide) (hb hby d19_66) ?_
    intro T287 h287 X287 e287 W287
    have A287 : own_Al Z h287 aj 16 (own_upl fJ 0 (-9223372036854775808 : Int64)) := own_Al_set (f := fJ) Fj W287
    have K287 := K0.wr W287 (Or.inl (List.mem_of_getElem? (i := 0) rfl))
    have N287 := Fr.snoc X287 N0 gq
    show own_Go p e below _ T287 (mkF m 67 #[.val (.ref a), .val (.int (0 : Int32)), .val (.int (0 : Int32))] [])
    refine own_go (g' := (mkF m 68 #[.val (.ref a), .val (.int (0 : Int32)), .val (.int (0 : Int32))] [(.int (0 : Int32))])) (fun _ k => XS.iloadN X287.here hx rfl (hb hby d19_67) rfl k) ?_
    exact own_retI X287 hx hlk hret e287 (hb hby d19_68) ⟨rfl, N287, K287, _, A287⟩ (by decide) (by decide)
set_option maxRecDepth 65536 in
set_option maxHeartbeats 40000000 in
theorem own_rmLO (l : Launch) (Z : State) (a0 : Array Value) (hw : ∀ d ∈ tables_1, d.before a0 Z = true) (ws : List Jvm.Cond) (a jb : Addr) (au ac ao af ah ai aj : Addr) (so fl om : Int32) (nw hn : Int64) (fu : Nat → Int64) (fo : Nat → Value) (gJ : Nat → Value) (h0 : Heap) (n0 : Nat) (Z0 : n0 ≤ h0.size) (HU : own_Up [jb, a, au, ac, ao, af, ah, ai, aj]) (gj : n0 ≤ jb) (B0 : own_Ob Z h0 a "com/example/gangplank/gangplank/space/HeldFromNow" own_fs1 (own_gH au ac ao af ah ai aj so (3 : Int32) fl om nw hn)) (Fu : own_Al Z h0 au 8 fu) (Fo : own_Rr Z h0 ao "com/example/gangplank/gangplank/workload/Job" 8 fo) (Fi : own_Ai Z h0 ai .int 0 (fun _ => 0)) (BJ : own_Ob Z h0 jb "com/example/gangplank/gangplank/workload/Job" own_fs2 gJ) (hJ : gJ 0 = .int 0) (ho : ∀ i, i < 3 → fo i = .ref jb) :
    own_Met l (⟨"com/example/gangplank/gangplank/space/HeldFromNow", "layOutOwners", "()V"⟩ : MethodName) prog_214_method_6_code 4 none ws ({ frames := 2, cells := 2, slots := 32, locals := 30 } : Room) Z #[(.ref a)] h0 (own_QLo Z a au ac ao af ah so fl nw hn h0 n0) := by
  refine own_enter (plainFor_of_name pn_12) ?_
  intro p e s m below meth c T0 X0 hx hby hml hZ hown e0 hret hlk hnm
  have hown : s.vm.findClass "com/example/gangplank/gangplank/space/HeldFromNow" = some m.cls := hown
  have hml : c.maxLocals = 4 := hml
  have N0 := Fr.nil n0
  refine own_start (ef_12 m a) ?_
  show own_Go p e below _ T0 (mkF m 0 #[.val (.ref a), .unset, .unset, .unset] [])
  have K0 := Keep.refl h0 [a]
  refine own_go (g' := (mkF m 1 #[.val (.ref a), .unset, .unset, .unset] [(.int (4 : Int32))])) (fun _ k => XS.iconst X0.here hx rfl (hb hby d12_0) k) ?_
  refine own_go (g' := (mkF m 2 #[.val (.ref a), .unset, .unset, .unset] [(.ref a), (.int (4 : Int32))])) (fun _ k => XS.aloadN X0.here hx rfl (hb hby d12_1) rfl rfl k) ?_
  refine own_getF X0 hx hZ (host := "") hown e0 (Or.inl (hw _ (List.mem_of_getElem? (i := 73) rfl))) Via.refl (own_Ob_fld B0 9 rfl) (hb hby d12_2) ?_
  intro T288 X288 e288
  show own_Go p e below _ T288 (mkF m 5 #[.val (.ref a), .unset, .unset, .unset] [(.int (3 : Int32)), (.int (4 : Int32))])
  refine own_callS X288 hx hZ hown e288 (y := (⟨"java/lang/Math", "max", "(II)I"⟩ : MethodName)) (rm := ({ frames := 0, cells := 0, slots := 0, locals := 0 } : Room)) (hw _ (List.mem_of_getElem? (i := 101) rfl)) (hw _ (List.mem_of_getElem? (i := 102) rfl)) (hw _ (List.mem_of_getElem? (i := 3) rfl)) (hw _ (List.mem_of_getElem? (i := 103) rfl)) (by decide) (argsL := [(.int (4 : Int32)), (.int (3 : Int32))]) (rest := []) (own_rmMI l Z a0 hw [] (4 : Int32) (3 : Int32) h0 n0) (by rw [hml]; rfl) pd_13 rfl rfl (hb hby d12_5) (W := 0) (Nat.le_of_eq rfl) (by decide) (by decide) (by decide) (by decide) ?_
  intro v289 T289 L289 X289 hQ289
  obtain ⟨rfl, e289, rfl⟩ := hQ289
  rw [List.append_nil] at X289
  show own_Go p e below _ T289 (mkF m 8 #[.val (.ref a), .unset, .unset, .unset] [(.int (4 : Int32))])
  refine own_callS X289 hx hZ hown e289 (y := (⟨"java/lang/Integer", "highestOneBit", "(I)I"⟩ : MethodName)) (rm := ({ frames := 1, cells := 0, slots := 0, locals := 15 } : Room)) (hw _ (List.mem_of_getElem? (i := 104) rfl)) (hw _ (List.mem_of_getElem? (i := 105) rfl)) (hw _ (List.mem_of_getElem? (i := 106) rfl)) (hw _ (List.mem_of_getElem? (i := 107) rfl)) (by decide) (argsL := [(.int (4 : Int32))]) (rest := []) (own_rmHOB l Z a0 hw [] h0 n0) (by rw [hml]; rfl) pd_14 rfl rfl (hb hby d12_8) (W := 0) (Nat.le_of_eq rfl) (by decide) (by decide) (by decide) (by decide) ?_
  intro v290 T290 L290 X290 hQ290
  obtain ⟨rfl, e290, rfl⟩ := hQ290
  rw [List.append_nil] at X290
  show own_Go p e below _ T290 (mkF m 11 #[.val (.ref a), .unset, .unset, .unset] [(.int (4 : Int32))])
  refine own_go (g' := (mkF m 12 #[.val (.ref a), .unset, .unset, .unset] [(.int (2 : Int32)), (.int (4 : Int32))])) (fun _ k => XS.iconst X290.here hx rfl (hb hby d12_11) k) ?_
  refine own_go (g' := (mkF m 13 #[.val (.ref a), .unset, .unset, .unset] [(.int ((4 : Int32) <<< ((2 : Int32) &&& 31)))])) (fun _ k => XT.ishl X290.here hx rfl (hb hby d12_12) rfl k) ?_
  show own_Go p e below _ T290 (mkF m 13 #[.val (.ref a), .unset, .unset, .unset] [(.int (16 : Int32))])
  refine own_go (g' := (mkF m 14 #[.val (.ref a), .val (.int (16 : Int32)), .unset, .unset] [])) (fun _ k => XS.istoreN X290.here hx rfl (hb hby d12_13) rfl (l' := #[.val (.ref a), .val (.int (16 : Int32)), .unset, .unset]) rfl k) ?_
  refine own_go (g' := (mkF m 15 #[.val (.ref a), .val (.int (16 : Int32)), .unset, .unset] [(.ref a)])) (fun _ k => XS.aloadN X290.here hx rfl (hb hby d12_14) rfl rfl k) ?_
  refine own_getF X290 hx hZ (host := "") hown e290 (Or.inl (hw _ (List.mem_of_getElem? (i := 61) rfl))) Via.refl (own_Ob_fld B0 6 rfl) (hb hby d12_15) ?_
  intro T291 X291 e291
  show own_Go p e below _ T291 (mkF m 18 #[.val (.ref a), .val (.int (16 : Int32)), .unset, .unset] [(.ref ai)])
  refine own_len X291 hx hZ e291 Fi (hb hby d12_18) (0 : Int32) rfl ?_
  show own_Go p e below _ T291 (mkF m 19 #[.val (.ref a), .val (.int (16 : Int32)), .unset, .unset] [(.int (0 : Int32))])
  refine own_go (g' := (mkF m 20 #[.val (.ref a), .val (.int (16 : Int32)), .unset, .unset] [(.int (16 : Int32)), (.int (0 : Int32))])) (fun _ k => XS.iloadN X291.here hx rfl (hb hby d12_19) rfl k) ?_
  refine own_go (g' := (mkF m 23 #[.val (.ref a), .val (.int (16 : Int32)), .unset, .unset] [])) (fun _ k => XS.icmpNo X291.here hx rfl (hb hby d12_20) rfl (XT.ii_ge_f (by decide)) k) ?_
  refine own_go (g' := (mkF m 24 #[.val (.ref a), .val (.int (16 : Int32)), .unset, .unset] [(.ref a)])) (fun _ k => XS.aloadN X291.here hx rfl (hb hby d12_23) rfl rfl k) ?_
  refine own_go (g' := (mkF m 25 #[.val (.ref a), .val (.int (16 : Int32)), .unset, .unset] [(.int (16 : Int32)), (.ref a)])) (fun _ k => XS.iloadN X291.here hx rfl (hb hby d12_24) rfl k) ?_
  refine own_newP X291 hx hZ e291 (aty := .int) (hw _ (List.mem_of_getElem? (i := 60) rfl)) 16 (by decide) (by decide) (by decide) (by decide) (by decide) (hb hby d12_25) ?_
  intro T292 h292 b292 g292 X292 e292 E292 A292
  have ne293 : a ≠ b292 := Nat.ne_of_lt (Nat.lt_of_lt_of_le (own_Ob_lt B0) (Nat.le_of_eq g292.symm))
  have ne294 : au ≠ b292 := Nat.ne_of_lt (Nat.lt_of_lt_of_le (own_Ar_lt Fu) (Nat.le_of_eq g292.symm))
  have ne295 : ao ≠ b292 := Nat.ne_of_lt (Nat.lt_of_lt_of_le (own_Rr_lt Fo) (Nat.le_of_eq g292.symm))
  have ne296 : jb ≠ b292 := Nat.ne_of_lt (Nat.lt_of_lt_of_le (own_Ob_lt BJ) (Nat.le_of_eq g292.symm))
  have sz292 : h0.size ≤ b292 := Nat.le_trans K0.1 (Nat.le_of_eq g292.symm)
  have ge292 : n0 ≤ b292 := Nat.le_trans Z0 sz292
  have K292 := K0.ext E292
  show own_Go p e below _ T292 (mkF m 27 #[.val (.ref a), .val (.int (16 : Int32)), .unset, .unset] [(.ref b292), (.ref a)])
  have L292 : own_Ai Z h292 b292 .int 16 (fun _ => 0) := A292
  have f297 := (own_Ob_ext B0 E292)
  refine own_putF X292 hx hZ (host := "") (ty := (.array .int)) hown e292 (Or.inl (hw _ (List.mem_of_getElem? (i := 61) rfl))) Via.refl (own_Ob_fld f297 6 rfl) f297.1 (Or.inl (hw _ (List.mem_of_getElem? (i := 62) rfl))) (hw _ (List.mem_of_getElem? (i := 39) rfl)) (by decide) rfl rfl (hb hby d12_27) ?_
  intro T298 h298 X298 e298 W298
  have B298 := own_Ob_put f297 own_ok1 (own_ld1 hw) 6 rfl W298
  have K298 := K292.wr W298 (Or.inl (List.mem_of_getElem? (i := 0) rfl))
  have N298 := Fr.snoc X298 N0 (own_Up_ge HU gj 1 rfl)
  show own_Go p e below _ T298 (mkF m 30 #[.val (.ref a), .val (.int (16 : Int32)), .unset, .unset] [])
  refine own_go (g' := (mkF m 31 #[.val (.ref a), .val (.int (16 : Int32)), .unset, .unset] [(.ref a)])) (fun _ k => XS.aloadN X298.here hx rfl (hb hby d12_30) rfl rfl k) ?_
  refine own_go (g' := (mkF m 32 #[.val (.ref a), .val (.int (16 : Int32)), .unset, .unset] [(.int (16 : Int32)), (.ref a)])) (fun _ k => XS.iloadN X298.here hx rfl (hb hby d12_31) rfl k) ?_
  refine own_newP X298 hx hZ e298 (aty := .long) (hw _ (List.mem_of_getElem? (i := 45) rfl)) 16 (by decide) (by decide) (by decide) (by decide) (by decide) (hb hby d12_32) ?_
  intro T299 h299 b299 g299 X299 e299 E299 A299
  have ne300 : a ≠ b299 := Nat.ne_of_lt (Nat.lt_of_lt_of_le (own_Ob_lt B298) (Nat.le_of_eq g299.symm))
  have f302 := (own_Ar_other (own_Ar_ext Fu E292) W298 (Ne.symm (own_Up_ne HU 1 2 rfl rfl (by decide))))
  have ne301 : au ≠ b299 := Nat.ne_of_lt (Nat.lt_of_lt_of_le (own_Ar_lt f302) (Nat.le_of_eq g299.symm))
  have f304 := (own_Rr_other (own_Rr_ext Fo E292) W298 (Ne.symm (own_Up_ne HU 1 4 rfl rfl (by decide))))
  have ne303 : ao ≠ b299 := Nat.ne_of_lt (Nat.lt_of_lt_of_le (own_Rr_lt f304) (Nat.le_of_eq g299.symm))
  have f306 := (own_Ob_other (own_Ob_ext BJ E292) W298 (own_Up_ne HU 0 1 rfl rfl (by decide)))
  have ne305 : jb ≠ b299 := Nat.ne_of_lt (Nat.lt_of_lt_of_le (own_Ob_lt f306) (Nat.le_of_eq g299.symm))
  have f308 := (own_Ar_other L292 W298 (Ne.symm ne293))
  have ne307 : b292 ≠ b299 := Nat.ne_of_lt (Nat.lt_of_lt_of_le (own_Ar_lt f308) (Nat.le_of_eq g299.symm))
  have sz299 : h0.size ≤ b299 := Nat.le_trans K298.1 (Nat.le_of_eq g299.symm)
  have ge299 : n0 ≤ b299 := Nat.le_trans Z0 sz299
  have K299 := K298.ext E299
  show own_Go p e below _ T299 (mkF m 34 #[.val (.ref a), .val (.int (16 : Int32)), .unset, .unset] [(.ref b299), (.ref a)])
  have L299 : own_Al Z h299 b299 16 (fun _ => 0) := A299
  have f309 := (own_Ob_ext B298 E299)
  refine own_putF X299 hx hZ (host := "") (ty := (.array .long)) hown e299 (Or.inl (hw _ (List.mem_of_getElem? (i := 63) rfl))) Via.refl (own_Ob_fld f309 7 rfl) f309.1 (Or.inl (hw _ (List.mem_of_getElem? (i := 64) rfl))) (hw _ (List.mem_of_getElem? (i := 39) rfl)) (by decide) rfl rfl (hb hby d12_34) ?_
  intro T310 h310 X310 e310 W310
  have B310 := own_Ob_put f309 own_ok1 (own_ld1 hw) 7 rfl W310
  have K310 := K299.wr W310 (Or.inl (List.mem_of_getElem? (i := 0) rfl))
  have N310 := Fr.snoc X310 N298 (own_Up_ge HU gj 1 rfl)
  show own_Go p e below _ T310 (mkF m 37 #[.val (.ref a), .val (.int (16 : Int32)), .unset, .unset] [])
  refine own_go (g' := (mkF m 38 #[.val (.ref a), .val (.int (16 : Int32)), .unset, .unset] [(.ref a)])) (fun _ k => XS.aloadN X310.here hx rfl (hb hby d12_37) rfl rfl k) ?_
  refine own_go (g' := (mkF m 39 #[.val (.ref a), .val (.int (16 : Int32)), .unset, .unset] [(.int (16 : Int32)), (.ref a)])) (fun _ k => XS.iloadN X310.here hx rfl (hb hby d12_38) rfl k) ?_
  refine own_go (g' := (mkF m 40 #[.val (.ref a), .val (.int (16 : Int32)), .unset, .unset] [(.int (1 : Int32)), (.int (16 : Int32)), (.ref a)])) (fun _ k => XS.iconst X310.here hx rfl (hb hby d12_39) k) ?_
  refine own_go (g' := (mkF m 41 #[.val (.ref a), .val (.int (16 : Int32)), .unset, .unset] [(.int ((16 : Int32) - (1 : Int32))), (.ref a)])) (fun _ k => XS.isub X310.here hx rfl (hb hby d12_40) rfl k) ?_
  show own_Go p e below _ T310 (mkF m 41 #[.val (.ref a), .val (.int (16 : Int32)), .unset, .unset] [(.int (15 : Int32)), (.ref a)])
  refine own_putF X310 hx hZ (host := "") (ty := .int) hown e310 (Or.inl (hw _ (List.mem_of_getElem? (i := 113) rfl))) Via.refl (own_Ob_fld B310 12 rfl) B310.1 (Or.inl (hw _ (List.mem_of_getElem? (i := 114) rfl))) (hw _ (List.mem_of_getElem? (i := 39) rfl)) (by decide) rfl rfl (hb hby d12_41) ?_
  intro T311 h311 X311 e311 W311
  have B311 := own_Ob_put B310 own_ok1 (own_ld1 hw) 12 rfl W311
  have K311 := K310.wr W311 (Or.inl (List.mem_of_getElem? (i := 0) rfl))
  have N311 := Fr.snoc X311 N310 (own_Up_ge HU gj 1 rfl)
  show own_Go p e below _ T311 (mkF m 44 #[.val (.ref a), .val (.int (16 : Int32)), .unset, .unset] [])
  have Bq : own_Ob Z h311 a "com/example/gangplank/gangplank/space/HeldFromNow" own_fs1 (own_gH au ac ao af ah b292 b299 so 3 fl 15 nw hn) := (own_Ob_eq B311 (fun i hi => by have hi' : i < 13 := hi; match i, hi' with | 0, _ => rfl | 1, _ => rfl | 2, _ => rfl | 3, _ => rfl | 4, _ => rfl | 5, _ => rfl | 6, _ => rfl | 7, _ => rfl | 8, _ => rfl | 9, _ => rfl | 10, _ => rfl | 11, _ => rfl | 12, _ => rfl))
  refine own_go (g' := (mkF m 45 #[.val (.ref a), .val (.int (16 : Int32)), .unset, .unset] [(.ref a)])) (fun _ k => XS.aloadN X311.here hx rfl (hb hby d12_44) rfl rfl k) ?_
  refine own_getF X311 hx hZ (host := "") hown e311 (Or.inl (hw _ (List.mem_of_getElem? (i := 61) rfl))) Via.refl (own_Ob_fld Bq 6 rfl) (hb hby d12_45) ?_
  intro T312 X312 e312
  show own_Go p e below _ T312 (mkF m 48 #[.val (.ref a), .val (.int (16 : Int32)), .unset, .unset] [(.ref b292)])
  refine own_go (g' := (mkF m 49 #[.val (.ref a), .val (.int (16 : Int32)), .unset, .unset] [(.int (0 : Int32)), (.ref b292)])) (fun _ k => XS.iconst X312.here hx rfl (hb hby d12_48) k) ?_
  refine own_go (g' := (mkF m 50 #[.val (.ref a), .val (.int (16 : Int32)), .unset, .unset] [(.int (16 : Int32)), (.int (0 : Int32)), (.ref b292)])) (fun _ k => XS.iloadN X312.here hx rfl (hb hby d12_49) rfl k) ?_
  refine own_go (g' := (mkF m 51 #[.val (.ref a), .val (.int (16 : Int32)), .unset, .unset] [(.int (-1 : Int32)), (.int (16 : Int32)), (.int (0 : Int32)), (.ref b292)])) (fun _ k => XS.iconst X312.here hx rfl (hb hby d12_50) k) ?_
  have f313 := (own_Ar_other (own_Ar_other (own_Ar_ext f308 E299) W310 (Ne.symm ne293)) W311 (Ne.symm ne293))
  refine own_callS X312 hx hZ hown e312 (y := (⟨"java/util/Arrays", "fill", "([IIII)V"⟩ : MethodName)) (rm := ({ frames := 1, cells := 0, slots := 0, locals := 14 } : Room)) (hw _ (List.mem_of_getElem? (i := 115) rfl)) (hw _ (List.mem_of_getElem? (i := 116) rfl)) (hw _ (List.mem_of_getElem? (i := 117) rfl)) (hw _ (List.mem_of_getElem? (i := 118) rfl)) (by decide) (argsL := [(.ref b292), (.int (0 : Int32)), (.int (16 : Int32)), (.int (-1 : Int32))]) (rest := []) (own_rmFi l Z a0 hw [] b292 _ h311 n0 ge292 f313) (by rw [hml]; rfl) pd_16 rfl rfl (hb hby d12_51) (W := 0) (Nat.le_of_eq rfl) (by decide) (by decide) (by decide) (by decide) ?_
  intro v314 T314 L314 X314 hQ314
  obtain ⟨rfl, N314q, K314q, F314⟩ := hQ314
  have K314 := K311.trans K314q (allS (Or.inr sz292) all0)
  have N314 := Fr.app N311 N314q
  show own_Go p e below _ T314 (mkF m 54 #[.val (.ref a), .val (.int (16 : Int32)), .unset, .unset] [])
  refine own_go (g' := (mkF m 55 #[.val (.ref a), .val (.int (16 : Int32)), .unset, .unset] [(.int (0 : Int32))])) (fun _ k => XS.iconst X314.here hx rfl (hb hby d12_54) k) ?_
  refine own_go (g' := (mkF m 56 #[.val (.ref a), .val (.int (16 : Int32)), .val (.int (0 : Int32)), .unset] [])) (fun _ k => XS.istoreN X314.here hx rfl (hb hby d12_55) rfl (l' := #[.val (.ref a), .val (.int (16 : Int32)), .val (.int (0 : Int32)), .unset]) rfl k) ?_
  refine own_go (g' := (mkF m 57 #[.val (.ref a), .val (.int (16 : Int32)), .val (.int (0 : Int32)), .unset] [(.int (0 : Int32))])) (fun _ k => XS.iloadN X314.here hx rfl (hb hby d12_56) rfl k) ?_
  refine own_go (g' := (mkF m 58 #[.val (.ref a), .val (.int (16 : Int32)), .val (.int (0 : Int32)), .unset] [(.ref a), (.int (0 : Int32))])) (fun _ k => XS.aloadN X314.here hx rfl (hb hby d12_57) rfl rfl k) ?_
  have f315 := (own_Ob_keep Bq K314q (ninS ne293 nin0))
  refine own_getF X314 hx hZ (host := "") hown rfl (Or.inl (hw _ (List.mem_of_getElem? (i := 73) rfl))) Via.refl (own_Ob_fld f315 9 rfl) (hb hby d12_58) ?_
  intro T316 X316 e316
  show own_Go p e below _ T316 (mkF m 61 #[.val (.ref a), .val (.int (16 : Int32)), .val (.int (0 : Int32)), .unset] [(.int (3 : Int32)), (.int (0 : Int32))])
  refine own_go (g' := (mkF m 64 #[.val (.ref a), .val (.int (16 : Int32)), .val (.int (0 : Int32)), .unset] [])) (fun _ k => XS.icmpNo X316.here hx rfl (hb hby d12_61) rfl (XT.ii_ge_f (by decide)) k) ?_
  refine own_go (g' := (mkF m 65 #[.val (.ref a), .val (.int (16 : Int32)), .val (.int (0 : Int32)), .unset] [(.ref a)])) (fun _ k => XS.aloadN X316.here hx rfl (hb hby d12_64) rfl rfl k) ?_
  refine own_go (g' := (mkF m 66 #[.val (.ref a), .val (.int (16 : Int32)), .val (.int (0 : Int32)), .unset] [(.ref a), (.ref a)])) (fun _ k => XS.aloadN X316.here hx rfl (hb hby d12_65) rfl rfl k) ?_
  refine own_getF X316 hx hZ (host := "") hown e316 (Or.inl (hw _ (List.mem_of_getElem? (i := 52) rfl))) Via.refl (own_Ob_fld f315 2 rfl) (hb hby d12_66) ?_
  intro T317 X317 e317
  show own_Go p e below _ T317 (mkF m 69 #[.val (.ref a), .val (.int (16 : Int32)), .val (.int (0 : Int32)), .unset] [(.ref ao), (.ref a)])
  refine own_go (g' := (mkF m 70 #[.val (.ref a), .val (.int (16 : Int32)), .val (.int (0 : Int32)), .unset] [(.int (0 : Int32)), (.ref ao), (.ref a)])) (fun _ k => XS.iloadN X317.here hx rfl (hb hby d12_69) rfl k) ?_
  have f318 := (own_Rr_keep (own_Rr_other (own_Rr_other (own_Rr_ext f304 E299) W310 (Ne.symm (own_Up_ne HU 1 4 rfl rfl (by decide)))) W311 (Ne.symm (own_Up_ne HU 1 4 rfl rfl (by decide)))) K314q (ninS ne295 nin0))
  refine own_aaload X317 hx hZ e317 (own_Rr_ar f318) rfl 0 (by decide) (by decide) (hb hby d12_70) ?_
  rw [show (fo) 0 = Value.ref jb from (ho 0 (by decide))]
  show own_Go p e below _ T317 (mkF m 71 #[.val (.ref a), .val (.int (16 : Int32)), .val (.int (0 : Int32)), .unset] [(.ref jb), (.ref a)])
  have f319 := (own_Ob_keep (own_Ob_other (own_Ob_other (own_Ob_ext f306 E299) W310 (own_Up_ne HU 0 1 rfl rfl (by decide))) W311 (own_Up_ne HU 0 1 rfl rfl (by decide))) K314q (ninS ne296 nin0))
  refine own_callV X317 hx hZ hown e317 (C := "com/example/gangplank/gangplank/workload/Job") (y := (⟨"com/example/gangplank/gangplank/workload/Job", "index", "()I"⟩ : MethodName)) (rm := ({ frames := 0, cells := 0, slots := 0, locals := 0 } : Room)) (hw _ (List.mem_of_getElem? (i := 122) rfl)) (hw _ (List.mem_of_getElem? (i := 123) rfl)) (hw _ (List.mem_of_getElem? (i := 125) rfl)) (hw _ (List.mem_of_getElem? (i := 124) rfl)) (hw _ (List.mem_of_getElem? (i := 9) rfl)) (hw _ (List.mem_of_getElem? (i := 126) rfl)) (by decide) (a := jb) f319.1 (argsL := []) (rest := [(.ref a)]) (own_rmIx l Z a0 hw [] jb (0 : Int32) gJ T314.heap n0 f319 hJ) (by rw [hml]; rfl) pd_18 rfl rfl (hb hby d12_71) (W := 1) (Nat.le_of_eq rfl) (by decide) (by decide) (by decide) (by decide) ?_
  intro v320 T320 L320 X320 hQ320
  obtain ⟨rfl, e320, rfl⟩ := hQ320
  rw [List.append_nil] at X320
  show own_Go p e below _ T320 (mkF m 74 #[.val (.ref a), .val (.int (16 : Int32)), .val (.int (0 : Int32)), .unset] [(.int (0 : Int32)), (.ref a)])
  have f321 := (own_Ar_keep (own_Ar_other (own_Ar_other L299 W310 (Ne.symm ne300)) W311 (Ne.symm ne300)) K314q (ninS (Ne.symm ne307) nin0))
  refine own_callP X320 hx hZ hown e320 (y := (⟨"com/example/gangplank/gangplank/space/HeldFromNow", "ownerSlot", "(I)I"⟩ : MethodName)) (y' := (⟨"com/example/gangplank/gangplank/space/HeldFromNow", "restart", "(J)V"⟩ : MethodName)) (rm := ({ frames := 0, cells := 0, slots := 0, locals := 0 } : Room)) (hw _ (List.mem_of_getElem? (i := 127) rfl)) (hw _ (List.mem_of_getElem? (i := 128) rfl)) (hw _ (List.mem_of_getElem? (i := 129) rfl)) (hw _ (List.mem_of_getElem? (i := 69) rfl)) (hw _ (List.mem_of_getElem? (i := 68) rfl)) rfl (hw _ (List.mem_of_getElem? (i := 40) rfl)) (hw _ (List.mem_of_getElem? (i := 130) rfl)) (by decide) (a := a) f315.1 (argsL := [(.int (0 : Int32))]) (rest := []) (own_rmOS l Z a0 hw [] a au ac ao af ah b292 b299 so fl nw hn (fun _ => (-1 : Int32)) (fun _ => (0 : Int64)) T314.heap n0 ge299 f315 F314 f321 (Or.inl rfl)) (by rw [hml]; rfl) pd_19 rfl rfl (hb hby d12_74) (W := 0) (Nat.le_of_eq rfl) (by decide) (by decide) (by decide) (by decide) ?_
  intro v322 T322 L322 X322 hQ322
  obtain ⟨rfl, N322q, K322q, fj322, F322⟩ := hQ322
  have K322 := K314.trans K322q (allS (Or.inr sz299) all0)
  have N322 := Fr.app N314 N322q
  show own_Go p e below _ T322 (mkF m 77 #[.val (.ref a), .val (.int (16 : Int32)), .val (.int (0 : Int32)), .unset] [(.int (0 : Int32))])
  refine own_go (g' := (mkF m 78 #[.val (.ref a), .val (.int (16 : Int32)), .val (.int (0 : Int32)), .val (.int (0 : Int32))] [])) (fun _ k => XS.istoreN X322.here hx rfl (hb hby d12_77) rfl (l' := #[.val (.ref a), .val (.int (16 : Int32)), .val (.int (0 : Int32)), .val (.int (0 : Int32))]) rfl k) ?_
  refine own_go (g' := (mkF m 79 #[.val (.ref a), .val (.int (16 : Int32)), .val (.int (0 : Int32)), .val (.int (0 : Int32))] [(.ref a)])) (fun _ k => XS.aloadN X322.here hx rfl (hb hby d12_78) rfl rfl k) ?_
  have f323 := (own_Ob_keep f315 K322q (ninS ne300 nin0))
  refine own_getF X322 hx hZ (host := "") hown rfl (Or.inl (hw _ (List.mem_of_getElem? (i := 61) rfl))) Via.refl (own_Ob_fld f323 6 rfl) (hb hby d12_79) ?_
  intro T324 X324 e324
  show own_Go p e below _ T324 (mkF m 82 #[.val (.ref a), .val (.int (16 : Int32)), .val (.int (0 : Int32)), .val (.int (0 : Int32))] [(.ref b292)])
  refine own_go (g' := (mkF m 83 #[.val (.ref a), .val (.int (16 : Int32)), .val (.int (0 : Int32)), .val (.int (0 : Int32))] [(.int (0 : Int32)), (.ref b292)])) (fun _ k => XS.iloadN X324.here hx rfl (hb hby d12_82) rfl k) ?_
  refine own_go (g' := (mkF m 84 #[.val (.ref a), .val (.int (16 : Int32)), .val (.int (0 : Int32)), .val (.int (0 : Int32))] [(.ref a), (.int (0 : Int32)), (.ref b292)])) (fun _ k => XS.aloadN X324.here hx rfl (hb hby d12_83) rfl rfl k) ?_
  refine own_getF X324 hx hZ (host := "") hown e324 (Or.inl (hw _ (List.mem_of_getElem? (i := 52) rfl))) Via.refl (own_Ob_fld f323 2 rfl) (hb hby d12_84) ?_
  intro T325 X325 e325
  show own_Go p e below _ T325 (mkF m 87 #[.val (.ref a), .val (.int (16 : Int32)), .val (.int (0 : Int32)), .val (.int (0 : Int32))] [(.ref ao), (.int (0 : Int32)), (.ref b292)])
  refine own_go (g' := (mkF m 88 #[.val (.ref a), .val (.int (16 : Int32)), .val (.int (0 : Int32)), .val (.int (0 : Int32))] [(.int (0 : Int32)), (.ref ao), (.int (0 : Int32)), (.ref b292)])) (fun _ k => XS.iloadN X325.here hx rfl (hb hby d12_87) rfl k) ?_
  have f326 := (own_Rr_keep f318 K322q (ninS ne303 nin0))
  refine own_aaload X325 hx hZ e325 (own_Rr_ar f326) rfl 0 (by decide) (by decide) (hb hby d12_88) ?_
  rw [show (fo) 0 = Value.ref jb from (ho 0 (by decide))]
  show own_Go p e below _ T325 (mkF m 89 #[.val (.ref a), .val (.int (16 : Int32)), .val (.int (0 : Int32)), .val (.int (0 : Int32))] [(.ref jb), (.int (0 : Int32)), (.ref b292)])
  have f327 := (own_Ob_keep f319 K322q (ninS ne305 nin0))
  refine own_callV X325 hx hZ hown e325 (C := "com/example/gangplank/gangplank/workload/Job") (y := (⟨"com/example/gangplank/gangplank/workload/Job", "index", "()I"⟩ : MethodName)) (rm := ({ frames := 0, cells := 0, slots := 0, locals := 0 } : Room)) (hw _ (List.mem_of_getElem? (i := 122) rfl)) (hw _ (List.mem_of_getElem? (i := 123) rfl)) (hw _ (List.mem_of_getElem? (i := 125) rfl)) (hw _ (List.mem_of_getElem? (i := 124) rfl)) (hw _ (List.mem_of_getElem? (i := 9) rfl)) (hw _ (List.mem_of_getElem? (i := 126) rfl)) (by decide) (a := jb) f327.1 (argsL := []) (rest := [(.int (0 : Int32)), (.ref b292)]) (own_rmIx l Z a0 hw [] jb (0 : Int32) gJ T322.heap n0 f327 hJ) (by rw [hml]; rfl) pd_18 rfl rfl (hb hby d12_89) (W := 2) (Nat.le_of_eq rfl) (by decide) (by decide) (by decide) (by decide) ?_
  intro v328 T328 L328 X328 hQ328
  obtain ⟨rfl, e328, rfl⟩ := hQ328
  rw [List.append_nil] at X328
  show own_Go p e below _ T328 (mkF m 92 #[.val (.ref a), .val (.int (16 : Int32)), .val (.int (0 : Int32)), .val (.int (0 : Int32))] [(.int (0 : Int32)), (.int (0 : Int32)), (.ref b292)])
  have f329 := (own_Ar_keep F314 K322q (ninS ne307 nin0))
  refine own_iastore X328 hx hZ e328 f329 0 (by decide) (by decide) (hb hby d12_92) ?_
  intro T330 h330 X330 e330 W330
  have A330 : own_Ai Z h330 b292 .int 16 (own_upi (fun _ => (-1 : Int32)) 0 (0 : Int32)) := own_Ai_set (f := (fun _ => (-1 : Int32))) f329 W330
  have K330 := K322.wr W330 (Or.inr sz292)
  have N330 := Fr.snoc X330 N322 ge292
  show own_Go p e below _ T330 (mkF m 93 #[.val (.ref a), .val (.int (16 : Int32)), .val (.int (0 : Int32)), .val (.int (0 : Int32))] [])
  refine own_go (g' := (mkF m 94 #[.val (.ref a), .val (.int (16 : Int32)), .val (.int (0 : Int32)), .val (.int (0 : Int32))] [(.ref a)])) (fun _ k => XS.aloadN X330.here hx rfl (hb hby d12_93) rfl rfl k) ?_
  have f331 := (own_Ob_other f323 W330 ne293)
  refine own_getF X330 hx hZ (host := "") hown e330 (Or.inl (hw _ (List.mem_of_getElem? (i := 63) rfl))) Via.refl (own_Ob_fld f331 7 rfl) (hb hby d12_94) ?_
  intro T332 X332 e332
  show own_Go p e below _ T332 (mkF m 97 #[.val (.ref a), .val (.int (16 : Int32)), .val (.int (0 : Int32)), .val (.int (0 : Int32))] [(.ref b299)])
  refine own_go (g' := (mkF m 98 #[.val (.ref a), .val (.int (16 : Int32)), .val (.int (0 : Int32)), .val (.int (0 : Int32))] [(.int (0 : Int32)), (.ref b299)])) (fun _ k => XS.iloadN X332.here hx rfl (hb hby d12_97) rfl k) ?_
  refine own_go (g' := (mkF m 99 #[.val (.ref a), .val (.int (16 : Int32)), .val (.int (0 : Int32)), .val (.int (0 : Int32))] [(.ref a), (.int (0 : Int32)), (.ref b299)])) (fun _ k => XS.aloadN X332.here hx rfl (hb hby d12_98) rfl rfl k) ?_
  refine own_getF X332 hx hZ (host := "") hown e332 (Or.inl (hw _ (List.mem_of_getElem? (i := 63) rfl))) Via.refl (own_Ob_fld f331 7 rfl) (hb hby d12_99) ?_
  intro T333 X333 e333
  show own_Go p e below _ T333 (mkF m 102 #[.val (.ref a), .val (.int (16 : Int32)), .val (.int (0 : Int32)), .val (.int (0 : Int32))] [(.ref b299), (.int (0 : Int32)), (.ref b299)])
  refine own_go (g' := (mkF m 103 #[.val (.ref a), .val (.int (16 : Int32)), .val (.int (0 : Int32)), .val (.int (0 : Int32))] [(.int (0 : Int32)), (.ref b299), (.int (0 : Int32)), (.ref b299)])) (fun _ k => XS.iloadN X333.here hx rfl (hb hby d12_102) rfl k) ?_
  have f334 := (own_Ar_other F322 W330 (Ne.symm ne307))
  refine own_laload X333 hx hZ e333 f334 0 (by decide) (by decide) (hb hby d12_103) ?_
  show own_Go p e below _ T333 (mkF m 104 #[.val (.ref a), .val (.int (16 : Int32)), .val (.int (0 : Int32)), .val (.int (0 : Int32))] [(.long (fj322 0)), (.int (0 : Int32)), (.ref b299)])
  refine own_go (g' := (mkF m 105 #[.val (.ref a), .val (.int (16 : Int32)), .val (.int (0 : Int32)), .val (.int (0 : Int32))] [(.ref a), (.long (fj322 0)), (.int (0 : Int32)), (.ref b299)])) (fun _ k => XS.aloadN X333.here hx rfl (hb hby d12_104) rfl rfl k) ?_
  refine own_getF X333 hx hZ (host := "") hown e333 (Or.inl (hw _ (List.mem_of_getElem? (i := 46) rfl))) Via.refl (own_Ob_fld f331 0 rfl) (hb hby d12_105) ?_
  intro T335 X335 e335
  show own_Go p e below _ T335 (mkF m 108 #[.val (.ref a), .val (.int (16 : Int32)), .val (.int (0 : Int32)), .val (.int (0 : Int32))] [(.ref au), (.long (fj322 0)), (.int (0 : Int32)), (.ref b299)])
  refine own_go (g' := (mkF m 109 #[.val (.ref a), .val (.int (16 : Int32)), .val (.int (0 : Int32)), .val (.int (0 : Int32))] [(.int (0 : Int32)), (.ref au), (.long (fj322 0)), (.int (0 : Int32)), (.ref b299)])) (fun _ k => XS.iloadN X335.here hx rfl (hb hby d12_108) rfl k) ?_
  have f336 := (own_Ar_other (own_Ar_keep (own_Ar_keep (own_Ar_other (own_Ar_other (own_Ar_ext f302 E299) W310 (Ne.symm (own_Up_ne HU 1 2 rfl rfl (by decide)))) W311 (Ne.symm (own_Up_ne HU 1 2 rfl rfl (by decide)))) K314q (ninS ne294 nin0)) K322q (ninS ne301 nin0)) W330 ne294)
  refine own_laload X335 hx hZ e335 f336 0 (by decide) (by decide) (hb hby d12_109) ?_
  show own_Go p e below _ T335 (mkF m 110 #[.val (.ref a), .val (.int (16 : Int32)), .val (.int (0 : Int32)), .val (.int (0 : Int32))] [(.long (fu 0)), (.long (fj322 0)), (.int (0 : Int32)), (.ref b299)])
  refine own_callS X335 hx hZ hown e335 (y := (⟨"java/lang/Math", "max", "(JJ)J"⟩ : MethodName)) (rm := ({ frames := 0, cells := 0, slots := 0, locals := 0 } : Room)) (hw _ (List.mem_of_getElem? (i := 133) rfl)) (hw _ (List.mem_of_getElem? (i := 2) rfl)) (hw _ (List.mem_of_getElem? (i := 3) rfl)) (hw _ (List.mem_of_getElem? (i := 4) rfl)) (by decide) (argsL := [(.long (fj322 0)), (.long (fu 0))]) (rest := [(.int (0 : Int32)), (.ref b299)]) (own_rmMJ l Z a0 hw [] (fj322 0) (fu 0) h330 n0) (by rw [hml]; rfl) pd_1 rfl rfl (hb hby d12_110) (W := 2) (Nat.le_of_eq rfl) (by decide) (by decide) (by decide) (by decide) ?_
  intro v337 T337 L337 X337 hQ337
  obtain ⟨rfl, e337, rfl⟩ := hQ337
  rw [List.append_nil] at X337
  show own_Go p e below _ T337 (mkF m 113 #[.val (.ref a), .val (.int (16 : Int32)), .val (.int (0 : Int32)), .val (.int (0 : Int32))] [(.long (own_mx (fj322 0) (fu 0))), (.int (0 : Int32)), (.ref b299)])
  refine own_lastore X337 hx hZ e337 f334 0 (by decide) (by decide) (hb hby d12_113) ?_
  intro T338 h338 X338 e338 W338
  have A338 : own_Al Z h338 b299 16 (own_upl fj322 0 (own_mx (fj322 0) (fu 0))) := own_Al_set (f := fj322) f334 W338
  have K338 := K330.wr W338 (Or.inr sz299)
  have N338 := Fr.snoc X338 N330 ge299
  show own_Go p e below _ T338 (mkF m 114 #[.val (.ref a), .val (.int (16 : Int32)), .val (.int (0 : Int32)), .val (.int (0 : Int32))] [])
  refine own_go (g' := (mkF m 117 #[.val (.ref a), .val (.int (16 : Int32)), .val (.int ((0 : Int32) + (1 : Int32))), .val (.int (0 : Int32))] [])) (fun _ k => XS.iinc X338.here hx rfl (hb hby d12_114) rfl (l' := #[.val (.ref a), .val (.int (16 : Int32)), .val (.int ((0 : Int32) + (1 : Int32))), .val (.int (0 : Int32))]) rfl k) ?_
  show own_Go p e below _ T338 (mkF m 117 #[.val (.ref a), .val (.int (16 : Int32)), .val (.int (1 : Int32)), .val (.int (0 : Int32))] [])
  refine own_go (g' := (mkF m 56 #[.val (.ref a), .val (.int (16 : Int32)), .val (.int (1 : Int32)), .val (.int (0 : Int32))] [])) (fun _ k => XS.goto X338.here hx rfl (pc0 := 117) (pc' := 56) rfl (hb hby d12_117) (by decide) (by decide) k) ?_
  refine own_go (g' := (mkF m 57 #[.val (.ref a), .val (.int (16 : Int32)), .val (.int (1 : Int32)), .val (.int (0 : Int32))] [(.int (1 : Int32))])) (fun _ k => XS.iloadN X338.here hx rfl (hb hby d12_56) rfl k) ?_
  refine own_go (g' := (mkF m 58 #[.val (.ref a), .val (.int (16 : Int32)), .val (.int (1 : Int32)), .val (.int (0 : Int32))] [(.ref a), (.int (1 : Int32))])) (fun _ k => XS.aloadN X338.here hx rfl (hb hby d12_57) rfl rfl k) ?_
  have f339 := (own_Ob_other f331 W338 ne300)
  refine own_getF X338 hx hZ (host := "") hown e338 (Or.inl (hw _ (List.mem_of_getElem? (i := 73) rfl))) Via.refl (own_Ob_fld f339 9 rfl) (hb hby d12_58) ?_
  intro T340 X340 e340
  show own_Go p e below _ T340 (mkF m 61 #[.val (.ref a), .val (.int (16 : Int32)), .val (.int (1 : Int32)), .val (.int (0 : Int32))] [(.int (3 : Int32)), (.int (1 : Int32))])
  refine own_go (g' := (mkF m 64 #[.val (.ref a), .val (.int (16 : Int32)), .val (.int (1 : Int32)), .val (.int (0 : Int32))] [])) (fun _ k => XS.icmpNo X340.here hx rfl (hb hby d12_61) rfl (XT.ii_ge_f (by decide)) k) ?_
  refine own_go (g' := (mkF m 65 #[.val (.ref a), .val (.int (16 : Int32)), .val (.int (1 : Int32)), .val (.int (0 : Int32))] [(.ref a)])) (fun _ k => XS.aloadN X340.here hx rfl (hb hby d12_64) rfl rfl k) ?_
  refine own_go (g' := (mkF m 66 #[.val (.ref a), .val (.int (16 : Int32)), .val (.int (1 : Int32)), .val (.int (0 : Int32))] [(.ref a), (.ref a)])) (fun _ k => XS.aloadN X340.here hx rfl (hb hby d12_65) rfl rfl k) ?_
  refine own_getF X340 hx hZ (host := "") hown e340 (Or.inl (hw _ (List.mem_of_getElem? (i := 52) rfl))) Via.refl (own_Ob_fld f339 2 rfl) (hb hby d12_66) ?_
  intro T341 X341 e341
  show own_Go p e below _ T341 (mkF m 69 #[.val (.ref a), .val (.int (16 : Int32)), .val (.int (1 : Int32)), .val (.int (0 : Int32))] [(.ref ao), (.ref a)])
  refine own_go (g' := (mkF m 70 #[.val (.ref a), .val (.int (16 : Int32)), .val (.int (1 : Int32)), .val (.int (0 : Int32))] [(.int (1 : Int32)), (.ref ao), (.ref a)])) (fun _ k => XS.iloadN X341.here hx rfl (hb hby d12_69) rfl k) ?_
  have f342 := (own_Rr_other (own_Rr_other f326 W330 ne295) W338 ne303)
  refine own_aaload X341 hx hZ e341 (own_Rr_ar f342) rfl 1 (by decide) (by decide) (hb hby d12_70) ?_
  rw [show (fo) 1 = Value.ref jb from (ho 1 (by decide))]
  show own_Go p e below _ T341 (mkF m 71 #[.val (.ref a), .val (.int (16 : Int32)), .val (.int (1 : Int32)), .val (.int (0 : Int32))] [(.ref jb), (.ref a)])
  have f343 := (own_Ob_other (own_Ob_other f327 W330 ne296) W338 ne305)
  refine own_callV X341 hx hZ hown e341 (C := "com/example/gangplank/gangplank/workload/Job") (y := (⟨"com/example/gangplank/gangplank/workload/Job", "index", "()I"⟩ : MethodName)) (rm := ({ frames := 0, cells := 0, slots := 0, locals := 0 } : Room)) (hw _ (List.mem_of_getElem? (i := 122) rfl)) (hw _ (List.mem_of_getElem? (i := 123) rfl)) (hw _ (List.mem_of_getElem? (i := 125) rfl)) (hw _ (List.mem_of_getElem? (i := 124) rfl)) (hw _ (List.mem_of_getElem? (i := 9) rfl)) (hw _ (List.mem_of_getElem? (i := 126) rfl)) (by decide) (a := jb) f343.1 (argsL := []) (rest := [(.ref a)]) (own_rmIx l Z a0 hw [] jb (0 : Int32) gJ h338 n0 f343 hJ) (by rw [hml]; rfl) pd_18 rfl rfl (hb hby d12_71) (W := 1) (Nat.le_of_eq rfl) (by decide) (by decide) (by decide) (by decide) ?_
  intro v344 T344 L344 X344 hQ344
  obtain ⟨rfl, e344, rfl⟩ := hQ344
  rw [List.append_nil] at X344
  show own_Go p e below _ T344 (mkF m 74 #[.val (.ref a), .val (.int (16 : Int32)), .val (.int (1 : Int32)), .val (.int (0 : Int32))] [(.int (0 : Int32)), (.ref a)])
  have f345 := (own_Ar_other A330 W338 ne307)
  refine own_callP X344 hx hZ hown e344 (y := (⟨"com/example/gangplank/gangplank/space/HeldFromNow", "ownerSlot", "(I)I"⟩ : MethodName)) (y' := (⟨"com/example/gangplank/gangplank/space/HeldFromNow", "restart", "(J)V"⟩ : MethodName)) (rm := ({ frames := 0, cells := 0, slots := 0, locals := 0 } : Room)) (hw _ (List.mem_of_getElem? (i := 127) rfl)) (hw _ (List.mem_of_getElem? (i := 128) rfl)) (hw _ (List.mem_of_getElem? (i := 129) rfl)) (hw _ (List.mem_of_getElem? (i := 69) rfl)) (hw _ (List.mem_of_getElem? (i := 68) rfl)) rfl (hw _ (List.mem_of_getElem? (i := 40) rfl)) (hw _ (List.mem_of_getElem? (i := 130) rfl)) (by decide) (a := a) f339.1 (argsL := [(.int (0 : Int32))]) (rest := []) (own_rmOS l Z a0 hw [] a au ac ao af ah b292 b299 so fl nw hn (own_upi (fun _ => (-1 : Int32)) 0 (0 : Int32)) (own_upl fj322 0 (own_mx (fj322 0) (fu 0))) h338 n0 ge299 f339 f345 A338 (Or.inr rfl)) (by rw [hml]; rfl) pd_19 rfl rfl (hb hby d12_74) (W := 0) (Nat.le_of_eq rfl) (by decide) (by decide) (by decide) (by decide) ?_
  intro v346 T346 L346 X346 hQ346
  obtain ⟨rfl, N346q, K346q, fj346, F346⟩ := hQ346
  have K346 := K338.trans K346q (allS (Or.inr sz299) all0)
  have N346 := Fr.app N338 N346q
  show own_Go p e below _ T346 (mkF m 77 #[.val (.ref a), .val (.int (16 : Int32)), .val (.int (1 : Int32)), .val (.int (0 : Int32))] [(.int (0 : Int32))])
  refine own_go (g' := (mkF m 78 #[.val (.ref a), .val (.int (16 : Int32)), .val (.int (1 : Int32)), .val (.int (0 : Int32))] [])) (fun _ k => XS.istoreN X346.here hx rfl (hb hby d12_77) rfl (l' := #[.val (.ref a), .val (.int (16 : Int32)), .val (.int (1 : Int32)), .val (.int (0 : Int32))]) rfl k) ?_
  refine own_go (g' := (mkF m 79 #[.val (.ref a), .val (.int (16 : Int32)), .val (.int (1 : Int32)), .val (.int (0 : Int32))] [(.ref a)])) (fun _ k => XS.aloadN X346.here hx rfl (hb hby d12_78) rfl rfl k) ?_
  have f347 := (own_Ob_keep f339 K346q (ninS ne300 nin0))
  refine own_getF X346 hx hZ (host := "") hown rfl (Or.inl (hw _ (List.mem_of_getElem? (i := 61) rfl))) Via.refl (own_Ob_fld f347 6 rfl) (hb hby d12_79) ?_
  intro T348 X348 e348
  show own_Go p e below _ T348 (mkF m 82 #[.val (.ref a), .val (.int (16 : Int32)), .val (.int (1 : Int32)), .val (.int (0 : Int32))] [(.ref b292)])
  refine own_go (g' := (mkF m 83 #[.val (.ref a), .val (.int (16 : Int32)), .val (.int (1 : Int32)), .val (.int (0 : Int32))] [(.int (0 : Int32)), (.ref b292)])) (fun _ k => XS.iloadN X348.here hx rfl (hb hby d12_82) rfl k) ?_
  refine own_go (g' := (mkF m 84 #[.val (.ref a), .val (.int (16 : Int32)), .val (.int (1 : Int32)), .val (.int (0 : Int32))] [(.ref a), (.int (0 : Int32)), (.ref b292)])) (fun _ k => XS.aloadN X348.here hx rfl (hb hby d12_83) rfl rfl k) ?_
  refine own_getF X348 hx hZ (host := "") hown e348 (Or.inl (hw _ (List.mem_of_getElem? (i := 52) rfl))) Via.refl (own_Ob_fld f347 2 rfl) (hb hby d12_84) ?_
  intro T349 X349 e349
  show own_Go p e below _ T349 (mkF m 87 #[.val (.ref a), .val (.int (16 : Int32)), .val (.int (1 : Int32)), .val (.int (0 : Int32))] [(.ref ao), (.int (0 : Int32)), (.ref b292)])
  refine own_go (g' := (mkF m 88 #[.val (.ref a), .val (.int (16 : Int32)), .val (.int (1 : Int32)), .val (.int (0 : Int32))] [(.int (1 : Int32)), (.ref ao), (.int (0 : Int32)), (.ref b292)])) (fun _ k => XS.iloadN X349.here hx rfl (hb hby d12_87) rfl k) ?_
  have f350 := (own_Rr_keep f342 K346q (ninS ne303 nin0))
  refine own_aaload X349 hx hZ e349 (own_Rr_ar f350) rfl 1 (by decide) (by decide) (hb hby d12_88) ?_
  rw [show (fo) 1 = Value.ref jb from (ho 1 (by decide))]
  show own_Go p e below _ T349 (mkF m 89 #[.val (.ref a), .val (.int (16 : Int32)), .val (.int (1 : Int32)), .val (.int (0 : Int32))] [(.ref jb), (.int (0 : Int32)), (.ref b292)])
  have f351 := (own_Ob_keep f343 K346q (ninS ne305 nin0))
  refine own_callV X349 hx hZ hown e349 (C := "com/example/gangplank/gangplank/workload/Job") (y := (⟨"com/example/gangplank/gangplank/workload/Job", "index", "()I"⟩ : MethodName)) (rm := ({ frames := 0, cells := 0, slots := 0, locals := 0 } : Room)) (hw _ (List.mem_of_getElem? (i := 122) rfl)) (hw _ (List.mem_of_getElem? (i := 123) rfl)) (hw _ (List.mem_of_getElem? (i := 125) rfl)) (hw _ (List.mem_of_getElem? (i := 124) rfl)) (hw _ (List.mem_of_getElem? (i := 9) rfl)) (hw _ (List.mem_of_getElem? (i := 126) rfl)) (by decide) (a := jb) f351.1 (argsL := []) (rest := [(.int (0 : Int32)), (.ref b292)]) (own_rmIx l Z a0 hw [] jb (0 : Int32) gJ T346.heap n0 f351 hJ) (by rw [hml]; rfl) pd_18 rfl rfl (hb hby d12_89) (W := 2) (Nat.le_of_eq rfl) (by decide) (by decide) (by decide) (by decide) ?_
  intro v352 T352 L352 X352 hQ352
  obtain ⟨rfl, e352, rfl⟩ := hQ352
  rw [List.append_nil] at X352
  show own_Go p e below _ T352 (mkF m 92 #[.val (.ref a), .val (.int (16 : Int32)), .val (.int (1 : Int32)), .val (.int (0 : Int32))] [(.int (0 : Int32)), (.int (0 : Int32)), (.ref b292)])
  have f353 := (own_Ar_keep f345 K346q (ninS ne307 nin0))
  refine own_iastore X352 hx hZ e352 f353 0 (by decide) (by decide) (hb hby d12_92) ?_
  intro T354 h354 X354 e354 W354
  have A354 : own_Ai Z h354 b292 .int 16 (own_upi (own_upi (fun _ => (-1 : Int32)) 0 (0 : Int32)) 0 (0 : Int32)) := own_Ai_set (f := (own_upi (fun _ => (-1 : Int32)) 0 (0 : Int32))) f353 W354
  have K354 := K346.wr W354 (Or.inr sz292)
  have N354 := Fr.snoc X354 N346 ge292
  show own_Go p e below _ T354 (mkF m 93 #[.val (.ref a), .val (.int (16 : Int32)), .val (.int (1 : Int32)), .val (.int (0 : Int32))] [])
  refine own_go (g' := (mkF m 94 #[.val (.ref a), .val (.int (16 : Int32)), .val (.int (1 : Int32)), .val (.int (0 : Int32))] [(.ref a)])) (fun _ k => XS.aloadN X354.here hx rfl (hb hby d12_93) rfl rfl k) ?_
  have f355 := (own_Ob_other f347 W354 ne293)
  refine own_getF X354 hx hZ (host := "") hown e354 (Or.inl (hw _ (List.mem_of_getElem? (i := 63) rfl))) Via.refl (own_Ob_fld f355 7 rfl) (hb hby d12_94) ?_
  intro T356 X356 e356
  show own_Go p e below _ T356 (mkF m 97 #[.val (.ref a), .val (.int (16 : Int32)), .val (.int (1 : Int32)), .val (.int (0 : Int32))] [(.ref b299)])
  refine own_go (g' := (mkF m 98 #[.val (.ref a), .val (.int (16 : Int32)), .val (.int (1 : Int32)), .val (.int (0 : Int32))] [(.int (0 : Int32)), (.ref b299)])) (fun _ k => XS.iloadN X356.here hx rfl (hb hby d12_97) rfl k) ?_
  refine own_go (g' := (mkF m 99 #[.val (.ref a), .val (.int (16 : Int32)), .val (.int (1 : Int32)), .val (.int (0 : Int32))] [(.ref a), (.int (0 : Int32)), (.ref b299)])) (fun _ k => XS.aloadN X356.here hx rfl (hb hby d12_98) rfl rfl k) ?_
  refine own_getF X356 hx hZ (host := "") hown e356 (Or.inl (hw _ (List.mem_of_getElem? (i := 63) rfl))) Via.refl (own_Ob_fld f355 7 rfl) (hb hby d12_99) ?_
  intro T357 X357 e357
  show own_Go p e below _ T357 (mkF m 102 #[.val (.ref a), .val (.int (16 : Int32)), .val (.int (1 : Int32)), .val (.int (0 : Int32))] [(.ref b299), (.int (0 : Int32)), (.ref b299)])
  refine own_go (g' := (mkF m 103 #[.val (.ref a), .val (.int (16 : Int32)), .val (.int (1 : Int32)), .val (.int (0 : Int32))] [(.int (0 : Int32)), (.ref b299), (.int (0 : Int32)), (.ref b299)])) (fun _ k => XS.iloadN X357.here hx rfl (hb hby d12_102) rfl k) ?_
  have f358 := (own_Ar_other F346 W354 (Ne.symm ne307))
  refine own_laload X357 hx hZ e357 f358 0 (by decide) (by decide) (hb hby d12_103) ?_
  show own_Go p e below _ T357 (mkF m 104 #[.val (.ref a), .val (.int (16 : Int32)), .val (.int (1 : Int32)), .val (.int (0 : Int32))] [(.long (fj346 0)), (.int (0 : Int32)), (.ref b299)])
  refine own_go (g' := (mkF m 105 #[.val (.ref a), .val (.int (16 : Int32)), .val (.int (1 : Int32)), .val (.int (0 : Int32))] [(.ref a), (.long (fj346 0)), (.int (0 : Int32)), (.ref b299)])) (fun _ k => XS.aloadN X357.here hx rfl (hb hby d12_104) rfl rfl k) ?_
  refine own_getF X357 hx hZ (host := "") hown e357 (Or.inl (hw _ (List.mem_of_getElem? (i := 46) rfl))) Via.refl (own_Ob_fld f355 0 rfl) (hb hby d12_105) ?_
  intro T359 X359 e359
  show own_Go p e below _ T359 (mkF m 108 #[.val (.ref a), .val (.int (16 : Int32)), .val (.int (1 : Int32)), .val (.int (0 : Int32))] [(.ref au), (.long (fj346 0)), (.int (0 : Int32)), (.ref b299)])
  refine own_go (g' := (mkF m 109 #[.val (.ref a), .val (.int (16 : Int32)), .val (.int (1 : Int32)), .val (.int (0 : Int32))] [(.int (1 : Int32)), (.ref au), (.long (fj346 0)), (.int (0 : Int32)), (.ref b299)])) (fun _ k => XS.iloadN X359.here hx rfl (hb hby d12_108) rfl k) ?_
  have f360 := (own_Ar_other (own_Ar_keep (own_Ar_other f336 W338 ne301) K346q (ninS ne301 nin0)) W354 ne294)
  refine own_laload X359 hx hZ e359 f360 1 (by decide) (by decide) (hb hby d12_109) ?_
  show own_Go p e below _ T359 (mkF m 110 #[.val (.ref a), .val (.int (16 : Int32)), .val (.int (1 : Int32)), .val (.int (0 : Int32))] [(.long (fu 1)), (.long (fj346 0)), (.int (0 : Int32)), (.ref b299)])
  refine own_callS X359 hx hZ hown e359 (y := (⟨"java/lang/Math", "max", "(JJ)J"⟩ : MethodName)) (rm := ({ frames := 0, cells := 0, slots := 0, locals := 0 } : Room)) (hw _ (List.mem_of_getElem? (i := 133) rfl)) (hw _ (List.mem_of_getElem? (i := 2) rfl)) (hw _ (List.mem_of_getElem? (i := 3) rfl)) (hw _ (List.mem_of_getElem? (i := 4) rfl)) (by decide) (argsL := [(.long (fj346 0)), (.long (fu 1))]) (rest := [(.int (0 : Int32)), (.ref b299)]) (own_rmMJ l Z a0 hw [] (fj346 0) (fu 1) h354 n0) (by rw [hml]; rfl) pd_1 rfl rfl (hb hby d12_110) (W := 2) (Nat.le_of_eq rfl) (by decide) (by decide) (by decide) (by decide) ?_
  intro v361 T361 L361 X361 hQ361
  obtain ⟨rfl, e361, rfl⟩ := hQ361
  rw [List.append_nil] at X361
  show own_Go p e below _ T361 (mkF m 113 #[.val (.ref a), .val (.int (16 : Int32)), .val (.int (1 : Int32)), .val (.int (0 : Int32))] [(.long (own_mx (fj346 0) (fu 1))), (.int (0 : Int32)), (.ref b299)])
  refine own_lastore X361 hx hZ e361 f358 0 (by decide) (by decide) (hb hby d12_113) ?_
  intro T362 h362 X362 e362 W362
  have A362 : own_Al Z h362 b299 16 (own_upl fj346 0 (own_mx (fj346 0) (fu 1))) := own_Al_set (f := fj346) f358 W362
  have K362 := K354.wr W362 (Or.inr sz299)
  have N362 := Fr.snoc X362 N354 ge299
  show own_Go p e below _ T362 (mkF m 114 #[.val (.ref a), .val (.int (16 : Int32)), .val (.int (1 : Int32)), .val (.int (0 : Int32))] [])
  refine own_go (g' := (mkF m 117 #[.val (.ref a), .val (.int (16 : Int32)), .val (.int ((1 : Int32) + (1 : Int32))), .val (.int (0 : Int32))] [])) (fun _ k => XS.iinc X362.here hx rfl (hb hby d12_114) rfl (l' := #[.val (.ref a), .val (.int (16 : Int32)), .val (.int ((1 : Int32) + (1 : Int32))), .val (.int (0 : Int32))]) rfl k) ?_
  show own_Go p e below _ T362 (mkF m 117 #[.val (.ref a), .val (.int (16 : Int32)), .val (.int (2 : Int32)), .val (.int (0 : Int32))] [])
  refine own_go (g' := (mkF m 56 #[.val (.ref a), .val (.int (16 : Int32)), .val (.int (2 : Int32)), .val (.int (0 : Int32))] [])) (fun _ k => XS.goto X362.here hx rfl (pc0 := 117) (pc' := 56) rfl (hb hby d12_117) (by decide) (by decide) k) ?_
  refine own_go (g' := (mkF m 57 #[.val (.ref a), .val (.int (16 : Int32)), .val (.int (2 : Int32)), .val (.int (0 : Int32))] [(.int (2 : Int32))])) (fun _ k => XS.iloadN X362.here hx rfl (hb hby d12_56) rfl k) ?_
  refine own_go (g' := (mkF m 58 #[.val (.ref a), .val (.int (16 : Int32)), .val (.int (2 : Int32)), .val (.int (0 : Int32))] [(.ref a), (.int (2 : Int32))])) (fun _ k => XS.aloadN X362.here hx rfl (hb hby d12_57) rfl rfl k) ?_
  have f363 := (own_Ob_other f355 W362 ne300)
  refine own_getF X362 hx hZ (host := "") hown e362 (Or.inl (hw _ (List.mem_of_getElem? (i := 73) rfl))) Via.refl (own_Ob_fld f363 9 rfl) (hb hby d12_58) ?_
  intro T364 X364 e364
  show own_Go p e below _ T364 (mkF m 61 #[.val (.ref a), .val (.int (16 : Int32)), .val (.int (2 : Int32)), .val (.int (0 : Int32))] [(.int (3 : Int32)), (.int (2 : Int32))])
  refine own_go (g' := (mkF m 64 #[.val (.ref a), .val (.int (16 : Int32)), .val (.int (2 : Int32)), .val (.int (0 : Int32))] [])) (fun _ k => XS.icmpNo X364.here hx rfl (hb hby d12_61) rfl (XT.ii_ge_f (by decide)) k) ?_
  refine own_go (g' := (mkF m 65 #[.val (.ref a), .val (.int (16 : Int32)), .val (.int (2 : Int32)), .val (.int (0 : Int32))] [(.ref a)])) (fun _ k => XS.aloadN X364.here hx rfl (hb hby d12_64) rfl rfl k) ?_
  refine own_go (g' := (mkF m 66 #[.val (.ref a), .val (.int (16 : Int32)), .val (.int (2 : Int32)), .val (.int (0 : Int32))] [(.ref a), (.ref a)])) (fun _ k => XS.aloadN X364.here hx rfl (hb hby d12_65) rfl rfl k) ?_
  refine own_getF X364 hx hZ (host := "") hown e364 (Or.inl (hw _ (List.mem_of_getElem? (i := 52) rfl))) Via.refl (own_Ob_fld f363 2 rfl) (hb hby d12_66) ?_
  intro T365 X365 e365
  show own_Go p e below _ T365 (mkF m 69 #[.val (.ref a), .val (.int (16 : Int32)), .val (.int (2 : Int32)), .val (.int (0 : Int32))] [(.ref ao), (.ref a)])
  refine own_go (g' := (mkF m 70 #[.val (.ref a), .val (.int (16 : Int32)), .val (.int (2 : Int32)), .val (.int (0 : Int32))] [(.int (2 : Int32)), (.ref ao), (.ref a)])) (fun _ k => XS.iloadN X365.here hx rfl (hb hby d12_69) rfl k) ?_
  have f366 := (own_Rr_other (own_Rr_other f350 W354 ne295) W362 ne303)
  refine own_aaload X365 hx hZ e365 (own_Rr_ar f366) rfl 2 (by decide) (by decide) (hb hby d12_70) ?_
  rw [show (fo) 2 = Value.ref jb from (ho 2 (by decide))]
  show own_Go p e below _ T365 (mkF m 71 #[.val (.ref a), .val (.int (16 : Int32)), .val (.int (2 : Int32)), .val (.int (0 : Int32))] [(.ref jb), (.ref a)])
  have f367 := (own_Ob_other (own_Ob_other f351 W354 ne296) W362 ne305)
  refine own_callV X365 hx hZ hown e365 (C := "com/example/gangplank/gangplank/workload/Job") (y := (⟨"com/example/gangplank/gangplank/workload/Job", "index", "()I"⟩ : MethodName)) (rm := ({ frames := 0, cells := 0, slots := 0, locals := 0 } : Room)) (hw _ (List.mem_of_getElem? (i := 122) rfl)) (hw _ (List.mem_of_getElem? (i := 123) rfl)) (hw _ (List.mem_of_getElem? (i := 125) rfl)) (hw _ (List.mem_of_getElem? (i := 124) rfl)) (hw _ (List.mem_of_getElem? (i := 9) rfl)) (hw _ (List.mem_of_getElem? (i := 126) rfl)) (by decide) (a := jb) f367.1 (argsL := []) (rest := [(.ref a)]) (own_rmIx l Z a0 hw [] jb (0 : Int32) gJ h362 n0 f367 hJ) (by rw [hml]; rfl) pd_18 rfl rfl (hb hby d12_71) (W := 1) (Nat.le_of_eq rfl) (by decide) (by decide) (by decide) (by decide) ?_
  intro v368 T368 L368 X368 hQ368
  obtain ⟨rfl, e368, rfl⟩ := hQ368
  rw [List.append_nil] at X368
  show own_Go p e below _ T368 (mkF m 74 #[.val (.ref a), .val (.int (16 : Int32)), .val (.int (2 : Int32)), .val (.int (0 : Int32))] [(.int (0 : Int32)), (.ref a)])
  have f369 := (own_Ar_other A354 W362 ne307)
  refine own_callP X368 hx hZ hown e368 (y := (⟨"com/example/gangplank/gangplank/space/HeldFromNow", "ownerSlot", "(I)I"⟩ : MethodName)) (y' := (⟨"com/example/gangplank/gangplank/space/HeldFromNow", "restart", "(J)V"⟩ : MethodName)) (rm := ({ frames := 0, cells := 0, slots := 0, locals := 0 } : Room)) (hw _ (List.mem_of_getElem? (i := 127) rfl)) (hw _ (List.mem_of_getElem? (i := 128) rfl)) (hw _ (List.mem_of_getElem? (i := 129) rfl)) (hw _ (List.mem_of_getElem? (i := 69) rfl)) (hw _ (List.mem_of_getElem? (i := 68) rfl)) rfl (hw _ (List.mem_of_getElem? (i := 40) rfl)) (hw _ (List.mem_of_getElem? (i := 130) rfl)) (by decide) (a := a) f363.1 (argsL := [(.int (0 : Int32))]) (rest := []) (own_rmOS l Z a0 hw [] a au ac ao af ah b292 b299 so fl nw hn (own_upi (own_upi (fun _ => (-1 : Int32)) 0 (0 : Int32)) 0 (0 : Int32)) (own_upl fj346 0 (own_mx (fj346 0) (fu 1))) h362 n0 ge299 f363 f369 A362 (Or.inr rfl)) (by rw [hml]; rfl) pd_19 rfl rfl (hb hby d12_74) (W := 0) (Nat.le_of_eq rfl) (by decide) (by decide) (by decide) (by decide) ?_
  intro v370 T370 L370 X370 hQ370
  obtain ⟨rfl, N370q, K370q, fj370, F370⟩ := hQ370
  have K370 := K362.trans K370q (allS (Or.inr sz299) all0)
  have N370 := Fr.app N362 N370q
  show own_Go p e below _ T370 (mkF m 77 #[.val (.ref a), .val (.int (16 : Int32)), .val (.int (2 : Int32)), .val (.int (0 : Int32))] [(.int (0 : Int32))])
  refine own_go (g' := (mkF m 78 #[.val (.ref a), .val (.int (16 : Int32)), .val (.int (2 : Int32)), .val (.int (0 : Int32))] [])) (fun _ k => XS.istoreN X370.here hx rfl (hb hby d12_77) rfl (l' := #[.val (.ref a), .val (.int (16 : Int32)), .val (.int (2 : Int32)), .val (.int (0 : Int32))]) rfl k) ?_
  refine own_go (g' := (mkF m 79 #[.val (.ref a), .val (.int (16 : Int32)), .val (.int (2 : Int32)), .val (.int (0 : Int32))] [(.ref a)])) (fun _ k => XS.aloadN X370.here hx rfl (hb hby d12_78) rfl rfl k) ?_
  have f371 := (own_Ob_keep f363 K370q (ninS ne300 nin0))
  refine own_getF X370 hx hZ (host := "") hown rfl (Or.inl (hw _ (List.mem_of_getElem? (i := 61) rfl))) Via.refl (own_Ob_fld f371 6 rfl) (hb hby d12_79) ?_
  intro T372 X372 e372
  show own_Go p e below _ T372 (mkF m 82 #[.val (.ref a), .val (.int (16 : Int32)), .val (.int (2 : Int32)), .val (.int (0 : Int32))] [(.ref b292)])
  refine own_go (g' := (mkF m 83 #[.val (.ref a), .val (.int (16 : Int32)), .val (.int (2 : Int32)), .val (.int (0 : Int32))] [(.int (0 : Int32)), (.ref b292)])) (fun _ k => XS.iloadN X372.here hx rfl (hb hby d12_82) rfl k) ?_
  refine own_go (g' := (mkF m 84 #[.val (.ref a), .val (.int (16 : Int32)), .val (.int (2 : Int32)), .val (.int (0 : Int32))] [(.ref a), (.int (0 : Int32)), (.ref b292)])) (fun _ k => XS.aloadN X372.here hx rfl (hb hby d12_83) rfl rfl k) ?_
  refine own_getF X372 hx hZ (host := "") hown e372 (Or.inl (hw _ (List.mem_of_getElem? (i := 52) rfl))) Via.refl (own_Ob_fld f371 2 rfl) (hb hby d12_84) ?_
  intro T373 X373 e373
  show own_Go p e below _ T373 (mkF m 87 #[.val (.ref a), .val (.int (16 : Int32)), .val (.int (2 : Int32)), .val (.int (0 : Int32))] [(.ref ao), (.int (0 : Int32)), (.ref b292)])
  refine own_go (g' := (mkF m 88 #[.val (.ref a), .val (.int (16 : Int32)), .val (.int (2 : Int32)), .val (.int (0 : Int32))] [(.int (2 : Int32)), (.ref ao), (.int (0 : Int32)), (.ref b292)])) (fun _ k => XS.iloadN X373.here hx rfl (hb hby d12_87) rfl k) ?_
  have f374 := (own_Rr_keep f366 K370q (ninS ne303 nin0))
  refine own_aaload X373 hx hZ e373 (own_Rr_ar f374) rfl 2 (by decide) (by decide) (hb hby d12_88) ?_
  rw [show (fo) 2 = Value.ref jb from (ho 2 (by decide))]
  show own_Go p e below _ T373 (mkF m 89 #[.val (.ref a), .val (.int (16 : Int32)), .val (.int (2 : Int32)), .val (.int (0 : Int32))] [(.ref jb), (.int (0 : Int32)), (.ref b292)])
  have f375 := (own_Ob_keep f367 K370q (ninS ne305 nin0))
  refine own_callV X373 hx hZ hown e373 (C := "com/example/gangplank/gangplank/workload/Job") (y := (⟨"com/example/gangplank/gangplank/workload/Job", "index", "()I"⟩ : MethodName)) (rm := ({ frames := 0, cells := 0, slots := 0, locals := 0 } : Room)) (hw _ (List.mem_of_getElem? (i := 122) rfl)) (hw _ (List.mem_of_getElem? (i := 123) rfl)) (hw _ (List.mem_of_getElem? (i := 125) rfl)) (hw _ (List.mem_of_getElem? (i := 124) rfl)) (hw _ (List.mem_of_getElem? (i := 9) rfl)) (hw _ (List.mem_of_getElem? (i := 126) rfl)) (by decide) (a := jb) f375.1 (argsL := []) (rest := [(.int (0 : Int32)), (.ref b292)]) (own_rmIx l Z a0 hw [] jb (0 : Int32) gJ T370.heap n0 f375 hJ) (by rw [hml]; rfl) pd_18 rfl rfl (hb hby d12_89) (W := 2) (Nat.le_of_eq rfl) (by decide) (by decide) (by decide) (by decide) ?_
  intro v376 T376 L376 X376 hQ376
  obtain ⟨rfl, e376, rfl⟩ := hQ376
  rw [List.append_nil] at X376
  show own_Go p e below _ T376 (mkF m 92 #[.val (.ref a), .val (.int (16 : Int32)), .val (.int (2 : Int32)), .val (.int (0 : Int32))] [(.int (0 : Int32)), (.int (0 : Int32)), (.ref b292)])
  have f377 := (own_Ar_keep f369 K370q (ninS ne307 nin0))
  refine own_iastore X376 hx hZ e376 f377 0 (by decide) (by decide) (hb hby d12_92) ?_
  intro T378 h378 X378 e378 W378
  have A378 : own_Ai Z h378 b292 .int 16 (own_upi (own_upi (own_upi (fun _ => (-1 : Int32)) 0 (0 : Int32)) 0 (0 : Int32)) 0 (0 : Int32)) := own_Ai_set (f := (own_upi (own_upi (fun _ => (-1 : Int32)) 0 (0 : Int32)) 0 (0 : Int32))) f377 W378
  have K378 := K370.wr W378 (Or.inr sz292)
  have N378 := Fr.snoc X378 N370 ge292
  show own_Go p e below _ T378 (mkF m 93 #[.val (.ref a), .val (.int (16 : Int32)), .val (.int (2 : Int32)), .val (.int (0 : Int32))] [])
  refine own_go (g' := (mkF m 94 #[.val (.ref a), .val (.int (16 : Int32)), .val (.int (2 : Int32)), .val (.int (0 : Int32))] [(.ref a)])) (fun _ k => XS.aloadN X378.here hx rfl (hb hby d12_93) rfl rfl k) ?_
  have f379 := (own_Ob_other f371 W378 ne293)
  refine own_getF X378 hx hZ (host := "") hown e378 (Or.inl (hw _ (List.mem_of_getElem? (i := 63) rfl))) Via.refl (own_Ob_fld f379 7 rfl) (hb hby d12_94) ?_
  intro T380 X380 e380
  show own_Go p e below _ T380 (mkF m 97 #[.val (.ref a), .val (.int (16 : Int32)), .val (.int (2 : Int32)), .val (.int (0 : Int32))] [(.ref b299)])
  refine own_go (g' := (mkF m 98 #[.val (.ref a), .val (.int (16 : Int32)), .val (.int (2 : Int32)), .val (.int (0 : Int32))] [(.int (0 : Int32)), (.ref b299)])) (fun _ k => XS.iloadN X380.here hx rfl (hb hby d12_97) rfl k) ?_
  refine own_go (g' := (mkF m 99 #[.val (.ref a), .val (.int (16 : Int32)), .val (.int (2 : Int32)), .val (.int (0 : Int32))] [(.ref a), (.int (0 : Int32)), (.ref b299)])) (fun _ k => XS.aloadN X380.here hx rfl (hb hby d12_98) rfl rfl k) ?_
  refine own_getF X380 hx hZ (host := "") hown e380 (Or.inl (hw _ (List.mem_of_getElem? (i := 63) rfl))) Via.refl (own_Ob_fld f379 7 rfl) (hb hby d12_99) ?_
  intro T381 X381 e381
  show own_Go p e below _ T381 (mkF m 102 #[.val (.ref a), .val (.int (16 : Int32)), .val (.int (2 : Int32)), .val (.int (0 : Int32))] [(.ref b299), (.int (0 : Int32)), (.ref b299)])
  refine own_go (g' := (mkF m 103 #[.val (.ref a), .val (.int (16 : Int32)), .val (.int (2 : Int32)), .val (.int (0 : Int32))] [(.int (0 : Int32)), (.ref b299), (.int (0 : Int32)), (.ref b299)])) (fun _ k => XS.iloadN X381.here hx rfl (hb hby d12_102) rfl k) ?_
  have f382 := (own_Ar_other F370 W378 (Ne.symm ne307))
  refine own_laload X381 hx hZ e381 f382 0 (by decide) (by decide) (hb hby d12_103) ?_
  show own_Go p e below _ T381 (mkF m 104 #[.val (.ref a), .val (.int (16 : Int32)), .val (.int (2 : Int32)), .val (.int (0 : Int32))] [(.long (fj370 0)), (.int (0 : Int32)), (.ref b299)])
  refine own_go (g' := (mkF m 105 #[.val (.ref a), .val (.int (16 : Int32)), .val (.int (2 : Int32)), .val (.int (0 : Int32))] [(.ref a), (.long (fj370 0)), (.int (0 : Int32)), (.ref b299)])) (fun _ k => XS.aloadN X381.here hx rfl (hb hby d12_104) rfl rfl k) ?_
  refine own_getF X381 hx hZ (host := "") hown e381 (Or.inl (hw _ (List.mem_of_getElem? (i := 46) rfl))) Via.refl (own_Ob_fld f379 0 rfl) (hb hby d12_105) ?_
  intro T383 X383 e383
  show own_Go p e below _ T383 (mkF m 108 #[.val (.ref a), .val (.int (16 : Int32)), .val (.int (2 : Int32)), .val (.int (0 : Int32))] [(.ref au), (.long (fj370 0)), (.int (0 : Int32)), (.ref b299)])
  refine own_go (g' := (mkF m 109 #[.val (.ref a), .val (.int (16 : Int32)), .val (.int (2 : Int32)), .val (.int (0 : Int32))] [(.int (2 : Int32)), (.ref au), (.long (fj370 0)), (.int (0 : Int32)), (.ref b299)])) (fun _ k => XS.iloadN X383.here hx rfl (hb hby d12_108) rfl k) ?_
  have f384 := (own_Ar_other (own_Ar_keep (own_Ar_other f360 W362 ne301) K370q (ninS ne301 nin0)) W378 ne294)
  refine own_laload X383 hx hZ e383 f384 2 (by decide) (by decide) (hb hby d12_109) ?_
  show own_Go p e below _ T383 (mkF m 110 #[.val (.ref a), .val (.int (16 : Int32)), .val (.int (2 : Int32)), .val (.int (0 : Int32))] [(.long (fu 2)), (.long (fj370 0)), (.int (0 : Int32)), (.ref b299)])
  refine own_callS X383 hx hZ hown e383 (y := (⟨"java/lang/Math", "max", "(JJ)J"⟩ : MethodName)) (rm := ({ frames := 0, cells := 0, slots := 0, locals := 0 } : Room)) (hw _ (List.mem_of_getElem? (i := 133) rfl)) (hw _ (List.mem_of_getElem? (i := 2) rfl)) (hw _ (List.mem_of_getElem? (i := 3) rfl)) (hw _ (List.mem_of_getElem? (i := 4) rfl)) (by decide) (argsL := [(.long (fj370 0)), (.long (fu 2))]) (rest := [(.int (0 : Int32)), (.ref b299)]) (own_rmMJ l Z a0 hw [] (fj370 0) (fu 2) h378 n0) (by rw [hml]; rfl) pd_1 rfl rfl (hb hby d12_110) (W := 2) (Nat.le_of_eq rfl) (by decide) (by decide) (by decide) (by decide) ?_
  intro v385 T385 L385 X385 hQ385
  obtain ⟨rfl, e385, rfl⟩ := hQ385
  rw [List.append_nil] at X385
  show own_Go p e below _ T385 (mkF m 113 #[.val (.ref a), .val (.int (16 : Int32)), .val (.int (2 : Int32)), .val (.int (0 : Int32))] [(.long (own_mx (fj370 0) (fu 2))), (.int (0 : Int32)), (.ref b299)])
  refine own_lastore X385 hx hZ e385 f382 0 (by decide) (by decide) (hb hby d12_113) ?_
  intro T386 h386 X386 e386 W386
  have A386 : own_Al Z h386 b299 16 (own_upl fj370 0 (own_mx (fj370 0) (fu 2))) := own_Al_set (f := fj370) f382 W386
  have K386 := K378.wr W386 (Or.inr sz299)
  have N386 := Fr.snoc X386 N378 ge299
  show own_Go p e below _ T386 (mkF m 114 #[.val (.ref a), .val (.int (16 : Int32)), .val (.int (2 : Int32)), .val (.int (0 : Int32))] [])
  refine own_go (g' := (mkF m 117 #[.val (.ref a), .val (.int (16 : Int32)), .val (.int ((2 : Int32) + (1 : Int32))), .val (.int (0 : Int32))] [])) (fun _ k => XS.iinc X386.here hx rfl (hb hby d12_114) rfl (l' := #[.val (.ref a), .val (.int (16 : Int32)), .val (.int ((2 : Int32) + (1 : Int32))), .val (.int (0 : Int32))]) rfl k) ?_
  show own_Go p e below _ T386 (mkF m 117 #[.val (.ref a), .val (.int (16 : Int32)), .val (.int (3 : Int32)), .val (.int (0 : Int32))] [])
  refine own_go (g' := (mkF m 56 #[.val (.ref a), .val (.int (16 : Int32)), .val (.int (3 : Int32)), .val (.int (0 : Int32))] [])) (fun _ k => XS.goto X386.here hx rfl (pc0 := 117) (pc' := 56) rfl (hb hby d12_117) (by decide) (by decide) k) ?_
  refine own_go (g' := (mkF m 57 #[.val (.ref a), .val (.int (16 : Int32)), .val (.int (3 : Int32)), .val (.int (0 : Int32))] [(.int (3 : Int32))])) (fun _ k => XS.iloadN X386.here hx rfl (hb hby d12_56) rfl k) ?_
  refine own_go (g' := (mkF m 58 #[.val (.ref a), .val (.int (16 : Int32)), .val (.int (3 : Int32)), .val (.int (0 : Int32))] [(.ref a), (.int (3 : Int32))])) (fun _ k => XS.aloadN X386.here hx rfl (hb hby d12_57) rfl rfl k) ?_
  have f387 := (own_Ob_other f379 W386 ne300)
  refine own_getF X386 hx hZ (host := "") hown e386 (Or.inl (hw _ (List.mem_of_getElem? (i := 73) rfl))) Via.refl (own_Ob_fld f387 9 rfl) (hb hby d12_58) ?_
  intro T388 X388 e388
  show own_Go p e below _ T388 (mkF m 61 #[.val (.ref a), .val (.int (16 : Int32)), .val (.int (3 : Int32)), .val (.int (0 : Int32))] [(.int (3 : Int32)), (.int (3 : Int32))])
  refine own_go (g' := (mkF m 120 #[.val (.ref a), .val (.int (16 : Int32)), .val (.int (3 : Int32)), .val (.int (0 : Int32))] [])) (fun _ k => XS.icmpYes X388.here hx rfl (pc0 := 61) (pc' := 120) rfl (hb hby d12_61) rfl (XT.ii_ge_t (by decide)) (by decide) (by decide) k) ?_
  exact own_ret0 X388 hx hlk hret e388 (hb hby d12_120) ⟨rfl, N386, K386, _, _, _, f387⟩ (by decide) (by decide)
set_option maxRecDepth 65536 in
set_option maxHeartbeats 40000000 in
theorem own_rmSe (l : Launch) (Z : State) (a0 : Array Value) (hw : ∀ d ∈ tables_1, d.before a0 Z = true) (ws : List Jvm.Cond) (a jb : Addr) (au ac ao af ah ai aj : Addr) (so fl om : Int32) (nw hn : Int64) (fu fc fa0 fh0 : Nat → Int64) (fo : Nat → Value) (gJ : Nat → Value) (h0 : Heap) (n0 : Nat) (Z0 : n0 ≤ h0.size) (HU : own_Up [jb, a, au, ac, ao, af, ah, ai, aj]) (gj : n0 ≤ jb) (B0 : own_Ob Z h0 a "com/example/gangplank/gangplank/space/HeldFromNow" own_fs1 (own_gH au ac ao af ah ai aj so (3 : Int32) fl om nw hn)) (Fu : own_Al Z h0 au 8 fu) (Fc : own_Al Z h0 ac 8 fc) (Fo : own_Rr Z h0 ao "com/example/gangplank/gangplank/workload/Job" 8 fo) (Fa : own_Al Z h0 af 16 fa0) (Fh : own_Al Z h0 ah 16 fh0) (Fi : own_Ai Z h0 ai .int 0 (fun _ => 0)) (BJ : own_Ob Z h0 jb "com/example/gangplank/gangplank/workload/Job" own_fs2 gJ) (hJ : gJ 0 = .int 0) (hso : ¬ so = 0 → ¬ fu 1 < fu 0 ∧ ¬ fu 2 < fu 1) (ho : ∀ i, i < 3 → fo i = .ref jb) :
    own_Met l site_191 prog_214_method_5_code 2 (some (.object "com/example/gangplank/gangplank/space/HeldFromNow")) ws ({ frames := 3, cells := 2, slots := 32, locals := 45 } : Room) Z #[(.ref a)] h0 (own_QSe Z a au ac ao af ah fu fc nw h0 n0) := by
  refine own_enter (plainFor_of_name pn_9) ?_
  intro p e s m below meth c T0 X0 hx hby hml hZ hown e0 hret hlk hnm
  have hown : s.vm.findClass "com/example/gangplank/gangplank/space/HeldFromNow" = some m.cls := hown
  have hml : c.maxLocals = 2 := hml
  have N0 := Fr.nil n0
  refine own_start (ef_9 m a) ?_
  show own_Go p e below _ T0 (mkF m 0 #[.val (.ref a), .unset] [])
  have K0 := Keep.refl h0 [a, au, ac, ao, af, ah]
  refine own_go (g' := (mkF m 1 #[.val (.ref a), .unset] [(.ref a)])) (fun _ k => XS.aloadN X0.here hx rfl (hb hby d9_0) rfl rfl k) ?_
  refine own_callP X0 hx hZ hown e0 (y := (⟨"com/example/gangplank/gangplank/space/HeldFromNow", "sortByEnd", "()V"⟩ : MethodName)) (y' := (⟨"com/example/gangplank/gangplank/space/HeldFromNow", "restart", "(J)V"⟩ : MethodName)) (rm := ({ frames := 0, cells := 0, slots := 0, locals := 0 } : Room)) (hw _ (List.mem_of_getElem? (i := 86) rfl)) (hw _ (List.mem_of_getElem? (i := 87) rfl)) (hw _ (List.mem_of_getElem? (i := 88) rfl)) (hw _ (List.mem_of_getElem? (i := 69) rfl)) (hw _ (List.mem_of_getElem? (i := 68) rfl)) rfl (hw _ (List.mem_of_getElem? (i := 40) rfl)) (hw _ (List.mem_of_getElem? (i := 89) rfl)) (by decide) (a := a) B0.1 (argsL := []) (rest := []) (own_rmSo l Z a0 hw [] a jb au ac ao af ah ai aj so fl om nw hn fu fc fo h0 n0 HU gj B0 Fu Fc Fo BJ.1 hso ho) (by rw [hml]; rfl) pd_10 rfl rfl (hb hby d9_1) (W := 0) (Nat.le_of_eq rfl) (by decide) (by decide) (by decide) (by decide) ?_
  intro v389 T389 L389 X389 hQ389
  obtain ⟨rfl, N389q, K389q, B1, fu1, fc1, fo1, Fu1, Fc1, Fo1, pm, s1, s2, ho1⟩ := hQ389
  have K389 := K0.trans K389q (allS (Or.inl (List.mem_of_getElem? (i := 0) rfl)) (allS (Or.inl (List.mem_of_getElem? (i := 1) rfl)) (allS (Or.inl (List.mem_of_getElem? (i := 2) rfl)) (allS (Or.inl (List.mem_of_getElem? (i := 3) rfl)) all0))))
  have N389 := Fr.app N0 N389q
  show own_Go p e below _ T389 (mkF m 4 #[.val (.ref a), .unset] [])
  refine own_go (g' := (mkF m 5 #[.val (.ref a), .unset] [(.ref a)])) (fun _ k => XS.aloadN X389.here hx rfl (hb hby d9_4) rfl rfl k) ?_
  refine own_go (g' := (mkF m 6 #[.val (.ref a), .unset] [(.long (0 : Int64)), (.ref a)])) (fun _ k => XT.lconst X389.here hx rfl (hb hby d9_5) k) ?_
  refine own_putF X389 hx hZ (host := "") (ty := .long) hown rfl (Or.inl (hw _ (List.mem_of_getElem? (i := 90) rfl))) Via.refl (own_Ob_fld B1 10 rfl) B1.1 (Or.inl (hw _ (List.mem_of_getElem? (i := 91) rfl))) (hw _ (List.mem_of_getElem? (i := 39) rfl)) (by decide) rfl rfl (hb hby d9_6) ?_
  intro T390 h390 X390 e390 W390
  have B390 := own_Ob_put B1 own_ok1 (own_ld1 hw) 10 rfl W390
  have K390 := K389.wr W390 (Or.inl (List.mem_of_getElem? (i := 0) rfl))
  have N390 := Fr.snoc X390 N389 (own_Up_ge HU gj 1 rfl)
  show own_Go p e below _ T390 (mkF m 9 #[.val (.ref a), .unset] [])
  refine own_go (g' := (mkF m 10 #[.val (.ref a), .unset] [(.ref a)])) (fun _ k => XS.aloadN X390.here hx rfl (hb hby d9_9) rfl rfl k) ?_
  refine own_go (g' := (mkF m 11 #[.val (.ref a), .unset] [(.int (0 : Int32)), (.ref a)])) (fun _ k => XS.iconst X390.here hx rfl (hb hby d9_10) k) ?_
  refine own_putF X390 hx hZ (host := "") (ty := .int) hown e390 (Or.inl (hw _ (List.mem_of_getElem? (i := 92) rfl))) Via.refl (own_Ob_fld B390 11 rfl) B390.1 (Or.inl (hw _ (List.mem_of_getElem? (i := 93) rfl))) (hw _ (List.mem_of_getElem? (i := 39) rfl)) (by decide) rfl rfl (hb hby d9_11) ?_
  intro T391 h391 X391 e391 W391
  have B391 := own_Ob_put B390 own_ok1 (own_ld1 hw) 11 rfl W391
  have K391 := K390.wr W391 (Or.inl (List.mem_of_getElem? (i := 0) rfl))
  have N391 := Fr.snoc X391 N390 (own_Up_ge HU gj 1 rfl)
  show own_Go p e below _ T391 (mkF m 14 #[.val (.ref a), .unset] [])
  have B2 : own_Ob Z h391 a "com/example/gangplank/gangplank/space/HeldFromNow" own_fs1 (own_gH au ac ao af ah ai aj 1 (3 : Int32) 0 om nw 0) := (own_Ob_eq B391 (fun i hi => by have hi' : i < 13 := hi; match i, hi' with | 0, _ => rfl | 1, _ => rfl | 2, _ => rfl | 3, _ => rfl | 4, _ => rfl | 5, _ => rfl | 6, _ => rfl | 7, _ => rfl | 8, _ => rfl | 9, _ => rfl | 10, _ => rfl | 11, _ => rfl | 12, _ => rfl))
  refine own_go (g' := (mkF m 15 #[.val (.ref a), .unset] [(.int (0 : Int32))])) (fun _ k => XS.iconst X391.here hx rfl (hb hby d9_14) k) ?_
  refine own_go (g' := (mkF m 16 #[.val (.ref a), .val (.int (0 : Int32))] [])) (fun _ k => XS.istoreN X391.here hx rfl (hb hby d9_15) rfl (l' := #[.val (.ref a), .val (.int (0 : Int32))]) rfl k) ?_
  have f392 := (own_Ar_other (own_Ar_other Fu1 W390 (Ne.symm (own_Up_ne HU 1 2 rfl rfl (by decide)))) W391 (Ne.symm (own_Up_ne HU 1 2 rfl rfl (by decide))))
  have f393 := (own_Ar_other (own_Ar_other Fc1 W390 (Ne.symm (own_Up_ne HU 1 3 rfl rfl (by decide)))) W391 (Ne.symm (own_Up_ne HU 1 3 rfl rfl (by decide))))
  have f394 := (own_Rr_other (own_Rr_other Fo1 W390 (Ne.symm (own_Up_ne HU 1 4 rfl rfl (by decide)))) W391 (Ne.symm (own_Up_ne HU 1 4 rfl rfl (by decide))))
  have f395 := (own_Ar_other (own_Ar_other (own_Ar_keep Fa K389q (ninS (Ne.symm (own_Up_ne HU 1 5 rfl rfl (by decide))) (ninS (Ne.symm (own_Up_ne HU 2 5 rfl rfl (by decide))) (ninS (Ne.symm (own_Up_ne HU 3 5 rfl rfl (by decide))) (ninS (Ne.symm (own_Up_ne HU 4 5 rfl rfl (by decide))) nin0))))) W390 (Ne.symm (own_Up_ne HU 1 5 rfl rfl (by decide)))) W391 (Ne.symm (own_Up_ne HU 1 5 rfl rfl (by decide))))
  have f396 := (own_Ar_other (own_Ar_other (own_Ar_keep Fh K389q (ninS (Ne.symm (own_Up_ne HU 1 6 rfl rfl (by decide))) (ninS (Ne.symm (own_Up_ne HU 2 6 rfl rfl (by decide))) (ninS (Ne.symm (own_Up_ne HU 3 6 rfl rfl (by decide))) (ninS (Ne.symm (own_Up_ne HU 4 6 rfl rfl (by decide))) nin0))))) W390 (Ne.symm (own_Up_ne HU 1 6 rfl rfl (by decide)))) W391 (Ne.symm (own_Up_ne HU 1 6 rfl rfl (by decide))))
  suffices loop : ∀ (d i : Nat) (iv : Int32) (T' : State) (h' : Heap) (lo : List Loc) (fa fh : Nat → Int64) (F : Nat) (fl : Int32) (hn : Int64), Stand p l e ({ frames := 3, cells := 2, slots := 32, locals := 45 } : Room) s m #[(.ref a)] below meth c T' lo 0 0 → T'.heap = h' → Fr n0 lo → Keep h0 h' [a, au, ac, ao, af, ah] → own_Ob Z h' a "com/example/gangplank/gangplank/space/HeldFromNow" own_fs1 (own_gH au ac ao af ah ai aj 1 (3 : Int32) fl om nw hn) → own_Al Z h' au 8 fu1 → own_Al Z h' ac 8 fc1 → own_Rr Z h' ao "com/example/gangplank/gangplank/workload/Job" 8 fo1 → own_Al Z h' af 16 fa → own_Al Z h' ah 16 fh → own_Inv fu1 fc1 i F fa fh hn → fl.toInt = (F : Int) → i + d = 3 → iv.toInt = (i : Int) → own_Go p e below (own_Po s (own_QSe Z a au ac ao af ah fu fc nw h0 n0) 2 32) T' (mkF m 16 #[.val (.ref a), .val (.int iv)] []) by
    exact loop 3 0 0 _ _ _ _ _ 0 0 0 X391 e391 N391 K391 B2 f392 f393 f394 f395 f396 (own_inv_0 _ _ _ _) rfl rfl rfl
  intro d
  induction d with
  | zero =>
    intro i iv T1 h1 lo fa fh F fl hn X1 e1 N1 K1 B3 Fu3 Fc3 Fo3 Fa3 Fh3 hI hfl hid hiv
    refine own_go (g' := (mkF m 17 #[.val (.ref a), .val (.int iv)] [(.int iv)])) (fun _ k => XS.iloadN X1.here hx rfl (hb hby d9_16) rfl k) ?_
    refine own_go (g' := (mkF m 18 #[.val (.ref a), .val (.int iv)] [(.ref a), (.int iv)])) (fun _ k => XS.aloadN X1.here hx rfl (hb hby d9_17) rfl rfl k) ?_
    refine own_getF X1 hx hZ (host := "") hown e1 (Or.inl (hw _ (List.mem_of_getElem? (i := 73) rfl))) Via.refl (own_Ob_fld B3 9 rfl) (hb hby d9_18) ?_
    intro T397 X397 e397
    show own_Go p e below _ T397 (mkF m 21 #[.val (.ref a), .val (.int iv)] [(.int (3 : Int32)), (.int iv)])
    refine own_go (g' := (mkF m 174 #[.val (.ref a), .val (.int iv)] [])) (fun _ k => XS.icmpYes X397.here hx rfl (pc0 := 21) (pc' := 174) rfl (hb hby d9_21) rfl (XT.ii_ge_t (by rw [Int32.lt_iff_toInt_lt, hiv]; show ¬ (_ < (3 : Int)); omega)) (by decide) (by decide) k) ?_
    obtain rfl : i = 3 := by omega
    have hF3 := hI.1
    refine own_go (g' := (mkF m 175 #[.val (.ref a), .val (.int iv)] [(.ref a)])) (fun _ k => XS.aloadN X397.here hx rfl (hb hby d9_174) rfl rfl k) ?_
    refine own_getF X397 hx hZ (host := "") hown e397 (Or.inl (hw _ (List.mem_of_getElem? (i := 56) rfl))) Via.refl (own_Ob_fld B3 4 rfl) (hb hby d9_175) ?_
    intro T398 X398 e398
    show own_Go p e below _ T398 (mkF m 178 #[.val (.ref a), .val (.int iv)] [(.ref af)])
    refine own_go (g' := (mkF m 179 #[.val (.ref a), .val (.int iv)] [(.ref a), (.ref af)])) (fun _ k => XS.aloadN X398.here hx rfl (hb hby d9_178) rfl rfl k) ?_
    refine own_getF X398 hx hZ (host := "") hown e398 (Or.inl (hw _ (List.mem_of_getElem? (i := 58) rfl))) Via.refl (own_Ob_fld B3 5 rfl) (hb hby d9_179) ?_
    intro T399 X399 e399
    show own_Go p e below _ T399 (mkF m 182 #[.val (.ref a), .val (.int iv)] [(.ref ah), (.ref af)])
    refine own_go (g' := (mkF m 183 #[.val (.ref a), .val (.int iv)] [(.ref a), (.ref ah), (.ref af)])) (fun _ k => XS.aloadN X399.here hx rfl (hb hby d9_182) rfl rfl k) ?_
    refine own_getF X399 hx hZ (host := "") hown e399 (Or.inl (hw _ (List.mem_of_getElem? (i := 92) rfl))) Via.refl (own_Ob_fld B3 11 rfl) (hb hby d9_183) ?_
    intro T400 X400 e400
    show own_Go p e below _ T400 (mkF m 186 #[.val (.ref a), .val (.int iv)] [(.int fl), (.ref ah), (.ref af)])
    refine own_go (g' := (mkF m 187 #[.val (.ref a), .val (.int iv)] [(.ref a), (.int fl), (.ref ah), (.ref af)])) (fun _ k => XS.aloadN X400.here hx rfl (hb hby d9_186) rfl rfl k) ?_
    refine own_getF X400 hx hZ (host := "") hown e400 (Or.inl (hw _ (List.mem_of_getElem? (i := 90) rfl))) Via.refl (own_Ob_fld B3 10 rfl) (hb hby d9_187) ?_
    intro T401 X401 e401
    show own_Go p e below _ T401 (mkF m 190 #[.val (.ref a), .val (.int iv)] [(.long hn), (.int fl), (.ref ah), (.ref af)])
    refine own_callS X401 hx hZ hown e401 (y := (⟨"com/example/gangplank/gangplank/space/HeldFromNow", "countsFrom", "([J[JIJ)V"⟩ : MethodName)) (rm := ({ frames := 0, cells := 0, slots := 0, locals := 0 } : Room)) (hw _ (List.mem_of_getElem? (i := 94) rfl)) (hw _ (List.mem_of_getElem? (i := 95) rfl)) (hw _ (List.mem_of_getElem? (i := 40) rfl)) (hw _ (List.mem_of_getElem? (i := 96) rfl)) (by decide) (argsL := [(.ref af), (.ref ah), (.int fl), (.long hn)]) (rest := []) (own_rmCF l Z a0 hw [] af ah fl hn fh F h1 n0 (own_Up_ge HU gj 6 rfl) Fh3 hfl (by omega)) (by rw [hml]; rfl) pd_11 rfl rfl (hb hby d9_190) (W := 0) (Nat.le_of_eq rfl) (by decide) (by decide) (by decide) (by decide) ?_
    intro v402 T402 L402 X402 hQ402
    obtain ⟨rfl, N402q, K402q, F402⟩ := hQ402
    have K402 := K1.trans K402q (allS (Or.inl (List.mem_of_getElem? (i := 5) rfl)) all0)
    have N402 := Fr.app N1 N402q
    show own_Go p e below _ T402 (mkF m 193 #[.val (.ref a), .val (.int iv)] [])
    refine own_go (g' := (mkF m 194 #[.val (.ref a), .val (.int iv)] [(.ref a)])) (fun _ k => XS.aloadN X402.here hx rfl (hb hby d9_193) rfl rfl k) ?_
    have BJ1 := own_Ob_keep BJ K402 (ninS (own_Up_ne HU 0 1 rfl rfl (by decide)) (ninS (own_Up_ne HU 0 2 rfl rfl (by decide)) (ninS (own_Up_ne HU 0 3 rfl rfl (by decide)) (ninS (own_Up_ne HU 0 4 rfl rfl (by decide)) (ninS (own_Up_ne HU 0 5 rfl rfl (by decide)) (ninS (own_Up_ne HU 0 6 rfl rfl (by decide)) nin0))))))
    have FI1 : own_Ai Z T402.heap ai .int 0 (fun _ => 0) := own_Ar_keep Fi K402 (ninS (Ne.symm (own_Up_ne HU 1 7 rfl rfl (by decide))) (ninS (Ne.symm (own_Up_ne HU 2 7 rfl rfl (by decide))) (ninS (Ne.symm (own_Up_ne HU 3 7 rfl rfl (by decide))) (ninS (Ne.symm (own_Up_ne HU 4 7 rfl rfl (by decide))) (ninS (Ne.symm (own_Up_ne HU 5 7 rfl rfl (by decide))) (ninS (Ne.symm (own_Up_ne HU 6 7 rfl rfl (by decide))) nin0))))))
    have f403 := (own_Ob_keep B3 K402q (ninS (own_Up_ne HU 1 6 rfl rfl (by decide)) nin0))
    have f404 := (own_Ar_keep Fu3 K402q (ninS (own_Up_ne HU 2 6 rfl rfl (by decide)) nin0))
    have f405 := (own_Rr_keep Fo3 K402q (ninS (own_Up_ne HU 4 6 rfl rfl (by decide)) nin0))
    refine own_callP X402 hx hZ hown rfl (y := (⟨"com/example/gangplank/gangplank/space/HeldFromNow", "layOutOwners", "()V"⟩ : MethodName)) (y' := (⟨"com/example/gangplank/gangplank/space/HeldFromNow", "restart", "(J)V"⟩ : MethodName)) (rm := ({ frames := 2, cells := 2, slots := 32, locals := 30 } : Room)) (hw _ (List.mem_of_getElem? (i := 97) rfl)) (hw _ (List.mem_of_getElem? (i := 98) rfl)) (hw _ (List.mem_of_getElem? (i := 99) rfl)) (hw _ (List.mem_of_getElem? (i := 69) rfl)) (hw _ (List.mem_of_getElem? (i := 68) rfl)) rfl (hw _ (List.mem_of_getElem? (i := 40) rfl)) (hw _ (List.mem_of_getElem? (i := 100) rfl)) (by decide) (a := a) f403.1 (argsL := []) (rest := []) (own_rmLO l Z a0 hw [] a jb au ac ao af ah ai aj 1 fl om nw hn fu1 fo1 gJ T402.heap n0 (Nat.le_trans Z0 K402.1) HU gj f403 f404 f405 FI1 BJ1 hJ ho1) (by rw [hml]; rfl) pd_12 rfl rfl (hb hby d9_194) (W := 0) (Nat.le_of_eq rfl) (by decide) (by decide) (by decide) (by decide) ?_
    intro v406 T406 L406 X406 hQ406
    obtain ⟨rfl, N406q, K406q, oi, ou, om1, B406⟩ := hQ406
    have K406 := K402.trans K406q (allS (Or.inl (List.mem_of_getElem? (i := 0) rfl)) all0)
    have N406 := Fr.app N402 N406q
    show own_Go p e below _ T406 (mkF m 197 #[.val (.ref a), .val (.int iv)] [])
    refine own_go (g' := (mkF m 198 #[.val (.ref a), .val (.int iv)] [(.ref a)])) (fun _ k => XS.aloadN X406.here hx rfl (hb hby d9_197) rfl rfl k) ?_
    have f407 := (own_Ar_keep (own_Ar_keep Fa3 K402q (ninS (own_Up_ne HU 5 6 rfl rfl (by decide)) nin0)) K406q (ninS (Ne.symm (own_Up_ne HU 1 5 rfl rfl (by decide))) nin0))
    have f408 := (own_Ar_keep F402 K406q (ninS (Ne.symm (own_Up_ne HU 1 6 rfl rfl (by decide))) nin0))
    exact own_retA X406 hx hlk (t := (.object "com/example/gangplank/gangplank/space/HeldFromNow")) rfl hret rfl rfl rfl (hb hby d9_198) ⟨rfl, N406, K406, F, oi, ou, fl, om1, hn, fa, fh, fu1, fc1, B406, f407, f408, hfl, pm, hI⟩ (by decide) (by decide)
  | succ d ih =>
    intro i iv T1 h1 lo fa fh F fl hn X1 e1 N1 K1 B3 Fu3 Fc3 Fo3 Fa3 Fh3 hI hfl hid hiv
    refine own_go (g' := (mkF m 17 #[.val (.ref a), .val (.int iv)] [(.int iv)])) (fun _ k => XS.iloadN X1.here hx rfl (hb hby d9_16) rfl k) ?_
    refine own_go (g' := (mkF m 18 #[.val (.ref a), .val (.int iv)] [(.ref a), (.int iv)])) (fun _ k => XS.aloadN X1.here hx rfl (hb hby d9_17) rfl rfl k) ?_
    refine own_getF X1 hx hZ (host := "") hown e1 (Or.inl (hw _ (List.mem_of_getElem? (i := 73) rfl))) Via.refl (own_Ob_fld B3 9 rfl) (hb hby d9_18) ?_
    intro T409 X409 e409
    show own_Go p e below _ T409 (mkF m 21 #[.val (.ref a), .val (.int iv)] [(.int (3 : Int32)), (.int iv)])
    refine own_go (g' := (mkF m 24 #[.val (.ref a), .val (.int iv)] [])) (fun _ k => XS.icmpNo X409.here hx rfl (hb hby d9_21) rfl (XT.ii_ge_f (by rw [Int32.lt_iff_toInt_lt, hiv]; show (_ < (3 : Int)); omega)) k) ?_
    have hF3 := hI.1
    refine own_go (g' := (mkF m 25 #[.val (.ref a), .val (.int iv)] [(.ref a)])) (fun _ k => XS.aloadN X409.here hx rfl (hb hby d9_24) rfl rfl k) ?_
    refine own_getF X409 hx hZ (host := "") hown e409 (Or.inl (hw _ (List.mem_of_getElem? (i := 48) rfl))) Via.refl (own_Ob_fld B3 1 rfl) (hb hby d9_25) ?_
    intro T410 X410 e410
    show own_Go p e below _ T410 (mkF m 28 #[.val (.ref a), .val (.int iv)] [(.ref ac)])
    refine own_go (g' := (mkF m 29 #[.val (.ref a), .val (.int iv)] [(.int iv), (.ref ac)])) (fun _ k => XS.iloadN X410.here hx rfl (hb hby d9_28) rfl k) ?_
    refine own_laload X410 hx hZ e410 Fc3 i hiv (by omega) (hb hby d9_29) ?_
    show own_Go p e below _ T410 (mkF m 30 #[.val (.ref a), .val (.int iv)] [(.long (fc1 i))])
    refine own_go (g' := (mkF m 31 #[.val (.ref a), .val (.int iv)] [(.long (0 : Int64)), (.long (fc1 i))])) (fun _ k => XT.lconst X410.here hx rfl (hb hby d9_30) k) ?_
    refine own_go (g' := (mkF m 32 #[.val (.ref a), .val (.int iv)] [(.int (XT.cmpL (fc1 i) (0 : Int64)))])) (fun _ k => XT.lcmp X410.here hx rfl (hb hby d9_31) rfl k) ?_
    by_cases cp : (0 : Int64) < (fc1 i)
    · refine own_go (g' := (mkF m 35 #[.val (.ref a), .val (.int iv)] [])) (fun _ k => XS.ifNo X410.here hx rfl (hb hby d9_32) rfl (XT.ll_le_f cp) k) ?_
      refine own_go (g' := (mkF m 36 #[.val (.ref a), .val (.int iv)] [(.ref a)])) (fun _ k => XS.aloadN X410.here hx rfl (hb hby d9_35) rfl rfl k) ?_
      refine own_go (g' := (mkF m 37 #[.val (.ref a), .val (.int iv)] [(.ref a), (.ref a)])) (fun _ k => XS.dup X410.here hx rfl (hb hby d9_36) rfl rfl k) ?_
      refine own_getF X410 hx hZ (host := "") hown e410 (Or.inl (hw _ (List.mem_of_getElem? (i := 90) rfl))) Via.refl (own_Ob_fld B3 10 rfl) (hb hby d9_37) ?_
      intro T411 X411 e411
      show own_Go p e below _ T411 (mkF m 40 #[.val (.ref a), .val (.int iv)] [(.long hn), (.ref a)])
      refine own_go (g' := (mkF m 41 #[.val (.ref a), .val (.int iv)] [(.ref a), (.long hn), (.ref a)])) (fun _ k => XS.aloadN X411.here hx rfl (hb hby d9_40) rfl rfl k) ?_
      refine own_getF X411 hx hZ (host := "") hown e411 (Or.inl (hw _ (List.mem_of_getElem? (i := 48) rfl))) Via.refl (own_Ob_fld B3 1 rfl) (hb hby d9_41) ?_
      intro T412 X412 e412
      show own_Go p e below _ T412 (mkF m 44 #[.val (.ref a), .val (.int iv)] [(.ref ac), (.long hn), (.ref a)])
      refine own_go (g' := (mkF m 45 #[.val (.ref a), .val (.int iv)] [(.int iv), (.ref ac), (.long hn), (.ref a)])) (fun _ k => XS.iloadN X412.here hx rfl (hb hby d9_44) rfl k) ?_
      refine own_laload X412 hx hZ e412 Fc3 i hiv (by omega) (hb hby d9_45) ?_
      show own_Go p e below _ T412 (mkF m 46 #[.val (.ref a), .val (.int iv)] [(.long (fc1 i)), (.long hn), (.ref a)])
      refine own_go (g' := (mkF m 47 #[.val (.ref a), .val (.int iv)] [(.long (hn + (fc1 i))), (.ref a)])) (fun _ k => XT.ladd X412.here hx rfl (hb hby d9_46) rfl k) ?_
      refine own_putF X412 hx hZ (host := "") (ty := .long) hown e412 (Or.inl (hw _ (List.mem_of_getElem? (i := 90) rfl))) Via.refl (own_Ob_fld B3 10 rfl) B3.1 (Or.inl (hw _ (List.mem_of_getElem? (i := 91) rfl))) (hw _ (List.mem_of_getElem? (i := 39) rfl)) (by decide) rfl rfl (hb hby d9_47) ?_
      intro T413 h413 X413 e413 W413
      have B413 := own_Ob_put B3 own_ok1 (own_ld1 hw) 10 rfl W413
      have K413 := K1.wr W413 (Or.inl (List.mem_of_getElem? (i := 0) rfl))
      have N413 := Fr.snoc X413 N1 (own_Up_ge HU gj 1 rfl)
      show own_Go p e below _ T413 (mkF m 50 #[.val (.ref a), .val (.int iv)] [])
      refine own_go (g' := (mkF m 51 #[.val (.ref a), .val (.int iv)] [(.ref a)])) (fun _ k => XS.aloadN X413.here hx rfl (hb hby d9_50) rfl rfl k) ?_
      refine own_getF X413 hx hZ (host := "") hown e413 (Or.inl (hw _ (List.mem_of_getElem? (i := 92) rfl))) Via.refl (own_Ob_fld B413 11 rfl) (hb hby d9_51) ?_
      intro T414 X414 e414
      show own_Go p e below _ T414 (mkF m 54 #[.val (.ref a), .val (.int iv)] [(.int fl)])
      refine own_go (g' := (mkF m 55 #[.val (.ref a), .val (.int iv)] [(.ref a), (.int fl)])) (fun _ k => XS.aloadN X414.here hx rfl (hb hby d9_54) rfl rfl k) ?_
      refine own_getF X414 hx hZ (host := "") hown e414 (Or.inl (hw _ (List.mem_of_getElem? (i := 56) rfl))) Via.refl (own_Ob_fld B413 4 rfl) (hb hby d9_55) ?_
      intro T415 X415 e415
      show own_Go p e below _ T415 (mkF m 58 #[.val (.ref a), .val (.int iv)] [(.ref af), (.int fl)])
      have f416 := (own_Ar_other Fa3 W413 (Ne.symm (own_Up_ne HU 1 5 rfl rfl (by decide))))
      refine own_len X415 hx hZ e415 f416 (hb hby d9_58) (16 : Int32) rfl ?_
      show own_Go p e below _ T415 (mkF m 59 #[.val (.ref a), .val (.int iv)] [(.int (16 : Int32)), (.int fl)])
      refine own_go (g' := (mkF m 96 #[.val (.ref a), .val (.int iv)] [])) (fun _ k => XS.icmpYes X415.here hx rfl (pc0 := 59) (pc' := 96) rfl (hb hby d9_59) rfl (XT.ii_ne_t (own_nek hfl 16 (by decide) (by omega))) (by decide) (by decide) k) ?_
      refine own_go (g' := (mkF m 97 #[.val (.ref a), .val (.int iv)] [(.ref a)])) (fun _ k => XS.aloadN X415.here hx rfl (hb hby d9_96) rfl rfl k) ?_
      refine own_getF X415 hx hZ (host := "") hown e415 (Or.inl (hw _ (List.mem_of_getElem? (i := 56) rfl))) Via.refl (own_Ob_fld B413 4 rfl) (hb hby d9_97) ?_
      intro T417 X417 e417
      show own_Go p e below _ T417 (mkF m 100 #[.val (.ref a), .val (.int iv)] [(.ref af)])
      refine own_go (g' := (mkF m 101 #[.val (.ref a), .val (.int iv)] [(.ref a), (.ref af)])) (fun _ k => XS.aloadN X417.here hx rfl (hb hby d9_100) rfl rfl k) ?_
      refine own_getF X417 hx hZ (host := "") hown e417 (Or.inl (hw _ (List.mem_of_getElem? (i := 58) rfl))) Via.refl (own_Ob_fld B413 5 rfl) (hb hby d9_101) ?_
      intro T418 X418 e418
      show own_Go p e below _ T418 (mkF m 104 #[.val (.ref a), .val (.int iv)] [(.ref ah), (.ref af)])
      refine own_go (g' := (mkF m 105 #[.val (.ref a), .val (.int iv)] [(.ref a), (.ref ah), (.ref af)])) (fun _ k => XS.aloadN X418.here hx rfl (hb hby d9_104) rfl rfl k) ?_
      refine own_getF X418 hx hZ (host := "") hown e418 (Or.inl (hw _ (List.mem_of_getElem? (i := 92) rfl))) Via.refl (own_Ob_fld B413 11 rfl) (hb hby d9_105) ?_
      intro T419 X419 e419
      show own_Go p e below _ T419 (mkF m 108 #[.val (.ref a), .val (.int iv)] [(.int fl), (.ref ah), (.ref af)])
      refine own_go (g' := (mkF m 109 #[.val (.ref a), .val (.int iv)] [(.ref a), (.int fl), (.ref ah), (.ref af)])) (fun _ k => XS.aloadN X419.here hx rfl (hb hby d9_108) rfl rfl k) ?_
      refine own_getF X419 hx hZ (host := "") hown e419 (Or.inl (hw _ (List.mem_of_getElem? (i := 46) rfl))) Via.refl (own_Ob_fld B413 0 rfl) (hb hby d9_109) ?_
      intro T420 X420 e420
      show own_Go p e below _ T420 (mkF m 112 #[.val (.ref a), .val (.int iv)] [(.ref au), (.int fl), (.ref ah), (.ref af)])
      refine own_go (g' := (mkF m 113 #[.val (.ref a), .val (.int iv)] [(.int iv), (.ref au), (.int fl), (.ref ah), (.ref af)])) (fun _ k => XS.iloadN X420.here hx rfl (hb hby d9_112) rfl k) ?_
      have f421 := (own_Ar_other Fu3 W413 (Ne.symm (own_Up_ne HU 1 2 rfl rfl (by decide))))
      refine own_laload X420 hx hZ e420 f421 i hiv (by omega) (hb hby d9_113) ?_
      show own_Go p e below _ T420 (mkF m 114 #[.val (.ref a), .val (.int iv)] [(.long (fu1 i)), (.int fl), (.ref ah), (.ref af)])
      refine own_go (g' := (mkF m 115 #[.val (.ref a), .val (.int iv)] [(.ref a), (.long (fu1 i)), (.int fl), (.ref ah), (.ref af)])) (fun _ k => XS.aloadN X420.here hx rfl (hb hby d9_114) rfl rfl k) ?_
      refine own_getF X420 hx hZ (host := "") hown e420 (Or.inl (hw _ (List.mem_of_getElem? (i := 48) rfl))) Via.refl (own_Ob_fld B413 1 rfl) (hb hby d9_115) ?_
      intro T422 X422 e422
      show own_Go p e below _ T422 (mkF m 118 #[.val (.ref a), .val (.int iv)] [(.ref ac), (.long (fu1 i)), (.int fl), (.ref ah), (.ref af)])
      refine own_go (g' := (mkF m 119 #[.val (.ref a), .val (.int iv)] [(.int iv), (.ref ac), (.long (fu1 i)), (.int fl), (.ref ah), (.ref af)])) (fun _ k => XS.iloadN X422.here hx rfl (hb hby d9_118) rfl k) ?_
      have f423 := (own_Ar_other Fc3 W413 (Ne.symm (own_Up_ne HU 1 3 rfl rfl (by decide))))
      refine own_laload X422 hx hZ e422 f423 i hiv (by omega) (hb hby d9_119) ?_
      show own_Go p e below _ T422 (mkF m 120 #[.val (.ref a), .val (.int iv)] [(.long (fc1 i)), (.long (fu1 i)), (.int fl), (.ref ah), (.ref af)])
      have f424 := (own_Ar_other Fh3 W413 (Ne.symm (own_Up_ne HU 1 6 rfl rfl (by decide))))
      refine own_callS X422 hx hZ hown e422 (y := (⟨"com/example/gangplank/gangplank/space/HeldFromNow", "fall", "([J[JIJJ)V"⟩ : MethodName)) (rm := ({ frames := 0, cells := 0, slots := 0, locals := 0 } : Room)) (hw _ (List.mem_of_getElem? (i := 143) rfl)) (hw _ (List.mem_of_getElem? (i := 144) rfl)) (hw _ (List.mem_of_getElem? (i := 40) rfl)) (hw _ (List.mem_of_getElem? (i := 145) rfl)) (by decide) (argsL := [(.ref af), (.ref ah), (.int fl), (.long (fu1 i)), (.long (fc1 i))]) (rest := []) (own_rmFa l Z a0 hw [] af ah fl (fu1 i) (fc1 i) fa fh F h413 n0 (own_Up_ge HU gj 5 rfl) (own_Up_ge HU gj 6 rfl) (own_Up_ne HU 5 6 rfl rfl (by decide)) f416 f424 hfl (by omega)) (by rw [hml]; rfl) pd_22 rfl rfl (hb hby d9_120) (W := 0) (Nat.le_of_eq rfl) (by decide) (by decide) (by decide) (by decide) ?_
      intro v425 T425 L425 X425 hQ425
      obtain ⟨rfl, N425q, K425q, Fa425, Fh425⟩ := hQ425
      have K425 := K413.trans K425q (allS (Or.inl (List.mem_of_getElem? (i := 4) rfl)) (allS (Or.inl (List.mem_of_getElem? (i := 5) rfl)) all0))
      have N425 := Fr.app N413 N425q
      show own_Go p e below _ T425 (mkF m 123 #[.val (.ref a), .val (.int iv)] [])
      by_cases cm : 0 < F ∧ fa (F - 1) = fu1 i
      · have Fa9 : own_Al Z T425.heap af 16 fa := by rw [own_ff, if_pos cm] at Fa425; exact Fa425
        have Fh9 : own_Al Z T425.heap ah 16 (own_upl fh (F - 1) (fh (F - 1) + fc1 i)) := by rw [own_fg, if_pos cm] at Fh425; exact Fh425
        refine own_go (g' := (mkF m 124 #[.val (.ref a), .val (.int iv)] [(.ref a)])) (fun _ k => XS.aloadN X425.here hx rfl (hb hby d9_123) rfl rfl k) ?_
        refine own_go (g' := (mkF m 125 #[.val (.ref a), .val (.int iv)] [(.ref a), (.ref a)])) (fun _ k => XS.aloadN X425.here hx rfl (hb hby d9_124) rfl rfl k) ?_
        have f426 := (own_Ob_keep B413 K425q (ninS (own_Up_ne HU 1 5 rfl rfl (by decide)) (ninS (own_Up_ne HU 1 6 rfl rfl (by decide)) nin0)))
        refine own_getF X425 hx hZ (host := "") hown rfl (Or.inl (hw _ (List.mem_of_getElem? (i := 92) rfl))) Via.refl (own_Ob_fld f426 11 rfl) (hb hby d9_125) ?_
        intro T427 X427 e427
        show own_Go p e below _ T427 (mkF m 128 #[.val (.ref a), .val (.int iv)] [(.int fl), (.ref a)])
        refine own_go (g' := (mkF m 131 #[.val (.ref a), .val (.int iv)] [(.ref a)])) (fun _ k => XS.ifNo X427.here hx rfl (hb hby d9_128) rfl (XT.i0_le_f (own_pos hfl cm.1)) k) ?_
        refine own_go (g' := (mkF m 132 #[.val (.ref a), .val (.int iv)] [(.ref a), (.ref a)])) (fun _ k => XS.aloadN X427.here hx rfl (hb hby d9_131) rfl rfl k) ?_
        refine own_getF X427 hx hZ (host := "") hown e427 (Or.inl (hw _ (List.mem_of_getElem? (i := 56) rfl))) Via.refl (own_Ob_fld f426 4 rfl) (hb hby d9_132) ?_
        intro T428 X428 e428
        show own_Go p e below _ T428 (mkF m 135 #[.val (.ref a), .val (.int iv)] [(.ref af), (.ref a)])
        refine own_go (g' := (mkF m 136 #[.val (.ref a), .val (.int iv)] [(.ref a), (.ref af), (.ref a)])) (fun _ k => XS.aloadN X428.here hx rfl (hb hby d9_135) rfl rfl k) ?_
        refine own_getF X428 hx hZ (host := "") hown e428 (Or.inl (hw _ (List.mem_of_getElem? (i := 92) rfl))) Via.refl (own_Ob_fld f426 11 rfl) (hb hby d9_136) ?_
        intro T429 X429 e429
        show own_Go p e below _ T429 (mkF m 139 #[.val (.ref a), .val (.int iv)] [(.int fl), (.ref af), (.ref a)])
        refine own_go (g' := (mkF m 140 #[.val (.ref a), .val (.int iv)] [(.int (1 : Int32)), (.int fl), (.ref af), (.ref a)])) (fun _ k => XS.iconst X429.here hx rfl (hb hby d9_139) k) ?_
        refine own_go (g' := (mkF m 141 #[.val (.ref a), .val (.int iv)] [(.int (fl - (1 : Int32))), (.ref af), (.ref a)])) (fun _ k => XS.isub X429.here hx rfl (hb hby d9_140) rfl k) ?_
        refine own_laload X429 hx hZ e429 Fa9 (F - 1) (own_sub1 hfl (by omega) (by omega)) (by omega) (hb hby d9_141) ?_
        show own_Go p e below _ T429 (mkF m 142 #[.val (.ref a), .val (.int iv)] [(.long (fa (F - 1))), (.ref a)])
        refine own_go (g' := (mkF m 143 #[.val (.ref a), .val (.int iv)] [(.ref a), (.long (fa (F - 1))), (.ref a)])) (fun _ k => XS.aloadN X429.here hx rfl (hb hby d9_142) rfl rfl k) ?_
        refine own_getF X429 hx hZ (host := "") hown e429 (Or.inl (hw _ (List.mem_of_getElem? (i := 46) rfl))) Via.refl (own_Ob_fld f426 0 rfl) (hb hby d9_143) ?_
        intro T430 X430 e430
        show own_Go p e below _ T430 (mkF m 146 #[.val (.ref a), .val (.int iv)] [(.ref au), (.long (fa (F - 1))), (.ref a)])
        refine own_go (g' := (mkF m 147 #[.val (.ref a), .val (.int iv)] [(.int iv), (.ref au), (.long (fa (F - 1))), (.ref a)])) (fun _ k => XS.iloadN X430.here hx rfl (hb hby d9_146) rfl k) ?_
        have f431 := (own_Ar_keep f421 K425q (ninS (own_Up_ne HU 2 5 rfl rfl (by decide)) (ninS (own_Up_ne HU 2 6 rfl rfl (by decide)) nin0)))
        refine own_laload X430 hx hZ e430 f431 i hiv (by omega) (hb hby d9_147) ?_
        show own_Go p e below _ T430 (mkF m 148 #[.val (.ref a), .val (.int iv)] [(.long (fu1 i)), (.long (fa (F - 1))), (.ref a)])
        refine own_go (g' := (mkF m 149 #[.val (.ref a), .val (.int iv)] [(.int (XT.cmpL (fa (F - 1)) (fu1 i))), (.ref a)])) (fun _ k => XT.lcmp X430.here hx rfl (hb hby d9_148) rfl k) ?_
        refine own_go (g' := (mkF m 152 #[.val (.ref a), .val (.int iv)] [(.ref a)])) (fun _ k => XS.ifNo X430.here hx rfl (hb hby d9_149) rfl (XT.ll_ne_f cm.2) k) ?_
        refine own_go (g' := (mkF m 153 #[.val (.ref a), .val (.int iv)] [(.ref a), (.ref a)])) (fun _ k => XS.aloadN X430.here hx rfl (hb hby d9_152) rfl rfl k) ?_
        refine own_getF X430 hx hZ (host := "") hown e430 (Or.inl (hw _ (List.mem_of_getElem? (i := 92) rfl))) Via.refl (own_Ob_fld f426 11 rfl) (hb hby d9_153) ?_
        intro T432 X432 e432
        show own_Go p e below _ T432 (mkF m 156 #[.val (.ref a), .val (.int iv)] [(.int fl), (.ref a)])
        refine own_go (g' := (mkF m 165 #[.val (.ref a), .val (.int iv)] [(.int fl), (.ref a)])) (fun _ k => XS.goto X432.here hx rfl (pc0 := 156) (pc' := 165) rfl (hb hby d9_156) (by decide) (by decide) k) ?_
        refine own_putF X432 hx hZ (host := "") (ty := .int) hown e432 (Or.inl (hw _ (List.mem_of_getElem? (i := 92) rfl))) Via.refl (own_Ob_fld f426 11 rfl) f426.1 (Or.inl (hw _ (List.mem_of_getElem? (i := 93) rfl))) (hw _ (List.mem_of_getElem? (i := 39) rfl)) (by decide) rfl rfl (hb hby d9_165) ?_
        intro T433 h433 X433 e433 W433
        have B433 := own_Ob_put f426 own_ok1 (own_ld1 hw) 11 rfl W433
        have K433 := K425.wr W433 (Or.inl (List.mem_of_getElem? (i := 0) rfl))
        have N433 := Fr.snoc X433 N425 (own_Up_ge HU gj 1 rfl)
        show own_Go p e below _ T433 (mkF m 168 #[.val (.ref a), .val (.int iv)] [])
        have B9 : own_Ob Z h433 a "com/example/gangplank/gangplank/space/HeldFromNow" own_fs1 (own_gH au ac ao af ah ai aj 1 (3 : Int32) fl om nw (hn + fc1 i)) := (own_Ob_eq B433 (fun i hi => by have hi' : i < 13 := hi; match i, hi' with | 0, _ => rfl | 1, _ => rfl | 2, _ => rfl | 3, _ => rfl | 4, _ => rfl | 5, _ => rfl | 6, _ => rfl | 7, _ => rfl | 8, _ => rfl | 9, _ => rfl | 10, _ => rfl | 11, _ => rfl | 12, _ => rfl))
        refine own_go (g' := (mkF m 171 #[.val (.ref a), .val (.int (iv + (1 : Int32)))] [])) (fun _ k => XS.iinc X433.here hx rfl (hb hby d9_168) rfl (l' := #[.val (.ref a), .val (.int (iv + (1 : Int32)))]) rfl k) ?_
        refine own_go (g' := (mkF m 16 #[.val (.ref a), .val (.int (iv + (1 : Int32)))] [])) (fun _ k => XS.goto X433.here hx rfl (pc0 := 171) (pc' := 16) rfl (hb hby d9_171) (by decide) (by decide) k) ?_
        have f434 := (own_Ar_other f431 W433 (Ne.symm (own_Up_ne HU 1 2 rfl rfl (by decide))))
        have f435 := (own_Ar_other (own_Ar_keep f423 K425q (ninS (own_Up_ne HU 3 5 rfl rfl (by decide)) (ninS (own_Up_ne HU 3 6 rfl rfl (by decide)) nin0))) W433 (Ne.symm (own_Up_ne HU 1 3 rfl rfl (by decide))))
        have f436 := (own_Rr_other (own_Rr_keep (own_Rr_other Fo3 W413 (Ne.symm (own_Up_ne HU 1 4 rfl rfl (by decide)))) K425q (ninS (own_Up_ne HU 4 5 rfl rfl (by decide)) (ninS (own_Up_ne HU 4 6 rfl rfl (by decide)) nin0))) W433 (Ne.symm (own_Up_ne HU 1 4 rfl rfl (by decide))))
        have f437 := (own_Ar_other Fa9 W433 (Ne.symm (own_Up_ne HU 1 5 rfl rfl (by decide))))
        have f438 := (own_Ar_other Fh9 W433 (Ne.symm (own_Up_ne HU 1 6 rfl rfl (by decide))))
        exact ih (i + 1) _ _ _ _ _ _ F fl (hn + fc1 i) X433 e433 N433 K433 B9 f434 f435 f436 f437 f438 (own_inv_merge hI cp cm.1 cm.2) hfl (by omega) (own_inc hiv (by omega))
      · have Fa9 : own_Al Z T425.heap af 16 (own_upl fa F (fu1 i)) := by rw [own_ff, if_neg cm] at Fa425; exact Fa425
        have Fh9 : own_Al Z T425.heap ah 16 (own_upl fh F (fc1 i)) := by rw [own_fg, if_neg cm] at Fh425; exact Fh425
        refine own_go (g' := (mkF m 124 #[.val (.ref a), .val (.int iv)] [(.ref a)])) (fun _ k => XS.aloadN X425.here hx rfl (hb hby d9_123) rfl rfl k) ?_
        refine own_go (g' := (mkF m 125 #[.val (.ref a), .val (.int iv)] [(.ref a), (.ref a)])) (fun _ k => XS.aloadN X425.here hx rfl (hb hby d9_124) rfl rfl k) ?_
        have f439 := (own_Ob_keep B413 K425q (ninS (own_Up_ne HU 1 5 rfl rfl (by decide)) (ninS (own_Up_ne HU 1 6 rfl rfl (by decide)) nin0)))
        refine own_getF X425 hx hZ (host := "") hown rfl (Or.inl (hw _ (List.mem_of_getElem? (i := 92) rfl))) Via.refl (own_Ob_fld f439 11 rfl) (hb hby d9_125) ?_
        intro T440 X440 e440
        show own_Go p e below _ T440 (mkF m 128 #[.val (.ref a), .val (.int iv)] [(.int fl), (.ref a)])
        by_cases c0 : 0 < fl
        · refine own_go (g' := (mkF m 131 #[.val (.ref a), .val (.int iv)] [(.ref a)])) (fun _ k => XS.ifNo X440.here hx rfl (hb hby d9_128) rfl (XT.i0_le_f c0) k) ?_
          have hF0 : 0 < F := own_pos' hfl c0
          refine own_go (g' := (mkF m 132 #[.val (.ref a), .val (.int iv)] [(.ref a), (.ref a)])) (fun _ k => XS.aloadN X440.here hx rfl (hb hby d9_131) rfl rfl k) ?_
          refine own_getF X440 hx hZ (host := "") hown e440 (Or.inl (hw _ (List.mem_of_getElem? (i := 56) rfl))) Via.refl (own_Ob_fld f439 4 rfl) (hb hby d9_132) ?_
          intro T448 X448 e448
          show own_Go p e below _ T448 (mkF m 135 #[.val (.ref a), .val (.int iv)] [(.ref af), (.ref a)])
          refine own_go (g' := (mkF m 136 #[.val (.ref a), .val (.int iv)] [(.ref a), (.ref af), (.ref a)])) (fun _ k => XS.aloadN X448.here hx rfl (hb hby d9_135) rfl rfl k) ?_
          refine own_getF X448 hx hZ (host := "") hown e448 (Or.inl (hw _ (List.mem_of_getElem? (i := 92) rfl))) Via.refl (own_Ob_fld f439 11 rfl) (hb hby d9_136) ?_
          intro T449 X449 e449
          show own_Go p e below _ T449 (mkF m 139 #[.val (.ref a), .val (.int iv)] [(.int fl), (.ref af), (.ref a)])
          refine own_go (g' := (mkF m 140 #[.val (.ref a), .val (.int iv)] [(.int (1 : Int32)), (.int fl), (.ref af), (.ref a)])) (fun _ k => XS.iconst X449.here hx rfl (hb hby d9_139) k) ?_
          refine own_go (g' := (mkF m 141 #[.val (.ref a), .val (.int iv)] [(.int (fl - (1 : Int32))), (.ref af), (.ref a)])) (fun _ k => XS.isub X449.here hx rfl (hb hby d9_140) rfl k) ?_
          refine own_laload X449 hx hZ e449 Fa9 (F - 1) (own_sub1 hfl (by omega) (by omega)) (by omega) (hb hby d9_141) ?_
          rw [own_upl_ne fa (fu1 i) (by omega : F - 1 ≠ F)]
          show own_Go p e below _ T449 (mkF m 142 #[.val (.ref a), .val (.int iv)] [(.long (fa (F - 1))), (.ref a)])
          refine own_go (g' := (mkF m 143 #[.val (.ref a), .val (.int iv)] [(.ref a), (.long (fa (F - 1))), (.ref a)])) (fun _ k => XS.aloadN X449.here hx rfl (hb hby d9_142) rfl rfl k) ?_
          refine own_getF X449 hx hZ (host := "") hown e449 (Or.inl (hw _ (List.mem_of_getElem? (i := 46) rfl))) Via.refl (own_Ob_fld f439 0 rfl) (hb hby d9_143) ?_
          intro T450 X450 e450
          show own_Go p e below _ T450 (mkF m 146 #[.val (.ref a), .val (.int iv)] [(.ref au), (.long (fa (F - 1))), (.ref a)])
          refine own_go (g' := (mkF m 147 #[.val (.ref a), .val (.int iv)] [(.int iv), (.ref au), (.long (fa (F - 1))), (.ref a)])) (fun _ k => XS.iloadN X450.here hx rfl (hb hby d9_146) rfl k) ?_
          have f451 := (own_Ar_keep f421 K425q (ninS (own_Up_ne HU 2 5 rfl rfl (by decide)) (ninS (own_Up_ne HU 2 6 rfl rfl (by decide)) nin0)))
          refine own_laload X450 hx hZ e450 f451 i hiv (by omega) (hb hby d9_147) ?_
          show own_Go p e below _ T450 (mkF m 148 #[.val (.ref a), .val (.int iv)] [(.long (fu1 i)), (.long (fa (F - 1))), (.ref a)])
          refine own_go (g' := (mkF m 149 #[.val (.ref a), .val (.int iv)] [(.int (XT.cmpL (fa (F - 1)) (fu1 i))), (.ref a)])) (fun _ k => XT.lcmp X450.here hx rfl (hb hby d9_148) rfl k) ?_
          refine own_go (g' := (mkF m 159 #[.val (.ref a), .val (.int iv)] [(.ref a)])) (fun _ k => XS.ifYes X450.here hx rfl (pc0 := 149) (pc' := 159) rfl (hb hby d9_149) rfl (XT.ll_ne_t (fun q => cm ⟨hF0, q⟩)) (by decide) (by decide) k) ?_
          refine own_go (g' := (mkF m 160 #[.val (.ref a), .val (.int iv)] [(.ref a), (.ref a)])) (fun _ k => XS.aloadN X450.here hx rfl (hb hby d9_159) rfl rfl k) ?_
          refine own_getF X450 hx hZ (host := "") hown e450 (Or.inl (hw _ (List.mem_of_getElem? (i := 92) rfl))) Via.refl (own_Ob_fld f439 11 rfl) (hb hby d9_160) ?_
          intro T452 X452 e452
          show own_Go p e below _ T452 (mkF m 163 #[.val (.ref a), .val (.int iv)] [(.int fl), (.ref a)])
          refine own_go (g' := (mkF m 164 #[.val (.ref a), .val (.int iv)] [(.int (1 : Int32)), (.int fl), (.ref a)])) (fun _ k => XS.iconst X452.here hx rfl (hb hby d9_163) k) ?_
          refine own_go (g' := (mkF m 165 #[.val (.ref a), .val (.int iv)] [(.int (fl + (1 : Int32))), (.ref a)])) (fun _ k => XS.iadd X452.here hx rfl (hb hby d9_164) rfl k) ?_
          refine own_putF X452 hx hZ (host := "") (ty := .int) hown e452 (Or.inl (hw _ (List.mem_of_getElem? (i := 92) rfl))) Via.refl (own_Ob_fld f439 11 rfl) f439.1 (Or.inl (hw _ (List.mem_of_getElem? (i := 93) rfl))) (hw _ (List.mem_of_getElem? (i := 39) rfl)) (by decide) rfl rfl (hb hby d9_165) ?_
          intro T453 h453 X453 e453 W453
          have B453 := own_Ob_put f439 own_ok1 (own_ld1 hw) 11 rfl W453
          have K453 := K425.wr W453 (Or.inl (List.mem_of_getElem? (i := 0) rfl))
          have N453 := Fr.snoc X453 N425 (own_Up_ge HU gj 1 rfl)
          show own_Go p e below _ T453 (mkF m 168 #[.val (.ref a), .val (.int iv)] [])
          have B9 : own_Ob Z h453 a "com/example/gangplank/gangplank/space/HeldFromNow" own_fs1 (own_gH au ac ao af ah ai aj 1 (3 : Int32) (fl + 1) om nw (hn + fc1 i)) := (own_Ob_eq B453 (fun i hi => by have hi' : i < 13 := hi; match i, hi' with | 0, _ => rfl | 1, _ => rfl | 2, _ => rfl | 3, _ => rfl | 4, _ => rfl | 5, _ => rfl | 6, _ => rfl | 7, _ => rfl | 8, _ => rfl | 9, _ => rfl | 10, _ => rfl | 11, _ => rfl | 12, _ => rfl))
          refine own_go (g' := (mkF m 171 #[.val (.ref a), .val (.int (iv + (1 : Int32)))] [])) (fun _ k => XS.iinc X453.here hx rfl (hb hby d9_168) rfl (l' := #[.val (.ref a), .val (.int (iv + (1 : Int32)))]) rfl k) ?_
          refine own_go (g' := (mkF m 16 #[.val (.ref a), .val (.int (iv + (1 : Int32)))] [])) (fun _ k => XS.goto X453.here hx rfl (pc0 := 171) (pc' := 16) rfl (hb hby d9_171) (by decide) (by decide) k) ?_
          have f454 := (own_Ar_other f451 W453 (Ne.symm (own_Up_ne HU 1 2 rfl rfl (by decide))))
          have f455 := (own_Ar_other (own_Ar_keep f423 K425q (ninS (own_Up_ne HU 3 5 rfl rfl (by decide)) (ninS (own_Up_ne HU 3 6 rfl rfl (by decide)) nin0))) W453 (Ne.symm (own_Up_ne HU 1 3 rfl rfl (by decide))))
          have f456 := (own_Rr_other (own_Rr_keep (own_Rr_other Fo3 W413 (Ne.symm (own_Up_ne HU 1 4 rfl rfl (by decide)))) K425q (ninS (own_Up_ne HU 4 5 rfl rfl (by decide)) (ninS (own_Up_ne HU 4 6 rfl rfl (by decide)) nin0))) W453 (Ne.symm (own_Up_ne HU 1 4 rfl rfl (by decide))))
          have f457 := (own_Ar_other Fa9 W453 (Ne.symm (own_Up_ne HU 1 5 rfl rfl (by decide))))
          have f458 := (own_Ar_other Fh9 W453 (Ne.symm (own_Up_ne HU 1 6 rfl rfl (by decide))))
          exact ih (i + 1) _ _ _ _ _ _ (F + 1) (fl + 1) (hn + fc1 i) X453 e453 N453 K453 B9 f454 f455 f456 f457 f458 (own_inv_new hI (by omega) ⟨s1, s2⟩ cp cm) (own_inc hfl (by omega)) (by omega) (own_inc hiv (by omega))
        · refine own_go (g' := (mkF m 159 #[.val (.ref a), .val (.int iv)] [(.ref a)])) (fun _ k => XS.ifYes X440.here hx rfl (pc0 := 128) (pc' := 159) rfl (hb hby d9_128) rfl (XT.i0_le_t c0) (by decide) (by decide) k) ?_
          refine own_go (g' := (mkF m 160 #[.val (.ref a), .val (.int iv)] [(.ref a), (.ref a)])) (fun _ k => XS.aloadN X440.here hx rfl (hb hby d9_159) rfl rfl k) ?_
          refine own_getF X440 hx hZ (host := "") hown e440 (Or.inl (hw _ (List.mem_of_getElem? (i := 92) rfl))) Via.refl (own_Ob_fld f439 11 rfl) (hb hby d9_160) ?_
          intro T441 X441 e441
          show own_Go p e below _ T441 (mkF m 163 #[.val (.ref a), .val (.int iv)] [(.int fl), (.ref a)])
          refine own_go (g' := (mkF m 164 #[.val (.ref a), .val (.int iv)] [(.int (1 : Int32)), (.int fl), (.ref a)])) (fun _ k => XS.iconst X441.here hx rfl (hb hby d9_163) k) ?_
          refine own_go (g' := (mkF m 165 #[.val (.ref a), .val (.int iv)] [(.int (fl + (1 : Int32))), (.ref a)])) (fun _ k => XS.iadd X441.here hx rfl (hb hby d9_164) rfl k) ?_
          refine own_putF X441 hx hZ (host := "") (ty := .int) hown e441 (Or.inl (hw _ (List.mem_of_getElem? (i := 92) rfl))) Via.refl (own_Ob_fld f439 11 rfl) f439.1 (Or.inl (hw _ (List.mem_of_getElem? (i := 93) rfl))) (hw _ (List.mem_of_getElem? (i := 39) rfl)) (by decide) rfl rfl (hb hby d9_165) ?_
          intro T442 h442 X442 e442 W442
          have B442 := own_Ob_put f439 own_ok1 (own_ld1 hw) 11 rfl W442
          have K442 := K425.wr W442 (Or.inl (List.mem_of_getElem? (i := 0) rfl))
          have N442 := Fr.snoc X442 N425 (own_Up_ge HU gj 1 rfl)
          show own_Go p e below _ T442 (mkF m 168 #[.val (.ref a), .val (.int iv)] [])
          have B9 : own_Ob Z h442 a "com/example/gangplank/gangplank/space/HeldFromNow" own_fs1 (own_gH au ac ao af ah ai aj 1 (3 : Int32) (fl + 1) om nw (hn + fc1 i)) := (own_Ob_eq B442 (fun i hi => by have hi' : i < 13 := hi; match i, hi' with | 0, _ => rfl | 1, _ => rfl | 2, _ => rfl | 3, _ => rfl | 4, _ => rfl | 5, _ => rfl | 6, _ => rfl | 7, _ => rfl | 8, _ => rfl | 9, _ => rfl | 10, _ => rfl | 11, _ => rfl | 12, _ => rfl))
          refine own_go (g' := (mkF m 171 #[.val (.ref a), .val (.int (iv + (1 : Int32)))] [])) (fun _ k => XS.iinc X442.here hx rfl (hb hby d9_168) rfl (l' := #[.val (.ref a), .val (.int (iv + (1 : Int32)))]) rfl k) ?_
          refine own_go (g' := (mkF m 16 #[.val (.ref a), .val (.int (iv + (1 : Int32)))] [])) (fun _ k => XS.goto X442.here hx rfl (pc0 := 171) (pc' := 16) rfl (hb hby d9_171) (by decide) (by decide) k) ?_
          have f443 := (own_Ar_other (own_Ar_keep f421 K425q (ninS (own_Up_ne HU 2 5 rfl rfl (by decide)) (ninS (own_Up_ne HU 2 6 rfl rfl (by decide)) nin0))) W442 (Ne.symm (own_Up_ne HU 1 2 rfl rfl (by decide))))
          have f444 := (own_Ar_other (own_Ar_keep f423 K425q (ninS (own_Up_ne HU 3 5 rfl rfl (by decide)) (ninS (own_Up_ne HU 3 6 rfl rfl (by decide)) nin0))) W442 (Ne.symm (own_Up_ne HU 1 3 rfl rfl (by decide))))
          have f445 := (own_Rr_other (own_Rr_keep (own_Rr_other Fo3 W413 (Ne.symm (own_Up_ne HU 1 4 rfl rfl (by decide)))) K425q (ninS (own_Up_ne HU 4 5 rfl rfl (by decide)) (ninS (own_Up_ne HU 4 6 rfl rfl (by decide)) nin0))) W442 (Ne.symm (own_Up_ne HU 1 4 rfl rfl (by decide))))
          have f446 := (own_Ar_other Fa9 W442 (Ne.symm (own_Up_ne HU 1 5 rfl rfl (by decide))))
          have f447 := (own_Ar_other Fh9 W442 (Ne.symm (own_Up_ne HU 1 6 rfl rfl (by decide))))
          exact ih (i + 1) _ _ _ _ _ _ (F + 1) (fl + 1) (hn + fc1 i) X442 e442 N442 K442 B9 f443 f444 f445 f446 f447 (own_inv_new hI (by omega) ⟨s1, s2⟩ cp cm) (own_inc hfl (by omega)) (by omega) (own_inc hiv (by omega))
    · refine own_go (g' := (mkF m 168 #[.val (.ref a), .val (.int iv)] [])) (fun _ k => XS.ifYes X410.here hx rfl (pc0 := 32) (pc' := 168) rfl (hb hby d9_32) rfl (XT.ll_le_t cp) (by decide) (by decide) k) ?_
      refine own_go (g' := (mkF m 171 #[.val (.ref a), .val (.int (iv + (1 : Int32)))] [])) (fun _ k => XS.iinc X410.here hx rfl (hb hby d9_168) rfl (l' := #[.val (.ref a), .val (.int (iv + (1 : Int32)))]) rfl k) ?_
      refine own_go (g' := (mkF m 16 #[.val (.ref a), .val (.int (iv + (1 : Int32)))] [])) (fun _ k => XS.goto X410.here hx rfl (pc0 := 171) (pc' := 16) rfl (hb hby d9_171) (by decide) (by decide) k) ?_
      exact ih (i + 1) _ _ _ _ _ _ F fl hn X410 e410 N1 K1 B3 Fu3 Fc3 Fo3 Fa3 Fh3 (own_inv_skip hI cp) hfl (by omega) (own_inc hiv (by omega))
set_option maxRecDepth 65536 in
set_option maxHeartbeats 40000000 in
theorem own_rmHd (l : Launch) (Z : State) (a0 : Array Value) (hw : ∀ d ∈ tables_1, d.before a0 Z = true) (ws : List Jvm.Cond) (x y t : Int64) (h0 : Heap) (n0 : Nat)  :
    own_Met l (⟨"com/example/gangplank/gangplank/space/HeldFromNowHeldAtPinLaw", "held", "(JJJ)J"⟩ : MethodName) method_3_code 6 (some .long) ws ({ frames := 0, cells := 0, slots := 0, locals := 0 } : Room) Z #[(.long x), (.long y), (.long t)] h0 (own_QV (.long (own_hd x y t)) h0) := by
  refine own_enter (plainFor_of_name pn_20) ?_
  intro p e s m below meth c T0 X0 hx hby hml hZ hown e0 hret hlk hnm
  have hown : s.vm.findClass "com/example/gangplank/gangplank/space/HeldFromNowHeldAtPinLaw" = some m.cls := hown
  have hml : c.maxLocals = 6 := hml
  have N0 := Fr.nil n0
  refine own_start (ef_20 m x y t) ?_
  show own_Go p e below _ T0 (mkF m 0 #[.val (.long x), .second, .val (.long y), .second, .val (.long t), .second] [])
  refine own_go (g' := (mkF m 1 #[.val (.long x), .second, .val (.long y), .second, .val (.long t), .second] [(.long y)])) (fun _ k => XT.lloadN X0.here hx rfl (hb hby d20_0) rfl k) ?_
  refine own_go (g' := (mkF m 2 #[.val (.long x), .second, .val (.long y), .second, .val (.long t), .second] [(.long (0 : Int64)), (.long y)])) (fun _ k => XT.lconst X0.here hx rfl (hb hby d20_1) k) ?_
  refine own_go (g' := (mkF m 3 #[.val (.long x), .second, .val (.long y), .second, .val (.long t), .second] [(.int (XT.cmpL y (0 : Int64)))])) (fun _ k => XT.lcmp X0.here hx rfl (hb hby d20_2) rfl k) ?_
  by_cases c3 : (0 : Int64) < y
  · refine own_go (g' := (mkF m 6 #[.val (.long x), .second, .val (.long y), .second, .val (.long t), .second] [])) (fun _ k => XS.ifNo X0.here hx rfl (hb hby d20_3) rfl (XT.ll_le_f c3) k) ?_
    refine own_go (g' := (mkF m 7 #[.val (.long x), .second, .val (.long y), .second, .val (.long t), .second] [(.long x)])) (fun _ k => XT.lloadN X0.here hx rfl (hb hby d20_6) rfl k) ?_
    refine own_go (g' := (mkF m 9 #[.val (.long x), .second, .val (.long y), .second, .val (.long t), .second] [(.long t), (.long x)])) (fun _ k => XT.lload X0.here hx rfl (hb hby d20_7) rfl k) ?_
    refine own_go (g' := (mkF m 10 #[.val (.long x), .second, .val (.long y), .second, .val (.long t), .second] [(.int (XT.cmpL x t))])) (fun _ k => XT.lcmp X0.here hx rfl (hb hby d20_9) rfl k) ?_
    by_cases c10 : t < x
    · refine own_go (g' := (mkF m 13 #[.val (.long x), .second, .val (.long y), .second, .val (.long t), .second] [])) (fun _ k => XS.ifNo X0.here hx rfl (hb hby d20_10) rfl (XT.ll_le_f c10) k) ?_
      refine own_go (g' := (mkF m 14 #[.val (.long x), .second, .val (.long y), .second, .val (.long t), .second] [(.long y)])) (fun _ k => XT.lloadN X0.here hx rfl (hb hby d20_13) rfl k) ?_
      refine own_go (g' := (mkF m 18 #[.val (.long x), .second, .val (.long y), .second, .val (.long t), .second] [(.long y)])) (fun _ k => XS.goto X0.here hx rfl (pc0 := 14) (pc' := 18) rfl (hb hby d20_14) (by decide) (by decide) k) ?_
      exact own_retJ X0 hx hlk hret e0 (hb hby d20_18) ⟨by simp [own_hd, c3, c10], rfl, rfl⟩ (by decide) (by decide)
    · refine own_go (g' := (mkF m 17 #[.val (.long x), .second, .val (.long y), .second, .val (.long t), .second] [])) (fun _ k => XS.ifYes X0.here hx rfl (pc0 := 10) (pc' := 17) rfl (hb hby d20_10) rfl (XT.ll_le_t c10) (by decide) (by decide) k) ?_
      refine own_go (g' := (mkF m 18 #[.val (.long x), .second, .val (.long y), .second, .val (.long t), .second] [(.long (0 : Int64))])) (fun _ k => XT.lconst X0.here hx rfl (hb hby d20_17) k) ?_
      exact own_retJ X0 hx hlk hret e0 (hb hby d20_18) ⟨by simp [own_hd, c3, c10], rfl, rfl⟩ (by decide) (by decide)
  · refine own_go (g' := (mkF m 17 #[.val (.long x), .second, .val (.long y), .second, .val (.long t), .second] [])) (fun _ k => XS.ifYes X0.here hx rfl (pc0 := 3) (pc' := 17) rfl (hb hby d20_3) rfl (XT.ll_le_t c3) (by decide) (by decide) k) ?_
    refine own_go (g' := (mkF m 18 #[.val (.long x), .second, .val (.long y), .second, .val (.long t), .second] [(.long (0 : Int64))])) (fun _ k => XT.lconst X0.here hx rfl (hb hby d20_17) k) ?_
    exact own_retJ X0 hx hlk hret e0 (hb hby d20_18) ⟨by simp [own_hd, c3], rfl, rfl⟩ (by decide) (by decide)
set_option maxRecDepth 65536 in
set_option maxHeartbeats 40000000 in
theorem own_rmHA (l : Launch) (Z : State) (a0 : Array Value) (hw : ∀ d ∈ tables_1, d.before a0 Z = true) (ws : List Jvm.Cond) (a : Addr) (au ac ao af ah ai aj : Addr) (so sz fl om : Int32) (nw hn : Int64) (t : Int64) (fa fh : Nat → Int64) (F : Nat) (h0 : Heap) (n0 : Nat) (B0 : own_Ob Z h0 a "com/example/gangplank/gangplank/space/HeldFromNow" own_fs1 (own_gH au ac ao af ah ai aj so sz fl om nw hn)) (Fa : own_Al Z h0 af 16 fa) (Fh : own_Al Z h0 ah 16 fh) (hfl : fl.toInt = (F : Int)) (hF16 : F ≤ 16) (hmo : ∀ k, k + 1 < F → fa k < fa (k + 1)) :
    own_Met l (⟨"com/example/gangplank/gangplank/space/HeldFromNow", "heldAt", "(J)J"⟩ : MethodName) prog_214_method_9_code 6 (some .long) ws ({ frames := 0, cells := 0, slots := 0, locals := 0 } : Room) Z #[(.ref a), (.long t)] h0 (own_QHa t hn F fa fh h0) := by
  refine own_enter (plainFor_of_name pn_21) ?_
  intro p e s m below meth c T0 X0 hx hby hml hZ hown e0 hret hlk hnm
  have hown : s.vm.findClass "com/example/gangplank/gangplank/space/HeldFromNow" = some m.cls := hown
  have hml : c.maxLocals = 6 := hml
  have N0 := Fr.nil n0
  refine own_start (ef_21 m a t) ?_
  show own_Go p e below _ T0 (mkF m 0 #[.val (.ref a), .val (.long t), .second, .unset, .unset, .unset] [])
  refine own_go (g' := (mkF m 1 #[.val (.ref a), .val (.long t), .second, .unset, .unset, .unset] [(.int (0 : Int32))])) (fun _ k => XS.iconst X0.here hx rfl (hb hby d21_0) k) ?_
  refine own_go (g' := (mkF m 2 #[.val (.ref a), .val (.long t), .second, .val (.int (0 : Int32)), .unset, .unset] [])) (fun _ k => XS.istoreN X0.here hx rfl (hb hby d21_1) rfl (l' := #[.val (.ref a), .val (.long t), .second, .val (.int (0 : Int32)), .unset, .unset]) rfl k) ?_
  refine own_go (g' := (mkF m 3 #[.val (.ref a), .val (.long t), .second, .val (.int (0 : Int32)), .unset, .unset] [(.ref a)])) (fun _ k => XS.aloadN X0.here hx rfl (hb hby d21_2) rfl rfl k) ?_
  refine own_getF X0 hx hZ (host := "") hown e0 (Or.inl (hw _ (List.mem_of_getElem? (i := 92) rfl))) Via.refl (own_Ob_fld B0 11 rfl) (hb hby d21_3) ?_
  intro T459 X459 e459
  show own_Go p e below _ T459 (mkF m 6 #[.val (.ref a), .val (.long t), .second, .val (.int (0 : Int32)), .unset, .unset] [(.int fl)])
  refine own_go (g' := (mkF m 8 #[.val (.ref a), .val (.long t), .second, .val (.int (0 : Int32)), .val (.int fl), .unset] [])) (fun _ k => XS.istore X459.here hx rfl (hb hby d21_6) rfl (l' := #[.val (.ref a), .val (.long t), .second, .val (.int (0 : Int32)), .val (.int fl), .unset]) rfl k) ?_
  suffices loop : ∀ (d lo hi : Nat) (lv hv : Int32) (s5 : Slot) (T' : State), (s5 = .unset ∨ ∃ w, s5 = .val w ∧ w.category = 1) → Stand p l e ({ frames := 0, cells := 0, slots := 0, locals := 0 } : Room) s m #[(.ref a), (.long t)] below meth c T' [] 0 0 → T'.heap = h0 → lv.toInt = (lo : Int) → hv.toInt = (hi : Int) → hi ≤ lo + d → lo ≤ hi → hi ≤ F → (∀ k, k < lo → ¬ t < fa k) → (∀ k, hi ≤ k → k < F → t < fa k) → own_Go p e below (own_Po s (own_QHa t hn F fa fh h0) 0 0) T' (mkF m 8 #[.val (.ref a), .val (.long t), .second, .val (.int lv), .val (.int hv), s5] []) by
    exact loop F 0 F 0 fl .unset _ (Or.inl rfl) X459 e459 rfl hfl (by omega) (by omega) (Nat.le_refl _) (fun k hk => absurd hk (Nat.not_lt_zero k)) (fun k h1 h2 => absurd h1 (by omega))
  intro d
  induction d with
  | zero =>
    intro lo hi lv hv s5 T1 hs5 X1 e1 hlv hhv hd1 hlh hhF h3 h4
    refine own_go (g' := (mkF m 9 #[.val (.ref a), .val (.long t), .second, .val (.int lv), .val (.int hv), s5] [(.int lv)])) (fun _ k => XS.iloadN X1.here hx rfl (hb hby d21_8) rfl k) ?_
    refine own_go (g' := (mkF m 11 #[.val (.ref a), .val (.long t), .second, .val (.int lv), .val (.int hv), s5] [(.int hv), (.int lv)])) (fun _ k => XS.iload X1.here hx rfl (hb hby d21_9) rfl k) ?_
    refine own_go (g' := (mkF m 49 #[.val (.ref a), .val (.long t), .second, .val (.int lv), .val (.int hv), s5] [])) (fun _ k => XS.icmpYes X1.here hx rfl (pc0 := 11) (pc' := 49) rfl (hb hby d21_11) rfl (XT.ii_ge_t (by rw [Int32.lt_iff_toInt_lt, hlv, hhv]; omega)) (by decide) (by decide) k) ?_
    obtain rfl : lo = hi := by omega
    refine own_go (g' := (mkF m 50 #[.val (.ref a), .val (.long t), .second, .val (.int lv), .val (.int hv), s5] [(.int lv)])) (fun _ k => XS.iloadN X1.here hx rfl (hb hby d21_49) rfl k) ?_
    by_cases cz : lv = 0
    · refine own_go (g' := (mkF m 53 #[.val (.ref a), .val (.long t), .second, .val (.int lv), .val (.int hv), s5] [])) (fun _ k => XS.ifNo X1.here hx rfl (hb hby d21_50) rfl (XT.i0_ne_f cz) k) ?_
      have hz : lo = 0 := own_eq0 hlv cz
      refine own_go (g' := (mkF m 54 #[.val (.ref a), .val (.long t), .second, .val (.int lv), .val (.int hv), s5] [(.ref a)])) (fun _ k => XS.aloadN X1.here hx rfl (hb hby d21_53) rfl rfl k) ?_
      refine own_getF X1 hx hZ (host := "") hown e1 (Or.inl (hw _ (List.mem_of_getElem? (i := 90) rfl))) Via.refl (own_Ob_fld B0 10 rfl) (hb hby d21_54) ?_
      intro T460 X460 e460
      show own_Go p e below _ T460 (mkF m 57 #[.val (.ref a), .val (.long t), .second, .val (.int lv), .val (.int hv), s5] [(.long hn)])
      refine own_go (g' := (mkF m 68 #[.val (.ref a), .val (.long t), .second, .val (.int lv), .val (.int hv), s5] [(.long hn)])) (fun _ k => XS.goto X460.here hx rfl (pc0 := 57) (pc' := 68) rfl (hb hby d21_57) (by decide) (by decide) k) ?_
      exact own_retJ X460 hx hlk hret e460 (hb hby d21_68) ⟨⟨lo, hhF, h3, h4, by rw [if_pos hz]⟩, rfl, rfl⟩ (by decide) (by decide)
    · refine own_go (g' := (mkF m 60 #[.val (.ref a), .val (.long t), .second, .val (.int lv), .val (.int hv), s5] [])) (fun _ k => XS.ifYes X1.here hx rfl (pc0 := 50) (pc' := 60) rfl (hb hby d21_50) rfl (XT.i0_ne_t cz) (by decide) (by decide) k) ?_
      have hz : ¬ lo = 0 := fun q => cz (own_eq0' hlv q)
      refine own_go (g' := (mkF m 61 #[.val (.ref a), .val (.long t), .second, .val (.int lv), .val (.int hv), s5] [(.ref a)])) (fun _ k => XS.aloadN X1.here hx rfl (hb hby d21_60) rfl rfl k) ?_
      refine own_getF X1 hx hZ (host := "") hown e1 (Or.inl (hw _ (List.mem_of_getElem? (i := 58) rfl))) Via.refl (own_Ob_fld B0 5 rfl) (hb hby d21_61) ?_
      intro T461 X461 e461
      show own_Go p e below _ T461 (mkF m 64 #[.val (.ref a), .val (.long t), .second, .val (.int lv), .val (.int hv), s5] [(.ref ah)])
      refine own_go (g' := (mkF m 65 #[.val (.ref a), .val (.long t), .second, .val (.int lv), .val (.int hv), s5] [(.int lv), (.ref ah)])) (fun _ k => XS.iloadN X461.here hx rfl (hb hby d21_64) rfl k) ?_
      refine own_go (g' := (mkF m 66 #[.val (.ref a), .val (.long t), .second, .val (.int lv), .val (.int hv), s5] [(.int (1 : Int32)), (.int lv), (.ref ah)])) (fun _ k => XS.iconst X461.here hx rfl (hb hby d21_65) k) ?_
      refine own_go (g' := (mkF m 67 #[.val (.ref a), .val (.long t), .second, .val (.int lv), .val (.int hv), s5] [(.int (lv - (1 : Int32))), (.ref ah)])) (fun _ k => XS.isub X461.here hx rfl (hb hby d21_66) rfl k) ?_
      refine own_laload X461 hx hZ e461 Fh (lo - 1) (own_sub1 hlv (by omega) (by omega)) (by omega) (hb hby d21_67) ?_
      show own_Go p e below _ T461 (mkF m 68 #[.val (.ref a), .val (.long t), .second, .val (.int lv), .val (.int hv), s5] [(.long (fh (lo - 1)))])
      exact own_retJ X461 hx hlk hret e461 (hb hby d21_68) ⟨⟨lo, hhF, h3, h4, by rw [if_neg hz]⟩, rfl, rfl⟩ (by decide) (by decide)
  | succ d ih =>
    intro lo hi lv hv s5 T1 hs5 X1 e1 hlv hhv hd1 hlh hhF h3 h4
    refine own_go (g' := (mkF m 9 #[.val (.ref a), .val (.long t), .second, .val (.int lv), .val (.int hv), s5] [(.int lv)])) (fun _ k => XS.iloadN X1.here hx rfl (hb hby d21_8) rfl k) ?_
    refine own_go (g' := (mkF m 11 #[.val (.ref a), .val (.long t), .second, .val (.int lv), .val (.int hv), s5] [(.int hv), (.int lv)])) (fun _ k => XS.iload X1.here hx rfl (hb hby d21_9) rfl k) ?_
    by_cases cl : lv < hv
    · refine own_go (g' := (mkF m 14 #[.val (.ref a), .val (.long t), .second, .val (.int lv), .val (.int hv), s5] [])) (fun _ k => XS.icmpNo X1.here hx rfl (hb hby d21_11) rfl (XT.ii_ge_f cl) k) ?_
      have hq : lo < hi := by rw [Int32.lt_iff_toInt_lt, hlv, hhv] at cl; omega
      refine own_go (g' := (mkF m 15 #[.val (.ref a), .val (.long t), .second, .val (.int lv), .val (.int hv), s5] [(.int lv)])) (fun _ k => XS.iloadN X1.here hx rfl (hb hby d21_14) rfl k) ?_
      refine own_go (g' := (mkF m 17 #[.val (.ref a), .val (.long t), .second, .val (.int lv), .val (.int hv), s5] [(.int hv), (.int lv)])) (fun _ k => XS.iload X1.here hx rfl (hb hby d21_15) rfl k) ?_
      refine own_go (g' := (mkF m 18 #[.val (.ref a), .val (.long t), .second, .val (.int lv), .val (.int hv), s5] [(.int (lv + hv))])) (fun _ k => XS.iadd X1.here hx rfl (hb hby d21_17) rfl k) ?_
      refine own_go (g' := (mkF m 19 #[.val (.ref a), .val (.long t), .second, .val (.int lv), .val (.int hv), s5] [(.int (1 : Int32)), (.int (lv + hv))])) (fun _ k => XS.iconst X1.here hx rfl (hb hby d21_18) k) ?_
      refine own_go (g' := (mkF m 20 #[.val (.ref a), .val (.long t), .second, .val (.int lv), .val (.int hv), s5] [(.int (XT.ushr (lv + hv) (1 : Int32)))])) (fun _ k => XT.iushr X1.here hx rfl (hb hby d21_19) rfl k) ?_
      refine own_go (g' := (mkF m 22 #[.val (.ref a), .val (.long t), .second, .val (.int lv), .val (.int hv), .val (.int (XT.ushr (lv + hv) (1 : Int32)))] [])) (fun _ k => XS.istoreS X1.here hx rfl (hb hby d21_20) rfl (o := s5) rfl hs5 k) ?_
      obtain ⟨mv, hmv⟩ : ∃ z : Int32, z = (XT.ushr (lv + hv) (1 : Int32)) := ⟨_, rfl⟩
      rw [← hmv]
      show own_Go p e below _ T1 (mkF m 22 #[.val (.ref a), .val (.long t), .second, .val (.int lv), .val (.int hv), .val (.int mv)] [])
      have hm : mv.toInt = (((lo + hi) / 2 : Nat) : Int) := hmv ▸ own_mid hlv hhv (by omega)
      refine own_go (g' := (mkF m 23 #[.val (.ref a), .val (.long t), .second, .val (.int lv), .val (.int hv), .val (.int mv)] [(.ref a)])) (fun _ k => XS.aloadN X1.here hx rfl (hb hby d21_22) rfl rfl k) ?_
      refine own_getF X1 hx hZ (host := "") hown e1 (Or.inl (hw _ (List.mem_of_getElem? (i := 56) rfl))) Via.refl (own_Ob_fld B0 4 rfl) (hb hby d21_23) ?_
      intro T464 X464 e464
      show own_Go p e below _ T464 (mkF m 26 #[.val (.ref a), .val (.long t), .second, .val (.int lv), .val (.int hv), .val (.int mv)] [(.ref af)])
      refine own_go (g' := (mkF m 28 #[.val (.ref a), .val (.long t), .second, .val (.int lv), .val (.int hv), .val (.int mv)] [(.int mv), (.ref af)])) (fun _ k => XS.iload X464.here hx rfl (hb hby d21_26) rfl k) ?_
      refine own_laload X464 hx hZ e464 Fa ((lo + hi) / 2) hm (by omega) (hb hby d21_28) ?_
      show own_Go p e below _ T464 (mkF m 29 #[.val (.ref a), .val (.long t), .second, .val (.int lv), .val (.int hv), .val (.int mv)] [(.long (fa ((lo + hi) / 2)))])
      refine own_go (g' := (mkF m 30 #[.val (.ref a), .val (.long t), .second, .val (.int lv), .val (.int hv), .val (.int mv)] [(.long t), (.long (fa ((lo + hi) / 2)))])) (fun _ k => XT.lloadN X464.here hx rfl (hb hby d21_29) rfl k) ?_
      refine own_go (g' := (mkF m 31 #[.val (.ref a), .val (.long t), .second, .val (.int lv), .val (.int hv), .val (.int mv)] [(.int (XT.cmpL (fa ((lo + hi) / 2)) t))])) (fun _ k => XT.lcmp X464.here hx rfl (hb hby d21_30) rfl k) ?_
      by_cases ct : t < (fa ((lo + hi) / 2))
      · refine own_go (g' := (mkF m 42 #[.val (.ref a), .val (.long t), .second, .val (.int lv), .val (.int hv), .val (.int mv)] [])) (fun _ k => XS.ifYes X464.here hx rfl (pc0 := 31) (pc' := 42) rfl (hb hby d21_31) rfl (XT.ll_gt_t ct) (by decide) (by decide) k) ?_
        refine own_go (g' := (mkF m 44 #[.val (.ref a), .val (.long t), .second, .val (.int lv), .val (.int hv), .val (.int mv)] [(.int mv)])) (fun _ k => XS.iload X464.here hx rfl (hb hby d21_42) rfl k) ?_
        refine own_go (g' := (mkF m 46 #[.val (.ref a), .val (.long t), .second, .val (.int lv), .val (.int mv), .val (.int mv)] [])) (fun _ k => XS.istore X464.here hx rfl (hb hby d21_44) rfl (l' := #[.val (.ref a), .val (.long t), .second, .val (.int lv), .val (.int mv), .val (.int mv)]) rfl k) ?_
        refine own_go (g' := (mkF m 8 #[.val (.ref a), .val (.long t), .second, .val (.int lv), .val (.int mv), .val (.int mv)] [])) (fun _ k => XS.goto X464.here hx rfl (pc0 := 46) (pc' := 8) rfl (hb hby d21_46) (by decide) (by decide) k) ?_
        exact ih _ _ _ _ _ _ (Or.inr ⟨_, rfl, rfl⟩) X464 e464 hlv hm (by omega) (by omega) (by omega) h3 (fun k h1 h2 => own_up_of hmo ct h1 h2)
      · refine own_go (g' := (mkF m 34 #[.val (.ref a), .val (.long t), .second, .val (.int lv), .val (.int hv), .val (.int mv)] [])) (fun _ k => XS.ifNo X464.here hx rfl (hb hby d21_31) rfl (XT.ll_gt_f ct) k) ?_
        refine own_go (g' := (mkF m 36 #[.val (.ref a), .val (.long t), .second, .val (.int lv), .val (.int hv), .val (.int mv)] [(.int mv)])) (fun _ k => XS.iload X464.here hx rfl (hb hby d21_34) rfl k) ?_
        refine own_go (g' := (mkF m 37 #[.val (.ref a), .val (.long t), .second, .val (.int lv), .val (.int hv), .val (.int mv)] [(.int (1 : Int32)), (.int mv)])) (fun _ k => XS.iconst X464.here hx rfl (hb hby d21_36) k) ?_
        refine own_go (g' := (mkF m 38 #[.val (.ref a), .val (.long t), .second, .val (.int lv), .val (.int hv), .val (.int mv)] [(.int (mv + (1 : Int32)))])) (fun _ k => XS.iadd X464.here hx rfl (hb hby d21_37) rfl k) ?_
        refine own_go (g' := (mkF m 39 #[.val (.ref a), .val (.long t), .second, .val (.int (mv + (1 : Int32))), .val (.int hv), .val (.int mv)] [])) (fun _ k => XS.istoreN X464.here hx rfl (hb hby d21_38) rfl (l' := #[.val (.ref a), .val (.long t), .second, .val (.int (mv + (1 : Int32))), .val (.int hv), .val (.int mv)]) rfl k) ?_
        refine own_go (g' := (mkF m 46 #[.val (.ref a), .val (.long t), .second, .val (.int (mv + (1 : Int32))), .val (.int hv), .val (.int mv)] [])) (fun _ k => XS.goto X464.here hx rfl (pc0 := 39) (pc' := 46) rfl (hb hby d21_39) (by decide) (by decide) k) ?_
        refine own_go (g' := (mkF m 8 #[.val (.ref a), .val (.long t), .second, .val (.int (mv + (1 : Int32))), .val (.int hv), .val (.int mv)] [])) (fun _ k => XS.goto X464.here hx rfl (pc0 := 46) (pc' := 8) rfl (hb hby d21_46) (by decide) (by decide) k) ?_
        exact ih _ _ _ _ _ _ (Or.inr ⟨_, rfl, rfl⟩) X464 e464 (own_inc hm (by omega)) hhv (by omega) (by omega) hhF (fun k h1 => own_dn_of hmo ct (by omega) (by omega)) h4
    · refine own_go (g' := (mkF m 49 #[.val (.ref a), .val (.long t), .second, .val (.int lv), .val (.int hv), s5] [])) (fun _ k => XS.icmpYes X1.here hx rfl (pc0 := 11) (pc' := 49) rfl (hb hby d21_11) rfl (XT.ii_ge_t cl) (by decide) (by decide) k) ?_
      have hq : ¬ lo < hi := fun q => cl (by rw [Int32.lt_iff_toInt_lt, hlv, hhv]; omega)
      obtain rfl : lo = hi := by omega
      refine own_go (g' := (mkF m 50 #[.val (.ref a), .val (.long t), .second, .val (.int lv), .val (.int hv), s5] [(.int lv)])) (fun _ k => XS.iloadN X1.here hx rfl (hb hby d21_49) rfl k) ?_
      by_cases cz : lv = 0
      · refine own_go (g' := (mkF m 53 #[.val (.ref a), .val (.long t), .second, .val (.int lv), .val (.int hv), s5] [])) (fun _ k => XS.ifNo X1.here hx rfl (hb hby d21_50) rfl (XT.i0_ne_f cz) k) ?_
        have hz : lo = 0 := own_eq0 hlv cz
        refine own_go (g' := (mkF m 54 #[.val (.ref a), .val (.long t), .second, .val (.int lv), .val (.int hv), s5] [(.ref a)])) (fun _ k => XS.aloadN X1.here hx rfl (hb hby d21_53) rfl rfl k) ?_
        refine own_getF X1 hx hZ (host := "") hown e1 (Or.inl (hw _ (List.mem_of_getElem? (i := 90) rfl))) Via.refl (own_Ob_fld B0 10 rfl) (hb hby d21_54) ?_
        intro T462 X462 e462
        show own_Go p e below _ T462 (mkF m 57 #[.val (.ref a), .val (.long t), .second, .val (.int lv), .val (.int hv), s5] [(.long hn)])
        refine own_go (g' := (mkF m 68 #[.val (.ref a), .val (.long t), .second, .val (.int lv), .val (.int hv), s5] [(.long hn)])) (fun _ k => XS.goto X462.here hx rfl (pc0 := 57) (pc' := 68) rfl (hb hby d21_57) (by decide) (by decide) k) ?_
        exact own_retJ X462 hx hlk hret e462 (hb hby d21_68) ⟨⟨lo, hhF, h3, h4, by rw [if_pos hz]⟩, rfl, rfl⟩ (by decide) (by decide)
      · refine own_go (g' := (mkF m 60 #[.val (.ref a), .val (.long t), .second, .val (.int lv), .val (.int hv), s5] [])) (fun _ k => XS.ifYes X1.here hx rfl (pc0 := 50) (pc' := 60) rfl (hb hby d21_50) rfl (XT.i0_ne_t cz) (by decide) (by decide) k) ?_
        have hz : ¬ lo = 0 := fun q => cz (own_eq0' hlv q)
        refine own_go (g' := (mkF m 61 #[.val (.ref a), .val (.long t), .second, .val (.int lv), .val (.int hv), s5] [(.ref a)])) (fun _ k => XS.aloadN X1.here hx rfl (hb hby d21_60) rfl rfl k) ?_
        refine own_getF X1 hx hZ (host := "") hown e1 (Or.inl (hw _ (List.mem_of_getElem? (i := 58) rfl))) Via.refl (own_Ob_fld B0 5 rfl) (hb hby d21_61) ?_
        intro T463 X463 e463
        show own_Go p e below _ T463 (mkF m 64 #[.val (.ref a), .val (.long t), .second, .val (.int lv), .val (.int hv), s5] [(.ref ah)])
        refine own_go (g' := (mkF m 65 #[.val (.ref a), .val (.long t), .second, .val (.int lv), .val (.int hv), s5] [(.int lv), (.ref ah)])) (fun _ k => XS.iloadN X463.here hx rfl (hb hby d21_64) rfl k) ?_
        refine own_go (g' := (mkF m 66 #[.val (.ref a), .val (.long t), .second, .val (.int lv), .val (.int hv), s5] [(.int (1 : Int32)), (.int lv), (.ref ah)])) (fun _ k => XS.iconst X463.here hx rfl (hb hby d21_65) k) ?_
        refine own_go (g' := (mkF m 67 #[.val (.ref a), .val (.long t), .second, .val (.int lv), .val (.int hv), s5] [(.int (lv - (1 : Int32))), (.ref ah)])) (fun _ k => XS.isub X463.here hx rfl (hb hby d21_66) rfl k) ?_
        refine own_laload X463 hx hZ e463 Fh (lo - 1) (own_sub1 hlv (by omega) (by omega)) (by omega) (hb hby d21_67) ?_
        show own_Go p e below _ T463 (mkF m 68 #[.val (.ref a), .val (.long t), .second, .val (.int lv), .val (.int hv), s5] [(.long (fh (lo - 1)))])
        exact own_retJ X463 hx hlk hret e463 (hb hby d21_68) ⟨⟨lo, hhF, h3, h4, by rw [if_neg hz]⟩, rfl, rfl⟩ (by decide) (by decide)
theorem own_sf3 {a b c : Int64} {f0 : Nat → Int64} : ¬ own_sf (own_sf (own_sf 1 0 f0 a) 1 (own_upl f0 0 a) b) 2 (own_upl (own_upl f0 0 a) 1 b) c = 0 → ¬ (own_upl (own_upl (own_upl f0 0 a) 1 b) 2 c) 1 < (own_upl (own_upl (own_upl f0 0 a) 1 b) 2 c) 0 ∧ ¬ (own_upl (own_upl (own_upl f0 0 a) 1 b) 2 c) 2 < (own_upl (own_upl (own_upl f0 0 a) 1 b) 2 c) 1 := by
  intro h
  refine ⟨fun h1 => h ?_, fun h2 => h ?_⟩
  · have h1' : b < a := h1
    simp [own_sf, own_upl, h1']
  · have h2' : c < b := h2
    simp [own_sf, own_upl, h2']
set_option maxRecDepth 65536 in
set_option maxHeartbeats 40000000 in
theorem own_rm0 (l : Launch) (Z : State) (a0 : Array Value) (hw : ∀ d ∈ tables_1, d.before a0 Z = true) (ws : List Jvm.Cond) (q0 q1 q2 q3 q4 : Int64) (h0 : Heap) (n0 : Nat) (Z0 : n0 ≤ h0.size) :
    own_Met l x code maxLocals ret ws room_1 Z #[(.long q0), (.long q1), (.long q2), (.long q3), (.long q4)] h0 (own_Q0 n0) := by
  refine own_enter (plainFor_of_name pn_0) ?_
  intro p e s m below meth c T0 X0 hx hby hml hZ hown e0 hret hlk hnm
  have hown : s.vm.findClass "com/example/gangplank/gangplank/space/HeldFromNowHeldAtPinLaw" = some m.cls := hown
  have hml : c.maxLocals = 28 := hml
  have N0 := Fr.nil n0
  refine own_start (ef_0 m q0 q1 q2 q3 q4) ?_
  show own_Go p e below _ T0 (mkF m 0 #[.val (.long q0), .second, .val (.long q1), .second, .val (.long q2), .second, .val (.long q3), .second, .val (.long q4), .second, .unset, .unset, .unset, .unset, .unset, .unset, .unset, .unset, .unset, .unset, .unset, .unset, .unset, .unset, .unset, .unset, .unset, .unset] [])
  have K0 := Keep.refl h0 []
  refine own_go (g' := (mkF m 1 #[.val (.long q0), .second, .val (.long q1), .second, .val (.long q2), .second, .val (.long q3), .second, .val (.long q4), .second, .unset, .unset, .unset, .unset, .unset, .unset, .unset, .unset, .unset, .unset, .unset, .unset, .unset, .unset, .unset, .unset, .unset, .unset] [(.long q0)])) (fun _ k => XT.lloadN X0.here hx rfl (hb hby at_0) rfl k) ?_
  refine own_go (g' := (mkF m 4 #[.val (.long q0), .second, .val (.long q1), .second, .val (.long q2), .second, .val (.long q3), .second, .val (.long q4), .second, .unset, .unset, .unset, .unset, .unset, .unset, .unset, .unset, .unset, .unset, .unset, .unset, .unset, .unset, .unset, .unset, .unset, .unset] [(.long (-9223372036854775807 : Int64)), (.long q0)])) (fun _ k => X0.ldc2Long hx hown (mvT hZ (hw _ (List.mem_of_getElem? (i := 0) rfl))) (g := (mkF m 1 #[.val (.long q0), .second, .val (.long q1), .second, .val (.long q2), .second, .val (.long q3), .second, .val (.long q4), .second, .unset, .unset, .unset, .unset, .unset, .unset, .unset, .unset, .unset, .unset, .unset, .unset, .unset, .unset, .unset, .unset, .unset, .unset] [(.long q0)])) rfl (hb hby at_1) _ k) ?_
  refine own_callS X0 hx hZ hown e0 (y := (⟨"java/lang/Math", "max", "(JJ)J"⟩ : MethodName)) (rm := ({ frames := 0, cells := 0, slots := 0, locals := 0 } : Room)) (hw _ (List.mem_of_getElem? (i := 1) rfl)) (hw _ (List.mem_of_getElem? (i := 2) rfl)) (hw _ (List.mem_of_getElem? (i := 3) rfl)) (hw _ (List.mem_of_getElem? (i := 4) rfl)) (by decide) (argsL := [(.long q0), (.long (-9223372036854775807 : Int64))]) (rest := []) (own_rmMJ l Z a0 hw [] q0 (-9223372036854775807 : Int64) h0 n0) (by rw [hml]; rfl) pd_1 rfl rfl (hb hby at_4) (W := 0) (Nat.le_of_eq rfl) (by decide) (by decide) (by decide) (by decide) ?_
  intro v465 T465 L465 X465 hQ465
  obtain ⟨hv465, e465, rfl⟩ := hQ465
  obtain ⟨va, hva⟩ : ∃ z : Int64, z = own_mx q0 (-9223372036854775807 : Int64) := ⟨_, rfl⟩
  rw [← hva] at hv465
  subst hv465
  rw [List.append_nil] at X465
  show own_Go p e below _ T465 (mkF m 7 #[.val (.long q0), .second, .val (.long q1), .second, .val (.long q2), .second, .val (.long q3), .second, .val (.long q4), .second, .unset, .unset, .unset, .unset, .unset, .unset, .unset, .unset, .unset, .unset, .unset, .unset, .unset, .unset, .unset, .unset, .unset, .unset] [(.long va)])
  refine own_go (g' := (mkF m 9 #[.val (.long q0), .second, .val (.long q1), .second, .val (.long q2), .second, .val (.long q3), .second, .val (.long q4), .second, .val (.long va), .second, .unset, .unset, .unset, .unset, .unset, .unset, .unset, .unset, .unset, .unset, .unset, .unset, .unset, .unset, .unset, .unset] [])) (fun _ k => XT.lstore X465.here hx rfl (hb hby at_7) rfl (l' := #[.val (.long q0), .second, .val (.long q1), .second, .val (.long q2), .second, .val (.long q3), .second, .val (.long q4), .second, .val (.long va), .second, .unset, .unset, .unset, .unset, .unset, .unset, .unset, .unset, .unset, .unset, .unset, .unset, .unset, .unset, .unset, .unset]) rfl k) ?_
  refine own_go (g' := (mkF m 11 #[.val (.long q0), .second, .val (.long q1), .second, .val (.long q2), .second, .val (.long q3), .second, .val (.long q4), .second, .val (.long va), .second, .unset, .unset, .unset, .unset, .unset, .unset, .unset, .unset, .unset, .unset, .unset, .unset, .unset, .unset, .unset, .unset] [(.long q4)])) (fun _ k => XT.lload X465.here hx rfl (hb hby at_9) rfl k) ?_
  refine own_go (g' := (mkF m 13 #[.val (.long q0), .second, .val (.long q1), .second, .val (.long q2), .second, .val (.long q3), .second, .val (.long q4), .second, .val (.long va), .second, .unset, .unset, .unset, .unset, .unset, .unset, .unset, .unset, .unset, .unset, .unset, .unset, .unset, .unset, .unset, .unset] [(.int (48 : Int32)), (.long q4)])) (fun _ k => XS.bipush X465.here hx rfl (hb hby at_11) k) ?_
  refine own_go (g' := (mkF m 14 #[.val (.long q0), .second, .val (.long q1), .second, .val (.long q2), .second, .val (.long q3), .second, .val (.long q4), .second, .val (.long va), .second, .unset, .unset, .unset, .unset, .unset, .unset, .unset, .unset, .unset, .unset, .unset, .unset, .unset, .unset, .unset, .unset] [(.long (XT.ushrL q4 (48 : Int32)))])) (fun _ k => XT.lushr X465.here hx rfl (hb hby at_13) rfl k) ?_
  refine own_go (g' := (mkF m 15 #[.val (.long q0), .second, .val (.long q1), .second, .val (.long q2), .second, .val (.long q3), .second, .val (.long q4), .second, .val (.long va), .second, .unset, .unset, .unset, .unset, .unset, .unset, .unset, .unset, .unset, .unset, .unset, .unset, .unset, .unset, .unset, .unset] [(.long (1 : Int64)), (.long (XT.ushrL q4 (48 : Int32)))])) (fun _ k => XT.lconst X465.here hx rfl (hb hby at_14) k) ?_
  refine own_go (g' := (mkF m 16 #[.val (.long q0), .second, .val (.long q1), .second, .val (.long q2), .second, .val (.long q3), .second, .val (.long q4), .second, .val (.long va), .second, .unset, .unset, .unset, .unset, .unset, .unset, .unset, .unset, .unset, .unset, .unset, .unset, .unset, .unset, .unset, .unset] [(.long ((XT.ushrL q4 (48 : Int32)) &&& (1 : Int64)))])) (fun _ k => XT.land X465.here hx rfl (hb hby at_15) rfl k) ?_
  refine own_go (g' := (mkF m 17 #[.val (.long q0), .second, .val (.long q1), .second, .val (.long q2), .second, .val (.long q3), .second, .val (.long q4), .second, .val (.long va), .second, .unset, .unset, .unset, .unset, .unset, .unset, .unset, .unset, .unset, .unset, .unset, .unset, .unset, .unset, .unset, .unset] [(.long (0 : Int64)), (.long ((XT.ushrL q4 (48 : Int32)) &&& (1 : Int64)))])) (fun _ k => XT.lconst X465.here hx rfl (hb hby at_16) k) ?_
  refine own_go (g' := (mkF m 18 #[.val (.long q0), .second, .val (.long q1), .second, .val (.long q2), .second, .val (.long q3), .second, .val (.long q4), .second, .val (.long va), .second, .unset, .unset, .unset, .unset, .unset, .unset, .unset, .unset, .unset, .unset, .unset, .unset, .unset, .unset, .unset, .unset] [(.int (XT.cmpL ((XT.ushrL q4 (48 : Int32)) &&& (1 : Int64)) (0 : Int64)))])) (fun _ k => XT.lcmp X465.here hx rfl (hb hby at_17) rfl k) ?_
  suffices J : ∀ (T' : State) (vb : Int64), Stand p l e room_1 s m #[(.long q0), (.long q1), (.long q2), (.long q3), (.long q4)] below meth c T' [] 0 0 → T'.heap = h0 → own_Go p e below (own_Po s (own_Q0 n0) 32 320) T' (mkF m 33 #[.val (.long q0), .second, .val (.long q1), .second, .val (.long q2), .second, .val (.long q3), .second, .val (.long q4), .second, .val (.long va), .second, .unset, .unset, .unset, .unset, .unset, .unset, .unset, .unset, .unset, .unset, .unset, .unset, .unset, .unset, .unset, .unset] [(.long vb)]) by
    by_cases cb : ((XT.ushrL q4 (48 : Int32)) &&& (1 : Int64)) = (0 : Int64)
    · refine own_go (g' := (mkF m 26 #[.val (.long q0), .second, .val (.long q1), .second, .val (.long q2), .second, .val (.long q3), .second, .val (.long q4), .second, .val (.long va), .second, .unset, .unset, .unset, .unset, .unset, .unset, .unset, .unset, .unset, .unset, .unset, .unset, .unset, .unset, .unset, .unset] [])) (fun _ k => XS.ifYes X465.here hx rfl (pc0 := 18) (pc' := 26) rfl (hb hby at_18) rfl (XT.ll_eq_t cb) (by decide) (by decide) k) ?_
      refine own_go (g' := (mkF m 27 #[.val (.long q0), .second, .val (.long q1), .second, .val (.long q2), .second, .val (.long q3), .second, .val (.long q4), .second, .val (.long va), .second, .unset, .unset, .unset, .unset, .unset, .unset, .unset, .unset, .unset, .unset, .unset, .unset, .unset, .unset, .unset, .unset] [(.long q1)])) (fun _ k => XT.lloadN X465.here hx rfl (hb hby at_26) rfl k) ?_
      refine own_go (g' := (mkF m 30 #[.val (.long q0), .second, .val (.long q1), .second, .val (.long q2), .second, .val (.long q3), .second, .val (.long q4), .second, .val (.long va), .second, .unset, .unset, .unset, .unset, .unset, .unset, .unset, .unset, .unset, .unset, .unset, .unset, .unset, .unset, .unset, .unset] [(.long (-9223372036854775807 : Int64)), (.long q1)])) (fun _ k => X465.ldc2Long hx hown (mvT hZ (hw _ (List.mem_of_getElem? (i := 0) rfl))) (g := (mkF m 27 #[.val (.long q0), .second, .val (.long q1), .second, .val (.long q2), .second, .val (.long q3), .second, .val (.long q4), .second, .val (.long va), .second, .unset, .unset, .unset, .unset, .unset, .unset, .unset, .unset, .unset, .unset, .unset, .unset, .unset, .unset, .unset, .unset] [(.long q1)])) rfl (hb hby at_27) _ k) ?_
      refine own_callS X465 hx hZ hown e465 (y := (⟨"java/lang/Math", "max", "(JJ)J"⟩ : MethodName)) (rm := ({ frames := 0, cells := 0, slots := 0, locals := 0 } : Room)) (hw _ (List.mem_of_getElem? (i := 1) rfl)) (hw _ (List.mem_of_getElem? (i := 2) rfl)) (hw _ (List.mem_of_getElem? (i := 3) rfl)) (hw _ (List.mem_of_getElem? (i := 4) rfl)) (by decide) (argsL := [(.long q1), (.long (-9223372036854775807 : Int64))]) (rest := []) (own_rmMJ l Z a0 hw [] q1 (-9223372036854775807 : Int64) h0 n0) (by rw [hml]; rfl) pd_1 rfl rfl (hb hby at_30) (W := 0) (Nat.le_of_eq rfl) (by decide) (by decide) (by decide) (by decide) ?_
      intro v466 T466 L466 X466 hQ466
      obtain ⟨hv466, e466, rfl⟩ := hQ466
      obtain ⟨vz, hvz⟩ : ∃ z : Int64, z = own_mx q1 (-9223372036854775807 : Int64) := ⟨_, rfl⟩
      rw [← hvz] at hv466
      subst hv466
      rw [List.append_nil] at X466
      show own_Go p e below _ T466 (mkF m 33 #[.val (.long q0), .second, .val (.long q1), .second, .val (.long q2), .second, .val (.long q3), .second, .val (.long q4), .second, .val (.long va), .second, .unset, .unset, .unset, .unset, .unset, .unset, .unset, .unset, .unset, .unset, .unset, .unset, .unset, .unset, .unset, .unset] [(.long vz)])
      exact J _ _ X466 e466
    · refine own_go (g' := (mkF m 21 #[.val (.long q0), .second, .val (.long q1), .second, .val (.long q2), .second, .val (.long q3), .second, .val (.long q4), .second, .val (.long va), .second, .unset, .unset, .unset, .unset, .unset, .unset, .unset, .unset, .unset, .unset, .unset, .unset, .unset, .unset, .unset, .unset] [])) (fun _ k => XS.ifNo X465.here hx rfl (hb hby at_18) rfl (XT.ll_eq_f cb) k) ?_
      refine own_go (g' := (mkF m 23 #[.val (.long q0), .second, .val (.long q1), .second, .val (.long q2), .second, .val (.long q3), .second, .val (.long q4), .second, .val (.long va), .second, .unset, .unset, .unset, .unset, .unset, .unset, .unset, .unset, .unset, .unset, .unset, .unset, .unset, .unset, .unset, .unset] [(.long va)])) (fun _ k => XT.lload X465.here hx rfl (hb hby at_21) rfl k) ?_
      refine own_go (g' := (mkF m 33 #[.val (.long q0), .second, .val (.long q1), .second, .val (.long q2), .second, .val (.long q3), .second, .val (.long q4), .second, .val (.long va), .second, .unset, .unset, .unset, .unset, .unset, .unset, .unset, .unset, .unset, .unset, .unset, .unset, .unset, .unset, .unset, .unset] [(.long va)])) (fun _ k => XS.goto X465.here hx rfl (pc0 := 23) (pc' := 33) rfl (hb hby at_23) (by decide) (by decide) k) ?_
      exact J _ _ X465 e465
  intro T467 vb X467 e467
  refine own_go (g' := (mkF m 35 #[.val (.long q0), .second, .val (.long q1), .second, .val (.long q2), .second, .val (.long q3), .second, .val (.long q4), .second, .val (.long va), .second, .val (.long vb), .second, .unset, .unset, .unset, .unset, .unset, .unset, .unset, .unset, .unset, .unset, .unset, .unset, .unset, .unset] [])) (fun _ k => XT.lstore X467.here hx rfl (hb hby at_33) rfl (l' := #[.val (.long q0), .second, .val (.long q1), .second, .val (.long q2), .second, .val (.long q3), .second, .val (.long q4), .second, .val (.long va), .second, .val (.long vb), .second, .unset, .unset, .unset, .unset, .unset, .unset, .unset, .unset, .unset, .unset, .unset, .unset, .unset, .unset]) rfl k) ?_
  refine own_go (g' := (mkF m 37 #[.val (.long q0), .second, .val (.long q1), .second, .val (.long q2), .second, .val (.long q3), .second, .val (.long q4), .second, .val (.long va), .second, .val (.long vb), .second, .unset, .unset, .unset, .unset, .unset, .unset, .unset, .unset, .unset, .unset, .unset, .unset, .unset, .unset] [(.long q4)])) (fun _ k => XT.lload X467.here hx rfl (hb hby at_35) rfl k) ?_
  refine own_go (g' := (mkF m 39 #[.val (.long q0), .second, .val (.long q1), .second, .val (.long q2), .second, .val (.long q3), .second, .val (.long q4), .second, .val (.long va), .second, .val (.long vb), .second, .unset, .unset, .unset, .unset, .unset, .unset, .unset, .unset, .unset, .unset, .unset, .unset, .unset, .unset] [(.int (49 : Int32)), (.long q4)])) (fun _ k => XS.bipush X467.here hx rfl (hb hby at_37) k) ?_
  refine own_go (g' := (mkF m 40 #[.val (.long q0), .second, .val (.long q1), .second, .val (.long q2), .second, .val (.long q3), .second, .val (.long q4), .second, .val (.long va), .second, .val (.long vb), .second, .unset, .unset, .unset, .unset, .unset, .unset, .unset, .unset, .unset, .unset, .unset, .unset, .unset, .unset] [(.long (XT.ushrL q4 (49 : Int32)))])) (fun _ k => XT.lushr X467.here hx rfl (hb hby at_39) rfl k) ?_
  refine own_go (g' := (mkF m 41 #[.val (.long q0), .second, .val (.long q1), .second, .val (.long q2), .second, .val (.long q3), .second, .val (.long q4), .second, .val (.long va), .second, .val (.long vb), .second, .unset, .unset, .unset, .unset, .unset, .unset, .unset, .unset, .unset, .unset, .unset, .unset, .unset, .unset] [(.long (1 : Int64)), (.long (XT.ushrL q4 (49 : Int32)))])) (fun _ k => XT.lconst X467.here hx rfl (hb hby at_40) k) ?_
  refine own_go (g' := (mkF m 42 #[.val (.long q0), .second, .val (.long q1), .second, .val (.long q2), .second, .val (.long q3), .second, .val (.long q4), .second, .val (.long va), .second, .val (.long vb), .second, .unset, .unset, .unset, .unset, .unset, .unset, .unset, .unset, .unset, .unset, .unset, .unset, .unset, .unset] [(.long ((XT.ushrL q4 (49 : Int32)) &&& (1 : Int64)))])) (fun _ k => XT.land X467.here hx rfl (hb hby at_41) rfl k) ?_
  refine own_go (g' := (mkF m 43 #[.val (.long q0), .second, .val (.long q1), .second, .val (.long q2), .second, .val (.long q3), .second, .val (.long q4), .second, .val (.long va), .second, .val (.long vb), .second, .unset, .unset, .unset, .unset, .unset, .unset, .unset, .unset, .unset, .unset, .unset, .unset, .unset, .unset] [(.long (0 : Int64)), (.long ((XT.ushrL q4 (49 : Int32)) &&& (1 : Int64)))])) (fun _ k => XT.lconst X467.here hx rfl (hb hby at_42) k) ?_
  refine own_go (g' := (mkF m 44 #[.val (.long q0), .second, .val (.long q1), .second, .val (.long q2), .second, .val (.long q3), .second, .val (.long q4), .second, .val (.long va), .second, .val (.long vb), .second, .unset, .unset, .unset, .unset, .unset, .unset, .unset, .unset, .unset, .unset, .unset, .unset, .unset, .unset] [(.int (XT.cmpL ((XT.ushrL q4 (49 : Int32)) &&& (1 : Int64)) (0 : Int64)))])) (fun _ k => XT.lcmp X467.here hx rfl (hb hby at_43) rfl k) ?_
  suffices J : ∀ (T' : State) (vc : Int64), Stand p l e room_1 s m #[(.long q0), (.long q1), (.long q2), (.long q3), (.long q4)] below meth c T' [] 0 0 → T'.heap = h0 → own_Go p e below (own_Po s (own_Q0 n0) 32 320) T' (mkF m 60 #[.val (.long q0), .second, .val (.long q1), .second, .val (.long q2), .second, .val (.long q3), .second, .val (.long q4), .second, .val (.long va), .second, .val (.long vb), .second, .unset, .unset, .unset, .unset, .unset, .unset, .unset, .unset, .unset, .unset, .unset, .unset, .unset, .unset] [(.long vc)]) by
    by_cases cb : ((XT.ushrL q4 (49 : Int32)) &&& (1 : Int64)) = (0 : Int64)
    · refine own_go (g' := (mkF m 52 #[.val (.long q0), .second, .val (.long q1), .second, .val (.long q2), .second, .val (.long q3), .second, .val (.long q4), .second, .val (.long va), .second, .val (.long vb), .second, .unset, .unset, .unset, .unset, .unset, .unset, .unset, .unset, .unset, .unset, .unset, .unset, .unset, .unset] [])) (fun _ k => XS.ifYes X467.here hx rfl (pc0 := 44) (pc' := 52) rfl (hb hby at_44) rfl (XT.ll_eq_t cb) (by decide) (by decide) k) ?_
      refine own_go (g' := (mkF m 54 #[.val (.long q0), .second, .val (.long q1), .second, .val (.long q2), .second, .val (.long q3), .second, .val (.long q4), .second, .val (.long va), .second, .val (.long vb), .second, .unset, .unset, .unset, .unset, .unset, .unset, .unset, .unset, .unset, .unset, .unset, .unset, .unset, .unset] [(.long q2)])) (fun _ k => XT.lload X467.here hx rfl (hb hby at_52) rfl k) ?_
      refine own_go (g' := (mkF m 57 #[.val (.long q0), .second, .val (.long q1), .second, .val (.long q2), .second, .val (.long q3), .second, .val (.long q4), .second, .val (.long va), .second, .val (.long vb), .second, .unset, .unset, .unset, .unset, .unset, .unset, .unset, .unset, .unset, .unset, .unset, .unset, .unset, .unset] [(.long (-9223372036854775807 : Int64)), (.long q2)])) (fun _ k => X467.ldc2Long hx hown (mvT hZ (hw _ (List.mem_of_getElem? (i := 0) rfl))) (g := (mkF m 54 #[.val (.long q0), .second, .val (.long q1), .second, .val (.long q2), .second, .val (.long q3), .second, .val (.long q4), .second, .val (.long va), .second, .val (.long vb), .second, .unset, .unset, .unset, .unset, .unset, .unset, .unset, .unset, .unset, .unset, .unset, .unset, .unset, .unset] [(.long q2)])) rfl (hb hby at_54) _ k) ?_
      refine own_callS X467 hx hZ hown e467 (y := (⟨"java/lang/Math", "max", "(JJ)J"⟩ : MethodName)) (rm := ({ frames := 0, cells := 0, slots := 0, locals := 0 } : Room)) (hw _ (List.mem_of_getElem? (i := 1) rfl)) (hw _ (List.mem_of_getElem? (i := 2) rfl)) (hw _ (List.mem_of_getElem? (i := 3) rfl)) (hw _ (List.mem_of_getElem? (i := 4) rfl)) (by decide) (argsL := [(.long q2), (.long (-9223372036854775807 : Int64))]) (rest := []) (own_rmMJ l Z a0 hw [] q2 (-9223372036854775807 : Int64) h0 n0) (by rw [hml]; rfl) pd_1 rfl rfl (hb hby at_57) (W := 0) (Nat.le_of_eq rfl) (by decide) (by decide) (by decide) (by decide) ?_
      intro v468 T468 L468 X468 hQ468
      obtain ⟨hv468, e468, rfl⟩ := hQ468
      obtain ⟨vz, hvz⟩ : ∃ z : Int64, z = own_mx q2 (-9223372036854775807 : Int64) := ⟨_, rfl⟩
      rw [← hvz] at hv468
      subst hv468
      rw [List.append_nil] at X468
      show own_Go p e below _ T468 (mkF m 60 #[.val (.long q0), .second, .val (.long q1), .second, .val (.long q2), .second, .val (.long q3), .second, .val (.long q4), .second, .val (.long va), .second, .val (.long vb), .second, .unset, .unset, .unset, .unset, .unset, .unset, .unset, .unset, .unset, .unset, .unset, .unset, .unset, .unset] [(.long vz)])
      exact J _ _ X468 e468
    · refine own_go (g' := (mkF m 47 #[.val (.long q0), .second, .val (.long q1), .second, .val (.long q2), .second, .val (.long q3), .second, .val (.long q4), .second, .val (.long va), .second, .val (.long vb), .second, .unset, .unset, .unset, .unset, .unset, .unset, .unset, .unset, .unset, .unset, .unset, .unset, .unset, .unset] [])) (fun _ k => XS.ifNo X467.here hx rfl (hb hby at_44) rfl (XT.ll_eq_f cb) k) ?_
      refine own_go (g' := (mkF m 49 #[.val (.long q0), .second, .val (.long q1), .second, .val (.long q2), .second, .val (.long q3), .second, .val (.long q4), .second, .val (.long va), .second, .val (.long vb), .second, .unset, .unset, .unset, .unset, .unset, .unset, .unset, .unset, .unset, .unset, .unset, .unset, .unset, .unset] [(.long vb)])) (fun _ k => XT.lload X467.here hx rfl (hb hby at_47) rfl k) ?_
      refine own_go (g' := (mkF m 60 #[.val (.long q0), .second, .val (.long q1), .second, .val (.long q2), .second, .val (.long q3), .second, .val (.long q4), .second, .val (.long va), .second, .val (.long vb), .second, .unset, .unset, .unset, .unset, .unset, .unset, .unset, .unset, .unset, .unset, .unset, .unset, .unset, .unset] [(.long vb)])) (fun _ k => XS.goto X467.here hx rfl (pc0 := 49) (pc' := 60) rfl (hb hby at_49) (by decide) (by decide) k) ?_
      exact J _ _ X467 e467
  intro T469 vc X469 e469
  refine own_go (g' := (mkF m 62 #[.val (.long q0), .second, .val (.long q1), .second, .val (.long q2), .second, .val (.long q3), .second, .val (.long q4), .second, .val (.long va), .second, .val (.long vb), .second, .val (.long vc), .second, .unset, .unset, .unset, .unset, .unset, .unset, .unset, .unset, .unset, .unset, .unset, .unset] [])) (fun _ k => XT.lstore X469.here hx rfl (hb hby at_60) rfl (l' := #[.val (.long q0), .second, .val (.long q1), .second, .val (.long q2), .second, .val (.long q3), .second, .val (.long q4), .second, .val (.long va), .second, .val (.long vb), .second, .val (.long vc), .second, .unset, .unset, .unset, .unset, .unset, .unset, .unset, .unset, .unset, .unset, .unset, .unset]) rfl k) ?_
  refine own_go (g' := (mkF m 64 #[.val (.long q0), .second, .val (.long q1), .second, .val (.long q2), .second, .val (.long q3), .second, .val (.long q4), .second, .val (.long va), .second, .val (.long vb), .second, .val (.long vc), .second, .unset, .unset, .unset, .unset, .unset, .unset, .unset, .unset, .unset, .unset, .unset, .unset] [(.long q4)])) (fun _ k => XT.lload X469.here hx rfl (hb hby at_62) rfl k) ?_
  refine own_go (g' := (mkF m 66 #[.val (.long q0), .second, .val (.long q1), .second, .val (.long q2), .second, .val (.long q3), .second, .val (.long q4), .second, .val (.long va), .second, .val (.long vb), .second, .val (.long vc), .second, .unset, .unset, .unset, .unset, .unset, .unset, .unset, .unset, .unset, .unset, .unset, .unset] [(.int (50 : Int32)), (.long q4)])) (fun _ k => XS.bipush X469.here hx rfl (hb hby at_64) k) ?_
  refine own_go (g' := (mkF m 67 #[.val (.long q0), .second, .val (.long q1), .second, .val (.long q2), .second, .val (.long q3), .second, .val (.long q4), .second, .val (.long va), .second, .val (.long vb), .second, .val (.long vc), .second, .unset, .unset, .unset, .unset, .unset, .unset, .unset, .unset, .unset, .unset, .unset, .unset] [(.long (XT.ushrL q4 (50 : Int32)))])) (fun _ k => XT.lushr X469.here hx rfl (hb hby at_66) rfl k) ?_
  refine own_go (g' := (mkF m 68 #[.val (.long q0), .second, .val (.long q1), .second, .val (.long q2), .second, .val (.long q3), .second, .val (.long q4), .second, .val (.long va), .second, .val (.long vb), .second, .val (.long vc), .second, .unset, .unset, .unset, .unset, .unset, .unset, .unset, .unset, .unset, .unset, .unset, .unset] [(.long (1 : Int64)), (.long (XT.ushrL q4 (50 : Int32)))])) (fun _ k => XT.lconst X469.here hx rfl (hb hby at_67) k) ?_
  refine own_go (g' := (mkF m 69 #[.val (.long q0), .second, .val (.long q1), .second, .val (.long q2), .second, .val (.long q3), .second, .val (.long q4), .second, .val (.long va), .second, .val (.long vb), .second, .val (.long vc), .second, .unset, .unset, .unset, .unset, .unset, .unset, .unset, .unset, .unset, .unset, .unset, .unset] [(.long ((XT.ushrL q4 (50 : Int32)) &&& (1 : Int64)))])) (fun _ k => XT.land X469.here hx rfl (hb hby at_68) rfl k) ?_
  refine own_go (g' := (mkF m 70 #[.val (.long q0), .second, .val (.long q1), .second, .val (.long q2), .second, .val (.long q3), .second, .val (.long q4), .second, .val (.long va), .second, .val (.long vb), .second, .val (.long vc), .second, .unset, .unset, .unset, .unset, .unset, .unset, .unset, .unset, .unset, .unset, .unset, .unset] [(.long (0 : Int64)), (.long ((XT.ushrL q4 (50 : Int32)) &&& (1 : Int64)))])) (fun _ k => XT.lconst X469.here hx rfl (hb hby at_69) k) ?_
  refine own_go (g' := (mkF m 71 #[.val (.long q0), .second, .val (.long q1), .second, .val (.long q2), .second, .val (.long q3), .second, .val (.long q4), .second, .val (.long va), .second, .val (.long vb), .second, .val (.long vc), .second, .unset, .unset, .unset, .unset, .unset, .unset, .unset, .unset, .unset, .unset, .unset, .unset] [(.int (XT.cmpL ((XT.ushrL q4 (50 : Int32)) &&& (1 : Int64)) (0 : Int64)))])) (fun _ k => XT.lcmp X469.here hx rfl (hb hby at_70) rfl k) ?_
  suffices J : ∀ vt : Int64, own_Go p e below (own_Po s (own_Q0 n0) 32 320) T469 (mkF m 81 #[.val (.long q0), .second, .val (.long q1), .second, .val (.long q2), .second, .val (.long q3), .second, .val (.long q4), .second, .val (.long va), .second, .val (.long vb), .second, .val (.long vc), .second, .unset, .unset, .unset, .unset, .unset, .unset, .unset, .unset, .unset, .unset, .unset, .unset] [(.long vt)]) by
    by_cases cb : ((XT.ushrL q4 (50 : Int32)) &&& (1 : Int64)) = (0 : Int64)
    · refine own_go (g' := (mkF m 79 #[.val (.long q0), .second, .val (.long q1), .second, .val (.long q2), .second, .val (.long q3), .second, .val (.long q4), .second, .val (.long va), .second, .val (.long vb), .second, .val (.long vc), .second, .unset, .unset, .unset, .unset, .unset, .unset, .unset, .unset, .unset, .unset, .unset, .unset] [])) (fun _ k => XS.ifYes X469.here hx rfl (pc0 := 71) (pc' := 79) rfl (hb hby at_71) rfl (XT.ll_eq_t cb) (by decide) (by decide) k) ?_
      refine own_go (g' := (mkF m 81 #[.val (.long q0), .second, .val (.long q1), .second, .val (.long q2), .second, .val (.long q3), .second, .val (.long q4), .second, .val (.long va), .second, .val (.long vb), .second, .val (.long vc), .second, .unset, .unset, .unset, .unset, .unset, .unset, .unset, .unset, .unset, .unset, .unset, .unset] [(.long q3)])) (fun _ k => XT.lload X469.here hx rfl (hb hby at_79) rfl k) ?_
      exact J _
    · refine own_go (g' := (mkF m 74 #[.val (.long q0), .second, .val (.long q1), .second, .val (.long q2), .second, .val (.long q3), .second, .val (.long q4), .second, .val (.long va), .second, .val (.long vb), .second, .val (.long vc), .second, .unset, .unset, .unset, .unset, .unset, .unset, .unset, .unset, .unset, .unset, .unset, .unset] [])) (fun _ k => XS.ifNo X469.here hx rfl (hb hby at_71) rfl (XT.ll_eq_f cb) k) ?_
      refine own_go (g' := (mkF m 76 #[.val (.long q0), .second, .val (.long q1), .second, .val (.long q2), .second, .val (.long q3), .second, .val (.long q4), .second, .val (.long va), .second, .val (.long vb), .second, .val (.long vc), .second, .unset, .unset, .unset, .unset, .unset, .unset, .unset, .unset, .unset, .unset, .unset, .unset] [(.long vb)])) (fun _ k => XT.lload X469.here hx rfl (hb hby at_74) rfl k) ?_
      refine own_go (g' := (mkF m 81 #[.val (.long q0), .second, .val (.long q1), .second, .val (.long q2), .second, .val (.long q3), .second, .val (.long q4), .second, .val (.long va), .second, .val (.long vb), .second, .val (.long vc), .second, .unset, .unset, .unset, .unset, .unset, .unset, .unset, .unset, .unset, .unset, .unset, .unset] [(.long vb)])) (fun _ k => XS.goto X469.here hx rfl (pc0 := 76) (pc' := 81) rfl (hb hby at_76) (by decide) (by decide) k) ?_
      exact J _
  intro vt
  refine own_go (g' := (mkF m 83 #[.val (.long q0), .second, .val (.long q1), .second, .val (.long q2), .second, .val (.long q3), .second, .val (.long q4), .second, .val (.long va), .second, .val (.long vb), .second, .val (.long vc), .second, .val (.long vt), .second, .unset, .unset, .unset, .unset, .unset, .unset, .unset, .unset, .unset, .unset] [])) (fun _ k => XT.lstore X469.here hx rfl (hb hby at_81) rfl (l' := #[.val (.long q0), .second, .val (.long q1), .second, .val (.long q2), .second, .val (.long q3), .second, .val (.long q4), .second, .val (.long va), .second, .val (.long vb), .second, .val (.long vc), .second, .val (.long vt), .second, .unset, .unset, .unset, .unset, .unset, .unset, .unset, .unset, .unset, .unset]) rfl k) ?_
  refine own_go (g' := (mkF m 85 #[.val (.long q0), .second, .val (.long q1), .second, .val (.long q2), .second, .val (.long q3), .second, .val (.long q4), .second, .val (.long va), .second, .val (.long vb), .second, .val (.long vc), .second, .val (.long vt), .second, .unset, .unset, .unset, .unset, .unset, .unset, .unset, .unset, .unset, .unset] [(.long q4)])) (fun _ k => XT.lload X469.here hx rfl (hb hby at_83) rfl k) ?_
  refine own_go (g' := (mkF m 88 #[.val (.long q0), .second, .val (.long q1), .second, .val (.long q2), .second, .val (.long q3), .second, .val (.long q4), .second, .val (.long va), .second, .val (.long vb), .second, .val (.long vc), .second, .val (.long vt), .second, .unset, .unset, .unset, .unset, .unset, .unset, .unset, .unset, .unset, .unset] [(.long (65535 : Int64)), (.long q4)])) (fun _ k => X469.ldc2Long hx hown (mvT hZ (hw _ (List.mem_of_getElem? (i := 5) rfl))) (g := (mkF m 85 #[.val (.long q0), .second, .val (.long q1), .second, .val (.long q2), .second, .val (.long q3), .second, .val (.long q4), .second, .val (.long va), .second, .val (.long vb), .second, .val (.long vc), .second, .val (.long vt), .second, .unset, .unset, .unset, .unset, .unset, .unset, .unset, .unset, .unset, .unset] [(.long q4)])) rfl (hb hby at_85) _ k) ?_
  refine own_go (g' := (mkF m 89 #[.val (.long q0), .second, .val (.long q1), .second, .val (.long q2), .second, .val (.long q3), .second, .val (.long q4), .second, .val (.long va), .second, .val (.long vb), .second, .val (.long vc), .second, .val (.long vt), .second, .unset, .unset, .unset, .unset, .unset, .unset, .unset, .unset, .unset, .unset] [(.long (q4 &&& (65535 : Int64)))])) (fun _ k => XT.land X469.here hx rfl (hb hby at_88) rfl k) ?_
  refine own_go (g' := (mkF m 92 #[.val (.long q0), .second, .val (.long q1), .second, .val (.long q2), .second, .val (.long q3), .second, .val (.long q4), .second, .val (.long va), .second, .val (.long vb), .second, .val (.long vc), .second, .val (.long vt), .second, .unset, .unset, .unset, .unset, .unset, .unset, .unset, .unset, .unset, .unset] [(.long (256 : Int64)), (.long (q4 &&& (65535 : Int64)))])) (fun _ k => X469.ldc2Long hx hown (mvT hZ (hw _ (List.mem_of_getElem? (i := 6) rfl))) (g := (mkF m 89 #[.val (.long q0), .second, .val (.long q1), .second, .val (.long q2), .second, .val (.long q3), .second, .val (.long q4), .second, .val (.long va), .second, .val (.long vb), .second, .val (.long vc), .second, .val (.long vt), .second, .unset, .unset, .unset, .unset, .unset, .unset, .unset, .unset, .unset, .unset] [(.long (q4 &&& (65535 : Int64)))])) rfl (hb hby at_89) _ k) ?_
  refine own_go (g' := (mkF m 93 #[.val (.long q0), .second, .val (.long q1), .second, .val (.long q2), .second, .val (.long q3), .second, .val (.long q4), .second, .val (.long va), .second, .val (.long vb), .second, .val (.long vc), .second, .val (.long vt), .second, .unset, .unset, .unset, .unset, .unset, .unset, .unset, .unset, .unset, .unset] [(.long ((q4 &&& (65535 : Int64)) - (256 : Int64)))])) (fun _ k => XT.lsub X469.here hx rfl (hb hby at_92) rfl k) ?_
  refine own_go (g' := (mkF m 95 #[.val (.long q0), .second, .val (.long q1), .second, .val (.long q2), .second, .val (.long q3), .second, .val (.long q4), .second, .val (.long va), .second, .val (.long vb), .second, .val (.long vc), .second, .val (.long vt), .second, .val (.long ((q4 &&& (65535 : Int64)) - (256 : Int64))), .second, .unset, .unset, .unset, .unset, .unset, .unset, .unset, .unset] [])) (fun _ k => XT.lstore X469.here hx rfl (hb hby at_93) rfl (l' := #[.val (.long q0), .second, .val (.long q1), .second, .val (.long q2), .second, .val (.long q3), .second, .val (.long q4), .second, .val (.long va), .second, .val (.long vb), .second, .val (.long vc), .second, .val (.long vt), .second, .val (.long ((q4 &&& (65535 : Int64)) - (256 : Int64))), .second, .unset, .unset, .unset, .unset, .unset, .unset, .unset, .unset]) rfl k) ?_
  obtain ⟨c0, hc0⟩ : ∃ z : Int64, z = ((q4 &&& (65535 : Int64)) - (256 : Int64)) := ⟨_, rfl⟩
  rw [← hc0]
  show own_Go p e below _ T469 (mkF m 95 #[.val (.long q0), .second, .val (.long q1), .second, .val (.long q2), .second, .val (.long q3), .second, .val (.long q4), .second, .val (.long va), .second, .val (.long vb), .second, .val (.long vc), .second, .val (.long vt), .second, .val (.long c0), .second, .unset, .unset, .unset, .unset, .unset, .unset, .unset, .unset] [])
  refine own_go (g' := (mkF m 97 #[.val (.long q0), .second, .val (.long q1), .second, .val (.long q2), .second, .val (.long q3), .second, .val (.long q4), .second, .val (.long va), .second, .val (.long vb), .second, .val (.long vc), .second, .val (.long vt), .second, .val (.long c0), .second, .unset, .unset, .unset, .unset, .unset, .unset, .unset, .unset] [(.long q4)])) (fun _ k => XT.lload X469.here hx rfl (hb hby at_95) rfl k) ?_
  refine own_go (g' := (mkF m 99 #[.val (.long q0), .second, .val (.long q1), .second, .val (.long q2), .second, .val (.long q3), .second, .val (.long q4), .second, .val (.long va), .second, .val (.long vb), .second, .val (.long vc), .second, .val (.long vt), .second, .val (.long c0), .second, .unset, .unset, .unset, .unset, .unset, .unset, .unset, .unset] [(.int (16 : Int32)), (.long q4)])) (fun _ k => XS.bipush X469.here hx rfl (hb hby at_97) k) ?_
  refine own_go (g' := (mkF m 100 #[.val (.long q0), .second, .val (.long q1), .second, .val (.long q2), .second, .val (.long q3), .second, .val (.long q4), .second, .val (.long va), .second, .val (.long vb), .second, .val (.long vc), .second, .val (.long vt), .second, .val (.long c0), .second, .unset, .unset, .unset, .unset, .unset, .unset, .unset, .unset] [(.long (XT.ushrL q4 (16 : Int32)))])) (fun _ k => XT.lushr X469.here hx rfl (hb hby at_99) rfl k) ?_
  refine own_go (g' := (mkF m 103 #[.val (.long q0), .second, .val (.long q1), .second, .val (.long q2), .second, .val (.long q3), .second, .val (.long q4), .second, .val (.long va), .second, .val (.long vb), .second, .val (.long vc), .second, .val (.long vt), .second, .val (.long c0), .second, .unset, .unset, .unset, .unset, .unset, .unset, .unset, .unset] [(.long (65535 : Int64)), (.long (XT.ushrL q4 (16 : Int32)))])) (fun _ k => X469.ldc2Long hx hown (mvT hZ (hw _ (List.mem_of_getElem? (i := 5) rfl))) (g := (mkF m 100 #[.val (.long q0), .second, .val (.long q1), .second, .val (.long q2), .second, .val (.long q3), .second, .val (.long q4), .second, .val (.long va), .second, .val (.long vb), .second, .val (.long vc), .second, .val (.long vt), .second, .val (.long c0), .second, .unset, .unset, .unset, .unset, .unset, .unset, .unset, .unset] [(.long (XT.ushrL q4 (16 : Int32)))])) rfl (hb hby at_100) _ k) ?_
  refine own_go (g' := (mkF m 104 #[.val (.long q0), .second, .val (.long q1), .second, .val (.long q2), .second, .val (.long q3), .second, .val (.long q4), .second, .val (.long va), .second, .val (.long vb), .second, .val (.long vc), .second, .val (.long vt), .second, .val (.long c0), .second, .unset, .unset, .unset, .unset, .unset, .unset, .unset, .unset] [(.long ((XT.ushrL q4 (16 : Int32)) &&& (65535 : Int64)))])) (fun _ k => XT.land X469.here hx rfl (hb hby at_103) rfl k) ?_
  refine own_go (g' := (mkF m 107 #[.val (.long q0), .second, .val (.long q1), .second, .val (.long q2), .second, .val (.long q3), .second, .val (.long q4), .second, .val (.long va), .second, .val (.long vb), .second, .val (.long vc), .second, .val (.long vt), .second, .val (.long c0), .second, .unset, .unset, .unset, .unset, .unset, .unset, .unset, .unset] [(.long (256 : Int64)), (.long ((XT.ushrL q4 (16 : Int32)) &&& (65535 : Int64)))])) (fun _ k => X469.ldc2Long hx hown (mvT hZ (hw _ (List.mem_of_getElem? (i := 6) rfl))) (g := (mkF m 104 #[.val (.long q0), .second, .val (.long q1), .second, .val (.long q2), .second, .val (.long q3), .second, .val (.long q4), .second, .val (.long va), .second, .val (.long vb), .second, .val (.long vc), .second, .val (.long vt), .second, .val (.long c0), .second, .unset, .unset, .unset, .unset, .unset, .unset, .unset, .unset] [(.long ((XT.ushrL q4 (16 : Int32)) &&& (65535 : Int64)))])) rfl (hb hby at_104) _ k) ?_
  refine own_go (g' := (mkF m 108 #[.val (.long q0), .second, .val (.long q1), .second, .val (.long q2), .second, .val (.long q3), .second, .val (.long q4), .second, .val (.long va), .second, .val (.long vb), .second, .val (.long vc), .second, .val (.long vt), .second, .val (.long c0), .second, .unset, .unset, .unset, .unset, .unset, .unset, .unset, .unset] [(.long (((XT.ushrL q4 (16 : Int32)) &&& (65535 : Int64)) - (256 : Int64)))])) (fun _ k => XT.lsub X469.here hx rfl (hb hby at_107) rfl k) ?_
  refine own_go (g' := (mkF m 110 #[.val (.long q0), .second, .val (.long q1), .second, .val (.long q2), .second, .val (.long q3), .second, .val (.long q4), .second, .val (.long va), .second, .val (.long vb), .second, .val (.long vc), .second, .val (.long vt), .second, .val (.long c0), .second, .val (.long (((XT.ushrL q4 (16 : Int32)) &&& (65535 : Int64)) - (256 : Int64))), .second, .unset, .unset, .unset, .unset, .unset, .unset] [])) (fun _ k => XT.lstore X469.here hx rfl (hb hby at_108) rfl (l' := #[.val (.long q0), .second, .val (.long q1), .second, .val (.long q2), .second, .val (.long q3), .second, .val (.long q4), .second, .val (.long va), .second, .val (.long vb), .second, .val (.long vc), .second, .val (.long vt), .second, .val (.long c0), .second, .val (.long (((XT.ushrL q4 (16 : Int32)) &&& (65535 : Int64)) - (256 : Int64))), .second, .unset, .unset, .unset, .unset, .unset, .unset]) rfl k) ?_
  obtain ⟨c1, hc1⟩ : ∃ z : Int64, z = (((XT.ushrL q4 (16 : Int32)) &&& (65535 : Int64)) - (256 : Int64)) := ⟨_, rfl⟩
  rw [← hc1]
  show own_Go p e below _ T469 (mkF m 110 #[.val (.long q0), .second, .val (.long q1), .second, .val (.long q2), .second, .val (.long q3), .second, .val (.long q4), .second, .val (.long va), .second, .val (.long vb), .second, .val (.long vc), .second, .val (.long vt), .second, .val (.long c0), .second, .val (.long c1), .second, .unset, .unset, .unset, .unset, .unset, .unset] [])
  refine own_go (g' := (mkF m 112 #[.val (.long q0), .second, .val (.long q1), .second, .val (.long q2), .second, .val (.long q3), .second, .val (.long q4), .second, .val (.long va), .second, .val (.long vb), .second, .val (.long vc), .second, .val (.long vt), .second, .val (.long c0), .second, .val (.long c1), .second, .unset, .unset, .unset, .unset, .unset, .unset] [(.long q4)])) (fun _ k => XT.lload X469.here hx rfl (hb hby at_110) rfl k) ?_
  refine own_go (g' := (mkF m 114 #[.val (.long q0), .second, .val (.long q1), .second, .val (.long q2), .second, .val (.long q3), .second, .val (.long q4), .second, .val (.long va), .second, .val (.long vb), .second, .val (.long vc), .second, .val (.long vt), .second, .val (.long c0), .second, .val (.long c1), .second, .unset, .unset, .unset, .unset, .unset, .unset] [(.int (32 : Int32)), (.long q4)])) (fun _ k => XS.bipush X469.here hx rfl (hb hby at_112) k) ?_
  refine own_go (g' := (mkF m 115 #[.val (.long q0), .second, .val (.long q1), .second, .val (.long q2), .second, .val (.long q3), .second, .val (.long q4), .second, .val (.long va), .second, .val (.long vb), .second, .val (.long vc), .second, .val (.long vt), .second, .val (.long c0), .second, .val (.long c1), .second, .unset, .unset, .unset, .unset, .unset, .unset] [(.long (XT.ushrL q4 (32 : Int32)))])) (fun _ k => XT.lushr X469.here hx rfl (hb hby at_114) rfl k) ?_
  refine own_go (g' := (mkF m 118 #[.val (.long q0), .second, .val (.long q1), .second, .val (.long q2), .second, .val (.long q3), .second, .val (.long q4), .second, .val (.long va), .second, .val (.long vb), .second, .val (.long vc), .second, .val (.long vt), .second, .val (.long c0), .second, .val (.long c1), .second, .unset, .unset, .unset, .unset, .unset, .unset] [(.long (65535 : Int64)), (.long (XT.ushrL q4 (32 : Int32)))])) (fun _ k => X469.ldc2Long hx hown (mvT hZ (hw _ (List.mem_of_getElem? (i := 5) rfl))) (g := (mkF m 115 #[.val (.long q0), .second, .val (.long q1), .second, .val (.long q2), .second, .val (.long q3), .second, .val (.long q4), .second, .val (.long va), .second, .val (.long vb), .second, .val (.long vc), .second, .val (.long vt), .second, .val (.long c0), .second, .val (.long c1), .second, .unset, .unset, .unset, .unset, .unset, .unset] [(.long (XT.ushrL q4 (32 : Int32)))])) rfl (hb hby at_115) _ k) ?_
  refine own_go (g' := (mkF m 119 #[.val (.long q0), .second, .val (.long q1), .second, .val (.long q2), .second, .val (.long q3), .second, .val (.long q4), .second, .val (.long va), .second, .val (.long vb), .second, .val (.long vc), .second, .val (.long vt), .second, .val (.long c0), .second, .val (.long c1), .second, .unset, .unset, .unset, .unset, .unset, .unset] [(.long ((XT.ushrL q4 (32 : Int32)) &&& (65535 : Int64)))])) (fun _ k => XT.land X469.here hx rfl (hb hby at_118) rfl k) ?_
  refine own_go (g' := (mkF m 122 #[.val (.long q0), .second, .val (.long q1), .second, .val (.long q2), .second, .val (.long q3), .second, .val (.long q4), .second, .val (.long va), .second, .val (.long vb), .second, .val (.long vc), .second, .val (.long vt), .second, .val (.long c0), .second, .val (.long c1), .second, .unset, .unset, .unset, .unset, .unset, .unset] [(.long (256 : Int64)), (.long ((XT.ushrL q4 (32 : Int32)) &&& (65535 : Int64)))])) (fun _ k => X469.ldc2Long hx hown (mvT hZ (hw _ (List.mem_of_getElem? (i := 6) rfl))) (g := (mkF m 119 #[.val (.long q0), .second, .val (.long q1), .second, .val (.long q2), .second, .val (.long q3), .second, .val (.long q4), .second, .val (.long va), .second, .val (.long vb), .second, .val (.long vc), .second, .val (.long vt), .second, .val (.long c0), .second, .val (.long c1), .second, .unset, .unset, .unset, .unset, .unset, .unset] [(.long ((XT.ushrL q4 (32 : Int32)) &&& (65535 : Int64)))])) rfl (hb hby at_119) _ k) ?_
  refine own_go (g' := (mkF m 123 #[.val (.long q0), .second, .val (.long q1), .second, .val (.long q2), .second, .val (.long q3), .second, .val (.long q4), .second, .val (.long va), .second, .val (.long vb), .second, .val (.long vc), .second, .val (.long vt), .second, .val (.long c0), .second, .val (.long c1), .second, .unset, .unset, .unset, .unset, .unset, .unset] [(.long (((XT.ushrL q4 (32 : Int32)) &&& (65535 : Int64)) - (256 : Int64)))])) (fun _ k => XT.lsub X469.here hx rfl (hb hby at_122) rfl k) ?_
  refine own_go (g' := (mkF m 125 #[.val (.long q0), .second, .val (.long q1), .second, .val (.long q2), .second, .val (.long q3), .second, .val (.long q4), .second, .val (.long va), .second, .val (.long vb), .second, .val (.long vc), .second, .val (.long vt), .second, .val (.long c0), .second, .val (.long c1), .second, .val (.long (((XT.ushrL q4 (32 : Int32)) &&& (65535 : Int64)) - (256 : Int64))), .second, .unset, .unset, .unset, .unset] [])) (fun _ k => XT.lstore X469.here hx rfl (hb hby at_123) rfl (l' := #[.val (.long q0), .second, .val (.long q1), .second, .val (.long q2), .second, .val (.long q3), .second, .val (.long q4), .second, .val (.long va), .second, .val (.long vb), .second, .val (.long vc), .second, .val (.long vt), .second, .val (.long c0), .second, .val (.long c1), .second, .val (.long (((XT.ushrL q4 (32 : Int32)) &&& (65535 : Int64)) - (256 : Int64))), .second, .unset, .unset, .unset, .unset]) rfl k) ?_
  obtain ⟨c2, hc2⟩ : ∃ z : Int64, z = (((XT.ushrL q4 (32 : Int32)) &&& (65535 : Int64)) - (256 : Int64)) := ⟨_, rfl⟩
  rw [← hc2]
  show own_Go p e below _ T469 (mkF m 125 #[.val (.long q0), .second, .val (.long q1), .second, .val (.long q2), .second, .val (.long q3), .second, .val (.long q4), .second, .val (.long va), .second, .val (.long vb), .second, .val (.long vc), .second, .val (.long vt), .second, .val (.long c0), .second, .val (.long c1), .second, .val (.long c2), .second, .unset, .unset, .unset, .unset] [])
  refine own_newO X469 hx hZ hown e469 (hw _ (List.mem_of_getElem? (i := 7) rfl)) (hw _ (List.mem_of_getElem? (i := 8) rfl)) (hw _ (List.mem_of_getElem? (i := 9) rfl)) (own_ld2 hw) own_df2 (by decide) (by decide) (hb hby at_125) ?_
  intro T470 h470 b470 g470 X470 e470 E470 B470
  have sz470 : h0.size ≤ b470 := Nat.le_trans K0.1 (Nat.le_of_eq g470.symm)
  have ge470 : n0 ≤ b470 := Nat.le_trans Z0 sz470
  have K470 := K0.ext E470
  show own_Go p e below _ T470 (mkF m 128 #[.val (.long q0), .second, .val (.long q1), .second, .val (.long q2), .second, .val (.long q3), .second, .val (.long q4), .second, .val (.long va), .second, .val (.long vb), .second, .val (.long vc), .second, .val (.long vt), .second, .val (.long c0), .second, .val (.long c1), .second, .val (.long c2), .second, .unset, .unset, .unset, .unset] [(.ref b470)])
  refine own_go (g' := (mkF m 129 #[.val (.long q0), .second, .val (.long q1), .second, .val (.long q2), .second, .val (.long q3), .second, .val (.long q4), .second, .val (.long va), .second, .val (.long vb), .second, .val (.long vc), .second, .val (.long vt), .second, .val (.long c0), .second, .val (.long c1), .second, .val (.long c2), .second, .unset, .unset, .unset, .unset] [(.ref b470), (.ref b470)])) (fun _ k => XS.dup X470.here hx rfl (hb hby at_128) rfl rfl k) ?_
  refine own_go (g' := (mkF m 130 #[.val (.long q0), .second, .val (.long q1), .second, .val (.long q2), .second, .val (.long q3), .second, .val (.long q4), .second, .val (.long va), .second, .val (.long vb), .second, .val (.long vc), .second, .val (.long vt), .second, .val (.long c0), .second, .val (.long c1), .second, .val (.long c2), .second, .unset, .unset, .unset, .unset] [(.int (0 : Int32)), (.ref b470), (.ref b470)])) (fun _ k => XS.iconst X470.here hx rfl (hb hby at_129) k) ?_
  refine own_go (g' := (mkF m 131 #[.val (.long q0), .second, .val (.long q1), .second, .val (.long q2), .second, .val (.long q3), .second, .val (.long q4), .second, .val (.long va), .second, .val (.long vb), .second, .val (.long vc), .second, .val (.long vt), .second, .val (.long c0), .second, .val (.long c1), .second, .val (.long c2), .second, .unset, .unset, .unset, .unset] [(.long (0 : Int64)), (.int (0 : Int32)), (.ref b470), (.ref b470)])) (fun _ k => XT.lconst X470.here hx rfl (hb hby at_130) k) ?_
  refine own_go (g' := (mkF m 132 #[.val (.long q0), .second, .val (.long q1), .second, .val (.long q2), .second, .val (.long q3), .second, .val (.long q4), .second, .val (.long va), .second, .val (.long vb), .second, .val (.long vc), .second, .val (.long vt), .second, .val (.long c0), .second, .val (.long c1), .second, .val (.long c2), .second, .unset, .unset, .unset, .unset] [(.int (1 : Int32)), (.long (0 : Int64)), (.int (0 : Int32)), (.ref b470), (.ref b470)])) (fun _ k => XS.iconst X470.here hx rfl (hb hby at_131) k) ?_
  refine own_go (g' := (mkF m 133 #[.val (.long q0), .second, .val (.long q1), .second, .val (.long q2), .second, .val (.long q3), .second, .val (.long q4), .second, .val (.long va), .second, .val (.long vb), .second, .val (.long vc), .second, .val (.long vt), .second, .val (.long c0), .second, .val (.long c1), .second, .val (.long c2), .second, .unset, .unset, .unset, .unset] [(.long (1 : Int64)), (.int (1 : Int32)), (.long (0 : Int64)), (.int (0 : Int32)), (.ref b470), (.ref b470)])) (fun _ k => XT.lconst X470.here hx rfl (hb hby at_132) k) ?_
  refine own_go (g' := (mkF m 134 #[.val (.long q0), .second, .val (.long q1), .second, .val (.long q2), .second, .val (.long q3), .second, .val (.long q4), .second, .val (.long va), .second, .val (.long vb), .second, .val (.long vc), .second, .val (.long vt), .second, .val (.long c0), .second, .val (.long c1), .second, .val (.long c2), .second, .unset, .unset, .unset, .unset] [(.long (1 : Int64)), (.long (1 : Int64)), (.int (1 : Int32)), (.long (0 : Int64)), (.int (0 : Int32)), (.ref b470), (.ref b470)])) (fun _ k => XT.lconst X470.here hx rfl (hb hby at_133) k) ?_
  refine own_callC X470 hx hZ hown e470 (y := (⟨"com/example/gangplank/gangplank/workload/Job", "<init>", "(IJIJJ)V"⟩ : MethodName)) (rm := ({ frames := 3, cells := 0, slots := 0, locals := 48 } : Room)) rfl (hw _ (List.mem_of_getElem? (i := 10) rfl)) (hw _ (List.mem_of_getElem? (i := 11) rfl)) (hw _ (List.mem_of_getElem? (i := 9) rfl)) (hw _ (List.mem_of_getElem? (i := 12) rfl)) (by decide) (a := b470) (argsL := [(.int (0 : Int32)), (.long (0 : Int64)), (.int (1 : Int32)), (.long (1 : Int64)), (.long (1 : Int64))]) (rest := [(.ref b470)]) (own_rmJ5 l Z a0 hw [] b470 (0 : Int32) (1 : Int32) (0 : Int64) (1 : Int64) (1 : Int64) _ h470 n0 ge470 B470) (by rw [hml]; rfl) pd_2 rfl rfl (hb hby at_134) (W := 1) (Nat.le_of_eq rfl) (by decide) (by decide) (by decide) (by decide) ?_
  intro v471 T471 L471 X471 hQ471
  obtain ⟨rfl, N471q, K471q, gJ, BJ, hJ⟩ := hQ471
  have K471 := K470.trans K471q (allS (Or.inr sz470) all0)
  have N471 := Fr.app N0 N471q
  show own_Go p e below _ T471 (mkF m 137 #[.val (.long q0), .second, .val (.long q1), .second, .val (.long q2), .second, .val (.long q3), .second, .val (.long q4), .second, .val (.long va), .second, .val (.long vb), .second, .val (.long vc), .second, .val (.long vt), .second, .val (.long c0), .second, .val (.long c1), .second, .val (.long c2), .second, .unset, .unset, .unset, .unset] [(.ref b470)])
  refine own_go (g' := (mkF m 139 #[.val (.long q0), .second, .val (.long q1), .second, .val (.long q2), .second, .val (.long q3), .second, .val (.long q4), .second, .val (.long va), .second, .val (.long vb), .second, .val (.long vc), .second, .val (.long vt), .second, .val (.long c0), .second, .val (.long c1), .second, .val (.long c2), .second, .val (.ref b470), .unset, .unset, .unset] [])) (fun _ k => XS.astore X471.here hx rfl (hb hby at_137) rfl rfl (l' := #[.val (.long q0), .second, .val (.long q1), .second, .val (.long q2), .second, .val (.long q3), .second, .val (.long q4), .second, .val (.long va), .second, .val (.long vb), .second, .val (.long vc), .second, .val (.long vt), .second, .val (.long c0), .second, .val (.long c1), .second, .val (.long c2), .second, .val (.ref b470), .unset, .unset, .unset]) rfl k) ?_
  refine own_newO X471 hx hZ hown rfl (hw _ (List.mem_of_getElem? (i := 38) rfl)) (hw _ (List.mem_of_getElem? (i := 39) rfl)) (hw _ (List.mem_of_getElem? (i := 40) rfl)) (own_ld1 hw) own_df1 (by decide) (by decide) (hb hby at_139) ?_
  intro T472 h472 b472 g472 X472 e472 E472 B472
  have ne473 : b470 ≠ b472 := Nat.ne_of_lt (Nat.lt_of_lt_of_le (own_Ob_lt BJ) (Nat.le_of_eq g472.symm))
  have sz472 : h0.size ≤ b472 := Nat.le_trans K471.1 (Nat.le_of_eq g472.symm)
  have ge472 : n0 ≤ b472 := Nat.le_trans Z0 sz472
  have K472 := K471.ext E472
  show own_Go p e below _ T472 (mkF m 142 #[.val (.long q0), .second, .val (.long q1), .second, .val (.long q2), .second, .val (.long q3), .second, .val (.long q4), .second, .val (.long va), .second, .val (.long vb), .second, .val (.long vc), .second, .val (.long vt), .second, .val (.long c0), .second, .val (.long c1), .second, .val (.long c2), .second, .val (.ref b470), .unset, .unset, .unset] [(.ref b472)])
  have hja : b470 < b472 := Nat.lt_of_lt_of_le (own_Ob_lt BJ) (Nat.le_of_eq g472.symm)
  refine own_go (g' := (mkF m 143 #[.val (.long q0), .second, .val (.long q1), .second, .val (.long q2), .second, .val (.long q3), .second, .val (.long q4), .second, .val (.long va), .second, .val (.long vb), .second, .val (.long vc), .second, .val (.long vt), .second, .val (.long c0), .second, .val (.long c1), .second, .val (.long c2), .second, .val (.ref b470), .unset, .unset, .unset] [(.ref b472), (.ref b472)])) (fun _ k => XS.dup X472.here hx rfl (hb hby at_142) rfl rfl k) ?_
  refine own_callC X472 hx hZ hown e472 (y := (⟨"com/example/gangplank/gangplank/space/HeldFromNow", "<init>", "()V"⟩ : MethodName)) (rm := ({ frames := 1, cells := 7, slots := 56, locals := 12 } : Room)) rfl (hw _ (List.mem_of_getElem? (i := 41) rfl)) (hw _ (List.mem_of_getElem? (i := 42) rfl)) (hw _ (List.mem_of_getElem? (i := 40) rfl)) (hw _ (List.mem_of_getElem? (i := 43) rfl)) (by decide) (a := b472) (argsL := []) (rest := [(.ref b472)]) (own_rmH l Z a0 hw [] b472 h472 n0 (Nat.le_trans Z0 K472.1) ge472 B472) (by rw [hml]; rfl) pd_6 rfl rfl (hb hby at_143) (W := 1) (Nat.le_of_eq rfl) (by decide) (by decide) (by decide) (by decide) ?_
  intro v474 T474 L474 X474 hQ474
  obtain ⟨rfl, N474q, K474q, au, ac, ao, af, ah, ai, aj, szu, HUq, B474, Fu, Fc, Fo, Fa, Fh, Fi⟩ := hQ474
  have HU := own_Up_cons hja HUq
  have szau : h0.size ≤ au := Nat.le_trans K472.1 szu
  have K474 := K472.trans K474q (allS (Or.inr sz472) all0)
  have N474 := Fr.app N471 N474q
  show own_Go p e below _ T474 (mkF m 146 #[.val (.long q0), .second, .val (.long q1), .second, .val (.long q2), .second, .val (.long q3), .second, .val (.long q4), .second, .val (.long va), .second, .val (.long vb), .second, .val (.long vc), .second, .val (.long vt), .second, .val (.long c0), .second, .val (.long c1), .second, .val (.long c2), .second, .val (.ref b470), .unset, .unset, .unset] [(.ref b472)])
  refine own_go (g' := (mkF m 148 #[.val (.long q0), .second, .val (.long q1), .second, .val (.long q2), .second, .val (.long q3), .second, .val (.long q4), .second, .val (.long va), .second, .val (.long vb), .second, .val (.long vc), .second, .val (.long vt), .second, .val (.long c0), .second, .val (.long c1), .second, .val (.long c2), .second, .val (.ref b470), .val (.ref b472), .unset, .unset] [])) (fun _ k => XS.astore X474.here hx rfl (hb hby at_146) rfl rfl (l' := #[.val (.long q0), .second, .val (.long q1), .second, .val (.long q2), .second, .val (.long q3), .second, .val (.long q4), .second, .val (.long va), .second, .val (.long vb), .second, .val (.long vc), .second, .val (.long vt), .second, .val (.long c0), .second, .val (.long c1), .second, .val (.long c2), .second, .val (.ref b470), .val (.ref b472), .unset, .unset]) rfl k) ?_
  refine own_go (g' := (mkF m 150 #[.val (.long q0), .second, .val (.long q1), .second, .val (.long q2), .second, .val (.long q3), .second, .val (.long q4), .second, .val (.long va), .second, .val (.long vb), .second, .val (.long vc), .second, .val (.long vt), .second, .val (.long c0), .second, .val (.long c1), .second, .val (.long c2), .second, .val (.ref b470), .val (.ref b472), .unset, .unset] [(.ref b472)])) (fun _ k => XS.aload X474.here hx rfl (hb hby at_148) rfl rfl k) ?_
  refine own_go (g' := (mkF m 153 #[.val (.long q0), .second, .val (.long q1), .second, .val (.long q2), .second, .val (.long q3), .second, .val (.long q4), .second, .val (.long va), .second, .val (.long vb), .second, .val (.long vc), .second, .val (.long vt), .second, .val (.long c0), .second, .val (.long c1), .second, .val (.long c2), .second, .val (.ref b470), .val (.ref b472), .unset, .unset] [(.long (-9223372036854775808 : Int64)), (.ref b472)])) (fun _ k => X474.ldc2Long hx hown (mvT hZ (hw _ (List.mem_of_getElem? (i := 65) rfl))) (g := (mkF m 150 #[.val (.long q0), .second, .val (.long q1), .second, .val (.long q2), .second, .val (.long q3), .second, .val (.long q4), .second, .val (.long va), .second, .val (.long vb), .second, .val (.long vc), .second, .val (.long vt), .second, .val (.long c0), .second, .val (.long c1), .second, .val (.long c2), .second, .val (.ref b470), .val (.ref b472), .unset, .unset] [(.ref b472)])) rfl (hb hby at_150) _ k) ?_
  refine own_callV X474 hx hZ hown rfl (C := "com/example/gangplank/gangplank/space/HeldFromNow") (y := (⟨"com/example/gangplank/gangplank/space/HeldFromNow", "restart", "(J)V"⟩ : MethodName)) (rm := ({ frames := 0, cells := 0, slots := 0, locals := 0 } : Room)) (hw _ (List.mem_of_getElem? (i := 66) rfl)) (hw _ (List.mem_of_getElem? (i := 67) rfl)) (hw _ (List.mem_of_getElem? (i := 69) rfl)) (hw _ (List.mem_of_getElem? (i := 68) rfl)) (hw _ (List.mem_of_getElem? (i := 40) rfl)) (hw _ (List.mem_of_getElem? (i := 70) rfl)) (by decide) (a := b472) B474.1 (argsL := [(.long (-9223372036854775808 : Int64))]) (rest := []) (own_rmRe l Z a0 hw [] b472 (-9223372036854775808 : Int64) au ac ao af ah ai aj 1 0 0 0 0 0 T474.heap n0 (own_Up_ge HU ge470 1 rfl) B474) (by rw [hml]; rfl) pd_7 rfl rfl (hb hby at_153) (W := 0) (Nat.le_of_eq rfl) (by decide) (by decide) (by decide) (by decide) ?_
  intro v475 T475 L475 X475 hQ475
  obtain ⟨rfl, N475q, K475q, B475⟩ := hQ475
  have K475 := K474.trans K475q (allS (Or.inr sz472) all0)
  have N475 := Fr.app N474 N475q
  show own_Go p e below _ T475 (mkF m 156 #[.val (.long q0), .second, .val (.long q1), .second, .val (.long q2), .second, .val (.long q3), .second, .val (.long q4), .second, .val (.long va), .second, .val (.long vb), .second, .val (.long vc), .second, .val (.long vt), .second, .val (.long c0), .second, .val (.long c1), .second, .val (.long c2), .second, .val (.ref b470), .val (.ref b472), .unset, .unset] [])
  refine own_go (g' := (mkF m 158 #[.val (.long q0), .second, .val (.long q1), .second, .val (.long q2), .second, .val (.long q3), .second, .val (.long q4), .second, .val (.long va), .second, .val (.long vb), .second, .val (.long vc), .second, .val (.long vt), .second, .val (.long c0), .second, .val (.long c1), .second, .val (.long c2), .second, .val (.ref b470), .val (.ref b472), .unset, .unset] [(.ref b472)])) (fun _ k => XS.aload X475.here hx rfl (hb hby at_156) rfl rfl k) ?_
  refine own_go (g' := (mkF m 160 #[.val (.long q0), .second, .val (.long q1), .second, .val (.long q2), .second, .val (.long q3), .second, .val (.long q4), .second, .val (.long va), .second, .val (.long vb), .second, .val (.long vc), .second, .val (.long vt), .second, .val (.long c0), .second, .val (.long c1), .second, .val (.long c2), .second, .val (.ref b470), .val (.ref b472), .unset, .unset] [(.long va), (.ref b472)])) (fun _ k => XT.lload X475.here hx rfl (hb hby at_158) rfl k) ?_
  refine own_go (g' := (mkF m 162 #[.val (.long q0), .second, .val (.long q1), .second, .val (.long q2), .second, .val (.long q3), .second, .val (.long q4), .second, .val (.long va), .second, .val (.long vb), .second, .val (.long vc), .second, .val (.long vt), .second, .val (.long c0), .second, .val (.long c1), .second, .val (.long c2), .second, .val (.ref b470), .val (.ref b472), .unset, .unset] [(.long c0), (.long va), (.ref b472)])) (fun _ k => XT.lload X475.here hx rfl (hb hby at_160) rfl k) ?_
  refine own_go (g' := (mkF m 164 #[.val (.long q0), .second, .val (.long q1), .second, .val (.long q2), .second, .val (.long q3), .second, .val (.long q4), .second, .val (.long va), .second, .val (.long vb), .second, .val (.long vc), .second, .val (.long vt), .second, .val (.long c0), .second, .val (.long c1), .second, .val (.long c2), .second, .val (.ref b470), .val (.ref b472), .unset, .unset] [(.ref b470), (.long c0), (.long va), (.ref b472)])) (fun _ k => XS.aload X475.here hx rfl (hb hby at_162) rfl rfl k) ?_
  have f476 := (own_Ob_keep (own_Ob_keep (own_Ob_ext BJ E472) K474q (ninS ne473 nin0)) K475q (ninS ne473 nin0))
  have f477 := (own_Ar_keep Fu K475q (ninS (Ne.symm (own_Up_ne HU 1 2 rfl rfl (by decide))) nin0))
  have f478 := (own_Ar_keep Fc K475q (ninS (Ne.symm (own_Up_ne HU 1 3 rfl rfl (by decide))) nin0))
  have f479 := (own_Rr_keep Fo K475q (ninS (Ne.symm (own_Up_ne HU 1 4 rfl rfl (by decide))) nin0))
  refine own_callV X475 hx hZ hown rfl (C := "com/example/gangplank/gangplank/space/HeldFromNow") (y := (⟨"com/example/gangplank/gangplank/space/HeldFromNow", "add", "(JJLcom/example/gangplank/gangplank/workload/Job;)V"⟩ : MethodName)) (rm := ({ frames := 0, cells := 0, slots := 0, locals := 0 } : Room)) (hw _ (List.mem_of_getElem? (i := 75) rfl)) (hw _ (List.mem_of_getElem? (i := 76) rfl)) (hw _ (List.mem_of_getElem? (i := 78) rfl)) (hw _ (List.mem_of_getElem? (i := 77) rfl)) (hw _ (List.mem_of_getElem? (i := 40) rfl)) (hw _ (List.mem_of_getElem? (i := 79) rfl)) (by decide) (a := b472) B475.1 (argsL := [(.long va), (.long c0), (.ref b470)]) (rest := []) (own_rmAdd l Z a0 hw [] b472 b470 au ac ao af ah ai aj 1 (0 : Int32) 0 0 (-9223372036854775808 : Int64) 0 va c0 0 (fun _ => (0 : Int64)) (fun _ => (0 : Int64)) (fun _ => Value.null) T475.heap n0 HU ge470 B475 f477 f478 f479 f476.1 rfl (by decide)) (by rw [hml]; rfl) pd_8 rfl rfl (hb hby at_164) (W := 0) (Nat.le_of_eq rfl) (by decide) (by decide) (by decide) (by decide) ?_
  intro v480 T480 L480 X480 hQ480
  obtain ⟨rfl, N480q, K480q, B480, Fu480, Fc480, Fo480⟩ := hQ480
  have K480 := K475.trans K480q (allS (Or.inr sz472) (allS (Or.inr szau) (allS (Or.inr (Nat.le_trans szau (Nat.le_of_lt (own_Up_lt HU 2 3 (x := au) rfl rfl (by decide))))) (allS (Or.inr (Nat.le_trans szau (Nat.le_of_lt (own_Up_lt HU 2 4 (x := au) rfl rfl (by decide))))) all0))))
  have N480 := Fr.app N475 N480q
  show own_Go p e below _ T480 (mkF m 167 #[.val (.long q0), .second, .val (.long q1), .second, .val (.long q2), .second, .val (.long q3), .second, .val (.long q4), .second, .val (.long va), .second, .val (.long vb), .second, .val (.long vc), .second, .val (.long vt), .second, .val (.long c0), .second, .val (.long c1), .second, .val (.long c2), .second, .val (.ref b470), .val (.ref b472), .unset, .unset] [])
  refine own_go (g' := (mkF m 169 #[.val (.long q0), .second, .val (.long q1), .second, .val (.long q2), .second, .val (.long q3), .second, .val (.long q4), .second, .val (.long va), .second, .val (.long vb), .second, .val (.long vc), .second, .val (.long vt), .second, .val (.long c0), .second, .val (.long c1), .second, .val (.long c2), .second, .val (.ref b470), .val (.ref b472), .unset, .unset] [(.ref b472)])) (fun _ k => XS.aload X480.here hx rfl (hb hby at_167) rfl rfl k) ?_
  refine own_go (g' := (mkF m 171 #[.val (.long q0), .second, .val (.long q1), .second, .val (.long q2), .second, .val (.long q3), .second, .val (.long q4), .second, .val (.long va), .second, .val (.long vb), .second, .val (.long vc), .second, .val (.long vt), .second, .val (.long c0), .second, .val (.long c1), .second, .val (.long c2), .second, .val (.ref b470), .val (.ref b472), .unset, .unset] [(.long vb), (.ref b472)])) (fun _ k => XT.lload X480.here hx rfl (hb hby at_169) rfl k) ?_
  refine own_go (g' := (mkF m 173 #[.val (.long q0), .second, .val (.long q1), .second, .val (.long q2), .second, .val (.long q3), .second, .val (.long q4), .second, .val (.long va), .second, .val (.long vb), .second, .val (.long vc), .second, .val (.long vt), .second, .val (.long c0), .second, .val (.long c1), .second, .val (.long c2), .second, .val (.ref b470), .val (.ref b472), .unset, .unset] [(.long c1), (.long vb), (.ref b472)])) (fun _ k => XT.lload X480.here hx rfl (hb hby at_171) rfl k) ?_
  refine own_go (g' := (mkF m 175 #[.val (.long q0), .second, .val (.long q1), .second, .val (.long q2), .second, .val (.long q3), .second, .val (.long q4), .second, .val (.long va), .second, .val (.long vb), .second, .val (.long vc), .second, .val (.long vt), .second, .val (.long c0), .second, .val (.long c1), .second, .val (.long c2), .second, .val (.ref b470), .val (.ref b472), .unset, .unset] [(.ref b470), (.long c1), (.long vb), (.ref b472)])) (fun _ k => XS.aload X480.here hx rfl (hb hby at_173) rfl rfl k) ?_
  have f481 := (own_Ob_keep f476 K480q (ninS ne473 (ninS (own_Up_ne HU 0 2 rfl rfl (by decide)) (ninS (own_Up_ne HU 0 3 rfl rfl (by decide)) (ninS (own_Up_ne HU 0 4 rfl rfl (by decide)) nin0)))))
  refine own_callV X480 hx hZ hown rfl (C := "com/example/gangplank/gangplank/space/HeldFromNow") (y := (⟨"com/example/gangplank/gangplank/space/HeldFromNow", "add", "(JJLcom/example/gangplank/gangplank/workload/Job;)V"⟩ : MethodName)) (rm := ({ frames := 0, cells := 0, slots := 0, locals := 0 } : Room)) (hw _ (List.mem_of_getElem? (i := 75) rfl)) (hw _ (List.mem_of_getElem? (i := 76) rfl)) (hw _ (List.mem_of_getElem? (i := 78) rfl)) (hw _ (List.mem_of_getElem? (i := 77) rfl)) (hw _ (List.mem_of_getElem? (i := 40) rfl)) (hw _ (List.mem_of_getElem? (i := 79) rfl)) (by decide) (a := b472) B480.1 (argsL := [(.long vb), (.long c1), (.ref b470)]) (rest := []) (own_rmAdd l Z a0 hw [] b472 b470 au ac ao af ah ai aj (own_sf 1 0 (fun _ => (0 : Int64)) va) (1 : Int32) 0 0 (-9223372036854775808 : Int64) 0 vb c1 1 (own_upl (fun _ => (0 : Int64)) 0 va) (own_upl (fun _ => (0 : Int64)) 0 c0) (own_up (fun _ => Value.null) 0 (.ref b470)) T480.heap n0 HU ge470 B480 Fu480 Fc480 Fo480 f481.1 rfl (by decide)) (by rw [hml]; rfl) pd_8 rfl rfl (hb hby at_175) (W := 0) (Nat.le_of_eq rfl) (by decide) (by decide) (by decide) (by decide) ?_
  intro v482 T482 L482 X482 hQ482
  obtain ⟨rfl, N482q, K482q, B482, Fu482, Fc482, Fo482⟩ := hQ482
  have K482 := K480.trans K482q (allS (Or.inr sz472) (allS (Or.inr szau) (allS (Or.inr (Nat.le_trans szau (Nat.le_of_lt (own_Up_lt HU 2 3 (x := au) rfl rfl (by decide))))) (allS (Or.inr (Nat.le_trans szau (Nat.le_of_lt (own_Up_lt HU 2 4 (x := au) rfl rfl (by decide))))) all0))))
  have N482 := Fr.app N480 N482q
  show own_Go p e below _ T482 (mkF m 178 #[.val (.long q0), .second, .val (.long q1), .second, .val (.long q2), .second, .val (.long q3), .second, .val (.long q4), .second, .val (.long va), .second, .val (.long vb), .second, .val (.long vc), .second, .val (.long vt), .second, .val (.long c0), .second, .val (.long c1), .second, .val (.long c2), .second, .val (.ref b470), .val (.ref b472), .unset, .unset] [])
  refine own_go (g' := (mkF m 180 #[.val (.long q0), .second, .val (.long q1), .second, .val (.long q2), .second, .val (.long q3), .second, .val (.long q4), .second, .val (.long va), .second, .val (.long vb), .second, .val (.long vc), .second, .val (.long vt), .second, .val (.long c0), .second, .val (.long c1), .second, .val (.long c2), .second, .val (.ref b470), .val (.ref b472), .unset, .unset] [(.ref b472)])) (fun _ k => XS.aload X482.here hx rfl (hb hby at_178) rfl rfl k) ?_
  refine own_go (g' := (mkF m 182 #[.val (.long q0), .second, .val (.long q1), .second, .val (.long q2), .second, .val (.long q3), .second, .val (.long q4), .second, .val (.long va), .second, .val (.long vb), .second, .val (.long vc), .second, .val (.long vt), .second, .val (.long c0), .second, .val (.long c1), .second, .val (.long c2), .second, .val (.ref b470), .val (.ref b472), .unset, .unset] [(.long vc), (.ref b472)])) (fun _ k => XT.lload X482.here hx rfl (hb hby at_180) rfl k) ?_
  refine own_go (g' := (mkF m 184 #[.val (.long q0), .second, .val (.long q1), .second, .val (.long q2), .second, .val (.long q3), .second, .val (.long q4), .second, .val (.long va), .second, .val (.long vb), .second, .val (.long vc), .second, .val (.long vt), .second, .val (.long c0), .second, .val (.long c1), .second, .val (.long c2), .second, .val (.ref b470), .val (.ref b472), .unset, .unset] [(.long c2), (.long vc), (.ref b472)])) (fun _ k => XT.lload X482.here hx rfl (hb hby at_182) rfl k) ?_
  refine own_go (g' := (mkF m 186 #[.val (.long q0), .second, .val (.long q1), .second, .val (.long q2), .second, .val (.long q3), .second, .val (.long q4), .second, .val (.long va), .second, .val (.long vb), .second, .val (.long vc), .second, .val (.long vt), .second, .val (.long c0), .second, .val (.long c1), .second, .val (.long c2), .second, .val (.ref b470), .val (.ref b472), .unset, .unset] [(.ref b470), (.long c2), (.long vc), (.ref b472)])) (fun _ k => XS.aload X482.here hx rfl (hb hby at_184) rfl rfl k) ?_
  have f483 := (own_Ob_keep f481 K482q (ninS ne473 (ninS (own_Up_ne HU 0 2 rfl rfl (by decide)) (ninS (own_Up_ne HU 0 3 rfl rfl (by decide)) (ninS (own_Up_ne HU 0 4 rfl rfl (by decide)) nin0)))))
  refine own_callV X482 hx hZ hown rfl (C := "com/example/gangplank/gangplank/space/HeldFromNow") (y := (⟨"com/example/gangplank/gangplank/space/HeldFromNow", "add", "(JJLcom/example/gangplank/gangplank/workload/Job;)V"⟩ : MethodName)) (rm := ({ frames := 0, cells := 0, slots := 0, locals := 0 } : Room)) (hw _ (List.mem_of_getElem? (i := 75) rfl)) (hw _ (List.mem_of_getElem? (i := 76) rfl)) (hw _ (List.mem_of_getElem? (i := 78) rfl)) (hw _ (List.mem_of_getElem? (i := 77) rfl)) (hw _ (List.mem_of_getElem? (i := 40) rfl)) (hw _ (List.mem_of_getElem? (i := 79) rfl)) (by decide) (a := b472) B482.1 (argsL := [(.long vc), (.long c2), (.ref b470)]) (rest := []) (own_rmAdd l Z a0 hw [] b472 b470 au ac ao af ah ai aj (own_sf (own_sf 1 0 (fun _ => (0 : Int64)) va) 1 (own_upl (fun _ => (0 : Int64)) 0 va) vb) (2 : Int32) 0 0 (-9223372036854775808 : Int64) 0 vc c2 2 (own_upl (own_upl (fun _ => (0 : Int64)) 0 va) 1 vb) (own_upl (own_upl (fun _ => (0 : Int64)) 0 c0) 1 c1) (own_up (own_up (fun _ => Value.null) 0 (.ref b470)) 1 (.ref b470)) T482.heap n0 HU ge470 B482 Fu482 Fc482 Fo482 f483.1 rfl (by decide)) (by rw [hml]; rfl) pd_8 rfl rfl (hb hby at_186) (W := 0) (Nat.le_of_eq rfl) (by decide) (by decide) (by decide) (by decide) ?_
  intro v484 T484 L484 X484 hQ484
  obtain ⟨rfl, N484q, K484q, B484, Fu484, Fc484, Fo484⟩ := hQ484
  have K484 := K482.trans K484q (allS (Or.inr sz472) (allS (Or.inr szau) (allS (Or.inr (Nat.le_trans szau (Nat.le_of_lt (own_Up_lt HU 2 3 (x := au) rfl rfl (by decide))))) (allS (Or.inr (Nat.le_trans szau (Nat.le_of_lt (own_Up_lt HU 2 4 (x := au) rfl rfl (by decide))))) all0))))
  have N484 := Fr.app N482 N484q
  show own_Go p e below _ T484 (mkF m 189 #[.val (.long q0), .second, .val (.long q1), .second, .val (.long q2), .second, .val (.long q3), .second, .val (.long q4), .second, .val (.long va), .second, .val (.long vb), .second, .val (.long vc), .second, .val (.long vt), .second, .val (.long c0), .second, .val (.long c1), .second, .val (.long c2), .second, .val (.ref b470), .val (.ref b472), .unset, .unset] [])
  refine own_go (g' := (mkF m 191 #[.val (.long q0), .second, .val (.long q1), .second, .val (.long q2), .second, .val (.long q3), .second, .val (.long q4), .second, .val (.long va), .second, .val (.long vb), .second, .val (.long vc), .second, .val (.long vt), .second, .val (.long c0), .second, .val (.long c1), .second, .val (.long c2), .second, .val (.ref b470), .val (.ref b472), .unset, .unset] [(.ref b472)])) (fun _ k => XS.aload X484.here hx rfl (hb hby at_189) rfl rfl k) ?_
  have f485 := (own_Ob_keep f483 K484q (ninS ne473 (ninS (own_Up_ne HU 0 2 rfl rfl (by decide)) (ninS (own_Up_ne HU 0 3 rfl rfl (by decide)) (ninS (own_Up_ne HU 0 4 rfl rfl (by decide)) nin0)))))
  have f486 := (own_Ar_keep (own_Ar_keep (own_Ar_keep (own_Ar_keep Fa K475q (ninS (Ne.symm (own_Up_ne HU 1 5 rfl rfl (by decide))) nin0)) K480q (ninS (Ne.symm (own_Up_ne HU 1 5 rfl rfl (by decide))) (ninS (Ne.symm (own_Up_ne HU 2 5 rfl rfl (by decide))) (ninS (Ne.symm (own_Up_ne HU 3 5 rfl rfl (by decide))) (ninS (Ne.symm (own_Up_ne HU 4 5 rfl rfl (by decide))) nin0))))) K482q (ninS (Ne.symm (own_Up_ne HU 1 5 rfl rfl (by decide))) (ninS (Ne.symm (own_Up_ne HU 2 5 rfl rfl (by decide))) (ninS (Ne.symm (own_Up_ne HU 3 5 rfl rfl (by decide))) (ninS (Ne.symm (own_Up_ne HU 4 5 rfl rfl (by decide))) nin0))))) K484q (ninS (Ne.symm (own_Up_ne HU 1 5 rfl rfl (by decide))) (ninS (Ne.symm (own_Up_ne HU 2 5 rfl rfl (by decide))) (ninS (Ne.symm (own_Up_ne HU 3 5 rfl rfl (by decide))) (ninS (Ne.symm (own_Up_ne HU 4 5 rfl rfl (by decide))) nin0)))))
  have f487 := (own_Ar_keep (own_Ar_keep (own_Ar_keep (own_Ar_keep Fh K475q (ninS (Ne.symm (own_Up_ne HU 1 6 rfl rfl (by decide))) nin0)) K480q (ninS (Ne.symm (own_Up_ne HU 1 6 rfl rfl (by decide))) (ninS (Ne.symm (own_Up_ne HU 2 6 rfl rfl (by decide))) (ninS (Ne.symm (own_Up_ne HU 3 6 rfl rfl (by decide))) (ninS (Ne.symm (own_Up_ne HU 4 6 rfl rfl (by decide))) nin0))))) K482q (ninS (Ne.symm (own_Up_ne HU 1 6 rfl rfl (by decide))) (ninS (Ne.symm (own_Up_ne HU 2 6 rfl rfl (by decide))) (ninS (Ne.symm (own_Up_ne HU 3 6 rfl rfl (by decide))) (ninS (Ne.symm (own_Up_ne HU 4 6 rfl rfl (by decide))) nin0))))) K484q (ninS (Ne.symm (own_Up_ne HU 1 6 rfl rfl (by decide))) (ninS (Ne.symm (own_Up_ne HU 2 6 rfl rfl (by decide))) (ninS (Ne.symm (own_Up_ne HU 3 6 rfl rfl (by decide))) (ninS (Ne.symm (own_Up_ne HU 4 6 rfl rfl (by decide))) nin0)))))
  have f488 := (own_Ar_keep (own_Ar_keep (own_Ar_keep (own_Ar_keep Fi K475q (ninS (Ne.symm (own_Up_ne HU 1 7 rfl rfl (by decide))) nin0)) K480q (ninS (Ne.symm (own_Up_ne HU 1 7 rfl rfl (by decide))) (ninS (Ne.symm (own_Up_ne HU 2 7 rfl rfl (by decide))) (ninS (Ne.symm (own_Up_ne HU 3 7 rfl rfl (by decide))) (ninS (Ne.symm (own_Up_ne HU 4 7 rfl rfl (by decide))) nin0))))) K482q (ninS (Ne.symm (own_Up_ne HU 1 7 rfl rfl (by decide))) (ninS (Ne.symm (own_Up_ne HU 2 7 rfl rfl (by decide))) (ninS (Ne.symm (own_Up_ne HU 3 7 rfl rfl (by decide))) (ninS (Ne.symm (own_Up_ne HU 4 7 rfl rfl (by decide))) nin0))))) K484q (ninS (Ne.symm (own_Up_ne HU 1 7 rfl rfl (by decide))) (ninS (Ne.symm (own_Up_ne HU 2 7 rfl rfl (by decide))) (ninS (Ne.symm (own_Up_ne HU 3 7 rfl rfl (by decide))) (ninS (Ne.symm (own_Up_ne HU 4 7 rfl rfl (by decide))) nin0)))))
  refine own_callV X484 hx hZ hown rfl (C := "com/example/gangplank/gangplank/space/HeldFromNow") (y := site_191) (rm := ({ frames := 3, cells := 2, slots := 32, locals := 45 } : Room)) (hw _ (List.mem_of_getElem? (i := 81) rfl)) (hw _ (List.mem_of_getElem? (i := 82) rfl)) (hw _ (List.mem_of_getElem? (i := 84) rfl)) (hw _ (List.mem_of_getElem? (i := 83) rfl)) (hw _ (List.mem_of_getElem? (i := 40) rfl)) (hw _ (List.mem_of_getElem? (i := 85) rfl)) (by decide) (a := b472) B484.1 (argsL := []) (rest := []) (own_rmSe l Z a0 hw [] b472 b470 au ac ao af ah ai aj (own_sf (own_sf (own_sf 1 0 (fun _ => (0 : Int64)) va) 1 (own_upl (fun _ => (0 : Int64)) 0 va) vb) 2 (own_upl (own_upl (fun _ => (0 : Int64)) 0 va) 1 vb) vc) 0 0 (-9223372036854775808 : Int64) 0 (own_upl (own_upl (own_upl (fun _ => (0 : Int64)) 0 va) 1 vb) 2 vc) (own_upl (own_upl (own_upl (fun _ => (0 : Int64)) 0 c0) 1 c1) 2 c2) _ _ (own_up (own_up (own_up (fun _ => Value.null) 0 (.ref b470)) 1 (.ref b470)) 2 (.ref b470)) gJ T484.heap n0 (Nat.le_trans Z0 K484.1) HU ge470 B484 Fu484 Fc484 Fo484 f486 f487 f488 f485 hJ own_sf3 (fun i hi => by match i, hi with | 0, _ => rfl | 1, _ => rfl | 2, _ => rfl)) (by rw [hml]; rfl) pd_9 rfl rfl (hb hby at_191) (W := 0) (Nat.le_of_eq rfl) (by decide) (by decide) (by decide) (by decide) ?_
  intro v489 T489 L489 X489 hQ489
  obtain ⟨rfl, N489q, K489q, F, oi, ou, fl, om, hn, fa, g, fu1, fc1, B489, Fa9, Fh9, hfl, pm, hI⟩ := hQ489
  have K489 := K484.trans K489q (allS (Or.inr sz472) (allS (Or.inr szau) (allS (Or.inr (Nat.le_trans szau (Nat.le_of_lt (own_Up_lt HU 2 3 (x := au) rfl rfl (by decide))))) (allS (Or.inr (Nat.le_trans szau (Nat.le_of_lt (own_Up_lt HU 2 4 (x := au) rfl rfl (by decide))))) (allS (Or.inr (Nat.le_trans szau (Nat.le_of_lt (own_Up_lt HU 2 5 (x := au) rfl rfl (by decide))))) (allS (Or.inr (Nat.le_trans szau (Nat.le_of_lt (own_Up_lt HU 2 6 (x := au) rfl rfl (by decide))))) all0))))))
  have N489 := Fr.app N484 N489q
  show own_Go p e below _ T489 (mkF m 194 #[.val (.long q0), .second, .val (.long q1), .second, .val (.long q2), .second, .val (.long q3), .second, .val (.long q4), .second, .val (.long va), .second, .val (.long vb), .second, .val (.long vc), .second, .val (.long vt), .second, .val (.long c0), .second, .val (.long c1), .second, .val (.long c2), .second, .val (.ref b470), .val (.ref b472), .unset, .unset] [(.ref b472)])
  refine own_go (g' := (mkF m 195 #[.val (.long q0), .second, .val (.long q1), .second, .val (.long q2), .second, .val (.long q3), .second, .val (.long q4), .second, .val (.long va), .second, .val (.long vb), .second, .val (.long vc), .second, .val (.long vt), .second, .val (.long c0), .second, .val (.long c1), .second, .val (.long c2), .second, .val (.ref b470), .val (.ref b472), .unset, .unset] [])) (fun _ k => XT.pop X489.here hx rfl (hb hby at_194) rfl rfl k) ?_
  refine own_go (g' := (mkF m 197 #[.val (.long q0), .second, .val (.long q1), .second, .val (.long q2), .second, .val (.long q3), .second, .val (.long q4), .second, .val (.long va), .second, .val (.long vb), .second, .val (.long vc), .second, .val (.long vt), .second, .val (.long c0), .second, .val (.long c1), .second, .val (.long c2), .second, .val (.ref b470), .val (.ref b472), .unset, .unset] [(.long va)])) (fun _ k => XT.lload X489.here hx rfl (hb hby at_195) rfl k) ?_
  refine own_go (g' := (mkF m 199 #[.val (.long q0), .second, .val (.long q1), .second, .val (.long q2), .second, .val (.long q3), .second, .val (.long q4), .second, .val (.long va), .second, .val (.long vb), .second, .val (.long vc), .second, .val (.long vt), .second, .val (.long c0), .second, .val (.long c1), .second, .val (.long c2), .second, .val (.ref b470), .val (.ref b472), .unset, .unset] [(.long c0), (.long va)])) (fun _ k => XT.lload X489.here hx rfl (hb hby at_197) rfl k) ?_
  refine own_go (g' := (mkF m 201 #[.val (.long q0), .second, .val (.long q1), .second, .val (.long q2), .second, .val (.long q3), .second, .val (.long q4), .second, .val (.long va), .second, .val (.long vb), .second, .val (.long vc), .second, .val (.long vt), .second, .val (.long c0), .second, .val (.long c1), .second, .val (.long c2), .second, .val (.ref b470), .val (.ref b472), .unset, .unset] [(.long vt), (.long c0), (.long va)])) (fun _ k => XT.lload X489.here hx rfl (hb hby at_199) rfl k) ?_
  refine own_callS X489 hx hZ hown rfl (y := (⟨"com/example/gangplank/gangplank/space/HeldFromNowHeldAtPinLaw", "held", "(JJJ)J"⟩ : MethodName)) (rm := ({ frames := 0, cells := 0, slots := 0, locals := 0 } : Room)) (hw _ (List.mem_of_getElem? (i := 134) rfl)) (hw _ (List.mem_of_getElem? (i := 135) rfl)) (hw _ (List.mem_of_getElem? (i := 136) rfl)) (hw _ (List.mem_of_getElem? (i := 137) rfl)) (by decide) (argsL := [(.long va), (.long c0), (.long vt)]) (rest := []) (own_rmHd l Z a0 hw [] va c0 vt T489.heap n0) (by rw [hml]; rfl) pd_20 rfl rfl (hb hby at_201) (W := 0) (Nat.le_of_eq rfl) (by decide) (by decide) (by decide) (by decide) ?_
  intro v490 T490 L490 X490 hQ490
  obtain ⟨rfl, e490, rfl⟩ := hQ490
  rw [List.append_nil] at X490
  show own_Go p e below _ T490 (mkF m 204 #[.val (.long q0), .second, .val (.long q1), .second, .val (.long q2), .second, .val (.long q3), .second, .val (.long q4), .second, .val (.long va), .second, .val (.long vb), .second, .val (.long vc), .second, .val (.long vt), .second, .val (.long c0), .second, .val (.long c1), .second, .val (.long c2), .second, .val (.ref b470), .val (.ref b472), .unset, .unset] [(.long (own_hd va c0 vt))])
  refine own_go (g' := (mkF m 206 #[.val (.long q0), .second, .val (.long q1), .second, .val (.long q2), .second, .val (.long q3), .second, .val (.long q4), .second, .val (.long va), .second, .val (.long vb), .second, .val (.long vc), .second, .val (.long vt), .second, .val (.long c0), .second, .val (.long c1), .second, .val (.long c2), .second, .val (.ref b470), .val (.ref b472), .unset, .unset] [(.long vb), (.long (own_hd va c0 vt))])) (fun _ k => XT.lload X490.here hx rfl (hb hby at_204) rfl k) ?_
  refine own_go (g' := (mkF m 208 #[.val (.long q0), .second, .val (.long q1), .second, .val (.long q2), .second, .val (.long q3), .second, .val (.long q4), .second, .val (.long va), .second, .val (.long vb), .second, .val (.long vc), .second, .val (.long vt), .second, .val (.long c0), .second, .val (.long c1), .second, .val (.long c2), .second, .val (.ref b470), .val (.ref b472), .unset, .unset] [(.long c1), (.long vb), (.long (own_hd va c0 vt))])) (fun _ k => XT.lload X490.here hx rfl (hb hby at_206) rfl k) ?_
  refine own_go (g' := (mkF m 210 #[.val (.long q0), .second, .val (.long q1), .second, .val (.long q2), .second, .val (.long q3), .second, .val (.long q4), .second, .val (.long va), .second, .val (.long vb), .second, .val (.long vc), .second, .val (.long vt), .second, .val (.long c0), .second, .val (.long c1), .second, .val (.long c2), .second, .val (.ref b470), .val (.ref b472), .unset, .unset] [(.long vt), (.long c1), (.long vb), (.long (own_hd va c0 vt))])) (fun _ k => XT.lload X490.here hx rfl (hb hby at_208) rfl k) ?_
  refine own_callS X490 hx hZ hown e490 (y := (⟨"com/example/gangplank/gangplank/space/HeldFromNowHeldAtPinLaw", "held", "(JJJ)J"⟩ : MethodName)) (rm := ({ frames := 0, cells := 0, slots := 0, locals := 0 } : Room)) (hw _ (List.mem_of_getElem? (i := 134) rfl)) (hw _ (List.mem_of_getElem? (i := 135) rfl)) (hw _ (List.mem_of_getElem? (i := 136) rfl)) (hw _ (List.mem_of_getElem? (i := 137) rfl)) (by decide) (argsL := [(.long vb), (.long c1), (.long vt)]) (rest := [(.long (own_hd va c0 vt))]) (own_rmHd l Z a0 hw [] vb c1 vt T489.heap n0) (by rw [hml]; rfl) pd_20 rfl rfl (hb hby at_210) (W := 2) (Nat.le_of_eq rfl) (by decide) (by decide) (by decide) (by decide) ?_
  intro v491 T491 L491 X491 hQ491
  obtain ⟨rfl, e491, rfl⟩ := hQ491
  rw [List.append_nil] at X491
  show own_Go p e below _ T491 (mkF m 213 #[.val (.long q0), .second, .val (.long q1), .second, .val (.long q2), .second, .val (.long q3), .second, .val (.long q4), .second, .val (.long va), .second, .val (.long vb), .second, .val (.long vc), .second, .val (.long vt), .second, .val (.long c0), .second, .val (.long c1), .second, .val (.long c2), .second, .val (.ref b470), .val (.ref b472), .unset, .unset] [(.long (own_hd vb c1 vt)), (.long (own_hd va c0 vt))])
  refine own_go (g' := (mkF m 214 #[.val (.long q0), .second, .val (.long q1), .second, .val (.long q2), .second, .val (.long q3), .second, .val (.long q4), .second, .val (.long va), .second, .val (.long vb), .second, .val (.long vc), .second, .val (.long vt), .second, .val (.long c0), .second, .val (.long c1), .second, .val (.long c2), .second, .val (.ref b470), .val (.ref b472), .unset, .unset] [(.long ((own_hd va c0 vt) + (own_hd vb c1 vt)))])) (fun _ k => XT.ladd X491.here hx rfl (hb hby at_213) rfl k) ?_
  refine own_go (g' := (mkF m 216 #[.val (.long q0), .second, .val (.long q1), .second, .val (.long q2), .second, .val (.long q3), .second, .val (.long q4), .second, .val (.long va), .second, .val (.long vb), .second, .val (.long vc), .second, .val (.long vt), .second, .val (.long c0), .second, .val (.long c1), .second, .val (.long c2), .second, .val (.ref b470), .val (.ref b472), .unset, .unset] [(.long vc), (.long ((own_hd va c0 vt) + (own_hd vb c1 vt)))])) (fun _ k => XT.lload X491.here hx rfl (hb hby at_214) rfl k) ?_
  refine own_go (g' := (mkF m 218 #[.val (.long q0), .second, .val (.long q1), .second, .val (.long q2), .second, .val (.long q3), .second, .val (.long q4), .second, .val (.long va), .second, .val (.long vb), .second, .val (.long vc), .second, .val (.long vt), .second, .val (.long c0), .second, .val (.long c1), .second, .val (.long c2), .second, .val (.ref b470), .val (.ref b472), .unset, .unset] [(.long c2), (.long vc), (.long ((own_hd va c0 vt) + (own_hd vb c1 vt)))])) (fun _ k => XT.lload X491.here hx rfl (hb hby at_216) rfl k) ?_
  refine own_go (g' := (mkF m 220 #[.val (.long q0), .second, .val (.long q1), .second, .val (.long q2), .second, .val (.long q3), .second, .val (.long q4), .second, .val (.long va), .second, .val (.long vb), .second, .val (.long vc), .second, .val (.long vt), .second, .val (.long c0), .second, .val (.long c1), .second, .val (.long c2), .second, .val (.ref b470), .val (.ref b472), .unset, .unset] [(.long vt), (.long c2), (.long vc), (.long ((own_hd va c0 vt) + (own_hd vb c1 vt)))])) (fun _ k => XT.lload X491.here hx rfl (hb hby at_218) rfl k) ?_
  refine own_callS X491 hx hZ hown e491 (y := (⟨"com/example/gangplank/gangplank/space/HeldFromNowHeldAtPinLaw", "held", "(JJJ)J"⟩ : MethodName)) (rm := ({ frames := 0, cells := 0, slots := 0, locals := 0 } : Room)) (hw _ (List.mem_of_getElem? (i := 134) rfl)) (hw _ (List.mem_of_getElem? (i := 135) rfl)) (hw _ (List.mem_of_getElem? (i := 136) rfl)) (hw _ (List.mem_of_getElem? (i := 137) rfl)) (by decide) (argsL := [(.long vc), (.long c2), (.long vt)]) (rest := [(.long ((own_hd va c0 vt) + (own_hd vb c1 vt)))]) (own_rmHd l Z a0 hw [] vc c2 vt T489.heap n0) (by rw [hml]; rfl) pd_20 rfl rfl (hb hby at_220) (W := 2) (Nat.le_of_eq rfl) (by decide) (by decide) (by decide) (by decide) ?_
  intro v492 T492 L492 X492 hQ492
  obtain ⟨rfl, e492, rfl⟩ := hQ492
  rw [List.append_nil] at X492
  show own_Go p e below _ T492 (mkF m 223 #[.val (.long q0), .second, .val (.long q1), .second, .val (.long q2), .second, .val (.long q3), .second, .val (.long q4), .second, .val (.long va), .second, .val (.long vb), .second, .val (.long vc), .second, .val (.long vt), .second, .val (.long c0), .second, .val (.long c1), .second, .val (.long c2), .second, .val (.ref b470), .val (.ref b472), .unset, .unset] [(.long (own_hd vc c2 vt)), (.long ((own_hd va c0 vt) + (own_hd vb c1 vt)))])
  refine own_go (g' := (mkF m 224 #[.val (.long q0), .second, .val (.long q1), .second, .val (.long q2), .second, .val (.long q3), .second, .val (.long q4), .second, .val (.long va), .second, .val (.long vb), .second, .val (.long vc), .second, .val (.long vt), .second, .val (.long c0), .second, .val (.long c1), .second, .val (.long c2), .second, .val (.ref b470), .val (.ref b472), .unset, .unset] [(.long (((own_hd va c0 vt) + (own_hd vb c1 vt)) + (own_hd vc c2 vt)))])) (fun _ k => XT.ladd X492.here hx rfl (hb hby at_223) rfl k) ?_
  refine own_go (g' := (mkF m 226 #[.val (.long q0), .second, .val (.long q1), .second, .val (.long q2), .second, .val (.long q3), .second, .val (.long q4), .second, .val (.long va), .second, .val (.long vb), .second, .val (.long vc), .second, .val (.long vt), .second, .val (.long c0), .second, .val (.long c1), .second, .val (.long c2), .second, .val (.ref b470), .val (.ref b472), .val (.long (((own_hd va c0 vt) + (own_hd vb c1 vt)) + (own_hd vc c2 vt))), .second] [])) (fun _ k => XT.lstore X492.here hx rfl (hb hby at_224) rfl (l' := #[.val (.long q0), .second, .val (.long q1), .second, .val (.long q2), .second, .val (.long q3), .second, .val (.long q4), .second, .val (.long va), .second, .val (.long vb), .second, .val (.long vc), .second, .val (.long vt), .second, .val (.long c0), .second, .val (.long c1), .second, .val (.long c2), .second, .val (.ref b470), .val (.ref b472), .val (.long (((own_hd va c0 vt) + (own_hd vb c1 vt)) + (own_hd vc c2 vt))), .second]) rfl k) ?_
  refine own_go (g' := (mkF m 228 #[.val (.long q0), .second, .val (.long q1), .second, .val (.long q2), .second, .val (.long q3), .second, .val (.long q4), .second, .val (.long va), .second, .val (.long vb), .second, .val (.long vc), .second, .val (.long vt), .second, .val (.long c0), .second, .val (.long c1), .second, .val (.long c2), .second, .val (.ref b470), .val (.ref b472), .val (.long (((own_hd va c0 vt) + (own_hd vb c1 vt)) + (own_hd vc c2 vt))), .second] [(.ref b472)])) (fun _ k => XS.aload X492.here hx rfl (hb hby at_226) rfl rfl k) ?_
  refine own_go (g' := (mkF m 230 #[.val (.long q0), .second, .val (.long q1), .second, .val (.long q2), .second, .val (.long q3), .second, .val (.long q4), .second, .val (.long va), .second, .val (.long vb), .second, .val (.long vc), .second, .val (.long vt), .second, .val (.long c0), .second, .val (.long c1), .second, .val (.long c2), .second, .val (.ref b470), .val (.ref b472), .val (.long (((own_hd va c0 vt) + (own_hd vb c1 vt)) + (own_hd vc c2 vt))), .second] [(.long vt), (.ref b472)])) (fun _ k => XT.lload X492.here hx rfl (hb hby at_228) rfl k) ?_
  refine own_callV X492 hx hZ hown e492 (C := "com/example/gangplank/gangplank/space/HeldFromNow") (y := (⟨"com/example/gangplank/gangplank/space/HeldFromNow", "heldAt", "(J)J"⟩ : MethodName)) (rm := ({ frames := 0, cells := 0, slots := 0, locals := 0 } : Room)) (hw _ (List.mem_of_getElem? (i := 138) rfl)) (hw _ (List.mem_of_getElem? (i := 139) rfl)) (hw _ (List.mem_of_getElem? (i := 141) rfl)) (hw _ (List.mem_of_getElem? (i := 140) rfl)) (hw _ (List.mem_of_getElem? (i := 40) rfl)) (hw _ (List.mem_of_getElem? (i := 142) rfl)) (by decide) (a := b472) B489.1 (argsL := [(.long vt)]) (rest := []) (own_rmHA l Z a0 hw [] b472 au ac ao af ah oi ou 1 3 fl om (-9223372036854775808 : Int64) hn vt fa (own_cf g hn F) F T489.heap n0 B489 Fa9 Fh9 hfl (by have := hI.1; omega) hI.2.1) (by rw [hml]; rfl) pd_21 rfl rfl (hb hby at_230) (W := 0) (Nat.le_of_eq rfl) (by decide) (by decide) (by decide) (by decide) ?_
  intro v493 T493 L493 X493 hQ493
  obtain ⟨⟨M, hM, h3, h4, hv⟩, e493, rfl⟩ := hQ493
  obtain ⟨r, hr⟩ : ∃ z : Int64, z = (if M = 0 then hn else own_cf g hn F (M - 1)) := ⟨_, rfl⟩
  rw [← hr] at hv
  subst hv
  rw [List.append_nil] at X493
  show own_Go p e below _ T493 (mkF m 233 #[.val (.long q0), .second, .val (.long q1), .second, .val (.long q2), .second, .val (.long q3), .second, .val (.long q4), .second, .val (.long va), .second, .val (.long vb), .second, .val (.long vc), .second, .val (.long vt), .second, .val (.long c0), .second, .val (.long c1), .second, .val (.long c2), .second, .val (.ref b470), .val (.ref b472), .val (.long (((own_hd va c0 vt) + (own_hd vb c1 vt)) + (own_hd vc c2 vt))), .second] [(.long r)])
  refine own_go (g' := (mkF m 235 #[.val (.long q0), .second, .val (.long q1), .second, .val (.long q2), .second, .val (.long q3), .second, .val (.long q4), .second, .val (.long va), .second, .val (.long vb), .second, .val (.long vc), .second, .val (.long vt), .second, .val (.long c0), .second, .val (.long c1), .second, .val (.long c2), .second, .val (.ref b470), .val (.ref b472), .val (.long (((own_hd va c0 vt) + (own_hd vb c1 vt)) + (own_hd vc c2 vt))), .second] [(.long (((own_hd va c0 vt) + (own_hd vb c1 vt)) + (own_hd vc c2 vt))), (.long r)])) (fun _ k => XT.lload X493.here hx rfl (hb hby at_233) rfl k) ?_
  refine own_go (g' := (mkF m 236 #[.val (.long q0), .second, .val (.long q1), .second, .val (.long q2), .second, .val (.long q3), .second, .val (.long q4), .second, .val (.long va), .second, .val (.long vb), .second, .val (.long vc), .second, .val (.long vt), .second, .val (.long c0), .second, .val (.long c1), .second, .val (.long c2), .second, .val (.ref b470), .val (.ref b472), .val (.long (((own_hd va c0 vt) + (own_hd vb c1 vt)) + (own_hd vc c2 vt))), .second] [(.int (XT.cmpL r (((own_hd va c0 vt) + (own_hd vb c1 vt)) + (own_hd vc c2 vt))))])) (fun _ k => XT.lcmp X493.here hx rfl (hb hby at_235) rfl k) ?_
  refine own_go (g' := (mkF m 239 #[.val (.long q0), .second, .val (.long q1), .second, .val (.long q2), .second, .val (.long q3), .second, .val (.long q4), .second, .val (.long va), .second, .val (.long vb), .second, .val (.long vc), .second, .val (.long vt), .second, .val (.long c0), .second, .val (.long c1), .second, .val (.long c2), .second, .val (.ref b470), .val (.ref b472), .val (.long (((own_hd va c0 vt) + (own_hd vb c1 vt)) + (own_hd vc c2 vt))), .second] [])) (fun _ k => XS.ifNo X493.here hx rfl (hb hby at_236) rfl (XT.ll_ne_f (hr.trans (own_final hI pm hM h3 h4))) k) ?_
  refine own_go (g' := (mkF m 240 #[.val (.long q0), .second, .val (.long q1), .second, .val (.long q2), .second, .val (.long q3), .second, .val (.long q4), .second, .val (.long va), .second, .val (.long vb), .second, .val (.long vc), .second, .val (.long vt), .second, .val (.long c0), .second, .val (.long c1), .second, .val (.long c2), .second, .val (.ref b470), .val (.ref b472), .val (.long (((own_hd va c0 vt) + (own_hd vb c1 vt)) + (own_hd vc c2 vt))), .second] [(.int (1 : Int32))])) (fun _ k => XS.iconst X493.here hx rfl (hb hby at_239) k) ?_
  refine own_go (g' := (mkF m 244 #[.val (.long q0), .second, .val (.long q1), .second, .val (.long q2), .second, .val (.long q3), .second, .val (.long q4), .second, .val (.long va), .second, .val (.long vb), .second, .val (.long vc), .second, .val (.long vt), .second, .val (.long c0), .second, .val (.long c1), .second, .val (.long c2), .second, .val (.ref b470), .val (.ref b472), .val (.long (((own_hd va c0 vt) + (own_hd vb c1 vt)) + (own_hd vc c2 vt))), .second] [(.int (1 : Int32))])) (fun _ k => XS.goto X493.here hx rfl (pc0 := 240) (pc' := 244) rfl (hb hby at_240) (by decide) (by decide) k) ?_
  exact own_retZ X493 hx hlk hret e493 (hb hby at_244) ⟨rfl, N489⟩ (by decide) (by decide)
set_option maxRecDepth 65536 in
set_option maxHeartbeats 40000000 in
theorem comes_1 {Post : Tables → Env → Array Value → State → Outcome → State → Prop} (hpost : ∀ tb e args s v u, (limb_1_1.after args s (.returned v) u = true ∧ limb_1_2.after args s (.returned v) u = true ∧ True) → FrameEnd s (.returned v) u (Jvm.fieldLocs frame_1_writes args s ++ Jvm.arrayLocs frame_1_arrays args s ++ Jvm.staticLocs frame_1_statics s) 32 320 → Post tb e args s (.returned v) u) :
    ArmFor flags0 classFile x code maxLocals ret World_1 tables_1 room_1 Calls_1 rest_1 Pre_1 Post := by
  intro l hfl _ _ p e ha hc hk s m args below hf hA hF happ hP
  obtain ⟨hcalls, hrest, hpre⟩ := hP
  obtain ⟨-, -, -, hnamed, -, -, -, hat⟩ := (Spec.applies_iff hf).mp happ
  obtain ⟨hg, hn⟩ := and_e (Cond.before_iff.mp (show (Jvm.Cond.and given_1 narrow_1).before args s = true from hpre))
  obtain ⟨h1, g0⟩ := and_e hg
  obtain ⟨k0, g1⟩ := and_e g0
  obtain ⟨k1, g2⟩ := and_e g1
  obtain ⟨k2, g3⟩ := and_e g2
  obtain ⟨k3, g4⟩ := and_e g3
  have k4 := g4
  obtain ⟨w0, w1, w2, w3, w4, rfl⟩ : ∃ w0 w1 w2 w3 w4 : Value, args = #[w0, w1, w2, w3, w4] := by
    have hs : args.size = 5 := by simpa [Cond.value, given_1] using h1
    obtain ⟨L⟩ := args
    match L, hs with
    | [w0, w1, w2, w3, w4], _ => exact ⟨w0, w1, w2, w3, w4, rfl⟩
  have hw := fun d (hd : d ∈ tables_1) => atoms_spec (ws := Jvm.Cond.code x code maxLocals ret :: tables_1) hat d (List.mem_cons_of_mem _ hd)
  obtain ⟨i0, e0⟩ := isL_v k0
  obtain rfl : w0 = (.long i0) := Option.some.inj e0
  obtain ⟨i1, e1⟩ := isL_v k1
  obtain rfl : w1 = (.long i1) := Option.some.inj e1
  obtain ⟨i2, e2⟩ := isL_v k2
  obtain rfl : w2 = (.long i2) := Option.some.inj e2
  obtain ⟨i3, e3⟩ := isL_v k3
  obtain rfl : w3 = (.long i3) := Option.some.inj e3
  obtain ⟨i4, e4⟩ := isL_v k4
  obtain rfl : w4 = (.long i4) := Option.some.inj e4
  obtain ⟨n, o, h1, h2, h3, _, L, rfl, ⟨rfl, N⟩, hq⟩ := own_rm0 l s _ hw tables_1 i0 i1 i2 i3 i4  s.heap s.heap.size (Nat.le_refl _)  p e ha hc hk s m _ below hf ((Spec.applies_iff_loose hf).mp happ).1 ⟨rfl, State.Warmed39.refl s, rfl⟩ trivial
  refine ⟨n, _, h1, h2, h3, hpost _ _ _ _ _ _ ⟨Cond.after_iff.mpr rfl, Cond.after_iff.mpr (eq_i res_at (Term.int_eval (1)) rfl), trivial⟩ ⟨hq.1, hq.2.1, (hq.2.2.sift fun y hy => Or.inr (N y hy)).mono (by decide) (by decide)⟩⟩
theorem main_1_1 : Claimed_1_1 := comes_1 fun _ _ _ _ _ _ h hF => ⟨h.1, hF⟩
theorem main_1_2 : Claimed_1_2 := comes_1 fun _ _ _ _ _ _ h hF => ⟨h.2.1, hF⟩
end Jvm.Pilot.@@N@@
namespace Jvm.Pilot.@@N@@
open Jvm Jvm.ClassFile Sem Op Lib Jvm.Free Jvm.Stand Jvm.Pilot.@@N@@.Jvm.D
/-! MADE BY PROGRAM (witnessworld.py) out of the Statement's table words and the real class files: 21 classes; the members and pool entries that the words name. The judged class is class 1, her method 1. -/
namespace start1
open Jvm.ClassFile
def u (s : String) : CpInfo := .utf8 (stringToUtf16 s)
/-- a pool by its gaps: so many unusable entries, then the entry; so many at the end -/
def gap : Nat → List CpInfo → List CpInfo
  | 0, r => r
  | n + 1, r => .unusable :: gap n r
def poolList (es : List (Nat × CpInfo)) (last : Nat) : List CpInfo := es.foldr (fun e r => gap e.1 (e.2 :: r)) (gap last [])
def pool (es : List (Nat × CpInfo)) (last : Nat) : Array CpInfo := ⟨poolList es last⟩
def fileOf (pool : Array CpInfo) (this : Nat) (attrs : Array Attribute := #[]) (ms : Array MethodInfo := #[]) (fl : Nat := 33) (sup : Nat := 0) (ifs : Array Nat := #[]) (fds : Array FieldInfo := #[]) : ClassFile where
  minorVersion := 0
  majorVersion := 65
  constantPool := pool
  accessFlags := fl
  thisClass := this
  superClass := sup
  interfaces := ifs
  fields := fds
  methods := ms
  attributes := attrs
def plain (name : String) (sup : Option ClassId) : Class where
  name := name
  kind := .ordinary
  loader := none
  accessFlags := 33
  super := sup
  interfaces := #[]
  cf := none
  fields := #[]
  methods := #[]
  instanceTypes := #[]
  staticTypes := #[]
  resolved := #[]
  callSites := []
  init := .initialized
  statics := none
  mirror := none

def pool0 : Array CpInfo := pool [(5, u "<init>"), (0, u "()V"), (1, .class_ 10), (1, u "java/lang/Object")] 113

def k0c0 : Code := { maxStack := 0, maxLocals := 1, code := object_method_1_code, exceptionTable := #[], attributes := #[] }
def k0m0 : Method := { name := "<init>", desc := "()V", sig := { parameters := [], returnType := none }, accessFlags := 1, code := some k0c0 }
/-- java/lang/Object -/
def k0 : Class := { plain "java/lang/Object" none with
  accessFlags := 33
  interfaces := #[]
  cf := some (fileOf pool0 8 #[] #[{ accessFlags := 1, nameIndex := 5, descriptorIndex := 6, attributes := #[] }] 33 0 #[] #[])
  fields := #[]
  methods := #[k0m0]
  instanceTypes := #[]
  staticTypes := #[]
  resolved := Array.replicate 124 none
  statics := none }

def pool1 : Array CpInfo := pool [(2, .class_ 4), (0, .nameAndType 5 6), (0, u "java/lang/Object"), (0, u "<init>"), (0, u "()V"), (2, .long 9223372036854775809), (1, .methodref 12 13), (0, .class_ 14), (0, .nameAndType 15 16), (0, u "java/lang/Math"), (0, u "max"), (0, u "(JJ)J"), (0, .long 65535), (1, .long 256), (1, .class_ 22), (0, u "com/example/gangplank/gangplank/workload/Job"), (0, .methodref 21 24), (0, .nameAndType 5 25), (0, u "(IJIJJ)V"), (0, .class_ 27), (0, u "com/example/gangplank/gangplank/space/HeldFromNow"), (0, .methodref 26 3), (0, .long 9223372036854775808), (1, .methodref 26 32), (0, .nameAndType 33 34), (0, u "restart"), (0, u "(J)V"), (0, .methodref 26 36), (0, .nameAndType 37 38), (0, u "add"), (0, u "(JJLcom/example/gangplank/gangplank/workload/Job;)V"), (0, .methodref 26 40), (0, .nameAndType 41 42), (0, u site_191.name), (0, u "()Lcom/example/gangplank/gangplank/space/HeldFromNow;"), (0, .methodref 44 45), (0, .class_ 46), (0, .nameAndType 47 48), (0, u "com/example/gangplank/gangplank/space/HeldFromNowHeldAtPinLaw"), (0, u "held"), (0, u "(JJJ)J"), (0, .methodref 26 50), (0, .nameAndType 51 52), (0, u "heldAt"), (0, u "(J)J"), (2, u "law"), (0, u "(JJJJJ)Z")] 3

def k1m0 : Method := { name := "<init>", desc := "()V", sig := { parameters := [], returnType := none }, accessFlags := 1, code := none }
def k1c1 : Code := { maxStack := 10, maxLocals := 28, code := code, exceptionTable := #[], attributes := #[] }
def k1m1 : Method := { name := "law", desc := "(JJJJJ)Z", sig := { parameters := [.long, .long, .long, .long, .long], returnType := some .boolean }, accessFlags := 9, code := some k1c1 }
def k1c2 : Code := { maxStack := 4, maxLocals := 6, code := method_3_code, exceptionTable := #[], attributes := #[] }
def k1m2 : Method := { name := "held", desc := "(JJJ)J", sig := { parameters := [.long, .long, .long], returnType := some .long }, accessFlags := 10, code := some k1c2 }
/-- com/example/gangplank/gangplank/space/HeldFromNowHeldAtPinLaw -/
def k1 : Class := { plain "com/example/gangplank/gangplank/space/HeldFromNowHeldAtPinLaw" (some 0) with
  accessFlags := 49
  interfaces := #[]
  cf := some (fileOf pool1 44 #[] #[{ accessFlags := 1, nameIndex := 5, descriptorIndex := 6, attributes := #[] }, { accessFlags := 9, nameIndex := 55, descriptorIndex := 56, attributes := #[] }, { accessFlags := 10, nameIndex := 47, descriptorIndex := 48, attributes := #[] }] 49 2 #[] #[])
  fields := #[]
  methods := #[k1m0, k1m1, k1m2]
  instanceTypes := #[]
  staticTypes := #[]
  resolved := Array.replicate 60 none
  statics := none }

def pool2 : Array CpInfo := pool [(1, .class_ 2), (0, u "java/lang/Math"), (1, .class_ 6), (1, u "java/lang/Object"), (0, u "<init>"), (0, u "()V"), (89, .class_ 100), (1, u "java/lang/Math$RandomNumberGeneratorHolder"), (20, u "(JJ)J"), (50, u "negativeZeroFloatBits"), (0, u "J"), (2, u "negativeZeroDoubleBits"), (21, u "max"), (46, u "$assertionsDisabled"), (0, u "Z"), (88, u "(II)I"), (2, u "twoToTheDoubleScaleDown"), (0, u "D"), (4, u "twoToTheDoubleScaleUp"), (9, u "E"), (3, u "PI"), (2, u "TAU"), (2, u "DEGREES_TO_RADIANS"), (0, u "RADIANS_TO_DEGREES")] 94

def k2m0 : Method := { name := "<init>", desc := "()V", sig := { parameters := [], returnType := none }, accessFlags := 2, code := none }
def k2c1 : Code := { maxStack := 2, maxLocals := 2, code := jdk_29_method_65_code, exceptionTable := #[], attributes := #[] }
def k2m1 : Method := { name := "max", desc := "(II)I", sig := { parameters := [.int, .int], returnType := some .int }, accessFlags := 9, code := some k2c1 }
def k2c2 : Code := { maxStack := 4, maxLocals := 4, code := jdk_29_method_66_code, exceptionTable := #[], attributes := #[] }
def k2m2 : Method := { name := "max", desc := "(JJ)J", sig := { parameters := [.long, .long], returnType := some .long }, accessFlags := 9, code := some k2c2 }
/-- java/lang/Math -/
def k2 : Class := { plain "java/lang/Math" (some 0) with
  accessFlags := 49
  interfaces := #[]
  cf := some (fileOf pool2 1 #[.nestMembers #[98]] #[{ accessFlags := 2, nameIndex := 7, descriptorIndex := 8, attributes := #[] }, { accessFlags := 9, nameIndex := 198, descriptorIndex := 335, attributes := #[] }, { accessFlags := 9, nameIndex := 198, descriptorIndex := 121, attributes := #[] }] 49 4 #[] #[{ accessFlags := 25, nameIndex := 354, descriptorIndex := 339, attributes := #[] }, { accessFlags := 25, nameIndex := 358, descriptorIndex := 339, attributes := #[] }, { accessFlags := 25, nameIndex := 361, descriptorIndex := 339, attributes := #[] }, { accessFlags := 26, nameIndex := 364, descriptorIndex := 339, attributes := #[] }, { accessFlags := 26, nameIndex := 365, descriptorIndex := 339, attributes := #[] }, { accessFlags := 26, nameIndex := 172, descriptorIndex := 173, attributes := #[] }, { accessFlags := 26, nameIndex := 176, descriptorIndex := 173, attributes := #[] }, { accessFlags := 8, nameIndex := 344, descriptorIndex := 339, attributes := #[] }, { accessFlags := 8, nameIndex := 338, descriptorIndex := 339, attributes := #[] }, { accessFlags := 4120, nameIndex := 245, descriptorIndex := 246, attributes := #[] }])
  fields := #[{ name := "E", type := .double, accessFlags := 25, slot := 0, constantValue := 0 }, { name := "PI", type := .double, accessFlags := 25, slot := 1, constantValue := 0 }, { name := "TAU", type := .double, accessFlags := 25, slot := 2, constantValue := 0 }, { name := "DEGREES_TO_RADIANS", type := .double, accessFlags := 26, slot := 3, constantValue := 0 }, { name := "RADIANS_TO_DEGREES", type := .double, accessFlags := 26, slot := 4, constantValue := 0 }, { name := "negativeZeroFloatBits", type := .long, accessFlags := 26, slot := 5, constantValue := 0 }, { name := "negativeZeroDoubleBits", type := .long, accessFlags := 26, slot := 6, constantValue := 0 }, { name := "twoToTheDoubleScaleUp", type := .double, accessFlags := 8, slot := 7, constantValue := 0 }, { name := "twoToTheDoubleScaleDown", type := .double, accessFlags := 8, slot := 8, constantValue := 0 }, { name := "$assertionsDisabled", type := .boolean, accessFlags := 4120, slot := 9, constantValue := 0 }]
  methods := #[k2m0, k2m1, k2m2]
  instanceTypes := #[]
  staticTypes := #[.double, .double, .double, .double, .double, .long, .long, .double, .double, .boolean]
  resolved := Array.replicate 460 none
  statics := none }

def pool3 : Array CpInfo := pool [(1, .methodref 2 3), (0, .class_ 4), (0, .nameAndType 5 6), (0, u "java/lang/Object"), (0, u "<init>"), (0, u "()V"), (0, .class_ 8), (0, u "java/lang/Record")] 13

def k3c0 : Code := { maxStack := 1, maxLocals := 1, code := jdk_30_method_1_code, exceptionTable := #[], attributes := #[] }
def k3m0 : Method := { name := "<init>", desc := "()V", sig := { parameters := [], returnType := none }, accessFlags := 4, code := some k3c0 }
/-- java/lang/Record -/
def k3 : Class := { plain "java/lang/Record" (some 0) with
  accessFlags := 1057
  interfaces := #[]
  cf := some (fileOf pool3 7 #[] #[{ accessFlags := 4, nameIndex := 5, descriptorIndex := 6, attributes := #[] }] 1057 2 #[] #[])
  fields := #[]
  methods := #[k3m0]
  instanceTypes := #[]
  staticTypes := #[]
  resolved := Array.replicate 22 none
  statics := none }

def pool4 : Array CpInfo := pool [(1, .methodref 2 3), (0, .class_ 4), (0, .nameAndType 5 6), (0, u "java/lang/Record"), (0, u "<init>"), (0, u "()V"), (0, .fieldref 8 9), (0, .class_ 10), (0, .nameAndType 11 12), (0, u "com/example/gangplank/gangplank/workload/Job"), (0, u "index"), (0, u "I"), (0, .fieldref 8 14), (0, .nameAndType 15 16), (0, u "submit"), (0, u "J"), (0, .fieldref 8 18), (0, .nameAndType 19 12), (0, u "size"), (0, .fieldref 8 21), (0, .nameAndType 22 16), (0, u "run"), (0, .fieldref 8 24), (0, .nameAndType 25 16), (0, u "estimate"), (0, .fieldref 8 27), (0, .nameAndType 28 16), (0, u "processes"), (0, .fieldref 8 30), (0, .nameAndType 31 16), (0, u "memory"), (0, .methodref 8 33), (0, .nameAndType 5 34), (0, u "(IJIJJJJ)V"), (19, u "(IJIJJ)V"), (9, u "()I")] 42

def k4c0 : Code := { maxStack := 13, maxLocals := 9, code := prog_245_method_1_code, exceptionTable := #[], attributes := #[] }
def k4m0 : Method := { name := "<init>", desc := "(IJIJJ)V", sig := { parameters := [.int, .long, .int, .long, .long], returnType := none }, accessFlags := 1, code := some k4c0 }
def k4c1 : Code := { maxStack := 3, maxLocals := 13, code := prog_245_method_3_code, exceptionTable := #[], attributes := #[] }
def k4m1 : Method := { name := "<init>", desc := "(IJIJJJJ)V", sig := { parameters := [.int, .long, .int, .long, .long, .long, .long], returnType := none }, accessFlags := 1, code := some k4c1 }
def k4c2 : Code := { maxStack := 1, maxLocals := 1, code := prog_245_method_7_code, exceptionTable := #[], attributes := #[] }
def k4m2 : Method := { name := "index", desc := "()I", sig := { parameters := [], returnType := some .int }, accessFlags := 1, code := some k4c2 }
/-- com/example/gangplank/gangplank/workload/Job -/
def k4 : Class := { plain "com/example/gangplank/gangplank/workload/Job" (some 3) with
  accessFlags := 49
  interfaces := #[]
  cf := some (fileOf pool4 8 #[] #[{ accessFlags := 1, nameIndex := 5, descriptorIndex := 54, attributes := #[] }, { accessFlags := 1, nameIndex := 5, descriptorIndex := 34, attributes := #[] }, { accessFlags := 1, nameIndex := 11, descriptorIndex := 64, attributes := #[] }] 49 2 #[] #[{ accessFlags := 18, nameIndex := 11, descriptorIndex := 12, attributes := #[] }, { accessFlags := 18, nameIndex := 15, descriptorIndex := 16, attributes := #[] }, { accessFlags := 18, nameIndex := 19, descriptorIndex := 12, attributes := #[] }, { accessFlags := 18, nameIndex := 22, descriptorIndex := 16, attributes := #[] }, { accessFlags := 18, nameIndex := 25, descriptorIndex := 16, attributes := #[] }, { accessFlags := 18, nameIndex := 28, descriptorIndex := 16, attributes := #[] }, { accessFlags := 18, nameIndex := 31, descriptorIndex := 16, attributes := #[] }])
  fields := #[{ name := "index", type := .int, accessFlags := 18, slot := 0, constantValue := 0 }, { name := "submit", type := .long, accessFlags := 18, slot := 1, constantValue := 0 }, { name := "size", type := .int, accessFlags := 18, slot := 2, constantValue := 0 }, { name := "run", type := .long, accessFlags := 18, slot := 3, constantValue := 0 }, { name := "estimate", type := .long, accessFlags := 18, slot := 4, constantValue := 0 }, { name := "processes", type := .long, accessFlags := 18, slot := 5, constantValue := 0 }, { name := "memory", type := .long, accessFlags := 18, slot := 6, constantValue := 0 }]
  methods := #[k4m0, k4m1, k4m2]
  instanceTypes := #[.int, .long, .int, .long, .long, .long, .long]
  staticTypes := #[]
  resolved := Array.replicate 107 none
  statics := none }

def pool5 : Array CpInfo := pool [(1, .methodref 2 3), (0, .class_ 4), (0, .nameAndType 5 6), (0, u "java/lang/Object"), (0, u "<init>"), (0, u "()V"), (0, .fieldref 8 9), (0, .class_ 10), (0, .nameAndType 11 12), (0, u "com/example/gangplank/gangplank/space/HeldFromNow"), (0, u "untils"), (0, u "[J"), (0, .fieldref 8 14), (0, .nameAndType 15 12), (0, u "counts"), (0, .class_ 17), (0, u "com/example/gangplank/gangplank/workload/Job"), (0, .fieldref 8 19), (0, .nameAndType 20 21), (0, u "owners"), (0, u "[Lcom/example/gangplank/gangplank/workload/Job;"), (0, .fieldref 8 23), (0, .nameAndType 24 25), (0, u "sorted"), (0, u "Z"), (0, .fieldref 8 27), (0, .nameAndType 28 12), (0, u "fallAt"), (0, .fieldref 8 30), (0, .nameAndType 31 12), (0, u "heldFrom"), (0, .fieldref 8 33), (0, .nameAndType 34 35), (0, u "ownerIndexes"), (0, u "[I"), (0, .fieldref 8 37), (0, .nameAndType 38 12), (0, u "ownerUntils"), (0, .fieldref 8 40), (0, .nameAndType 41 42), (0, u "now"), (0, u "J"), (0, .fieldref 8 44), (0, .nameAndType 45 46), (0, u "size"), (0, u "I"), (1, .class_ 50), (1, u "java/util/Arrays"), (6, .methodref 8 58), (0, .nameAndType 59 6), (0, u "sortByEnd"), (0, .fieldref 8 61), (0, .nameAndType 62 42), (0, u "heldNow"), (0, .fieldref 8 64), (0, .nameAndType 65 46), (0, u "falls"), (0, .methodref 8 67), (0, .nameAndType 68 69), (0, u "fall"), (0, u "([J[JIJJ)V"), (0, .methodref 8 71), (0, .nameAndType 72 73), (0, u "countsFrom"), (0, u "([J[JIJ)V"), (0, .methodref 8 75), (0, .nameAndType 76 6), (0, u "layOutOwners"), (0, .methodref 78 79), (0, .class_ 80), (0, .nameAndType 81 82), (0, u "java/lang/Math"), (0, u "max"), (0, u "(II)I"), (0, .methodref 84 85), (0, .class_ 86), (0, .nameAndType 87 88), (0, u "java/lang/Integer"), (0, u "highestOneBit"), (0, u "(I)I"), (0, .fieldref 8 90), (0, .nameAndType 91 46), (0, u "ownerMask"), (0, .methodref 48 93), (0, .nameAndType 94 95), (0, u "fill"), (0, u "([IIII)V"), (0, .methodref 16 97), (0, .nameAndType 98 99), (0, u "index"), (0, u "()I"), (0, .methodref 8 101), (0, .nameAndType 102 88), (0, u "ownerSlot"), (0, .methodref 78 104), (0, .nameAndType 81 105), (0, u "(JJ)J"), (0, .long 11400714819323198485), (3, .long 9223372036854775808), (4, u "restart"), (0, u "(J)V"), (0, u "add"), (0, u "(JJLcom/example/gangplank/gangplank/workload/Job;)V"), (1, u site_191.name), (0, u "()Lcom/example/gangplank/gangplank/space/HeldFromNow;"), (2, u "heldAt"), (0, u "(J)J"), (3, .class_ 130), (0, u "com/example/gangplank/gangplank/space/HeldFromNow$WithGroup")] 2

def k5c0 : Code := { maxStack := 2, maxLocals := 1, code := prog_214_method_1_code, exceptionTable := #[], attributes := #[] }
def k5m0 : Method := { name := "<init>", desc := "()V", sig := { parameters := [], returnType := none }, accessFlags := 0, code := some k5c0 }
def k5c1 : Code := { maxStack := 3, maxLocals := 3, code := prog_214_method_3_code, exceptionTable := #[], attributes := #[] }
def k5m1 : Method := { name := "restart", desc := "(J)V", sig := { parameters := [.long], returnType := none }, accessFlags := 0, code := some k5c1 }
def k5c2 : Code := { maxStack := 6, maxLocals := 6, code := prog_214_method_4_code, exceptionTable := #[], attributes := #[] }
def k5m2 : Method := { name := "add", desc := "(JJLcom/example/gangplank/gangplank/workload/Job;)V", sig := { parameters := [.long, .long, (.object "com/example/gangplank/gangplank/workload/Job")], returnType := none }, accessFlags := 0, code := some k5c2 }
def k5c3 : Code := { maxStack := 7, maxLocals := 2, code := prog_214_method_5_code, exceptionTable := #[], attributes := #[] }
def k5m3 : Method := { name := site_191.name, desc := "()Lcom/example/gangplank/gangplank/space/HeldFromNow;", sig := { parameters := [], returnType := some (.object "com/example/gangplank/gangplank/space/HeldFromNow") }, accessFlags := 0, code := some k5c3 }
def k5c4 : Code := { maxStack := 6, maxLocals := 4, code := prog_214_method_6_code, exceptionTable := #[], attributes := #[] }
def k5m4 : Method := { name := "layOutOwners", desc := "()V", sig := { parameters := [], returnType := none }, accessFlags := 2, code := some k5c4 }
def k5c5 : Code := { maxStack := 4, maxLocals := 3, code := prog_214_method_7_code, exceptionTable := #[], attributes := #[] }
def k5m5 : Method := { name := "ownerSlot", desc := "(I)I", sig := { parameters := [.int], returnType := some .int }, accessFlags := 2, code := some k5c5 }
def k5c6 : Code := { maxStack := 4, maxLocals := 6, code := prog_214_method_9_code, exceptionTable := #[], attributes := #[] }
def k5m6 : Method := { name := "heldAt", desc := "(J)J", sig := { parameters := [.long], returnType := some .long }, accessFlags := 0, code := some k5c6 }
def k5c7 : Code := { maxStack := 6, maxLocals := 7, code := prog_214_method_10_code, exceptionTable := #[], attributes := #[] }
def k5m7 : Method := { name := "fall", desc := "([J[JIJJ)V", sig := { parameters := [(.array .long), (.array .long), .int, .long, .long], returnType := none }, accessFlags := 10, code := some k5c7 }
def k5c8 : Code := { maxStack := 6, maxLocals := 8, code := prog_214_method_11_code, exceptionTable := #[], attributes := #[] }
def k5m8 : Method := { name := "countsFrom", desc := "([J[JIJ)V", sig := { parameters := [(.array .long), (.array .long), .int, .long], returnType := none }, accessFlags := 10, code := some k5c8 }
def k5c9 : Code := { maxStack := 5, maxLocals := 8, code := prog_214_method_12_code, exceptionTable := #[], attributes := #[] }
def k5m9 : Method := { name := "sortByEnd", desc := "()V", sig := { parameters := [], returnType := none }, accessFlags := 2, code := some k5c9 }
/-- com/example/gangplank/gangplank/space/HeldFromNow -/
def k5 : Class := { plain "com/example/gangplank/gangplank/space/HeldFromNow" (some 0) with
  accessFlags := 48
  interfaces := #[]
  cf := some (fileOf pool5 8 #[.nestMembers #[129]] #[{ accessFlags := 0, nameIndex := 5, descriptorIndex := 6, attributes := #[] }, { accessFlags := 0, nameIndex := 115, descriptorIndex := 116, attributes := #[] }, { accessFlags := 0, nameIndex := 117, descriptorIndex := 118, attributes := #[] }, { accessFlags := 0, nameIndex := 120, descriptorIndex := 121, attributes := #[] }, { accessFlags := 2, nameIndex := 76, descriptorIndex := 6, attributes := #[] }, { accessFlags := 2, nameIndex := 102, descriptorIndex := 88, attributes := #[] }, { accessFlags := 0, nameIndex := 124, descriptorIndex := 125, attributes := #[] }, { accessFlags := 10, nameIndex := 68, descriptorIndex := 69, attributes := #[] }, { accessFlags := 10, nameIndex := 72, descriptorIndex := 73, attributes := #[] }, { accessFlags := 2, nameIndex := 59, descriptorIndex := 6, attributes := #[] }] 48 2 #[] #[{ accessFlags := 2, nameIndex := 41, descriptorIndex := 42, attributes := #[] }, { accessFlags := 2, nameIndex := 11, descriptorIndex := 12, attributes := #[] }, { accessFlags := 2, nameIndex := 15, descriptorIndex := 12, attributes := #[] }, { accessFlags := 2, nameIndex := 20, descriptorIndex := 21, attributes := #[] }, { accessFlags := 2, nameIndex := 45, descriptorIndex := 46, attributes := #[] }, { accessFlags := 2, nameIndex := 24, descriptorIndex := 25, attributes := #[] }, { accessFlags := 2, nameIndex := 28, descriptorIndex := 12, attributes := #[] }, { accessFlags := 2, nameIndex := 31, descriptorIndex := 12, attributes := #[] }, { accessFlags := 2, nameIndex := 65, descriptorIndex := 46, attributes := #[] }, { accessFlags := 2, nameIndex := 62, descriptorIndex := 42, attributes := #[] }, { accessFlags := 2, nameIndex := 34, descriptorIndex := 35, attributes := #[] }, { accessFlags := 2, nameIndex := 38, descriptorIndex := 12, attributes := #[] }, { accessFlags := 2, nameIndex := 91, descriptorIndex := 46, attributes := #[] }])
  fields := #[{ name := "now", type := .long, accessFlags := 2, slot := 0, constantValue := 0 }, { name := "untils", type := (.array .long), accessFlags := 2, slot := 1, constantValue := 0 }, { name := "counts", type := (.array .long), accessFlags := 2, slot := 2, constantValue := 0 }, { name := "owners", type := (.array (.object "com/example/gangplank/gangplank/workload/Job")), accessFlags := 2, slot := 3, constantValue := 0 }, { name := "size", type := .int, accessFlags := 2, slot := 4, constantValue := 0 }, { name := "sorted", type := .boolean, accessFlags := 2, slot := 5, constantValue := 0 }, { name := "fallAt", type := (.array .long), accessFlags := 2, slot := 6, constantValue := 0 }, { name := "heldFrom", type := (.array .long), accessFlags := 2, slot := 7, constantValue := 0 }, { name := "falls", type := .int, accessFlags := 2, slot := 8, constantValue := 0 }, { name := "heldNow", type := .long, accessFlags := 2, slot := 9, constantValue := 0 }, { name := "ownerIndexes", type := (.array .int), accessFlags := 2, slot := 10, constantValue := 0 }, { name := "ownerUntils", type := (.array .long), accessFlags := 2, slot := 11, constantValue := 0 }, { name := "ownerMask", type := .int, accessFlags := 2, slot := 12, constantValue := 0 }]
  methods := #[k5m0, k5m1, k5m2, k5m3, k5m4, k5m5, k5m6, k5m7, k5m8, k5m9]
  instanceTypes := #[.long, (.array .long), (.array .long), (.array (.object "com/example/gangplank/gangplank/workload/Job")), .int, .boolean, (.array .long), (.array .long), .int, .long, (.array .int), (.array .long), .int]
  staticTypes := #[]
  resolved := Array.replicate 133 none
  statics := none }

def pool6 : Array CpInfo := pool [(1, .class_ 2), (0, u "java/io/Serializable"), (0, .class_ 4), (0, u "java/lang/Object")] 2

/-- java/io/Serializable -/
def k6 : Class := { plain "java/io/Serializable" (some 0) with
  accessFlags := 1537
  interfaces := #[]
  cf := some (fileOf pool6 1 #[] #[] 1537 3 #[] #[])
  fields := #[]
  methods := #[]
  instanceTypes := #[]
  staticTypes := #[]
  resolved := Array.replicate 7 none
  statics := none }

def pool7 : Array CpInfo := pool [(2, .class_ 4), (1, u "java/lang/Object"), (0, u "<init>"), (0, u "()V"), (1, .class_ 10), (1, u "java/lang/Number"), (2, .class_ 14), (0, u "java/io/Serializable"), (0, u "serialVersionUID"), (0, u "J")] 20

def k7m0 : Method := { name := "<init>", desc := "()V", sig := { parameters := [], returnType := none }, accessFlags := 1, code := none }
/-- java/lang/Number -/
def k7 : Class := { plain "java/lang/Number" (some 0) with
  accessFlags := 1057
  interfaces := #[6]
  cf := some (fileOf pool7 8 #[] #[{ accessFlags := 1, nameIndex := 5, descriptorIndex := 6, attributes := #[] }] 1057 2 #[13] #[{ accessFlags := 26, nameIndex := 15, descriptorIndex := 16, attributes := #[] }])
  fields := #[{ name := "serialVersionUID", type := .long, accessFlags := 26, slot := 0, constantValue := 0 }]
  methods := #[k7m0]
  instanceTypes := #[]
  staticTypes := #[.long]
  resolved := Array.replicate 37 none
  statics := none }

def pool8 : Array CpInfo := pool [(1, .class_ 2), (0, u "java/lang/Comparable"), (0, .class_ 4), (0, u "java/lang/Object")] 7

/-- java/lang/Comparable -/
def k8 : Class := { plain "java/lang/Comparable" (some 0) with
  accessFlags := 1537
  interfaces := #[]
  cf := some (fileOf pool8 1 #[] #[] 1537 3 #[] #[])
  fields := #[]
  methods := #[]
  instanceTypes := #[]
  staticTypes := #[]
  resolved := Array.replicate 12 none
  statics := none }

def pool9 : Array CpInfo := pool [(1, .class_ 2), (0, u "java/lang/constant/Constable"), (0, .class_ 4), (0, u "java/lang/Object")] 6

/-- java/lang/constant/Constable -/
def k9 : Class := { plain "java/lang/constant/Constable" (some 0) with
  accessFlags := 1537
  interfaces := #[]
  cf := some (fileOf pool9 1 #[] #[] 1537 3 #[] #[])
  fields := #[]
  methods := #[]
  instanceTypes := #[]
  staticTypes := #[]
  resolved := Array.replicate 11 none
  statics := none }

def pool10 : Array CpInfo := pool [(1, .class_ 2), (0, u "java/lang/constant/ConstantDesc"), (0, .class_ 4), (0, u "java/lang/Object")] 32

/-- java/lang/constant/ConstantDesc -/
def k10 : Class := { plain "java/lang/constant/ConstantDesc" (some 0) with
  accessFlags := 1537
  interfaces := #[]
  cf := some (fileOf pool10 1 #[] #[] 1537 3 #[] #[])
  fields := #[]
  methods := #[]
  instanceTypes := #[]
  staticTypes := #[]
  resolved := Array.replicate 37 none
  statics := none }

def pool11 : Array CpInfo := pool [(1, .class_ 2), (0, u "java/lang/Integer"), (16, u "digits"), (0, u "[C"), (30, .methodref 1 52), (0, .nameAndType 53 54), (0, u "numberOfLeadingZeros"), (0, u "(I)I"), (30, u "DigitOnes"), (0, u "[B"), (2, u "DigitTens"), (37, .integer 2147483648), (61, .class_ 190), (0, u "java/lang/Integer$IntegerCache"), (3, u "I"), (8, .class_ 204), (0, u "java/lang/Number"), (2, u "value"), (56, .integer 65536), (37, u "TYPE"), (0, u "Ljava/lang/Class;"), (0, .class_ 305), (0, u "java/lang/Comparable"), (0, .class_ 307), (0, u "java/lang/constant/Constable"), (0, .class_ 309), (0, u "java/lang/constant/ConstantDesc"), (0, u "MIN_VALUE"), (1, u "MAX_VALUE"), (3, u "SIZE"), (1, u "BYTES"), (1, u "serialVersionUID"), (0, u "J"), (81, u "highestOneBit")] 49

def k11c0 : Code := { maxStack := 3, maxLocals := 1, code := jdk_33_method_45_code, exceptionTable := #[], attributes := #[] }
def k11m0 : Method := { name := "highestOneBit", desc := "(I)I", sig := { parameters := [.int], returnType := some .int }, accessFlags := 9, code := some k11c0 }
def k11c1 : Code := { maxStack := 3, maxLocals := 2, code := jdk_33_method_47_code, exceptionTable := #[], attributes := #[] }
def k11m1 : Method := { name := "numberOfLeadingZeros", desc := "(I)I", sig := { parameters := [.int], returnType := some .int }, accessFlags := 9, code := some k11c1 }
/-- java/lang/Integer -/
def k11 : Class := { plain "java/lang/Integer" (some 7) with
  accessFlags := 49
  interfaces := #[8, 9, 10]
  cf := some (fileOf pool11 1 #[.nestMembers #[189]] #[{ accessFlags := 9, nameIndex := 403, descriptorIndex := 54, attributes := #[] }, { accessFlags := 9, nameIndex := 53, descriptorIndex := 54, attributes := #[] }] 49 203 #[304, 306, 308] #[{ accessFlags := 25, nameIndex := 310, descriptorIndex := 194, attributes := #[] }, { accessFlags := 25, nameIndex := 312, descriptorIndex := 194, attributes := #[] }, { accessFlags := 25, nameIndex := 302, descriptorIndex := 303, attributes := #[] }, { accessFlags := 24, nameIndex := 19, descriptorIndex := 20, attributes := #[] }, { accessFlags := 24, nameIndex := 89, descriptorIndex := 86, attributes := #[] }, { accessFlags := 24, nameIndex := 85, descriptorIndex := 86, attributes := #[] }, { accessFlags := 18, nameIndex := 207, descriptorIndex := 194, attributes := #[] }, { accessFlags := 25, nameIndex := 316, descriptorIndex := 194, attributes := #[] }, { accessFlags := 25, nameIndex := 318, descriptorIndex := 194, attributes := #[] }, { accessFlags := 26, nameIndex := 320, descriptorIndex := 321, attributes := #[] }])
  fields := #[{ name := "MIN_VALUE", type := .int, accessFlags := 25, slot := 0, constantValue := 0 }, { name := "MAX_VALUE", type := .int, accessFlags := 25, slot := 1, constantValue := 0 }, { name := "TYPE", type := (.object "java/lang/Class"), accessFlags := 25, slot := 2, constantValue := 0 }, { name := "digits", type := (.array .char), accessFlags := 24, slot := 3, constantValue := 0 }, { name := "DigitTens", type := (.array .byte), accessFlags := 24, slot := 4, constantValue := 0 }, { name := "DigitOnes", type := (.array .byte), accessFlags := 24, slot := 5, constantValue := 0 }, { name := "value", type := .int, accessFlags := 18, slot := 0, constantValue := 0 }, { name := "SIZE", type := .int, accessFlags := 25, slot := 6, constantValue := 0 }, { name := "BYTES", type := .int, accessFlags := 25, slot := 7, constantValue := 0 }, { name := "serialVersionUID", type := .long, accessFlags := 26, slot := 8, constantValue := 0 }]
  methods := #[k11m0, k11m1]
  instanceTypes := #[.int]
  staticTypes := #[.int, .int, (.object "java/lang/Class"), (.array .char), (.array .byte), (.array .byte), .int, .int, .long]
  resolved := Array.replicate 453 none
  statics := none }

def pool12 : Array CpInfo := pool [(2, .class_ 4), (1, u "java/lang/Object"), (0, u "<init>"), (0, u "()V"), (5, u "([IIII)V"), (0, .methodref 14 15), (0, .class_ 16), (0, .nameAndType 17 18), (0, u "java/util/Arrays"), (0, u "rangeCheck"), (0, u "(III)V"), (55, .class_ 76), (1, u "java/util/Arrays$NaturalOrder"), (36, .class_ 115), (1, u "java/util/Arrays$LegacyMergeSort"), (1, u "Z"), (257, .class_ 376), (0, u "java/util/Arrays$ArrayList"), (68, u "$assertionsDisabled"), (269, u "MIN_ARRAY_SORT_GRAN"), (0, u "I"), (2, u "INSERTIONSORT_THRESHOLD"), (120, u "fill"), (134, .class_ 976), (0, u "java/util/Arrays$ArrayItr")] 52

def k12m0 : Method := { name := "<init>", desc := "()V", sig := { parameters := [], returnType := none }, accessFlags := 2, code := none }
def k12c1 : Code := { maxStack := 4, maxLocals := 3, code := jdk_65_method_30_code, exceptionTable := #[], attributes := #[] }
def k12m1 : Method := { name := "rangeCheck", desc := "(III)V", sig := { parameters := [.int, .int, .int], returnType := none }, accessFlags := 8, code := some k12c1 }
def k12c2 : Code := { maxStack := 3, maxLocals := 5, code := jdk_65_method_104_code, exceptionTable := #[], attributes := #[] }
def k12m2 : Method := { name := "fill", desc := "([IIII)V", sig := { parameters := [(.array .int), .int, .int, .int], returnType := none }, accessFlags := 9, code := some k12c2 }
/-- java/util/Arrays -/
def k12 : Class := { plain "java/util/Arrays" (some 0) with
  accessFlags := 49
  interfaces := #[]
  cf := some (fileOf pool12 14 #[.nestMembers #[975, 375, 113, 74]] #[{ accessFlags := 2, nameIndex := 5, descriptorIndex := 6, attributes := #[] }, { accessFlags := 8, nameIndex := 17, descriptorIndex := 18, attributes := #[] }, { accessFlags := 9, nameIndex := 840, descriptorIndex := 12, attributes := #[] }] 49 2 #[] #[{ accessFlags := 26, nameIndex := 715, descriptorIndex := 716, attributes := #[] }, { accessFlags := 26, nameIndex := 719, descriptorIndex := 716, attributes := #[] }, { accessFlags := 4120, nameIndex := 445, descriptorIndex := 117, attributes := #[] }])
  fields := #[{ name := "MIN_ARRAY_SORT_GRAN", type := .int, accessFlags := 26, slot := 0, constantValue := 0 }, { name := "INSERTIONSORT_THRESHOLD", type := .int, accessFlags := 26, slot := 1, constantValue := 0 }, { name := "$assertionsDisabled", type := .boolean, accessFlags := 4120, slot := 2, constantValue := 0 }]
  methods := #[k12m0, k12m1, k12m2]
  instanceTypes := #[]
  staticTypes := #[.int, .int, .boolean]
  resolved := Array.replicate 1029 none
  statics := none }

def pool13 : Array CpInfo := pool [(1, u "java/lang/Cloneable"), (0, .class_ 1), (0, u "java/lang/Object"), (0, .class_ 3)] 3

/-- java/lang/Cloneable -/
def k13 : Class := { plain "java/lang/Cloneable" (some 0) with
  accessFlags := 1537
  interfaces := #[]
  cf := some (fileOf pool13 2 #[] #[] 1537 4 #[] #[])
  fields := #[]
  methods := #[]
  instanceTypes := #[]
  staticTypes := #[]
  resolved := Array.replicate 8 none
  statics := none }

/-- the primitive byte -/
def k14 : Class := { plain "byte" none with kind := .primitive 'B', accessFlags := 0x411 }
/-- [B -/
def k15 : Class := { plain "[B" (some 0) with kind := .array 14 .byte, interfaces := #[13, 6], accessFlags := 1041 }

/-- the primitive int -/
def k16 : Class := { plain "int" none with kind := .primitive 'I', accessFlags := 0x411 }
/-- [I -/
def k17 : Class := { plain "[I" (some 0) with kind := .array 16 .int, interfaces := #[13, 6], accessFlags := 1041 }

/-- the primitive long -/
def k18 : Class := { plain "long" none with kind := .primitive 'J', accessFlags := 0x411 }
/-- [J -/
def k19 : Class := { plain "[J" (some 0) with kind := .array 18 .long, interfaces := #[13, 6], accessFlags := 1041 }

/-- [Lcom/example/gangplank/gangplank/workload/Job; -/
def k20 : Class := { plain "[Lcom/example/gangplank/gangplank/workload/Job;" (some 0) with kind := .array 4 (.object "com/example/gangplank/gangplank/workload/Job"), interfaces := #[13, 6], accessFlags := 1041 }

def heap : Heap := #[]
def classes : Array Class := #[k0, k1, k2, k3, k4, k5, k6, k7, k8, k9, k10, k11, k12, k13, k14, k15, k16, k17, k18, k19, k20]
def interned : List (Array UInt16 × Addr) := []
def slotsUsed : Nat := 0
def theMethod : MethodId := ⟨1, 1⟩
def args0 : Array Value := #[.long 5, .long 7, .long 3, .long 6, .long 1099511627776]
def aboutOver (below : List Frame) : State where
  vm := { classes := classes, interned := interned.toArray }
  heap := heap
  slotsUsed := slotsUsed
  threads := #[{ frames := .invoking theMethod args0 :: below }]
def below0 : List Frame := [.native { method := ⟨0, 0⟩, args := #[] }]
def about1 : State := aboutOver below0
def p0 : Program := .bare "" "" ""
def e0 : Env := launch0.env 0 0 0
theorem w_frames : about1.frames = Frame.invoking theMethod args0 :: below0 := rfl
set_option maxRecDepth 65536 in
theorem w_args : argsFit about1.vm theMethod args0 = true := by decide +kernel
set_option maxRecDepth 65536 in
theorem w_heap : heapFits about1 = true := by decide +kernel
set_option maxRecDepth 65536 in
theorem w_runnable : about1.curStatus? = some .runnable := by decide +kernel
set_option maxRecDepth 65536 in
theorem w_alone : about1.alone = true := by decide +kernel
set_option maxRecDepth 65536 in
theorem w_named : about1.methodNamed? x = some theMethod := by decide +kernel
set_option maxRecDepth 65536 in
theorem w_hears : about1.hears theMethod below0 = true := by decide +kernel
set_option maxRecDepth 65536 in
theorem w_ripe : about1.ripe theMethod args0 below0 = true := by decide +kernel
theorem w_running : about1.status = .running := rfl
set_option maxRecDepth 65536 in
theorem w_room : about1.hasRoom e0.platform room_1 = true :=
  launch0.hasRoom_least _ room_1 (by decide +kernel) (by decide +kernel) (by decide +kernel) (by decide +kernel) (by decide +kernel) (by decide +kernel)
theorem allAtoms_all (ts : List Jvm.Cond) (a : Array Jvm.Value) (st : Jvm.State) : (allAtoms ts).before a st = ts.all (fun c => c.before a st) := by
  induction ts with
  | nil => rfl
  | cons c t ih =>
    show (Jvm.Cond.and c (allAtoms t)).before a st = _
    rw [Jvm.Cond.before_and, ih, List.all_cons]
def words1 : List Jvm.Cond := Jvm.Cond.code x code maxLocals ret :: tables_1
/-- a 'code' word, met by the world's own term for the bytes: nothing is compared byte by byte -/
theorem code_word {y : MethodName} {bytes : ByteArray} {mx : Nat} {rt : Option FieldType} {a : Array Value} {s : State} {m : MethodId} {meth : Method} {c : Code} (h1 : s.methodNamed? y = some m) (h2 : s.vm.method? m = some meth) (h3 : meth.code = some c) (h4 : c.code = bytes)
    (h5 : (c.maxLocals == mx && c.exceptionTable.isEmpty && decide (c.maxStack ≤ mostOperands) && decide (meth.sig.returnType = rt) && !meth.locks && decide (parseMethodDescriptor y.desc = some meth.sig)) = true) : (Jvm.Cond.code y bytes mx rt).before a s = true := by
  simp only [Bool.and_eq_true, beq_iff_eq, Bool.not_eq_true', decide_eq_true_eq] at h5
  obtain ⟨⟨⟨⟨⟨g1, g2⟩, g3⟩, g4⟩, g5⟩, g6⟩ := h5
  simp [Cond.before, Cond.holds, Cond.value, h1, h2, h3, h4, g1, g2, g3, g4, g5, g6]
def isCode : Jvm.Cond → Bool
  | .code _ _ _ _ => true
  | _ => false
theorem all_split {L : List Jvm.Cond} {P : Jvm.Cond → Bool} (h1 : L.all (fun c => isCode c || P c) = true) (h2 : ∀ c ∈ L.filter isCode, P c = true) : L.all P = true := by
  refine List.all_eq_true.mpr fun c hc => ?_
  have h := List.all_eq_true.mp h1 c hc
  rcases Bool.eq_false_or_eq_true (isCode c) with hi | hi
  · exact h2 c (List.mem_filter.mpr ⟨hc, hi⟩)
  · simpa [hi] using h
set_option maxRecDepth 65536 in
theorem w_c0 : (Jvm.Cond.code x code maxLocals ret).before args0 about1 = true := code_word (m := ⟨1, 1⟩) (meth := k1m1) (c := k1c1) (by decide +kernel) rfl rfl rfl (by decide +kernel)
set_option maxRecDepth 65536 in
theorem w_c1 : (Jvm.Cond.code ({ cls := "java/lang/Math", name := "max", desc := "(JJ)J" } : Jvm.MethodName) jdk_29_method_66_code (4 : Nat) (Option.some Jvm.ClassFile.FieldType.long)).before args0 about1 = true := code_word (m := ⟨2, 2⟩) (meth := k2m2) (c := k2c2) (by decide +kernel) rfl rfl rfl (by decide +kernel)
set_option maxRecDepth 65536 in
theorem w_c2 : (Jvm.Cond.code ({ cls := "com/example/gangplank/gangplank/workload/Job", name := "<init>", desc := "(IJIJJ)V" } : Jvm.MethodName) prog_245_method_1_code (9 : Nat) (Option.none : Option Jvm.ClassFile.FieldType)).before args0 about1 = true := code_word (m := ⟨4, 0⟩) (meth := k4m0) (c := k4c0) (by decide +kernel) rfl rfl rfl (by decide +kernel)
set_option maxRecDepth 65536 in
theorem w_c3 : (Jvm.Cond.code ({ cls := "com/example/gangplank/gangplank/workload/Job", name := "<init>", desc := "(IJIJJJJ)V" } : Jvm.MethodName) prog_245_method_3_code (13 : Nat) (Option.none : Option Jvm.ClassFile.FieldType)).before args0 about1 = true := code_word (m := ⟨4, 1⟩) (meth := k4m1) (c := k4c1) (by decide +kernel) rfl rfl rfl (by decide +kernel)
set_option maxRecDepth 65536 in
theorem w_c4 : (Jvm.Cond.code ({ cls := "java/lang/Record", name := "<init>", desc := "()V" } : Jvm.MethodName) jdk_30_method_1_code (1 : Nat) (Option.none : Option Jvm.ClassFile.FieldType)).before args0 about1 = true := code_word (m := ⟨3, 0⟩) (meth := k3m0) (c := k3c0) (by decide +kernel) rfl rfl rfl (by decide +kernel)
set_option maxRecDepth 65536 in
theorem w_c5 : (Jvm.Cond.code ({ cls := "java/lang/Object", name := "<init>", desc := "()V" } : Jvm.MethodName) object_method_1_code (1 : Nat) (Option.none : Option Jvm.ClassFile.FieldType)).before args0 about1 = true := code_word (m := ⟨0, 0⟩) (meth := k0m0) (c := k0c0) (by decide +kernel) rfl rfl rfl (by decide +kernel)
set_option maxRecDepth 65536 in
theorem w_c6 : (Jvm.Cond.code ({ cls := "com/example/gangplank/gangplank/space/HeldFromNow", name := "<init>", desc := "()V" } : Jvm.MethodName) prog_214_method_1_code (1 : Nat) (Option.none : Option Jvm.ClassFile.FieldType)).before args0 about1 = true := code_word (m := ⟨5, 0⟩) (meth := k5m0) (c := k5c0) (by decide +kernel) rfl rfl rfl (by decide +kernel)
set_option maxRecDepth 65536 in
theorem w_c7 : (Jvm.Cond.code ({ cls := "com/example/gangplank/gangplank/space/HeldFromNow", name := "restart", desc := "(J)V" } : Jvm.MethodName) prog_214_method_3_code (3 : Nat) (Option.none : Option Jvm.ClassFile.FieldType)).before args0 about1 = true := code_word (m := ⟨5, 1⟩) (meth := k5m1) (c := k5c1) (by decide +kernel) rfl rfl rfl (by decide +kernel)
set_option maxRecDepth 65536 in
theorem w_c8 : (Jvm.Cond.code ({ cls := "com/example/gangplank/gangplank/space/HeldFromNow", name := "add", desc := "(JJLcom/example/gangplank/gangplank/workload/Job;)V" } : Jvm.MethodName) prog_214_method_4_code (6 : Nat) (Option.none : Option Jvm.ClassFile.FieldType)).before args0 about1 = true := code_word (m := ⟨5, 2⟩) (meth := k5m2) (c := k5c2) (by decide +kernel) rfl rfl rfl (by decide +kernel)
set_option maxRecDepth 65536 in
theorem w_c9 : (Jvm.Cond.code ({ cls := "com/example/gangplank/gangplank/space/HeldFromNow", name := site_191.name, desc := "()Lcom/example/gangplank/gangplank/space/HeldFromNow;" } : Jvm.MethodName) prog_214_method_5_code (2 : Nat) (Option.some (Jvm.ClassFile.FieldType.object "com/example/gangplank/gangplank/space/HeldFromNow"))).before args0 about1 = true := code_word (m := ⟨5, 3⟩) (meth := k5m3) (c := k5c3) (by decide +kernel) rfl rfl rfl (by decide +kernel)
set_option maxRecDepth 65536 in
theorem w_c10 : (Jvm.Cond.code ({ cls := "com/example/gangplank/gangplank/space/HeldFromNow", name := "sortByEnd", desc := "()V" } : Jvm.MethodName) prog_214_method_12_code (8 : Nat) (Option.none : Option Jvm.ClassFile.FieldType)).before args0 about1 = true := code_word (m := ⟨5, 9⟩) (meth := k5m9) (c := k5c9) (by decide +kernel) rfl rfl rfl (by decide +kernel)
set_option maxRecDepth 65536 in
theorem w_c11 : (Jvm.Cond.code ({ cls := "com/example/gangplank/gangplank/space/HeldFromNow", name := "countsFrom", desc := "([J[JIJ)V" } : Jvm.MethodName) prog_214_method_11_code (8 : Nat) (Option.none : Option Jvm.ClassFile.FieldType)).before args0 about1 = true := code_word (m := ⟨5, 8⟩) (meth := k5m8) (c := k5c8) (by decide +kernel) rfl rfl rfl (by decide +kernel)
set_option maxRecDepth 65536 in
theorem w_c12 : (Jvm.Cond.code ({ cls := "com/example/gangplank/gangplank/space/HeldFromNow", name := "layOutOwners", desc := "()V" } : Jvm.MethodName) prog_214_method_6_code (4 : Nat) (Option.none : Option Jvm.ClassFile.FieldType)).before args0 about1 = true := code_word (m := ⟨5, 4⟩) (meth := k5m4) (c := k5c4) (by decide +kernel) rfl rfl rfl (by decide +kernel)
set_option maxRecDepth 65536 in
theorem w_c13 : (Jvm.Cond.code ({ cls := "java/lang/Math", name := "max", desc := "(II)I" } : Jvm.MethodName) jdk_29_method_65_code (2 : Nat) (Option.some Jvm.ClassFile.FieldType.int)).before args0 about1 = true := code_word (m := ⟨2, 1⟩) (meth := k2m1) (c := k2c1) (by decide +kernel) rfl rfl rfl (by decide +kernel)
set_option maxRecDepth 65536 in
theorem w_c14 : (Jvm.Cond.code ({ cls := "java/lang/Integer", name := "highestOneBit", desc := "(I)I" } : Jvm.MethodName) jdk_33_method_45_code (1 : Nat) (Option.some Jvm.ClassFile.FieldType.int)).before args0 about1 = true := code_word (m := ⟨11, 0⟩) (meth := k11m0) (c := k11c0) (by decide +kernel) rfl rfl rfl (by decide +kernel)
set_option maxRecDepth 65536 in
theorem w_c15 : (Jvm.Cond.code ({ cls := "java/lang/Integer", name := "numberOfLeadingZeros", desc := "(I)I" } : Jvm.MethodName) jdk_33_method_47_code (2 : Nat) (Option.some Jvm.ClassFile.FieldType.int)).before args0 about1 = true := code_word (m := ⟨11, 1⟩) (meth := k11m1) (c := k11c1) (by decide +kernel) rfl rfl rfl (by decide +kernel)
set_option maxRecDepth 65536 in
theorem w_c16 : (Jvm.Cond.code ({ cls := "java/util/Arrays", name := "fill", desc := "([IIII)V" } : Jvm.MethodName) jdk_65_method_104_code (5 : Nat) (Option.none : Option Jvm.ClassFile.FieldType)).before args0 about1 = true := code_word (m := ⟨12, 2⟩) (meth := k12m2) (c := k12c2) (by decide +kernel) rfl rfl rfl (by decide +kernel)
set_option maxRecDepth 65536 in
theorem w_c17 : (Jvm.Cond.code ({ cls := "java/util/Arrays", name := "rangeCheck", desc := "(III)V" } : Jvm.MethodName) jdk_65_method_30_code (3 : Nat) (Option.none : Option Jvm.ClassFile.FieldType)).before args0 about1 = true := code_word (m := ⟨12, 1⟩) (meth := k12m1) (c := k12c1) (by decide +kernel) rfl rfl rfl (by decide +kernel)
set_option maxRecDepth 65536 in
theorem w_c18 : (Jvm.Cond.code ({ cls := "com/example/gangplank/gangplank/workload/Job", name := "index", desc := "()I" } : Jvm.MethodName) prog_245_method_7_code (1 : Nat) (Option.some Jvm.ClassFile.FieldType.int)).before args0 about1 = true := code_word (m := ⟨4, 2⟩) (meth := k4m2) (c := k4c2) (by decide +kernel) rfl rfl rfl (by decide +kernel)
set_option maxRecDepth 65536 in
theorem w_c19 : (Jvm.Cond.code ({ cls := "com/example/gangplank/gangplank/space/HeldFromNow", name := "ownerSlot", desc := "(I)I" } : Jvm.MethodName) prog_214_method_7_code (3 : Nat) (Option.some Jvm.ClassFile.FieldType.int)).before args0 about1 = true := code_word (m := ⟨5, 5⟩) (meth := k5m5) (c := k5c5) (by decide +kernel) rfl rfl rfl (by decide +kernel)
set_option maxRecDepth 65536 in
theorem w_c20 : (Jvm.Cond.code ({ cls := "com/example/gangplank/gangplank/space/HeldFromNowHeldAtPinLaw", name := "held", desc := "(JJJ)J" } : Jvm.MethodName) method_3_code (6 : Nat) (Option.some Jvm.ClassFile.FieldType.long)).before args0 about1 = true := code_word (m := ⟨1, 2⟩) (meth := k1m2) (c := k1c2) (by decide +kernel) rfl rfl rfl (by decide +kernel)
set_option maxRecDepth 65536 in
theorem w_c21 : (Jvm.Cond.code ({ cls := "com/example/gangplank/gangplank/space/HeldFromNow", name := "heldAt", desc := "(J)J" } : Jvm.MethodName) prog_214_method_9_code (6 : Nat) (Option.some Jvm.ClassFile.FieldType.long)).before args0 about1 = true := code_word (m := ⟨5, 6⟩) (meth := k5m6) (c := k5c6) (by decide +kernel) rfl rfl rfl (by decide +kernel)
set_option maxRecDepth 65536 in
theorem w_c22 : (Jvm.Cond.code ({ cls := "com/example/gangplank/gangplank/space/HeldFromNow", name := "fall", desc := "([J[JIJJ)V" } : Jvm.MethodName) prog_214_method_10_code (7 : Nat) (Option.none : Option Jvm.ClassFile.FieldType)).before args0 about1 = true := code_word (m := ⟨5, 7⟩) (meth := k5m7) (c := k5c7) (by decide +kernel) rfl rfl rfl (by decide +kernel)
def codes1 : List Jvm.Cond := [Jvm.Cond.code x code maxLocals ret, Jvm.Cond.code ({ cls := "java/lang/Math", name := "max", desc := "(JJ)J" } : Jvm.MethodName) jdk_29_method_66_code (4 : Nat) (Option.some Jvm.ClassFile.FieldType.long), Jvm.Cond.code ({ cls := "com/example/gangplank/gangplank/workload/Job", name := "<init>", desc := "(IJIJJ)V" } : Jvm.MethodName) prog_245_method_1_code (9 : Nat) (Option.none : Option Jvm.ClassFile.FieldType), Jvm.Cond.code ({ cls := "com/example/gangplank/gangplank/workload/Job", name := "<init>", desc := "(IJIJJJJ)V" } : Jvm.MethodName) prog_245_method_3_code (13 : Nat) (Option.none : Option Jvm.ClassFile.FieldType), Jvm.Cond.code ({ cls := "java/lang/Record", name := "<init>", desc := "()V" } : Jvm.MethodName) jdk_30_method_1_code (1 : Nat) (Option.none : Option Jvm.ClassFile.FieldType), Jvm.Cond.code ({ cls := "java/lang/Object", name := "<init>", desc := "()V" } : Jvm.MethodName) object_method_1_code (1 : Nat) (Option.none : Option Jvm.ClassFile.FieldType), Jvm.Cond.code ({ cls := "com/example/gangplank/gangplank/space/HeldFromNow", name := "<init>", desc := "()V" } : Jvm.MethodName) prog_214_method_1_code (1 : Nat) (Option.none : Option Jvm.ClassFile.FieldType), Jvm.Cond.code ({ cls := "com/example/gangplank/gangplank/space/HeldFromNow", name := "restart", desc := "(J)V" } : Jvm.MethodName) prog_214_method_3_code (3 : Nat) (Option.none : Option Jvm.ClassFile.FieldType), Jvm.Cond.code ({ cls := "com/example/gangplank/gangplank/space/HeldFromNow", name := "add", desc := "(JJLcom/example/gangplank/gangplank/workload/Job;)V" } : Jvm.MethodName) prog_214_method_4_code (6 : Nat) (Option.none : Option Jvm.ClassFile.FieldType), Jvm.Cond.code ({ cls := "com/example/gangplank/gangplank/space/HeldFromNow", name := site_191.name, desc := "()Lcom/example/gangplank/gangplank/space/HeldFromNow;" } : Jvm.MethodName) prog_214_method_5_code (2 : Nat) (Option.some (Jvm.ClassFile.FieldType.object "com/example/gangplank/gangplank/space/HeldFromNow")), Jvm.Cond.code ({ cls := "com/example/gangplank/gangplank/space/HeldFromNow", name := "sortByEnd", desc := "()V" } : Jvm.MethodName) prog_214_method_12_code (8 : Nat) (Option.none : Option Jvm.ClassFile.FieldType), Jvm.Cond.code ({ cls := "com/example/gangplank/gangplank/space/HeldFromNow", name := "countsFrom", desc := "([J[JIJ)V" } : Jvm.MethodName) prog_214_method_11_code (8 : Nat) (Option.none : Option Jvm.ClassFile.FieldType), Jvm.Cond.code ({ cls := "com/example/gangplank/gangplank/space/HeldFromNow", name := "layOutOwners", desc := "()V" } : Jvm.MethodName) prog_214_method_6_code (4 : Nat) (Option.none : Option Jvm.ClassFile.FieldType), Jvm.Cond.code ({ cls := "java/lang/Math", name := "max", desc := "(II)I" } : Jvm.MethodName) jdk_29_method_65_code (2 : Nat) (Option.some Jvm.ClassFile.FieldType.int), Jvm.Cond.code ({ cls := "java/lang/Integer", name := "highestOneBit", desc := "(I)I" } : Jvm.MethodName) jdk_33_method_45_code (1 : Nat) (Option.some Jvm.ClassFile.FieldType.int), Jvm.Cond.code ({ cls := "java/lang/Integer", name := "numberOfLeadingZeros", desc := "(I)I" } : Jvm.MethodName) jdk_33_method_47_code (2 : Nat) (Option.some Jvm.ClassFile.FieldType.int), Jvm.Cond.code ({ cls := "java/util/Arrays", name := "fill", desc := "([IIII)V" } : Jvm.MethodName) jdk_65_method_104_code (5 : Nat) (Option.none : Option Jvm.ClassFile.FieldType), Jvm.Cond.code ({ cls := "java/util/Arrays", name := "rangeCheck", desc := "(III)V" } : Jvm.MethodName) jdk_65_method_30_code (3 : Nat) (Option.none : Option Jvm.ClassFile.FieldType), Jvm.Cond.code ({ cls := "com/example/gangplank/gangplank/workload/Job", name := "index", desc := "()I" } : Jvm.MethodName) prog_245_method_7_code (1 : Nat) (Option.some Jvm.ClassFile.FieldType.int), Jvm.Cond.code ({ cls := "com/example/gangplank/gangplank/space/HeldFromNow", name := "ownerSlot", desc := "(I)I" } : Jvm.MethodName) prog_214_method_7_code (3 : Nat) (Option.some Jvm.ClassFile.FieldType.int), Jvm.Cond.code ({ cls := "com/example/gangplank/gangplank/space/HeldFromNowHeldAtPinLaw", name := "held", desc := "(JJJ)J" } : Jvm.MethodName) method_3_code (6 : Nat) (Option.some Jvm.ClassFile.FieldType.long), Jvm.Cond.code ({ cls := "com/example/gangplank/gangplank/space/HeldFromNow", name := "heldAt", desc := "(J)J" } : Jvm.MethodName) prog_214_method_9_code (6 : Nat) (Option.some Jvm.ClassFile.FieldType.long), Jvm.Cond.code ({ cls := "com/example/gangplank/gangplank/space/HeldFromNow", name := "fall", desc := "([J[JIJJ)V" } : Jvm.MethodName) prog_214_method_10_code (7 : Nat) (Option.none : Option Jvm.ClassFile.FieldType)]
set_option maxRecDepth 65536 in
theorem codes_eq : words1.filter isCode = codes1 := rfl
theorem w_codes : ∀ c ∈ words1.filter isCode, c.before args0 about1 = true := by
  rw [codes_eq]
  intro c hc
  simp only [codes1, List.mem_cons, List.not_mem_nil, or_false] at hc
  rcases hc with rfl | rfl | rfl | rfl | rfl | rfl | rfl | rfl | rfl | rfl | rfl | rfl | rfl | rfl | rfl | rfl | rfl | rfl | rfl | rfl | rfl | rfl | rfl
  · exact w_c0
  · exact w_c1
  · exact w_c2
  · exact w_c3
  · exact w_c4
  · exact w_c5
  · exact w_c6
  · exact w_c7
  · exact w_c8
  · exact w_c9
  · exact w_c10
  · exact w_c11
  · exact w_c12
  · exact w_c13
  · exact w_c14
  · exact w_c15
  · exact w_c16
  · exact w_c17
  · exact w_c18
  · exact w_c19
  · exact w_c20
  · exact w_c21
  · exact w_c22
set_option maxRecDepth 65536 in
theorem w_t1 : (words1.take 24).all (fun c => isCode c || c.before args0 about1) = true := by decide +kernel
set_option maxRecDepth 65536 in
theorem w_t2 : ((words1.drop 24).take 24).all (fun c => isCode c || c.before args0 about1) = true := by decide +kernel
set_option maxRecDepth 65536 in
theorem w_t3 : (((words1.drop 24).drop 24).take 24).all (fun c => isCode c || c.before args0 about1) = true := by decide +kernel
set_option maxRecDepth 65536 in
theorem w_t4 : ((((words1.drop 24).drop 24).drop 24).take 24).all (fun c => isCode c || c.before args0 about1) = true := by decide +kernel
set_option maxRecDepth 65536 in
theorem w_t5 : (((((words1.drop 24).drop 24).drop 24).drop 24).take 24).all (fun c => isCode c || c.before args0 about1) = true := by decide +kernel
set_option maxRecDepth 65536 in
theorem w_t6 : ((((((words1.drop 24).drop 24).drop 24).drop 24).drop 24).take 24).all (fun c => isCode c || c.before args0 about1) = true := by decide +kernel
set_option maxRecDepth 65536 in
theorem w_t7 : ((((((words1.drop 24).drop 24).drop 24).drop 24).drop 24).drop 24).all (fun c => isCode c || c.before args0 about1) = true := by decide +kernel
theorem w_tables : (allAtoms (Jvm.Cond.code x code maxLocals ret :: tables_1)).before args0 about1 = true := by
  rw [allAtoms_all]
  show words1.all (fun c => c.before args0 about1) = true
  refine all_split ?_ w_codes
  rw [← List.take_append_drop 24 words1, List.all_append, w_t1, ← List.take_append_drop 24 (words1.drop 24), List.all_append, w_t2, ← List.take_append_drop 24 ((words1.drop 24).drop 24), List.all_append, w_t3, ← List.take_append_drop 24 (((words1.drop 24).drop 24).drop 24), List.all_append, w_t4, ← List.take_append_drop 24 ((((words1.drop 24).drop 24).drop 24).drop 24), List.all_append, w_t5, ← List.take_append_drop 24 (((((words1.drop 24).drop 24).drop 24).drop 24).drop 24), List.all_append, w_t6, w_t7]
  rfl
set_option maxRecDepth 65536 in
theorem w_case : (Jvm.Cond.and given_1 narrow_1).before args0 about1 = true := by decide +kernel
theorem w_applies : (headSpec (Jvm.Cond.code x code maxLocals ret :: tables_1) room_1).applies x e0.platform about1 = true :=
  (Spec.applies_iff w_frames).mpr ⟨w_running, w_runnable, w_alone, w_named, w_hears, w_ripe, w_room, w_tables⟩
theorem atStart : AtStart classFile x code maxLocals ret World_1 tables_1 room_1 Calls_1 rest_1 Pre_1 launch0 p0 e0 about1 theMethod args0 below0 :=
  ⟨lists_1, trivial, launch0.admits_env _ _ _, launch0.least_env, fairChoices_fair.cas, fairChoices_fair.clock, w_frames, w_args, w_heap, w_applies, trivial, trivial, w_case⟩
end start1
theorem witness_1 : WitnessClaimed_1 := ⟨start1.p0, start1.e0, start1.about1, start1.theMethod, start1.args0, start1.below0, start1.atStart⟩
end Jvm.Pilot.@@N@@
