import JvmDerived
import JvmDerived.Pilot.@@N@@Statement
import JvmDerived.Pilot.@@N@@Code
set_option linter.unusedVariables false
set_option linter.unusedSimpArgs false
namespace Jvm.Pilot.@@N@@
open Jvm Jvm.ClassFile Sem Op Lib Jvm.Free Jvm.Stand Jvm.LawKit Jvm.RoadKit Bundle Jvm.Pilot.@@N@@.Jvm.D
section Own
variable {p : Program} {l : Launch} {e : Env} {R : Room} {s : State} {m : MethodId} {args : Array Value} {below : List Frame} {meth : Method} {c : Code} {T : State} {locs : List Loc} {cells slots : Nat} {Z : State} {a0 : Array Value} {h h' : Heap} {Po : Outcome → State → Prop}
/-- from the frame g on top of T the run comes to an end of which Po holds -/
def own_Go (p : Program) (e : Env) (below : List Frame) (Po : Outcome → State → Prop) (T : State) (g : JFrame) : Prop :=
  ∃ U o, Steps p.tables e below (T.setTop g) U ∧ U.status = .running ∧ Ended U below o ∧ Po o U
theorem own_go {T T' : State} {g g' : JFrame} (st : ∀ t, Steps p.tables e below (T'.setTop g') t → Steps p.tables e below (T.setTop g) t) (k : own_Go p e below Po T' g') : own_Go p e below Po T g := by
  obtain ⟨U, o, h1, h2⟩ := k
  exact ⟨U, o, st U h1, h2⟩
/-- what a body leaves: it returned v, Q holds of v, of the heap at its end and of the places written -/
def own_Po (s : State) (Q : Option Value → Heap → List Loc → Prop) (C S : Nat) (o : Outcome) (U : State) : Prop :=
  ∃ v L, o = .returned v ∧ Q v U.heap L ∧ FrameEnd s o U L C S
theorem own_end (X : Stand p l e R s m args below meth c T locs cells slots) (hlk : meth.locks = false) {g : JFrame} {v : Option Value} (hv : meth.sig.returnType = none → v = none) {Q : Option Value → Heap → List Loc → Prop} {C S : Nat}
    (st : ∀ fs, (∀ (f : JFrame) (acts : List Action), f.method = m → f.locked = none → f.entered = [] → (doReturn e (T.setTop f) acts v).1 = T.setFrames fs) → Steps p.tables e below (T.setTop g) (T.setFrames fs))
    (hq : Q v T.heap locs) (hc : cells ≤ C) (hs : slots ≤ S) : own_Go p e below (own_Po s Q C S) T g := by
  obtain ⟨fs, hr, hrun, hended, hW, hsame⟩ := X.leave (v := v) hv hlk
  exact ⟨_, _, st fs hr, hrun, hended, _, _, rfl, hq, ⟨_, rfl⟩, hW, hsame.mono hc hs⟩
theorem own_retI (X : Stand p l e R s m args below meth c T locs cells slots) (hx : p.tables.exec = Jvm.exec) (hlk : meth.locks = false) (hret : meth.sig.returnType = some .int) (eT : T.heap = h) {pc : Nat} {Ls : Array Slot} {z : Int32} {rest : List Value} (hd : decode c.code pc = .ok (.ireturn, 1)) {Q : Option Value → Heap → List Loc → Prop} {C S : Nat}
    (hq : Q (some (.int z)) h locs) (hc : cells ≤ C) (hs : slots ≤ S) : own_Go p e below (own_Po s Q C S) T (mkF m pc Ls (.int z :: rest)) :=
  own_end X hlk (v := some (.int z)) (fun q => by rw [hret] at q; cases q) (fun _ hr => retOut X hx hret rfl (Or.inl ⟨rfl, Or.inl rfl, _, rfl⟩) hd hr) (by rw [eT]; exact hq) hc hs
theorem own_retZ (X : Stand p l e R s m args below meth c T locs cells slots) (hx : p.tables.exec = Jvm.exec) (hlk : meth.locks = false) (hret : meth.sig.returnType = some .boolean) (eT : T.heap = h) {pc : Nat} {Ls : Array Slot} {z : Int32} {rest : List Value} (hd : decode c.code pc = .ok (.ireturn, 1)) {Q : Option Value → Heap → List Loc → Prop} {C S : Nat}
    (hq : Q (some (.int (z &&& 1))) h locs) (hc : cells ≤ C) (hs : slots ≤ S) : own_Go p e below (own_Po s Q C S) T (mkF m pc Ls (.int z :: rest)) :=
  own_end X hlk (v := some (.int (nar .boolean z))) (fun q => by rw [hret] at q; cases q) (fun _ hr => retN X hx (t := .boolean) hret (Or.inl rfl) hd hr) (by rw [eT]; exact hq) hc hs
theorem own_retJ (X : Stand p l e R s m args below meth c T locs cells slots) (hx : p.tables.exec = Jvm.exec) (hlk : meth.locks = false) (hret : meth.sig.returnType = some .long) (eT : T.heap = h) {pc : Nat} {Ls : Array Slot} {z : Int64} {rest : List Value} (hd : decode c.code pc = .ok (.lreturn, 1)) {Q : Option Value → Heap → List Loc → Prop} {C S : Nat}
    (hq : Q (some (.long z)) h locs) (hc : cells ≤ C) (hs : slots ≤ S) : own_Go p e below (own_Po s Q C S) T (mkF m pc Ls (.long z :: rest)) :=
  own_end X hlk (v := some (.long z)) (fun q => by rw [hret] at q; cases q) (fun _ hr => retOut X hx hret rfl (Or.inr (Or.inl ⟨rfl, rfl, _, rfl⟩)) hd hr) (by rw [eT]; exact hq) hc hs
theorem own_retA (X : Stand p l e R s m args below meth c T locs cells slots) (hx : p.tables.exec = Jvm.exec) (hlk : meth.locks = false) {t : FieldType} (ht : t.isReference = true) (hret : meth.sig.returnType = some t) (eT : T.heap = h) {pc : Nat} {Ls : Array Slot} {z : Value} (hz : z.isRef = true) (hn : narrow t z = z) {rest : List Value} (hd : decode c.code pc = .ok (.areturn, 1)) {Q : Option Value → Heap → List Loc → Prop} {C S : Nat}
    (hq : Q (some z) h locs) (hc : cells ≤ C) (hs : slots ≤ S) : own_Go p e below (own_Po s Q C S) T (mkF m pc Ls (z :: rest)) :=
  own_end X hlk (v := some z) (fun q => by rw [hret] at q; cases q) (fun _ hr => retOut X hx hret hn (Or.inr (Or.inr (Or.inr (Or.inr ⟨rfl, ht, hz⟩)))) hd hr) (by rw [eT]; exact hq) hc hs
theorem own_ret0 (X : Stand p l e R s m args below meth c T locs cells slots) (hx : p.tables.exec = Jvm.exec) (hlk : meth.locks = false) (hret : meth.sig.returnType = none) (eT : T.heap = h) {pc : Nat} {Ls : Array Slot} (hd : decode c.code pc = .ok (.return_, 1)) {Q : Option Value → Heap → List Loc → Prop} {C S : Nat}
    (hq : Q none h locs) (hc : cells ≤ C) (hs : slots ≤ S) : own_Go p e below (own_Po s Q C S) T (mkF m pc Ls []) :=
  own_end X hlk (v := none) (fun _ => rfl) (fun _ hr => X.returnOut hx hret hd hr) (by rw [eT]; exact hq) hc hs
/-- a body's contract -/
def own_Met (l : Launch) (y : MethodName) (bytes : ByteArray) (maxL : Nat) (ret : Option FieldType) (ws : List Jvm.Cond) (rm : Room) (Z : State) (as' : Array Value) (h0 : Heap) (Q : Option Value → Heap → List Loc → Prop) : Prop :=
  MetFree l y (head1 (Jvm.Cond.code y bytes maxL ret :: ws) rm) (fun a U => a = as' ∧ Z.Warmed39 U.vm ∧ U.heap = h0) (fun _ _ _ _ _ => True) (fun _ U o U' => ∃ v L, o = .returned v ∧ Q v U'.heap L ∧ FrameEnd U o U' L rm.cells rm.slots)
theorem own_enter {y : MethodName} {bytes : ByteArray} {maxL : Nat} {ret : Option FieldType} {ws : List Jvm.Cond} {rm : Room} {as' : Array Value} {h0 : Heap} {Q : Option Value → Heap → List Loc → Prop} (hp : plainFor y = true)
    (body : ∀ (p : Program) (e : Env) (s : State) (m : MethodId) (below : List Frame) (meth : Method) (c : Code) (T : State), Stand p l e rm s m as' below meth c T [] 0 0 → p.tables.exec = Jvm.exec → c.code = bytes → c.maxLocals = maxL → Z.Warmed39 s.vm → s.vm.findClass y.cls = some m.cls → T.heap = h0 → meth.sig.returnType = ret → meth.locks = false → meth.name = y.name →
      own_Go p e below (own_Po s Q rm.cells rm.slots) T (entryFrame m as' maxL)) : own_Met l y bytes maxL ret ws rm Z as' h0 Q := by
  refine MetFree.of_bodySF hp hisR ?_
  intro p e s m args below meth c s₁ Bd hml0 hP hK
  obtain ⟨rfl, hZ, hh⟩ := hP
  exact body p e s m below meth c s₁ (Stand.of_body Bd) Bd.exec Bd.bytes hml0 hZ (findClass_of_methodNamed Bd.named) (by rw [← hh, Bd.state]; rfl) Bd.returns Bd.notSynchronized (name_of_methodNamed Bd.named Bd.method).1
theorem own_start {g g' : JFrame} (q : g = g') (k : own_Go p e below Po T g') : own_Go p e below Po T g := q ▸ k
theorem own_callS (X : Stand p l e R s m args below meth c T locs cells slots) (hx : p.tables.exec = Jvm.exec) (hZ : Z.Warmed39 s.vm) {own : String} (hown : s.vm.findClass own = some m.cls) (eT : T.heap = h) {index : Nat} {y : MethodName} {bytes : ByteArray} {maxL : Nat} {ret : Option FieldType} {rm : Room} {Q : Option Value → Heap → List Loc → Prop}
    (w1 : (Jvm.Cond.methodLink own index y).before a0 Z = true) (w2 : (Jvm.Cond.static y).before a0 Z = true) (w3 : (Jvm.Cond.initialized y.cls).before a0 Z = true) (w4 : (Jvm.Cond.code y bytes maxL ret).before a0 Z = true) (hy : y.cls ≠ "java/lang/invoke/MethodHandle" ∧ y.cls ≠ "java/lang/invoke/VarHandle")
    {pc : Nat} {Ls : Array Slot} {argsL rest st : List Value} (M : own_Met l y bytes maxL ret [] rm Z argsL.toArray h Q) (hml : Ls.size = c.maxLocals) {ps : List FieldType} {r : Option FieldType} (hps : parseMethodDescriptor y.desc = some ⟨ps, r⟩) (hl : argsL.length = ps.length) (hst : st = argsL.reverse ++ rest)
    (hd : decode c.code pc = .ok (.invokestatic index, 3)) {W : Nat} (hW : (rest.map fun v => v.category).sum ≤ W) (hf : rm.frames + 1 ≤ R.frames) (hlo : W + (maxL + 11) + rm.locals ≤ R.locals) (hc : cells + rm.cells ≤ R.cells) (hs : slots + rm.slots ≤ R.slots)
    (k : ∀ v T' L, Stand p l e R s m args below meth c T' (locs ++ L) (cells + rm.cells) (slots + rm.slots) → Q v T'.heap L → own_Go p e below Po T' (mkF m (pc + 3) Ls (v.toList ++ rest))) : own_Go p e below Po T (mkF m pc Ls st) := by
  subst hst
  obtain ⟨v, vm₁, ⟨T', L', k', n'⟩, -, X', ⟨L, hQ, l1, y1, z1⟩, st⟩ := Jvm.LawKit.callS X hx hown (mvT hZ w1) (mvT hZ w2) (mvT hZ w3) (mvT hZ w4) hy (backOf (W := W) M hZ w4 w3 hf hlo) (g := mkF m pc Ls (argsL.reverse ++ rest)) rfl hml (argsL := argsL) (rest := rest) (lenOf hps hl) rfl (by show 2 * 0 + _ ≤ _; simpa using hW) hd (fun _ _ => ⟨rfl, eT, hc, hs⟩)
  dsimp only [Pt.U, Pt.locs, Pt.cells, Pt.slots] at X' l1 y1 z1 st hQ
  subst l1 y1 z1
  exact own_go st (k v T' L X' hQ)
theorem own_callC (X : Stand p l e R s m args below meth c T locs cells slots) (hx : p.tables.exec = Jvm.exec) (hZ : Z.Warmed39 s.vm) {own : String} (hown : s.vm.findClass own = some m.cls) (eT : T.heap = h) {index : Nat} {y : MethodName} {bytes : ByteArray} {maxL : Nat} {rm : Room} {Q : Option Value → Heap → List Loc → Prop} (hy1 : y.name = "<init>")
    (w1 : (Jvm.Cond.methodLink own index y).before a0 Z = true) (w2 : (Jvm.Cond.instanceMethod y).before a0 Z = true) (w3 : (Jvm.Cond.initialized y.cls).before a0 Z = true) (w4 : (Jvm.Cond.code y bytes maxL none).before a0 Z = true) (hy : y.cls ≠ "java/lang/invoke/MethodHandle" ∧ y.cls ≠ "java/lang/invoke/VarHandle")
    {pc : Nat} {Ls : Array Slot} {a : Addr} {argsL rest st : List Value} (M : own_Met l y bytes maxL none [] rm Z (.ref a :: argsL).toArray h Q) (hml : Ls.size = c.maxLocals) {ps : List FieldType} {r : Option FieldType} (hps : parseMethodDescriptor y.desc = some ⟨ps, r⟩) (hl : argsL.length = ps.length) (hst : st = argsL.reverse ++ .ref a :: rest)
    (hd : decode c.code pc = .ok (.invokespecial index, 3)) {W : Nat} (hW : (rest.map fun v => v.category).sum ≤ W) (hf : rm.frames + 1 ≤ R.frames) (hlo : W + (maxL + 11) + rm.locals ≤ R.locals) (hc : cells + rm.cells ≤ R.cells) (hs : slots + rm.slots ≤ R.slots)
    (k : ∀ v T' L, Stand p l e R s m args below meth c T' (locs ++ L) (cells + rm.cells) (slots + rm.slots) → Q v T'.heap L → own_Go p e below Po T' (mkF m (pc + 3) Ls (v.toList ++ rest))) : own_Go p e below Po T (mkF m pc Ls st) := by
  subst hst
  obtain ⟨v, vm₁, ⟨T', L', k', n'⟩, -, X', ⟨L, hQ, l1, y1, z1⟩, st⟩ := X.specialBack hx (y := y) hy1 hown (mvT hZ w1) (mvT hZ w2) (mvT hZ w4) hy (backOf (W := W) M hZ w4 w3 hf hlo) (g := mkF m pc Ls (argsL.reverse ++ .ref a :: rest)) rfl hml (Steps.refl _) (a := a) (argsL := argsL) (rest := rest) (lenOf hps hl) rfl (by show 2 * 0 + _ ≤ _; simpa using hW) hd (fun _ _ => ⟨rfl, eT, hc, hs⟩)
  dsimp only [Pt.U, Pt.locs, Pt.cells, Pt.slots] at X' l1 y1 z1 st hQ
  subst l1 y1 z1
  exact own_go (fun _ kk => st.trans kk) (k v T' L X' hQ)
theorem own_callV (X : Stand p l e R s m args below meth c T locs cells slots) (hx : p.tables.exec = Jvm.exec) (hZ : Z.Warmed39 s.vm) {own C : String} (hown : s.vm.findClass own = some m.cls) (eT : T.heap = h) {index : Nat} {y : MethodName} {bytes : ByteArray} {maxL : Nat} {ret : Option FieldType} {rm : Room} {Q : Option Value → Heap → List Loc → Prop}
    (w1 : (Jvm.Cond.methodLink own index y).before a0 Z = true) (w2 : (Jvm.Cond.declares y).before a0 Z = true) (w5 : (Jvm.Cond.selects C y y).before a0 Z = true) (w6 : (Jvm.Cond.instanceMethod y).before a0 Z = true) (w3 : (Jvm.Cond.initialized y.cls).before a0 Z = true) (w4 : (Jvm.Cond.code y bytes maxL ret).before a0 Z = true) (hy : y.cls ≠ "java/lang/invoke/MethodHandle" ∧ y.cls ≠ "java/lang/invoke/VarHandle")
    {pc : Nat} {Ls : Array Slot} {a : Addr} (E : Exa Z h a C) {argsL rest st : List Value} (M : own_Met l y bytes maxL ret [] rm Z (.ref a :: argsL).toArray h Q) (hml : Ls.size = c.maxLocals) {ps : List FieldType} {r : Option FieldType} (hps : parseMethodDescriptor y.desc = some ⟨ps, r⟩) (hl : argsL.length = ps.length) (hst : st = argsL.reverse ++ .ref a :: rest)
    (hd : decode c.code pc = .ok (.invokevirtual index, 3)) {W : Nat} (hW : (rest.map fun v => v.category).sum ≤ W) (hf : rm.frames + 1 ≤ R.frames) (hlo : W + (maxL + 11) + rm.locals ≤ R.locals) (hc : cells + rm.cells ≤ R.cells) (hs : slots + rm.slots ≤ R.slots)
    (k : ∀ v T' L, Stand p l e R s m args below meth c T' (locs ++ L) (cells + rm.cells) (slots + rm.slots) → Q v T'.heap L → own_Go p e below Po T' (mkF m (pc + 3) Ls (v.toList ++ rest))) : own_Go p e below Po T (mkF m pc Ls st) := by
  subst hst
  obtain ⟨cq, kq, qa, qb, qc⟩ := isOf hZ eT E
  obtain ⟨v, vm₁, ⟨T', L', k', n'⟩, -, X', ⟨L, hQ, l1, y1, z1⟩, st⟩ := X.virtualBack hx (y := y) (z := y) hown (mvT hZ w1) (mvT hZ w2) (notFace_of_selects (args := #[]) (mvT hZ w5)) (mvT hZ w5) (mvT hZ w6) hy (backOf (W := W) M hZ w4 w3 hf hlo) qa qc (g := mkF m pc Ls (argsL.reverse ++ .ref a :: rest)) rfl hml (Steps.refl _) (argsL := argsL) (rest := rest) (lenOf hps hl) rfl (by show 2 * 0 + _ ≤ _; simpa using hW) hd (fun _ _ => ⟨rfl, eT, hc, hs⟩)
  dsimp only [Pt.U, Pt.locs, Pt.cells, Pt.slots] at X' l1 y1 z1 st hQ
  subst l1 y1 z1
  exact own_go (fun _ kk => st.trans kk) (k v T' L X' hQ)
/-- an array of n places, place j holds f j -/
def own_Ar (Z : State) (h : Heap) (a : Addr) (ty : FieldType) (n : Nat) (f : Nat → Value) : Prop := ∃ cl : Cell, Arr Z h a cl ty ∧ cl.slots.size = n ∧ ∀ j, j < n → cl.slots[j]? = some (f j)
def own_up (f : Nat → Value) (k : Nat) (v : Value) : Nat → Value := fun i => if i = k then v else f i
theorem own_up_eq (f : Nat → Value) (k : Nat) (v : Value) : own_up f k v k = v := if_pos rfl
theorem own_up_ne (f : Nat → Value) {k j : Nat} (v : Value) (q : j ≠ k) : own_up f k v j = f j := if_neg q
variable {a b : Addr} {ty : FieldType} {n sl : Nat} {f : Nat → Value} {v : Value} {wl : List Addr}
theorem own_Ar_lt (F : own_Ar Z h a ty n f) : a < h.size := by
  obtain ⟨_, A, _⟩ := F
  exact A.lt
theorem own_Ar_ext (F : own_Ar Z h a ty n f) (E : Ext h h') : own_Ar Z h' a ty n f := by
  obtain ⟨cl, A, r⟩ := F
  exact ⟨cl, A.ext E, r⟩
theorem own_Ar_other (F : own_Ar Z h b ty n f) (W : Wr h h' a sl v) (q : b ≠ a) : own_Ar Z h' b ty n f := by
  obtain ⟨cl, A, r⟩ := F
  exact ⟨cl, A.other W q, r⟩
theorem own_Ar_keep (F : own_Ar Z h a ty n f) (K : Keep h h' wl) (q : a ∉ wl) : own_Ar Z h' a ty n f := by
  obtain ⟨cl, A, r⟩ := F
  exact ⟨cl, ⟨K.2.1 _ _ A.1 q, A.2⟩, r⟩
theorem own_Ar_new {cA : ClassId} {z : Int32} (A : Arr Z h a (newA cA ty z) ty) (q : z.toNatClampNeg = n) : own_Ar Z h a ty n (fun _ => defaultValue ty) := by
  refine ⟨_, A, (sz_new cA ty z).trans q, fun j hj => ?_⟩
  simp [newA, q, hj]
theorem own_Ar_set (F : own_Ar Z h a ty n f) (W : Wr h h' a sl v) : own_Ar Z h' a ty n (own_up f sl v) := by
  obtain ⟨cl, A, r, g⟩ := F
  refine ⟨_, A.same W, (sz_set cl sl v).trans r, fun j hj => ?_⟩
  show (cl.slots.setIfInBounds sl v)[j]? = some (if j = sl then v else f j)
  rw [Array.getElem?_setIfInBounds]
  by_cases q : sl = j
  · subst q
    simp [r, hj]
  · rw [if_neg q, if_neg (Ne.symm q)]
    exact g j hj
theorem own_Ar_eq {g : Nat → Value} (F : own_Ar Z h a ty n f) (q : ∀ i, i < n → f i = g i) : own_Ar Z h a ty n g := by
  obtain ⟨cl, A, r, w⟩ := F
  exact ⟨cl, A, r, fun j hj => (w j hj).trans (congrArg some (q j hj))⟩
theorem own_idx {j : Int32} {k n : Nat} (hj : j.toInt = (k : Int)) (hk : k < n) : j.toNatClampNeg = k ∧ ¬ (j < 0 ∨ n ≤ j.toNatClampNeg) := by
  have h1 : j.toNatClampNeg = k := by
    show j.toInt.toNat = k
    rw [hj]; rfl
  refine ⟨h1, ?_⟩
  have h0 : (0 : Int32).toInt = 0 := rfl
  rw [h1, Int32.lt_iff_toInt_lt, hj, h0]
  omega
theorem own_iaload (X : Stand p l e R s m args below meth c T locs cells slots) (hx : p.tables.exec = Jvm.exec) (hZ : Z.Warmed39 s.vm) (eT : T.heap = h) (A : own_Ar Z h a .int n f) {j : Int32} (k : Nat) (hj : j.toInt = (k : Int)) (hk : k < n) {pc : Nat} {Ls : Array Slot} {st : List Value} (hd : decode c.code pc = .ok (.iaload, 1))
    (go : own_Go p e below Po T (mkF m (pc + 1) Ls (f k :: st))) : own_Go p e below Po T (mkF m pc Ls (.int j :: .ref a :: st)) := by
  obtain ⟨cl, A, r, w⟩ := A
  obtain ⟨q1, q2⟩ := own_idx hj hk
  exact own_go (fun _ kk => X.iaload hx (j := j) (v := f k) (by rw [eT]; exact A.1) (State.isArrayOf_alike hZ.alike A.2.1) A.2.2 (by rw [r]; exact q2) (by rw [q1]; exact w k hk) (g := mkF m pc Ls (.int j :: .ref a :: st)) rfl rfl hd _ kk) go
theorem own_laload (X : Stand p l e R s m args below meth c T locs cells slots) (hx : p.tables.exec = Jvm.exec) (hZ : Z.Warmed39 s.vm) (eT : T.heap = h) (A : own_Ar Z h a .long n f) {j : Int32} (k : Nat) (hj : j.toInt = (k : Int)) (hk : k < n) {pc : Nat} {Ls : Array Slot} {st : List Value} (hd : decode c.code pc = .ok (.laload, 1))
    (go : own_Go p e below Po T (mkF m (pc + 1) Ls (f k :: st))) : own_Go p e below Po T (mkF m pc Ls (.int j :: .ref a :: st)) := by
  obtain ⟨cl, A, r, w⟩ := A
  obtain ⟨q1, q2⟩ := own_idx hj hk
  exact own_go (fun _ kk => X.laload hx (j := j) (v := f k) (by rw [eT]; exact A.1) (State.isArrayOf_alike hZ.alike A.2.1) A.2.2 (by rw [r]; exact q2) (by rw [q1]; exact w k hk) (g := mkF m pc Ls (.int j :: .ref a :: st)) rfl rfl hd _ kk) go
theorem own_baload (X : Stand p l e R s m args below meth c T locs cells slots) (hx : p.tables.exec = Jvm.exec) (hZ : Z.Warmed39 s.vm) (eT : T.heap = h) (A : own_Ar Z h a .byte n f) {j : Int32} (k : Nat) (hj : j.toInt = (k : Int)) (hk : k < n) {pc : Nat} {Ls : Array Slot} {st : List Value} (hd : decode c.code pc = .ok (.baload, 1))
    (go : own_Go p e below Po T (mkF m (pc + 1) Ls (f k :: st))) : own_Go p e below Po T (mkF m pc Ls (.int j :: .ref a :: st)) := by
  obtain ⟨cl, A, r, w⟩ := A
  obtain ⟨q1, q2⟩ := own_idx hj hk
  exact own_go (fun _ kk => X.baloadBytes hx (j := j) (v := f k) (by rw [eT]; exact A.1) (State.isArrayOf_alike hZ.alike A.2.1) A.2.2 (by rw [r]; exact q2) (by rw [q1]; exact w k hk) (g := mkF m pc Ls (.int j :: .ref a :: st)) rfl rfl hd _ kk) go
theorem own_aaload (X : Stand p l e R s m args below meth c T locs cells slots) (hx : p.tables.exec = Jvm.exec) (hZ : Z.Warmed39 s.vm) (eT : T.heap = h) (A : own_Ar Z h a ty n f) (hty : ty.isReference = true) {j : Int32} (k : Nat) (hj : j.toInt = (k : Int)) (hk : k < n) {pc : Nat} {Ls : Array Slot} {st : List Value} (hd : decode c.code pc = .ok (.aaload, 1))
    (go : own_Go p e below Po T (mkF m (pc + 1) Ls (f k :: st))) : own_Go p e below Po T (mkF m pc Ls (.int j :: .ref a :: st)) := by
  obtain ⟨cl, A, r, w⟩ := A
  obtain ⟨q1, q2⟩ := own_idx hj hk
  exact own_go (fun _ kk => X.aaload hx (j := j) (v := f k) (by rw [eT]; exact A.1) (State.isArrayOf_alike hZ.alike A.2.1) hty A.2.2 (by rw [r]; exact q2) (by rw [q1]; exact w k hk) (g := mkF m pc Ls (.int j :: .ref a :: st)) rfl rfl hd _ kk) go
theorem own_len (X : Stand p l e R s m args below meth c T locs cells slots) (hx : p.tables.exec = Jvm.exec) (hZ : Z.Warmed39 s.vm) (eT : T.heap = h) (A : own_Ar Z h a ty n f) {pc : Nat} {Ls : Array Slot} {st : List Value} (hd : decode c.code pc = .ok (.arraylength, 1)) (z : Int32) (hz : n.toInt32 = z)
    (go : own_Go p e below Po T (mkF m (pc + 1) Ls (.int z :: st))) : own_Go p e below Po T (mkF m pc Ls (.ref a :: st)) := by
  obtain ⟨cl, A, r, w⟩ := A
  refine own_go (fun _ kk => X.arraylength hx (by rw [eT]; exact A.1) (State.isArrayOf_alike hZ.alike A.2.1) (g := mkF m pc Ls (.ref a :: st)) rfl rfl hd _ kk) ?_
  rw [r, hz]
  exact go
theorem own_iastore (X : Stand p l e R s m args below meth c T locs cells slots) (hx : p.tables.exec = Jvm.exec) (hZ : Z.Warmed39 s.vm) (eT : T.heap = h) (A : own_Ar Z h a .int n f) {j x : Int32} (k : Nat) (hj : j.toInt = (k : Int)) (hk : k < n) {pc : Nat} {Ls : Array Slot} {st : List Value} (hd : decode c.code pc = .ok (.iastore, 1))
    (go : ∀ T' h', Stand p l e R s m args below meth c T' (locs ++ [⟨a, k⟩]) cells slots → T'.heap = h' → Wr h h' a k (.int x) → own_Go p e below Po T' (mkF m (pc + 1) Ls st)) : own_Go p e below Po T (mkF m pc Ls (.int x :: .int j :: .ref a :: st)) := by
  obtain ⟨cl, A, r, w⟩ := A
  obtain ⟨q1, q2⟩ := own_idx hj hk
  obtain ⟨T', h', X', e', W, st'⟩ := stI X hx hZ eT A (j := j) (x := x) (by rw [r]; exact q2) (g := mkF m pc Ls (.int x :: .int j :: .ref a :: st)) rfl rfl hd
  rw [q1] at X' W
  exact own_go st' (go T' h' X' e' W)
theorem own_lastore (X : Stand p l e R s m args below meth c T locs cells slots) (hx : p.tables.exec = Jvm.exec) (hZ : Z.Warmed39 s.vm) (eT : T.heap = h) (A : own_Ar Z h a .long n f) {j : Int32} {x : Int64} (k : Nat) (hj : j.toInt = (k : Int)) (hk : k < n) {pc : Nat} {Ls : Array Slot} {st : List Value} (hd : decode c.code pc = .ok (.lastore, 1))
    (go : ∀ T' h', Stand p l e R s m args below meth c T' (locs ++ [⟨a, k⟩]) cells slots → T'.heap = h' → Wr h h' a k (.long x) → own_Go p e below Po T' (mkF m (pc + 1) Ls st)) : own_Go p e below Po T (mkF m pc Ls (.long x :: .int j :: .ref a :: st)) := by
  obtain ⟨cl, A, r, w⟩ := A
  obtain ⟨q1, q2⟩ := own_idx hj hk
  obtain ⟨T', h', X', e', W, st'⟩ := stJ X hx hZ eT A (j := j) (x := x) (by rw [r]; exact q2) (g := mkF m pc Ls (.long x :: .int j :: .ref a :: st)) rfl rfl hd
  rw [q1] at X' W
  exact own_go st' (go T' h' X' e' W)
theorem own_bastore (X : Stand p l e R s m args below meth c T locs cells slots) (hx : p.tables.exec = Jvm.exec) (hZ : Z.Warmed39 s.vm) (eT : T.heap = h) (A : own_Ar Z h a .byte n f) {j x : Int32} (k : Nat) (hj : j.toInt = (k : Int)) (hk : k < n) {pc : Nat} {Ls : Array Slot} {st : List Value} (hd : decode c.code pc = .ok (.bastore, 1))
    (go : ∀ T' h', Stand p l e R s m args below meth c T' (locs ++ [⟨a, k⟩]) cells slots → T'.heap = h' → Wr h h' a k (.int x.toInt8.toInt32) → own_Go p e below Po T' (mkF m (pc + 1) Ls st)) : own_Go p e below Po T (mkF m pc Ls (.int x :: .int j :: .ref a :: st)) := by
  obtain ⟨cl, A, r, w⟩ := A
  obtain ⟨q1, q2⟩ := own_idx hj hk
  obtain ⟨T', h', X', e', W, st'⟩ := stB X hx hZ eT A (j := j) (x := x) (by rw [r]; exact q2) (g := mkF m pc Ls (.int x :: .int j :: .ref a :: st)) rfl rfl hd
  rw [q1] at X' W
  exact own_go st' (go T' h' X' e' W)
theorem own_newP (X : Stand p l e R s m args below meth c T locs cells slots) (hx : p.tables.exec = Jvm.exec) (hZ : Z.Warmed39 s.vm) (eT : T.heap = h) {aty : ArrayType} (w : (Jvm.Cond.arrayClass (newarray.typeOf aty)).before a0 Z = true) {z : Int32} (n : Nat) (hz : z.toNatClampNeg = n) (hz0 : ¬ z < 0) (hb8 : n * 8 ≤ 536870912) (hc : cells + 1 ≤ R.cells) (hs : slots + n ≤ R.slots) {pc : Nat} {Ls : Array Slot} {st : List Value} (hd : decode c.code pc = .ok (.newarray aty, 2))
    (go : ∀ T' h' b, b = h.size → Stand p l e R s m args below meth c T' locs (cells + 1) (slots + n) → T'.heap = h' → Ext h h' → own_Ar Z h' b (newarray.typeOf aty) n (fun _ => defaultValue (newarray.typeOf aty)) → own_Go p e below Po T' (mkF m (pc + 2) Ls (.ref b :: st))) : own_Go p e below Po T (mkF m pc Ls (.int z :: st)) := by
  obtain ⟨T', h', cA, X', e', E, A, st'⟩ := newP X hx hZ w eT (g := mkF m pc Ls (.int z :: st)) rfl hd rfl hz0 (cap := n) (Nat.le_of_eq hz) hb8 hc hs
  exact own_go st' (go T' h' _ rfl X' e' E (own_Ar_new A hz))
end Own
section OwnI
variable {Z : State} {h h' : Heap} {a b : Addr} {ty : FieldType} {n sl : Nat} {f : Nat → Int32} {v : Value} {wl : List Addr} {x : Int32}
/-- an array of ints (bytes): place j holds f j -/
def own_Ai (Z : State) (h : Heap) (a : Addr) (ty : FieldType) (n : Nat) (f : Nat → Int32) : Prop := own_Ar Z h a ty n (fun i => .int (f i))
def own_upi (f : Nat → Int32) (k : Nat) (x : Int32) : Nat → Int32 := fun i => if i = k then x else f i
theorem own_Ai_set (F : own_Ai Z h a ty n f) (W : Wr h h' a sl (.int x)) : own_Ai Z h' a ty n (own_upi f sl x) :=
  own_Ar_eq (own_Ar_set F W) (fun i _ => by unfold own_up own_upi; split <;> rfl)
theorem own_Ai_eq {g : Nat → Int32} (F : own_Ai Z h a ty n f) (q : ∀ i, i < n → f i = g i) : own_Ai Z h a ty n g := own_Ar_eq F fun i hi => by rw [q i hi]
end OwnI
theorem pn_0 : plainName "com/example/gangplank/gangplank/slices/SlicesShortestSlicePinLaw" = true := by first | (simp [plainName, overriddenIn]; done) | decide +kernel
theorem pd_0 : parseMethodDescriptor "(JJJ)Z" = some ⟨[.long, .long, .long], some .boolean⟩ := by decide +kernel
theorem ef_0 (m : MethodId) (x0 : Int64) (x1 : Int64) (x2 : Int64) : entryFrame m #[(.long x0), (.long x1), (.long x2)] maxLocals = mkF m 0 #[.val (.long x0), .second, .val (.long x1), .second, .val (.long x2), .second, .unset, .unset, .unset, .unset, .unset, .unset, .unset] [] := by first | (simp [entryFrame, mkF, argsToLocals, Value.category, maxLocals]; done) | rfl
theorem d1_0 : decode prog_196_method_5_code 0 = .ok (.lconst 0, 1) := by decide +kernel
theorem d1_1 : decode prog_196_method_5_code 1 = .ok (.lstore 6, 2) := by decide +kernel
theorem d1_3 : decode prog_196_method_5_code 3 = .ok (.iconst 3, 1) := by decide +kernel
theorem d1_4 : decode prog_196_method_5_code 4 = .ok (.newarray .long, 2) := by decide +kernel
theorem d1_6 : decode prog_196_method_5_code 6 = .ok (.dup, 1) := by decide +kernel
theorem d1_7 : decode prog_196_method_5_code 7 = .ok (.iconst 0, 1) := by decide +kernel
theorem d1_8 : decode prog_196_method_5_code 8 = .ok (.lload_n 0, 1) := by decide +kernel
theorem d1_9 : decode prog_196_method_5_code 9 = .ok (.lastore, 1) := by decide +kernel
theorem d1_10 : decode prog_196_method_5_code 10 = .ok (.dup, 1) := by decide +kernel
theorem d1_11 : decode prog_196_method_5_code 11 = .ok (.iconst 1, 1) := by decide +kernel
theorem d1_12 : decode prog_196_method_5_code 12 = .ok (.lload_n 2, 1) := by decide +kernel
theorem d1_13 : decode prog_196_method_5_code 13 = .ok (.lastore, 1) := by decide +kernel
theorem d1_14 : decode prog_196_method_5_code 14 = .ok (.dup, 1) := by decide +kernel
theorem d1_15 : decode prog_196_method_5_code 15 = .ok (.iconst 2, 1) := by decide +kernel
theorem d1_16 : decode prog_196_method_5_code 16 = .ok (.lload 4, 2) := by decide +kernel
theorem d1_18 : decode prog_196_method_5_code 18 = .ok (.lastore, 1) := by decide +kernel
theorem d1_19 : decode prog_196_method_5_code 19 = .ok (.astore 8, 2) := by decide +kernel
theorem d1_21 : decode prog_196_method_5_code 21 = .ok (.aload 8, 2) := by decide +kernel
theorem d1_23 : decode prog_196_method_5_code 23 = .ok (.arraylength, 1) := by decide +kernel
theorem d1_24 : decode prog_196_method_5_code 24 = .ok (.istore 9, 2) := by decide +kernel
theorem d1_26 : decode prog_196_method_5_code 26 = .ok (.iconst 0, 1) := by decide +kernel
theorem d1_27 : decode prog_196_method_5_code 27 = .ok (.istore 10, 2) := by decide +kernel
theorem d1_29 : decode prog_196_method_5_code 29 = .ok (.iload 10, 2) := by decide +kernel
theorem d1_31 : decode prog_196_method_5_code 31 = .ok (.iload 9, 2) := by decide +kernel
theorem d1_33 : decode prog_196_method_5_code 33 = .ok (.if_icmp .ge 42, 3) := by decide +kernel
theorem d1_36 : decode prog_196_method_5_code 36 = .ok (.aload 8, 2) := by decide +kernel
theorem d1_38 : decode prog_196_method_5_code 38 = .ok (.iload 10, 2) := by decide +kernel
theorem d1_40 : decode prog_196_method_5_code 40 = .ok (.laload, 1) := by decide +kernel
theorem d1_41 : decode prog_196_method_5_code 41 = .ok (.lstore 11, 2) := by decide +kernel
theorem d1_43 : decode prog_196_method_5_code 43 = .ok (.lload 11, 2) := by decide +kernel
theorem d1_45 : decode prog_196_method_5_code 45 = .ok (.lconst 0, 1) := by decide +kernel
theorem d1_46 : decode prog_196_method_5_code 46 = .ok (.lcmp, 1) := by decide +kernel
theorem d1_47 : decode prog_196_method_5_code 47 = .ok (.ifCond .le 22, 3) := by decide +kernel
theorem d1_50 : decode prog_196_method_5_code 50 = .ok (.lload 6, 2) := by decide +kernel
theorem d1_52 : decode prog_196_method_5_code 52 = .ok (.lconst 0, 1) := by decide +kernel
theorem d1_53 : decode prog_196_method_5_code 53 = .ok (.lcmp, 1) := by decide +kernel
theorem d1_54 : decode prog_196_method_5_code 54 = .ok (.ifCond .eq 11, 3) := by decide +kernel
theorem d1_57 : decode prog_196_method_5_code 57 = .ok (.lload 11, 2) := by decide +kernel
theorem d1_59 : decode prog_196_method_5_code 59 = .ok (.lload 6, 2) := by decide +kernel
theorem d1_61 : decode prog_196_method_5_code 61 = .ok (.lcmp, 1) := by decide +kernel
theorem d1_62 : decode prog_196_method_5_code 62 = .ok (.ifCond .ge 7, 3) := by decide +kernel
theorem d1_65 : decode prog_196_method_5_code 65 = .ok (.lload 11, 2) := by decide +kernel
theorem d1_67 : decode prog_196_method_5_code 67 = .ok (.lstore 6, 2) := by decide +kernel
theorem d1_69 : decode prog_196_method_5_code 69 = .ok (.iinc 10 1, 3) := by decide +kernel
theorem d1_72 : decode prog_196_method_5_code 72 = .ok (.goto (-43), 3) := by decide +kernel
theorem d1_75 : decode prog_196_method_5_code 75 = .ok (.lload 6, 2) := by decide +kernel
theorem d1_77 : decode prog_196_method_5_code 77 = .ok (.lreturn, 1) := by decide +kernel
theorem pn_1 : plainName "com/example/gangplank/gangplank/slices/Slices" = true := by first | (simp [plainName, overriddenIn]; done) | decide +kernel
theorem pd_1 : parseMethodDescriptor "(JJJ)J" = some ⟨[.long, .long, .long], some .long⟩ := by decide +kernel
theorem ef_1 (m : MethodId) (x0 : Int64) (x1 : Int64) (x2 : Int64) : entryFrame m #[(.long x0), (.long x1), (.long x2)] 13 = mkF m 0 #[.val (.long x0), .second, .val (.long x1), .second, .val (.long x2), .second, .unset, .unset, .unset, .unset, .unset, .unset, .unset] [] := by first | (simp [entryFrame, mkF, argsToLocals, Value.category]; done) | rfl
def own_f (s x : Int64) : Int64 := if 0 < x ∧ (s = 0 ∨ x < s) then x else s
theorem own_f_a {s x : Int64} (h : ¬ 0 < x) : s = own_f s x := by simp [own_f, h]
theorem own_f_b {s x : Int64} (h : 0 < x) (g : s = 0) : x = own_f s x := by simp [own_f, h, g]
theorem own_f_c {s x : Int64} (h : 0 < x) (g : x < s) : x = own_f s x := by simp [own_f, h, g]
theorem own_f_d {s x : Int64} (g : ¬ s = 0) (k : ¬ x < s) : s = own_f s x := by simp [own_f, g, k]
theorem own_spec (a b c r : Int64) (h : r = own_f (own_f (own_f 0 a) b) c) : (¬ 0 < a → ¬ 0 < b → ¬ 0 < c → r = 0) ∧ (0 < a ∨ 0 < b ∨ 0 < c → (0 < a ∧ r = a) ∨ (0 < b ∧ r = b) ∨ (0 < c ∧ r = c)) ∧ (0 < a → ¬ a < r) ∧ (0 < b → ¬ b < r) ∧ (0 < c → ¬ c < r) := by
  subst h
  unfold own_f
  simp only [Int64.lt_iff_toInt_lt, ← Int64.toInt_inj, Int64.toInt_zero]
  refine ⟨?_, ?_, ?_, ?_, ?_⟩ <;> (repeat' split) <;> simp_all <;> omega
def own_Q1 (q1 q2 q3 : Int64) (n0 : Nat) (v : Option Value) (h : Heap) (L : List Loc) : Prop := v = some (.long (own_f (own_f (own_f 0 q1) q2) q3)) ∧ Fr n0 L
def own_Q0 (n0 : Nat) (v : Option Value) (h : Heap) (L : List Loc) : Prop := v = some (.int 1) ∧ Fr n0 L
set_option maxRecDepth 65536 in
set_option maxHeartbeats 40000000 in
theorem own_rm1 (l : Launch) (Z : State) (a0 : Array Value) (hw : ∀ d ∈ tables_1, d.before a0 Z = true) (ws : List Jvm.Cond) (q1 q2 q3 : Int64) (h0 : Heap) (n0 : Nat) (Z0 : n0 ≤ h0.size) :
    own_Met l (⟨"com/example/gangplank/gangplank/slices/Slices", "shortestSlice", "(JJJ)J"⟩ : MethodName) prog_196_method_5_code 13 (some .long) ws ({ frames := 0, cells := 1, slots := 3, locals := 0 } : Room) Z #[(.long q1), (.long q2), (.long q3)] h0 (own_Q1 q1 q2 q3 n0) := by
  refine own_enter (plainFor_of_name pn_1) ?_
  intro p e s m below meth c T0 X0 hx hby hml hZ hown e0 hret hlk hnm
  have hown : s.vm.findClass "com/example/gangplank/gangplank/slices/Slices" = some m.cls := hown
  have hml : c.maxLocals = 13 := hml
  have N0 := Fr.nil n0
  refine own_start (ef_1 m q1 q2 q3) ?_
  show own_Go p e below _ T0 (mkF m 0 #[.val (.long q1), .second, .val (.long q2), .second, .val (.long q3), .second, .unset, .unset, .unset, .unset, .unset, .unset, .unset] [])
  refine own_go (g' := (mkF m 1 #[.val (.long q1), .second, .val (.long q2), .second, .val (.long q3), .second, .unset, .unset, .unset, .unset, .unset, .unset, .unset] [(.long (0 : Int64))])) (fun _ k => XT.lconst X0.here hx rfl (hb hby d1_0) k) ?_
  refine own_go (g' := (mkF m 3 #[.val (.long q1), .second, .val (.long q2), .second, .val (.long q3), .second, .val (.long (0 : Int64)), .second, .unset, .unset, .unset, .unset, .unset] [])) (fun _ k => XT.lstore X0.here hx rfl (hb hby d1_1) rfl (l' := #[.val (.long q1), .second, .val (.long q2), .second, .val (.long q3), .second, .val (.long (0 : Int64)), .second, .unset, .unset, .unset, .unset, .unset]) rfl k) ?_
  refine own_go (g' := (mkF m 4 #[.val (.long q1), .second, .val (.long q2), .second, .val (.long q3), .second, .val (.long (0 : Int64)), .second, .unset, .unset, .unset, .unset, .unset] [(.int (3 : Int32))])) (fun _ k => XS.iconst X0.here hx rfl (hb hby d1_3) k) ?_
  refine own_newP X0 hx hZ e0 (aty := .long) (hw _ (List.mem_of_getElem? (i := 4) rfl)) 3 (by decide) (by decide) (by decide) (by decide) (by decide) (hb hby d1_4) ?_
  intro T1 h1 b1 g1 X1 e1 E1 A1
  show own_Go p e below _ T1 (mkF m 6 #[.val (.long q1), .second, .val (.long q2), .second, .val (.long q3), .second, .val (.long (0 : Int64)), .second, .unset, .unset, .unset, .unset, .unset] [(.ref b1)])
  have gb : n0 ≤ b1 := Nat.le_trans Z0 (Nat.le_of_eq g1.symm)
  refine own_go (g' := (mkF m 7 #[.val (.long q1), .second, .val (.long q2), .second, .val (.long q3), .second, .val (.long (0 : Int64)), .second, .unset, .unset, .unset, .unset, .unset] [(.ref b1), (.ref b1)])) (fun _ k => XS.dup X1.here hx rfl (hb hby d1_6) rfl rfl k) ?_
  refine own_go (g' := (mkF m 8 #[.val (.long q1), .second, .val (.long q2), .second, .val (.long q3), .second, .val (.long (0 : Int64)), .second, .unset, .unset, .unset, .unset, .unset] [(.int (0 : Int32)), (.ref b1), (.ref b1)])) (fun _ k => XS.iconst X1.here hx rfl (hb hby d1_7) k) ?_
  refine own_go (g' := (mkF m 9 #[.val (.long q1), .second, .val (.long q2), .second, .val (.long q3), .second, .val (.long (0 : Int64)), .second, .unset, .unset, .unset, .unset, .unset] [(.long q1), (.int (0 : Int32)), (.ref b1), (.ref b1)])) (fun _ k => XT.lloadN X1.here hx rfl (hb hby d1_8) rfl k) ?_
  refine own_lastore X1 hx hZ e1 A1 0 (by decide) (by decide) (hb hby d1_9) ?_
  intro T2 h2 X2 e2 W2
  show own_Go p e below _ T2 (mkF m 10 #[.val (.long q1), .second, .val (.long q2), .second, .val (.long q3), .second, .val (.long (0 : Int64)), .second, .unset, .unset, .unset, .unset, .unset] [(.ref b1)])
  have A2 := own_Ar_set A1 W2
  have N2 := Fr.snoc X2 N0 gb
  refine own_go (g' := (mkF m 11 #[.val (.long q1), .second, .val (.long q2), .second, .val (.long q3), .second, .val (.long (0 : Int64)), .second, .unset, .unset, .unset, .unset, .unset] [(.ref b1), (.ref b1)])) (fun _ k => XS.dup X2.here hx rfl (hb hby d1_10) rfl rfl k) ?_
  refine own_go (g' := (mkF m 12 #[.val (.long q1), .second, .val (.long q2), .second, .val (.long q3), .second, .val (.long (0 : Int64)), .second, .unset, .unset, .unset, .unset, .unset] [(.int (1 : Int32)), (.ref b1), (.ref b1)])) (fun _ k => XS.iconst X2.here hx rfl (hb hby d1_11) k) ?_
  refine own_go (g' := (mkF m 13 #[.val (.long q1), .second, .val (.long q2), .second, .val (.long q3), .second, .val (.long (0 : Int64)), .second, .unset, .unset, .unset, .unset, .unset] [(.long q2), (.int (1 : Int32)), (.ref b1), (.ref b1)])) (fun _ k => XT.lloadN X2.here hx rfl (hb hby d1_12) rfl k) ?_
  refine own_lastore X2 hx hZ e2 A2 1 (by decide) (by decide) (hb hby d1_13) ?_
  intro T3 h3 X3 e3 W3
  show own_Go p e below _ T3 (mkF m 14 #[.val (.long q1), .second, .val (.long q2), .second, .val (.long q3), .second, .val (.long (0 : Int64)), .second, .unset, .unset, .unset, .unset, .unset] [(.ref b1)])
  have A3 := own_Ar_set A2 W3
  have N3 := Fr.snoc X3 N2 gb
  refine own_go (g' := (mkF m 15 #[.val (.long q1), .second, .val (.long q2), .second, .val (.long q3), .second, .val (.long (0 : Int64)), .second, .unset, .unset, .unset, .unset, .unset] [(.ref b1), (.ref b1)])) (fun _ k => XS.dup X3.here hx rfl (hb hby d1_14) rfl rfl k) ?_
  refine own_go (g' := (mkF m 16 #[.val (.long q1), .second, .val (.long q2), .second, .val (.long q3), .second, .val (.long (0 : Int64)), .second, .unset, .unset, .unset, .unset, .unset] [(.int (2 : Int32)), (.ref b1), (.ref b1)])) (fun _ k => XS.iconst X3.here hx rfl (hb hby d1_15) k) ?_
  refine own_go (g' := (mkF m 18 #[.val (.long q1), .second, .val (.long q2), .second, .val (.long q3), .second, .val (.long (0 : Int64)), .second, .unset, .unset, .unset, .unset, .unset] [(.long q3), (.int (2 : Int32)), (.ref b1), (.ref b1)])) (fun _ k => XT.lload X3.here hx rfl (hb hby d1_16) rfl k) ?_
  refine own_lastore X3 hx hZ e3 A3 2 (by decide) (by decide) (hb hby d1_18) ?_
  intro T4 h4 X4 e4 W4
  show own_Go p e below _ T4 (mkF m 19 #[.val (.long q1), .second, .val (.long q2), .second, .val (.long q3), .second, .val (.long (0 : Int64)), .second, .unset, .unset, .unset, .unset, .unset] [(.ref b1)])
  have A4 := own_Ar_set A3 W4
  have N4 := Fr.snoc X4 N3 gb
  refine own_go (g' := (mkF m 21 #[.val (.long q1), .second, .val (.long q2), .second, .val (.long q3), .second, .val (.long (0 : Int64)), .second, .val (.ref b1), .unset, .unset, .unset, .unset] [])) (fun _ k => XS.astore X4.here hx rfl (hb hby d1_19) rfl rfl (l' := #[.val (.long q1), .second, .val (.long q2), .second, .val (.long q3), .second, .val (.long (0 : Int64)), .second, .val (.ref b1), .unset, .unset, .unset, .unset]) rfl k) ?_
  refine own_go (g' := (mkF m 23 #[.val (.long q1), .second, .val (.long q2), .second, .val (.long q3), .second, .val (.long (0 : Int64)), .second, .val (.ref b1), .unset, .unset, .unset, .unset] [(.ref b1)])) (fun _ k => XS.aload X4.here hx rfl (hb hby d1_21) rfl rfl k) ?_
  refine own_len X4 hx hZ e4 A4 (hb hby d1_23) (3 : Int32) rfl ?_
  show own_Go p e below _ T4 (mkF m 24 #[.val (.long q1), .second, .val (.long q2), .second, .val (.long q3), .second, .val (.long (0 : Int64)), .second, .val (.ref b1), .unset, .unset, .unset, .unset] [(.int (3 : Int32))])
  refine own_go (g' := (mkF m 26 #[.val (.long q1), .second, .val (.long q2), .second, .val (.long q3), .second, .val (.long (0 : Int64)), .second, .val (.ref b1), .val (.int (3 : Int32)), .unset, .unset, .unset] [])) (fun _ k => XS.istore X4.here hx rfl (hb hby d1_24) rfl (l' := #[.val (.long q1), .second, .val (.long q2), .second, .val (.long q3), .second, .val (.long (0 : Int64)), .second, .val (.ref b1), .val (.int (3 : Int32)), .unset, .unset, .unset]) rfl k) ?_
  refine own_go (g' := (mkF m 27 #[.val (.long q1), .second, .val (.long q2), .second, .val (.long q3), .second, .val (.long (0 : Int64)), .second, .val (.ref b1), .val (.int (3 : Int32)), .unset, .unset, .unset] [(.int (0 : Int32))])) (fun _ k => XS.iconst X4.here hx rfl (hb hby d1_26) k) ?_
  refine own_go (g' := (mkF m 29 #[.val (.long q1), .second, .val (.long q2), .second, .val (.long q3), .second, .val (.long (0 : Int64)), .second, .val (.ref b1), .val (.int (3 : Int32)), .val (.int (0 : Int32)), .unset, .unset] [])) (fun _ k => XS.istore X4.here hx rfl (hb hby d1_27) rfl (l' := #[.val (.long q1), .second, .val (.long q2), .second, .val (.long q3), .second, .val (.long (0 : Int64)), .second, .val (.ref b1), .val (.int (3 : Int32)), .val (.int (0 : Int32)), .unset, .unset]) rfl k) ?_
  refine own_go (g' := (mkF m 31 #[.val (.long q1), .second, .val (.long q2), .second, .val (.long q3), .second, .val (.long (0 : Int64)), .second, .val (.ref b1), .val (.int (3 : Int32)), .val (.int (0 : Int32)), .unset, .unset] [(.int (0 : Int32))])) (fun _ k => XS.iload X4.here hx rfl (hb hby d1_29) rfl k) ?_
  refine own_go (g' := (mkF m 33 #[.val (.long q1), .second, .val (.long q2), .second, .val (.long q3), .second, .val (.long (0 : Int64)), .second, .val (.ref b1), .val (.int (3 : Int32)), .val (.int (0 : Int32)), .unset, .unset] [(.int (3 : Int32)), (.int (0 : Int32))])) (fun _ k => XS.iload X4.here hx rfl (hb hby d1_31) rfl k) ?_
  refine own_go (g' := (mkF m 36 #[.val (.long q1), .second, .val (.long q2), .second, .val (.long q3), .second, .val (.long (0 : Int64)), .second, .val (.ref b1), .val (.int (3 : Int32)), .val (.int (0 : Int32)), .unset, .unset] [])) (fun _ k => XS.icmpNo X4.here hx rfl (hb hby d1_33) rfl (XT.ii_ge_f (by decide)) k) ?_
  refine own_go (g' := (mkF m 38 #[.val (.long q1), .second, .val (.long q2), .second, .val (.long q3), .second, .val (.long (0 : Int64)), .second, .val (.ref b1), .val (.int (3 : Int32)), .val (.int (0 : Int32)), .unset, .unset] [(.ref b1)])) (fun _ k => XS.aload X4.here hx rfl (hb hby d1_36) rfl rfl k) ?_
  refine own_go (g' := (mkF m 40 #[.val (.long q1), .second, .val (.long q2), .second, .val (.long q3), .second, .val (.long (0 : Int64)), .second, .val (.ref b1), .val (.int (3 : Int32)), .val (.int (0 : Int32)), .unset, .unset] [(.int (0 : Int32)), (.ref b1)])) (fun _ k => XS.iload X4.here hx rfl (hb hby d1_38) rfl k) ?_
  refine own_laload X4 hx hZ e4 A4 0 (by decide) (by decide) (hb hby d1_40) ?_
  show own_Go p e below _ T4 (mkF m 41 #[.val (.long q1), .second, .val (.long q2), .second, .val (.long q3), .second, .val (.long (0 : Int64)), .second, .val (.ref b1), .val (.int (3 : Int32)), .val (.int (0 : Int32)), .unset, .unset] [(.long q1)])
  refine own_go (g' := (mkF m 43 #[.val (.long q1), .second, .val (.long q2), .second, .val (.long q3), .second, .val (.long (0 : Int64)), .second, .val (.ref b1), .val (.int (3 : Int32)), .val (.int (0 : Int32)), .val (.long q1), .second] [])) (fun _ k => XT.lstore X4.here hx rfl (hb hby d1_41) rfl (l' := #[.val (.long q1), .second, .val (.long q2), .second, .val (.long q3), .second, .val (.long (0 : Int64)), .second, .val (.ref b1), .val (.int (3 : Int32)), .val (.int (0 : Int32)), .val (.long q1), .second]) rfl k) ?_
  refine own_go (g' := (mkF m 45 #[.val (.long q1), .second, .val (.long q2), .second, .val (.long q3), .second, .val (.long (0 : Int64)), .second, .val (.ref b1), .val (.int (3 : Int32)), .val (.int (0 : Int32)), .val (.long q1), .second] [(.long q1)])) (fun _ k => XT.lload X4.here hx rfl (hb hby d1_43) rfl k) ?_
  refine own_go (g' := (mkF m 46 #[.val (.long q1), .second, .val (.long q2), .second, .val (.long q3), .second, .val (.long (0 : Int64)), .second, .val (.ref b1), .val (.int (3 : Int32)), .val (.int (0 : Int32)), .val (.long q1), .second] [(.long (0 : Int64)), (.long q1)])) (fun _ k => XT.lconst X4.here hx rfl (hb hby d1_45) k) ?_
  refine own_go (g' := (mkF m 47 #[.val (.long q1), .second, .val (.long q2), .second, .val (.long q3), .second, .val (.long (0 : Int64)), .second, .val (.ref b1), .val (.int (3 : Int32)), .val (.int (0 : Int32)), .val (.long q1), .second] [(.int (XT.cmpL q1 (0 : Int64)))])) (fun _ k => XT.lcmp X4.here hx rfl (hb hby d1_46) rfl k) ?_
  suffices J0 : ∀ s1 : Int64, s1 = own_f (0 : Int64) q1 → own_Go p e below (own_Po s (own_Q1 q1 q2 q3 n0) 1 3) T4 (mkF m 69 #[.val (.long q1), .second, .val (.long q2), .second, .val (.long q3), .second, .val (.long s1), .second, .val (.ref b1), .val (.int (3 : Int32)), .val (.int (0 : Int32)), .val (.long q1), .second] []) by
    by_cases ha : (0 : Int64) < q1
    · refine own_go (g' := (mkF m 50 #[.val (.long q1), .second, .val (.long q2), .second, .val (.long q3), .second, .val (.long (0 : Int64)), .second, .val (.ref b1), .val (.int (3 : Int32)), .val (.int (0 : Int32)), .val (.long q1), .second] [])) (fun _ k => XS.ifNo X4.here hx rfl (hb hby d1_47) rfl (XT.ll_le_f ha) k) ?_
      refine own_go (g' := (mkF m 52 #[.val (.long q1), .second, .val (.long q2), .second, .val (.long q3), .second, .val (.long (0 : Int64)), .second, .val (.ref b1), .val (.int (3 : Int32)), .val (.int (0 : Int32)), .val (.long q1), .second] [(.long (0 : Int64))])) (fun _ k => XT.lload X4.here hx rfl (hb hby d1_50) rfl k) ?_
      refine own_go (g' := (mkF m 53 #[.val (.long q1), .second, .val (.long q2), .second, .val (.long q3), .second, .val (.long (0 : Int64)), .second, .val (.ref b1), .val (.int (3 : Int32)), .val (.int (0 : Int32)), .val (.long q1), .second] [(.long (0 : Int64)), (.long (0 : Int64))])) (fun _ k => XT.lconst X4.here hx rfl (hb hby d1_52) k) ?_
      refine own_go (g' := (mkF m 54 #[.val (.long q1), .second, .val (.long q2), .second, .val (.long q3), .second, .val (.long (0 : Int64)), .second, .val (.ref b1), .val (.int (3 : Int32)), .val (.int (0 : Int32)), .val (.long q1), .second] [(.int (XT.cmpL (0 : Int64) (0 : Int64)))])) (fun _ k => XT.lcmp X4.here hx rfl (hb hby d1_53) rfl k) ?_
      by_cases hz : (0 : Int64) = (0 : Int64)
      · refine own_go (g' := (mkF m 65 #[.val (.long q1), .second, .val (.long q2), .second, .val (.long q3), .second, .val (.long (0 : Int64)), .second, .val (.ref b1), .val (.int (3 : Int32)), .val (.int (0 : Int32)), .val (.long q1), .second] [])) (fun _ k => XS.ifYes X4.here hx rfl (pc0 := 54) (pc' := 65) rfl (hb hby d1_54) rfl (XT.ll_eq_t hz) (by decide) (by decide) k) ?_
        refine own_go (g' := (mkF m 67 #[.val (.long q1), .second, .val (.long q2), .second, .val (.long q3), .second, .val (.long (0 : Int64)), .second, .val (.ref b1), .val (.int (3 : Int32)), .val (.int (0 : Int32)), .val (.long q1), .second] [(.long q1)])) (fun _ k => XT.lload X4.here hx rfl (hb hby d1_65) rfl k) ?_
        refine own_go (g' := (mkF m 69 #[.val (.long q1), .second, .val (.long q2), .second, .val (.long q3), .second, .val (.long q1), .second, .val (.ref b1), .val (.int (3 : Int32)), .val (.int (0 : Int32)), .val (.long q1), .second] [])) (fun _ k => XT.lstore X4.here hx rfl (hb hby d1_67) rfl (l' := #[.val (.long q1), .second, .val (.long q2), .second, .val (.long q3), .second, .val (.long q1), .second, .val (.ref b1), .val (.int (3 : Int32)), .val (.int (0 : Int32)), .val (.long q1), .second]) rfl k) ?_
        exact J0 q1 (own_f_b ha hz)
      · refine own_go (g' := (mkF m 57 #[.val (.long q1), .second, .val (.long q2), .second, .val (.long q3), .second, .val (.long (0 : Int64)), .second, .val (.ref b1), .val (.int (3 : Int32)), .val (.int (0 : Int32)), .val (.long q1), .second] [])) (fun _ k => XS.ifNo X4.here hx rfl (hb hby d1_54) rfl (XT.ll_eq_f hz) k) ?_
        refine own_go (g' := (mkF m 59 #[.val (.long q1), .second, .val (.long q2), .second, .val (.long q3), .second, .val (.long (0 : Int64)), .second, .val (.ref b1), .val (.int (3 : Int32)), .val (.int (0 : Int32)), .val (.long q1), .second] [(.long q1)])) (fun _ k => XT.lload X4.here hx rfl (hb hby d1_57) rfl k) ?_
        refine own_go (g' := (mkF m 61 #[.val (.long q1), .second, .val (.long q2), .second, .val (.long q3), .second, .val (.long (0 : Int64)), .second, .val (.ref b1), .val (.int (3 : Int32)), .val (.int (0 : Int32)), .val (.long q1), .second] [(.long (0 : Int64)), (.long q1)])) (fun _ k => XT.lload X4.here hx rfl (hb hby d1_59) rfl k) ?_
        refine own_go (g' := (mkF m 62 #[.val (.long q1), .second, .val (.long q2), .second, .val (.long q3), .second, .val (.long (0 : Int64)), .second, .val (.ref b1), .val (.int (3 : Int32)), .val (.int (0 : Int32)), .val (.long q1), .second] [(.int (XT.cmpL q1 (0 : Int64)))])) (fun _ k => XT.lcmp X4.here hx rfl (hb hby d1_61) rfl k) ?_
        by_cases hl : q1 < (0 : Int64)
        · refine own_go (g' := (mkF m 65 #[.val (.long q1), .second, .val (.long q2), .second, .val (.long q3), .second, .val (.long (0 : Int64)), .second, .val (.ref b1), .val (.int (3 : Int32)), .val (.int (0 : Int32)), .val (.long q1), .second] [])) (fun _ k => XS.ifNo X4.here hx rfl (hb hby d1_62) rfl (XT.ll_ge_f hl) k) ?_
          refine own_go (g' := (mkF m 67 #[.val (.long q1), .second, .val (.long q2), .second, .val (.long q3), .second, .val (.long (0 : Int64)), .second, .val (.ref b1), .val (.int (3 : Int32)), .val (.int (0 : Int32)), .val (.long q1), .second] [(.long q1)])) (fun _ k => XT.lload X4.here hx rfl (hb hby d1_65) rfl k) ?_
          refine own_go (g' := (mkF m 69 #[.val (.long q1), .second, .val (.long q2), .second, .val (.long q3), .second, .val (.long q1), .second, .val (.ref b1), .val (.int (3 : Int32)), .val (.int (0 : Int32)), .val (.long q1), .second] [])) (fun _ k => XT.lstore X4.here hx rfl (hb hby d1_67) rfl (l' := #[.val (.long q1), .second, .val (.long q2), .second, .val (.long q3), .second, .val (.long q1), .second, .val (.ref b1), .val (.int (3 : Int32)), .val (.int (0 : Int32)), .val (.long q1), .second]) rfl k) ?_
          exact J0 q1 (own_f_c ha hl)
        · refine own_go (g' := (mkF m 69 #[.val (.long q1), .second, .val (.long q2), .second, .val (.long q3), .second, .val (.long (0 : Int64)), .second, .val (.ref b1), .val (.int (3 : Int32)), .val (.int (0 : Int32)), .val (.long q1), .second] [])) (fun _ k => XS.ifYes X4.here hx rfl (pc0 := 62) (pc' := 69) rfl (hb hby d1_62) rfl (XT.ll_ge_t hl) (by decide) (by decide) k) ?_
          exact J0 (0 : Int64) (own_f_d hz hl)
    · refine own_go (g' := (mkF m 69 #[.val (.long q1), .second, .val (.long q2), .second, .val (.long q3), .second, .val (.long (0 : Int64)), .second, .val (.ref b1), .val (.int (3 : Int32)), .val (.int (0 : Int32)), .val (.long q1), .second] [])) (fun _ k => XS.ifYes X4.here hx rfl (pc0 := 47) (pc' := 69) rfl (hb hby d1_47) rfl (XT.ll_le_t ha) (by decide) (by decide) k) ?_
      exact J0 (0 : Int64) (own_f_a ha)
  intro s1 hs1
  refine own_go (g' := (mkF m 72 #[.val (.long q1), .second, .val (.long q2), .second, .val (.long q3), .second, .val (.long s1), .second, .val (.ref b1), .val (.int (3 : Int32)), .val (.int ((0 : Int32) + (1 : Int32))), .val (.long q1), .second] [])) (fun _ k => XS.iinc X4.here hx rfl (hb hby d1_69) rfl (l' := #[.val (.long q1), .second, .val (.long q2), .second, .val (.long q3), .second, .val (.long s1), .second, .val (.ref b1), .val (.int (3 : Int32)), .val (.int ((0 : Int32) + (1 : Int32))), .val (.long q1), .second]) rfl k) ?_
  show own_Go p e below _ T4 (mkF m 72 #[.val (.long q1), .second, .val (.long q2), .second, .val (.long q3), .second, .val (.long s1), .second, .val (.ref b1), .val (.int (3 : Int32)), .val (.int (1 : Int32)), .val (.long q1), .second] [])
  refine own_go (g' := (mkF m 29 #[.val (.long q1), .second, .val (.long q2), .second, .val (.long q3), .second, .val (.long s1), .second, .val (.ref b1), .val (.int (3 : Int32)), .val (.int (1 : Int32)), .val (.long q1), .second] [])) (fun _ k => XS.goto X4.here hx rfl (pc0 := 72) (pc' := 29) rfl (hb hby d1_72) (by decide) (by decide) k) ?_
  refine own_go (g' := (mkF m 31 #[.val (.long q1), .second, .val (.long q2), .second, .val (.long q3), .second, .val (.long s1), .second, .val (.ref b1), .val (.int (3 : Int32)), .val (.int (1 : Int32)), .val (.long q1), .second] [(.int (1 : Int32))])) (fun _ k => XS.iload X4.here hx rfl (hb hby d1_29) rfl k) ?_
  refine own_go (g' := (mkF m 33 #[.val (.long q1), .second, .val (.long q2), .second, .val (.long q3), .second, .val (.long s1), .second, .val (.ref b1), .val (.int (3 : Int32)), .val (.int (1 : Int32)), .val (.long q1), .second] [(.int (3 : Int32)), (.int (1 : Int32))])) (fun _ k => XS.iload X4.here hx rfl (hb hby d1_31) rfl k) ?_
  refine own_go (g' := (mkF m 36 #[.val (.long q1), .second, .val (.long q2), .second, .val (.long q3), .second, .val (.long s1), .second, .val (.ref b1), .val (.int (3 : Int32)), .val (.int (1 : Int32)), .val (.long q1), .second] [])) (fun _ k => XS.icmpNo X4.here hx rfl (hb hby d1_33) rfl (XT.ii_ge_f (by decide)) k) ?_
  refine own_go (g' := (mkF m 38 #[.val (.long q1), .second, .val (.long q2), .second, .val (.long q3), .second, .val (.long s1), .second, .val (.ref b1), .val (.int (3 : Int32)), .val (.int (1 : Int32)), .val (.long q1), .second] [(.ref b1)])) (fun _ k => XS.aload X4.here hx rfl (hb hby d1_36) rfl rfl k) ?_
  refine own_go (g' := (mkF m 40 #[.val (.long q1), .second, .val (.long q2), .second, .val (.long q3), .second, .val (.long s1), .second, .val (.ref b1), .val (.int (3 : Int32)), .val (.int (1 : Int32)), .val (.long q1), .second] [(.int (1 : Int32)), (.ref b1)])) (fun _ k => XS.iload X4.here hx rfl (hb hby d1_38) rfl k) ?_
  refine own_laload X4 hx hZ e4 A4 1 (by decide) (by decide) (hb hby d1_40) ?_
  show own_Go p e below _ T4 (mkF m 41 #[.val (.long q1), .second, .val (.long q2), .second, .val (.long q3), .second, .val (.long s1), .second, .val (.ref b1), .val (.int (3 : Int32)), .val (.int (1 : Int32)), .val (.long q1), .second] [(.long q2)])
  refine own_go (g' := (mkF m 43 #[.val (.long q1), .second, .val (.long q2), .second, .val (.long q3), .second, .val (.long s1), .second, .val (.ref b1), .val (.int (3 : Int32)), .val (.int (1 : Int32)), .val (.long q2), .second] [])) (fun _ k => XT.lstore X4.here hx rfl (hb hby d1_41) rfl (l' := #[.val (.long q1), .second, .val (.long q2), .second, .val (.long q3), .second, .val (.long s1), .second, .val (.ref b1), .val (.int (3 : Int32)), .val (.int (1 : Int32)), .val (.long q2), .second]) rfl k) ?_
  refine own_go (g' := (mkF m 45 #[.val (.long q1), .second, .val (.long q2), .second, .val (.long q3), .second, .val (.long s1), .second, .val (.ref b1), .val (.int (3 : Int32)), .val (.int (1 : Int32)), .val (.long q2), .second] [(.long q2)])) (fun _ k => XT.lload X4.here hx rfl (hb hby d1_43) rfl k) ?_
  refine own_go (g' := (mkF m 46 #[.val (.long q1), .second, .val (.long q2), .second, .val (.long q3), .second, .val (.long s1), .second, .val (.ref b1), .val (.int (3 : Int32)), .val (.int (1 : Int32)), .val (.long q2), .second] [(.long (0 : Int64)), (.long q2)])) (fun _ k => XT.lconst X4.here hx rfl (hb hby d1_45) k) ?_
  refine own_go (g' := (mkF m 47 #[.val (.long q1), .second, .val (.long q2), .second, .val (.long q3), .second, .val (.long s1), .second, .val (.ref b1), .val (.int (3 : Int32)), .val (.int (1 : Int32)), .val (.long q2), .second] [(.int (XT.cmpL q2 (0 : Int64)))])) (fun _ k => XT.lcmp X4.here hx rfl (hb hby d1_46) rfl k) ?_
  suffices J1 : ∀ s2 : Int64, s2 = own_f s1 q2 → own_Go p e below (own_Po s (own_Q1 q1 q2 q3 n0) 1 3) T4 (mkF m 69 #[.val (.long q1), .second, .val (.long q2), .second, .val (.long q3), .second, .val (.long s2), .second, .val (.ref b1), .val (.int (3 : Int32)), .val (.int (1 : Int32)), .val (.long q2), .second] []) by
    by_cases ha : (0 : Int64) < q2
    · refine own_go (g' := (mkF m 50 #[.val (.long q1), .second, .val (.long q2), .second, .val (.long q3), .second, .val (.long s1), .second, .val (.ref b1), .val (.int (3 : Int32)), .val (.int (1 : Int32)), .val (.long q2), .second] [])) (fun _ k => XS.ifNo X4.here hx rfl (hb hby d1_47) rfl (XT.ll_le_f ha) k) ?_
      refine own_go (g' := (mkF m 52 #[.val (.long q1), .second, .val (.long q2), .second, .val (.long q3), .second, .val (.long s1), .second, .val (.ref b1), .val (.int (3 : Int32)), .val (.int (1 : Int32)), .val (.long q2), .second] [(.long s1)])) (fun _ k => XT.lload X4.here hx rfl (hb hby d1_50) rfl k) ?_
      refine own_go (g' := (mkF m 53 #[.val (.long q1), .second, .val (.long q2), .second, .val (.long q3), .second, .val (.long s1), .second, .val (.ref b1), .val (.int (3 : Int32)), .val (.int (1 : Int32)), .val (.long q2), .second] [(.long (0 : Int64)), (.long s1)])) (fun _ k => XT.lconst X4.here hx rfl (hb hby d1_52) k) ?_
      refine own_go (g' := (mkF m 54 #[.val (.long q1), .second, .val (.long q2), .second, .val (.long q3), .second, .val (.long s1), .second, .val (.ref b1), .val (.int (3 : Int32)), .val (.int (1 : Int32)), .val (.long q2), .second] [(.int (XT.cmpL s1 (0 : Int64)))])) (fun _ k => XT.lcmp X4.here hx rfl (hb hby d1_53) rfl k) ?_
      by_cases hz : s1 = (0 : Int64)
      · refine own_go (g' := (mkF m 65 #[.val (.long q1), .second, .val (.long q2), .second, .val (.long q3), .second, .val (.long s1), .second, .val (.ref b1), .val (.int (3 : Int32)), .val (.int (1 : Int32)), .val (.long q2), .second] [])) (fun _ k => XS.ifYes X4.here hx rfl (pc0 := 54) (pc' := 65) rfl (hb hby d1_54) rfl (XT.ll_eq_t hz) (by decide) (by decide) k) ?_
        refine own_go (g' := (mkF m 67 #[.val (.long q1), .second, .val (.long q2), .second, .val (.long q3), .second, .val (.long s1), .second, .val (.ref b1), .val (.int (3 : Int32)), .val (.int (1 : Int32)), .val (.long q2), .second] [(.long q2)])) (fun _ k => XT.lload X4.here hx rfl (hb hby d1_65) rfl k) ?_
        refine own_go (g' := (mkF m 69 #[.val (.long q1), .second, .val (.long q2), .second, .val (.long q3), .second, .val (.long q2), .second, .val (.ref b1), .val (.int (3 : Int32)), .val (.int (1 : Int32)), .val (.long q2), .second] [])) (fun _ k => XT.lstore X4.here hx rfl (hb hby d1_67) rfl (l' := #[.val (.long q1), .second, .val (.long q2), .second, .val (.long q3), .second, .val (.long q2), .second, .val (.ref b1), .val (.int (3 : Int32)), .val (.int (1 : Int32)), .val (.long q2), .second]) rfl k) ?_
        exact J1 q2 (own_f_b ha hz)
      · refine own_go (g' := (mkF m 57 #[.val (.long q1), .second, .val (.long q2), .second, .val (.long q3), .second, .val (.long s1), .second, .val (.ref b1), .val (.int (3 : Int32)), .val (.int (1 : Int32)), .val (.long q2), .second] [])) (fun _ k => XS.ifNo X4.here hx rfl (hb hby d1_54) rfl (XT.ll_eq_f hz) k) ?_
        refine own_go (g' := (mkF m 59 #[.val (.long q1), .second, .val (.long q2), .second, .val (.long q3), .second, .val (.long s1), .second, .val (.ref b1), .val (.int (3 : Int32)), .val (.int (1 : Int32)), .val (.long q2), .second] [(.long q2)])) (fun _ k => XT.lload X4.here hx rfl (hb hby d1_57) rfl k) ?_
        refine own_go (g' := (mkF m 61 #[.val (.long q1), .second, .val (.long q2), .second, .val (.long q3), .second, .val (.long s1), .second, .val (.ref b1), .val (.int (3 : Int32)), .val (.int (1 : Int32)), .val (.long q2), .second] [(.long s1), (.long q2)])) (fun _ k => XT.lload X4.here hx rfl (hb hby d1_59) rfl k) ?_
        refine own_go (g' := (mkF m 62 #[.val (.long q1), .second, .val (.long q2), .second, .val (.long q3), .second, .val (.long s1), .second, .val (.ref b1), .val (.int (3 : Int32)), .val (.int (1 : Int32)), .val (.long q2), .second] [(.int (XT.cmpL q2 s1))])) (fun _ k => XT.lcmp X4.here hx rfl (hb hby d1_61) rfl k) ?_
        by_cases hl : q2 < s1
        · refine own_go (g' := (mkF m 65 #[.val (.long q1), .second, .val (.long q2), .second, .val (.long q3), .second, .val (.long s1), .second, .val (.ref b1), .val (.int (3 : Int32)), .val (.int (1 : Int32)), .val (.long q2), .second] [])) (fun _ k => XS.ifNo X4.here hx rfl (hb hby d1_62) rfl (XT.ll_ge_f hl) k) ?_
          refine own_go (g' := (mkF m 67 #[.val (.long q1), .second, .val (.long q2), .second, .val (.long q3), .second, .val (.long s1), .second, .val (.ref b1), .val (.int (3 : Int32)), .val (.int (1 : Int32)), .val (.long q2), .second] [(.long q2)])) (fun _ k => XT.lload X4.here hx rfl (hb hby d1_65) rfl k) ?_
          refine own_go (g' := (mkF m 69 #[.val (.long q1), .second, .val (.long q2), .second, .val (.long q3), .second, .val (.long q2), .second, .val (.ref b1), .val (.int (3 : Int32)), .val (.int (1 : Int32)), .val (.long q2), .second] [])) (fun _ k => XT.lstore X4.here hx rfl (hb hby d1_67) rfl (l' := #[.val (.long q1), .second, .val (.long q2), .second, .val (.long q3), .second, .val (.long q2), .second, .val (.ref b1), .val (.int (3 : Int32)), .val (.int (1 : Int32)), .val (.long q2), .second]) rfl k) ?_
          exact J1 q2 (own_f_c ha hl)
        · refine own_go (g' := (mkF m 69 #[.val (.long q1), .second, .val (.long q2), .second, .val (.long q3), .second, .val (.long s1), .second, .val (.ref b1), .val (.int (3 : Int32)), .val (.int (1 : Int32)), .val (.long q2), .second] [])) (fun _ k => XS.ifYes X4.here hx rfl (pc0 := 62) (pc' := 69) rfl (hb hby d1_62) rfl (XT.ll_ge_t hl) (by decide) (by decide) k) ?_
          exact J1 s1 (own_f_d hz hl)
    · refine own_go (g' := (mkF m 69 #[.val (.long q1), .second, .val (.long q2), .second, .val (.long q3), .second, .val (.long s1), .second, .val (.ref b1), .val (.int (3 : Int32)), .val (.int (1 : Int32)), .val (.long q2), .second] [])) (fun _ k => XS.ifYes X4.here hx rfl (pc0 := 47) (pc' := 69) rfl (hb hby d1_47) rfl (XT.ll_le_t ha) (by decide) (by decide) k) ?_
      exact J1 s1 (own_f_a ha)
  intro s2 hs2
  refine own_go (g' := (mkF m 72 #[.val (.long q1), .second, .val (.long q2), .second, .val (.long q3), .second, .val (.long s2), .second, .val (.ref b1), .val (.int (3 : Int32)), .val (.int ((1 : Int32) + (1 : Int32))), .val (.long q2), .second] [])) (fun _ k => XS.iinc X4.here hx rfl (hb hby d1_69) rfl (l' := #[.val (.long q1), .second, .val (.long q2), .second, .val (.long q3), .second, .val (.long s2), .second, .val (.ref b1), .val (.int (3 : Int32)), .val (.int ((1 : Int32) + (1 : Int32))), .val (.long q2), .second]) rfl k) ?_
  show own_Go p e below _ T4 (mkF m 72 #[.val (.long q1), .second, .val (.long q2), .second, .val (.long q3), .second, .val (.long s2), .second, .val (.ref b1), .val (.int (3 : Int32)), .val (.int (2 : Int32)), .val (.long q2), .second] [])
  refine own_go (g' := (mkF m 29 #[.val (.long q1), .second, .val (.long q2), .second, .val (.long q3), .second, .val (.long s2), .second, .val (.ref b1), .val (.int (3 : Int32)), .val (.int (2 : Int32)), .val (.long q2), .second] [])) (fun _ k => XS.goto X4.here hx rfl (pc0 := 72) (pc' := 29) rfl (hb hby d1_72) (by decide) (by decide) k) ?_
  refine own_go (g' := (mkF m 31 #[.val (.long q1), .second, .val (.long q2), .second, .val (.long q3), .second, .val (.long s2), .second, .val (.ref b1), .val (.int (3 : Int32)), .val (.int (2 : Int32)), .val (.long q2), .second] [(.int (2 : Int32))])) (fun _ k => XS.iload X4.here hx rfl (hb hby d1_29) rfl k) ?_
  refine own_go (g' := (mkF m 33 #[.val (.long q1), .second, .val (.long q2), .second, .val (.long q3), .second, .val (.long s2), .second, .val (.ref b1), .val (.int (3 : Int32)), .val (.int (2 : Int32)), .val (.long q2), .second] [(.int (3 : Int32)), (.int (2 : Int32))])) (fun _ k => XS.iload X4.here hx rfl (hb hby d1_31) rfl k) ?_
  refine own_go (g' := (mkF m 36 #[.val (.long q1), .second, .val (.long q2), .second, .val (.long q3), .second, .val (.long s2), .second, .val (.ref b1), .val (.int (3 : Int32)), .val (.int (2 : Int32)), .val (.long q2), .second] [])) (fun _ k => XS.icmpNo X4.here hx rfl (hb hby d1_33) rfl (XT.ii_ge_f (by decide)) k) ?_
  refine own_go (g' := (mkF m 38 #[.val (.long q1), .second, .val (.long q2), .second, .val (.long q3), .second, .val (.long s2), .second, .val (.ref b1), .val (.int (3 : Int32)), .val (.int (2 : Int32)), .val (.long q2), .second] [(.ref b1)])) (fun _ k => XS.aload X4.here hx rfl (hb hby d1_36) rfl rfl k) ?_
  refine own_go (g' := (mkF m 40 #[.val (.long q1), .second, .val (.long q2), .second, .val (.long q3), .second, .val (.long s2), .second, .val (.ref b1), .val (.int (3 : Int32)), .val (.int (2 : Int32)), .val (.long q2), .second] [(.int (2 : Int32)), (.ref b1)])) (fun _ k => XS.iload X4.here hx rfl (hb hby d1_38) rfl k) ?_
  refine own_laload X4 hx hZ e4 A4 2 (by decide) (by decide) (hb hby d1_40) ?_
  show own_Go p e below _ T4 (mkF m 41 #[.val (.long q1), .second, .val (.long q2), .second, .val (.long q3), .second, .val (.long s2), .second, .val (.ref b1), .val (.int (3 : Int32)), .val (.int (2 : Int32)), .val (.long q2), .second] [(.long q3)])
  refine own_go (g' := (mkF m 43 #[.val (.long q1), .second, .val (.long q2), .second, .val (.long q3), .second, .val (.long s2), .second, .val (.ref b1), .val (.int (3 : Int32)), .val (.int (2 : Int32)), .val (.long q3), .second] [])) (fun _ k => XT.lstore X4.here hx rfl (hb hby d1_41) rfl (l' := #[.val (.long q1), .second, .val (.long q2), .second, .val (.long q3), .second, .val (.long s2), .second, .val (.ref b1), .val (.int (3 : Int32)), .val (.int (2 : Int32)), .val (.long q3), .second]) rfl k) ?_
  refine own_go (g' := (mkF m 45 #[.val (.long q1), .second, .val (.long q2), .second, .val (.long q3), .second, .val (.long s2), .second, .val (.ref b1), .val (.int (3 : Int32)), .val (.int (2 : Int32)), .val (.long q3), .second] [(.long q3)])) (fun _ k => XT.lload X4.here hx rfl (hb hby d1_43) rfl k) ?_
  refine own_go (g' := (mkF m 46 #[.val (.long q1), .second, .val (.long q2), .second, .val (.long q3), .second, .val (.long s2), .second, .val (.ref b1), .val (.int (3 : Int32)), .val (.int (2 : Int32)), .val (.long q3), .second] [(.long (0 : Int64)), (.long q3)])) (fun _ k => XT.lconst X4.here hx rfl (hb hby d1_45) k) ?_
  refine own_go (g' := (mkF m 47 #[.val (.long q1), .second, .val (.long q2), .second, .val (.long q3), .second, .val (.long s2), .second, .val (.ref b1), .val (.int (3 : Int32)), .val (.int (2 : Int32)), .val (.long q3), .second] [(.int (XT.cmpL q3 (0 : Int64)))])) (fun _ k => XT.lcmp X4.here hx rfl (hb hby d1_46) rfl k) ?_
  suffices J2 : ∀ s3 : Int64, s3 = own_f s2 q3 → own_Go p e below (own_Po s (own_Q1 q1 q2 q3 n0) 1 3) T4 (mkF m 69 #[.val (.long q1), .second, .val (.long q2), .second, .val (.long q3), .second, .val (.long s3), .second, .val (.ref b1), .val (.int (3 : Int32)), .val (.int (2 : Int32)), .val (.long q3), .second] []) by
    by_cases ha : (0 : Int64) < q3
    · refine own_go (g' := (mkF m 50 #[.val (.long q1), .second, .val (.long q2), .second, .val (.long q3), .second, .val (.long s2), .second, .val (.ref b1), .val (.int (3 : Int32)), .val (.int (2 : Int32)), .val (.long q3), .second] [])) (fun _ k => XS.ifNo X4.here hx rfl (hb hby d1_47) rfl (XT.ll_le_f ha) k) ?_
      refine own_go (g' := (mkF m 52 #[.val (.long q1), .second, .val (.long q2), .second, .val (.long q3), .second, .val (.long s2), .second, .val (.ref b1), .val (.int (3 : Int32)), .val (.int (2 : Int32)), .val (.long q3), .second] [(.long s2)])) (fun _ k => XT.lload X4.here hx rfl (hb hby d1_50) rfl k) ?_
      refine own_go (g' := (mkF m 53 #[.val (.long q1), .second, .val (.long q2), .second, .val (.long q3), .second, .val (.long s2), .second, .val (.ref b1), .val (.int (3 : Int32)), .val (.int (2 : Int32)), .val (.long q3), .second] [(.long (0 : Int64)), (.long s2)])) (fun _ k => XT.lconst X4.here hx rfl (hb hby d1_52) k) ?_
      refine own_go (g' := (mkF m 54 #[.val (.long q1), .second, .val (.long q2), .second, .val (.long q3), .second, .val (.long s2), .second, .val (.ref b1), .val (.int (3 : Int32)), .val (.int (2 : Int32)), .val (.long q3), .second] [(.int (XT.cmpL s2 (0 : Int64)))])) (fun _ k => XT.lcmp X4.here hx rfl (hb hby d1_53) rfl k) ?_
      by_cases hz : s2 = (0 : Int64)
      · refine own_go (g' := (mkF m 65 #[.val (.long q1), .second, .val (.long q2), .second, .val (.long q3), .second, .val (.long s2), .second, .val (.ref b1), .val (.int (3 : Int32)), .val (.int (2 : Int32)), .val (.long q3), .second] [])) (fun _ k => XS.ifYes X4.here hx rfl (pc0 := 54) (pc' := 65) rfl (hb hby d1_54) rfl (XT.ll_eq_t hz) (by decide) (by decide) k) ?_
        refine own_go (g' := (mkF m 67 #[.val (.long q1), .second, .val (.long q2), .second, .val (.long q3), .second, .val (.long s2), .second, .val (.ref b1), .val (.int (3 : Int32)), .val (.int (2 : Int32)), .val (.long q3), .second] [(.long q3)])) (fun _ k => XT.lload X4.here hx rfl (hb hby d1_65) rfl k) ?_
        refine own_go (g' := (mkF m 69 #[.val (.long q1), .second, .val (.long q2), .second, .val (.long q3), .second, .val (.long q3), .second, .val (.ref b1), .val (.int (3 : Int32)), .val (.int (2 : Int32)), .val (.long q3), .second] [])) (fun _ k => XT.lstore X4.here hx rfl (hb hby d1_67) rfl (l' := #[.val (.long q1), .second, .val (.long q2), .second, .val (.long q3), .second, .val (.long q3), .second, .val (.ref b1), .val (.int (3 : Int32)), .val (.int (2 : Int32)), .val (.long q3), .second]) rfl k) ?_
        exact J2 q3 (own_f_b ha hz)
      · refine own_go (g' := (mkF m 57 #[.val (.long q1), .second, .val (.long q2), .second, .val (.long q3), .second, .val (.long s2), .second, .val (.ref b1), .val (.int (3 : Int32)), .val (.int (2 : Int32)), .val (.long q3), .second] [])) (fun _ k => XS.ifNo X4.here hx rfl (hb hby d1_54) rfl (XT.ll_eq_f hz) k) ?_
        refine own_go (g' := (mkF m 59 #[.val (.long q1), .second, .val (.long q2), .second, .val (.long q3), .second, .val (.long s2), .second, .val (.ref b1), .val (.int (3 : Int32)), .val (.int (2 : Int32)), .val (.long q3), .second] [(.long q3)])) (fun _ k => XT.lload X4.here hx rfl (hb hby d1_57) rfl k) ?_
        refine own_go (g' := (mkF m 61 #[.val (.long q1), .second, .val (.long q2), .second, .val (.long q3), .second, .val (.long s2), .second, .val (.ref b1), .val (.int (3 : Int32)), .val (.int (2 : Int32)), .val (.long q3), .second] [(.long s2), (.long q3)])) (fun _ k => XT.lload X4.here hx rfl (hb hby d1_59) rfl k) ?_
        refine own_go (g' := (mkF m 62 #[.val (.long q1), .second, .val (.long q2), .second, .val (.long q3), .second, .val (.long s2), .second, .val (.ref b1), .val (.int (3 : Int32)), .val (.int (2 : Int32)), .val (.long q3), .second] [(.int (XT.cmpL q3 s2))])) (fun _ k => XT.lcmp X4.here hx rfl (hb hby d1_61) rfl k) ?_
        by_cases hl : q3 < s2
        · refine own_go (g' := (mkF m 65 #[.val (.long q1), .second, .val (.long q2), .second, .val (.long q3), .second, .val (.long s2), .second, .val (.ref b1), .val (.int (3 : Int32)), .val (.int (2 : Int32)), .val (.long q3), .second] [])) (fun _ k => XS.ifNo X4.here hx rfl (hb hby d1_62) rfl (XT.ll_ge_f hl) k) ?_
          refine own_go (g' := (mkF m 67 #[.val (.long q1), .second, .val (.long q2), .second, .val (.long q3), .second, .val (.long s2), .second, .val (.ref b1), .val (.int (3 : Int32)), .val (.int (2 : Int32)), .val (.long q3), .second] [(.long q3)])) (fun _ k => XT.lload X4.here hx rfl (hb hby d1_65) rfl k) ?_
          refine own_go (g' := (mkF m 69 #[.val (.long q1), .second, .val (.long q2), .second, .val (.long q3), .second, .val (.long q3), .second, .val (.ref b1), .val (.int (3 : Int32)), .val (.int (2 : Int32)), .val (.long q3), .second] [])) (fun _ k => XT.lstore X4.here hx rfl (hb hby d1_67) rfl (l' := #[.val (.long q1), .second, .val (.long q2), .second, .val (.long q3), .second, .val (.long q3), .second, .val (.ref b1), .val (.int (3 : Int32)), .val (.int (2 : Int32)), .val (.long q3), .second]) rfl k) ?_
          exact J2 q3 (own_f_c ha hl)
        · refine own_go (g' := (mkF m 69 #[.val (.long q1), .second, .val (.long q2), .second, .val (.long q3), .second, .val (.long s2), .second, .val (.ref b1), .val (.int (3 : Int32)), .val (.int (2 : Int32)), .val (.long q3), .second] [])) (fun _ k => XS.ifYes X4.here hx rfl (pc0 := 62) (pc' := 69) rfl (hb hby d1_62) rfl (XT.ll_ge_t hl) (by decide) (by decide) k) ?_
          exact J2 s2 (own_f_d hz hl)
    · refine own_go (g' := (mkF m 69 #[.val (.long q1), .second, .val (.long q2), .second, .val (.long q3), .second, .val (.long s2), .second, .val (.ref b1), .val (.int (3 : Int32)), .val (.int (2 : Int32)), .val (.long q3), .second] [])) (fun _ k => XS.ifYes X4.here hx rfl (pc0 := 47) (pc' := 69) rfl (hb hby d1_47) rfl (XT.ll_le_t ha) (by decide) (by decide) k) ?_
      exact J2 s2 (own_f_a ha)
  intro s3 hs3
  refine own_go (g' := (mkF m 72 #[.val (.long q1), .second, .val (.long q2), .second, .val (.long q3), .second, .val (.long s3), .second, .val (.ref b1), .val (.int (3 : Int32)), .val (.int ((2 : Int32) + (1 : Int32))), .val (.long q3), .second] [])) (fun _ k => XS.iinc X4.here hx rfl (hb hby d1_69) rfl (l' := #[.val (.long q1), .second, .val (.long q2), .second, .val (.long q3), .second, .val (.long s3), .second, .val (.ref b1), .val (.int (3 : Int32)), .val (.int ((2 : Int32) + (1 : Int32))), .val (.long q3), .second]) rfl k) ?_
  show own_Go p e below _ T4 (mkF m 72 #[.val (.long q1), .second, .val (.long q2), .second, .val (.long q3), .second, .val (.long s3), .second, .val (.ref b1), .val (.int (3 : Int32)), .val (.int (3 : Int32)), .val (.long q3), .second] [])
  refine own_go (g' := (mkF m 29 #[.val (.long q1), .second, .val (.long q2), .second, .val (.long q3), .second, .val (.long s3), .second, .val (.ref b1), .val (.int (3 : Int32)), .val (.int (3 : Int32)), .val (.long q3), .second] [])) (fun _ k => XS.goto X4.here hx rfl (pc0 := 72) (pc' := 29) rfl (hb hby d1_72) (by decide) (by decide) k) ?_
  refine own_go (g' := (mkF m 31 #[.val (.long q1), .second, .val (.long q2), .second, .val (.long q3), .second, .val (.long s3), .second, .val (.ref b1), .val (.int (3 : Int32)), .val (.int (3 : Int32)), .val (.long q3), .second] [(.int (3 : Int32))])) (fun _ k => XS.iload X4.here hx rfl (hb hby d1_29) rfl k) ?_
  refine own_go (g' := (mkF m 33 #[.val (.long q1), .second, .val (.long q2), .second, .val (.long q3), .second, .val (.long s3), .second, .val (.ref b1), .val (.int (3 : Int32)), .val (.int (3 : Int32)), .val (.long q3), .second] [(.int (3 : Int32)), (.int (3 : Int32))])) (fun _ k => XS.iload X4.here hx rfl (hb hby d1_31) rfl k) ?_
  refine own_go (g' := (mkF m 75 #[.val (.long q1), .second, .val (.long q2), .second, .val (.long q3), .second, .val (.long s3), .second, .val (.ref b1), .val (.int (3 : Int32)), .val (.int (3 : Int32)), .val (.long q3), .second] [])) (fun _ k => XS.icmpYes X4.here hx rfl (pc0 := 33) (pc' := 75) rfl (hb hby d1_33) rfl (XT.ii_ge_t (by decide)) (by decide) (by decide) k) ?_
  refine own_go (g' := (mkF m 77 #[.val (.long q1), .second, .val (.long q2), .second, .val (.long q3), .second, .val (.long s3), .second, .val (.ref b1), .val (.int (3 : Int32)), .val (.int (3 : Int32)), .val (.long q3), .second] [(.long s3)])) (fun _ k => XT.lload X4.here hx rfl (hb hby d1_75) rfl k) ?_
  subst hs3 hs2 hs1
  exact own_retJ X4 hx hlk hret e4 (hb hby d1_77) ⟨rfl, N4⟩ (by decide) (by decide)
set_option maxRecDepth 65536 in
set_option maxHeartbeats 40000000 in
theorem own_rm0 (l : Launch) (Z : State) (a0 : Array Value) (hw : ∀ d ∈ tables_1, d.before a0 Z = true) (ws : List Jvm.Cond) (q1 q2 q3 : Int64) (h0 : Heap) (n0 : Nat) (Z0 : n0 ≤ h0.size) :
    own_Met l x code maxLocals ret ws room_1 Z #[(.long q1), (.long q2), (.long q3)] h0 (own_Q0 n0) := by
  refine own_enter (plainFor_of_name pn_0) ?_
  intro p e s m below meth c T0 X0 hx hby hml hZ hown e0 hret hlk hnm
  have hown : s.vm.findClass "com/example/gangplank/gangplank/slices/SlicesShortestSlicePinLaw" = some m.cls := hown
  have hml : c.maxLocals = 13 := hml
  have N0 := Fr.nil n0
  refine own_start (ef_0 m q1 q2 q3) ?_
  show own_Go p e below _ T0 (mkF m 0 #[.val (.long q1), .second, .val (.long q2), .second, .val (.long q3), .second, .unset, .unset, .unset, .unset, .unset, .unset, .unset] [])
  refine own_go (g' := (mkF m 1 #[.val (.long q1), .second, .val (.long q2), .second, .val (.long q3), .second, .unset, .unset, .unset, .unset, .unset, .unset, .unset] [(.long q1)])) (fun _ k => XT.lloadN X0.here hx rfl (hb hby at_0) rfl k) ?_
  refine own_go (g' := (mkF m 2 #[.val (.long q1), .second, .val (.long q2), .second, .val (.long q3), .second, .unset, .unset, .unset, .unset, .unset, .unset, .unset] [(.long q2), (.long q1)])) (fun _ k => XT.lloadN X0.here hx rfl (hb hby at_1) rfl k) ?_
  refine own_go (g' := (mkF m 4 #[.val (.long q1), .second, .val (.long q2), .second, .val (.long q3), .second, .unset, .unset, .unset, .unset, .unset, .unset, .unset] [(.long q3), (.long q2), (.long q1)])) (fun _ k => XT.lload X0.here hx rfl (hb hby at_2) rfl k) ?_
  refine own_callS X0 hx hZ hown e0 (y := (⟨"com/example/gangplank/gangplank/slices/Slices", "shortestSlice", "(JJJ)J"⟩ : MethodName)) (rm := ({ frames := 0, cells := 1, slots := 3, locals := 0 } : Room)) (hw _ (List.mem_of_getElem? (i := 0) rfl)) (hw _ (List.mem_of_getElem? (i := 1) rfl)) (hw _ (List.mem_of_getElem? (i := 2) rfl)) (hw _ (List.mem_of_getElem? (i := 3) rfl)) (by decide) (argsL := [(.long q1), (.long q2), (.long q3)]) (rest := []) (own_rm1 l Z a0 hw [] q1 q2 q3 h0 n0 Z0) (by rw [hml]; rfl) pd_1 rfl rfl (hb hby at_4) (W := 0) (Nat.le_of_eq rfl) (by decide) (by decide) (by decide) (by decide) ?_
  intro v5 T5 L5 X5 hQ5
  obtain ⟨hv, Nq⟩ := hQ5
  obtain ⟨r, hr⟩ : ∃ r, r = own_f (own_f (own_f 0 q1) q2) q3 := ⟨_, rfl⟩
  rw [← hr] at hv
  subst hv
  have N1 := Fr.app N0 Nq
  obtain ⟨sp0, sp1, sp2, sp3, sp4⟩ := own_spec q1 q2 q3 r hr
  show own_Go p e below _ T5 (mkF m 7 #[.val (.long q1), .second, .val (.long q2), .second, .val (.long q3), .second, .unset, .unset, .unset, .unset, .unset, .unset, .unset] [(.long r)])
  refine own_go (g' := (mkF m 9 #[.val (.long q1), .second, .val (.long q2), .second, .val (.long q3), .second, .val (.long r), .second, .unset, .unset, .unset, .unset, .unset] [])) (fun _ k => XT.lstore X5.here hx rfl (hb hby at_7) rfl (l' := #[.val (.long q1), .second, .val (.long q2), .second, .val (.long q3), .second, .val (.long r), .second, .unset, .unset, .unset, .unset, .unset]) rfl k) ?_
  refine own_go (g' := (mkF m 10 #[.val (.long q1), .second, .val (.long q2), .second, .val (.long q3), .second, .val (.long r), .second, .unset, .unset, .unset, .unset, .unset] [(.long q1)])) (fun _ k => XT.lloadN X5.here hx rfl (hb hby at_9) rfl k) ?_
  refine own_go (g' := (mkF m 11 #[.val (.long q1), .second, .val (.long q2), .second, .val (.long q3), .second, .val (.long r), .second, .unset, .unset, .unset, .unset, .unset] [(.long (0 : Int64)), (.long q1)])) (fun _ k => XT.lconst X5.here hx rfl (hb hby at_10) k) ?_
  refine own_go (g' := (mkF m 12 #[.val (.long q1), .second, .val (.long q2), .second, .val (.long q3), .second, .val (.long r), .second, .unset, .unset, .unset, .unset, .unset] [(.int (XT.cmpL q1 (0 : Int64)))])) (fun _ k => XT.lcmp X5.here hx rfl (hb hby at_11) rfl k) ?_
  suffices J : ∀ b8 : Int32, (b8 = 0 ↔ ¬ 0 < q1) → own_Go p e below (own_Po s (own_Q0 n0) 16 128) T5 (mkF m 20 #[.val (.long q1), .second, .val (.long q2), .second, .val (.long q3), .second, .val (.long r), .second, .unset, .unset, .unset, .unset, .unset] [(.int b8)]) by
    by_cases hc : (0 : Int64) < q1
    · refine own_go (g' := (mkF m 15 #[.val (.long q1), .second, .val (.long q2), .second, .val (.long q3), .second, .val (.long r), .second, .unset, .unset, .unset, .unset, .unset] [])) (fun _ k => XS.ifNo X5.here hx rfl (hb hby at_12) rfl (XT.ll_le_f hc) k) ?_
      refine own_go (g' := (mkF m 16 #[.val (.long q1), .second, .val (.long q2), .second, .val (.long q3), .second, .val (.long r), .second, .unset, .unset, .unset, .unset, .unset] [(.int (1 : Int32))])) (fun _ k => XS.iconst X5.here hx rfl (hb hby at_15) k) ?_
      refine own_go (g' := (mkF m 20 #[.val (.long q1), .second, .val (.long q2), .second, .val (.long q3), .second, .val (.long r), .second, .unset, .unset, .unset, .unset, .unset] [(.int (1 : Int32))])) (fun _ k => XS.goto X5.here hx rfl (pc0 := 16) (pc' := 20) rfl (hb hby at_16) (by decide) (by decide) k) ?_
      exact J 1 (by simp [hc])
    · refine own_go (g' := (mkF m 19 #[.val (.long q1), .second, .val (.long q2), .second, .val (.long q3), .second, .val (.long r), .second, .unset, .unset, .unset, .unset, .unset] [])) (fun _ k => XS.ifYes X5.here hx rfl (pc0 := 12) (pc' := 19) rfl (hb hby at_12) rfl (XT.ll_le_t hc) (by decide) (by decide) k) ?_
      refine own_go (g' := (mkF m 20 #[.val (.long q1), .second, .val (.long q2), .second, .val (.long q3), .second, .val (.long r), .second, .unset, .unset, .unset, .unset, .unset] [(.int (0 : Int32))])) (fun _ k => XS.iconst X5.here hx rfl (hb hby at_19) k) ?_
      exact J 0 (by simp [hc])
  intro b8 hb8
  refine own_go (g' := (mkF m 22 #[.val (.long q1), .second, .val (.long q2), .second, .val (.long q3), .second, .val (.long r), .second, .val (.int b8), .unset, .unset, .unset, .unset] [])) (fun _ k => XS.istore X5.here hx rfl (hb hby at_20) rfl (l' := #[.val (.long q1), .second, .val (.long q2), .second, .val (.long q3), .second, .val (.long r), .second, .val (.int b8), .unset, .unset, .unset, .unset]) rfl k) ?_
  refine own_go (g' := (mkF m 23 #[.val (.long q1), .second, .val (.long q2), .second, .val (.long q3), .second, .val (.long r), .second, .val (.int b8), .unset, .unset, .unset, .unset] [(.long q2)])) (fun _ k => XT.lloadN X5.here hx rfl (hb hby at_22) rfl k) ?_
  refine own_go (g' := (mkF m 24 #[.val (.long q1), .second, .val (.long q2), .second, .val (.long q3), .second, .val (.long r), .second, .val (.int b8), .unset, .unset, .unset, .unset] [(.long (0 : Int64)), (.long q2)])) (fun _ k => XT.lconst X5.here hx rfl (hb hby at_23) k) ?_
  refine own_go (g' := (mkF m 25 #[.val (.long q1), .second, .val (.long q2), .second, .val (.long q3), .second, .val (.long r), .second, .val (.int b8), .unset, .unset, .unset, .unset] [(.int (XT.cmpL q2 (0 : Int64)))])) (fun _ k => XT.lcmp X5.here hx rfl (hb hby at_24) rfl k) ?_
  suffices J : ∀ b9 : Int32, (b9 = 0 ↔ ¬ 0 < q2) → own_Go p e below (own_Po s (own_Q0 n0) 16 128) T5 (mkF m 33 #[.val (.long q1), .second, .val (.long q2), .second, .val (.long q3), .second, .val (.long r), .second, .val (.int b8), .unset, .unset, .unset, .unset] [(.int b9)]) by
    by_cases hc : (0 : Int64) < q2
    · refine own_go (g' := (mkF m 28 #[.val (.long q1), .second, .val (.long q2), .second, .val (.long q3), .second, .val (.long r), .second, .val (.int b8), .unset, .unset, .unset, .unset] [])) (fun _ k => XS.ifNo X5.here hx rfl (hb hby at_25) rfl (XT.ll_le_f hc) k) ?_
      refine own_go (g' := (mkF m 29 #[.val (.long q1), .second, .val (.long q2), .second, .val (.long q3), .second, .val (.long r), .second, .val (.int b8), .unset, .unset, .unset, .unset] [(.int (1 : Int32))])) (fun _ k => XS.iconst X5.here hx rfl (hb hby at_28) k) ?_
      refine own_go (g' := (mkF m 33 #[.val (.long q1), .second, .val (.long q2), .second, .val (.long q3), .second, .val (.long r), .second, .val (.int b8), .unset, .unset, .unset, .unset] [(.int (1 : Int32))])) (fun _ k => XS.goto X5.here hx rfl (pc0 := 29) (pc' := 33) rfl (hb hby at_29) (by decide) (by decide) k) ?_
      exact J 1 (by simp [hc])
    · refine own_go (g' := (mkF m 32 #[.val (.long q1), .second, .val (.long q2), .second, .val (.long q3), .second, .val (.long r), .second, .val (.int b8), .unset, .unset, .unset, .unset] [])) (fun _ k => XS.ifYes X5.here hx rfl (pc0 := 25) (pc' := 32) rfl (hb hby at_25) rfl (XT.ll_le_t hc) (by decide) (by decide) k) ?_
      refine own_go (g' := (mkF m 33 #[.val (.long q1), .second, .val (.long q2), .second, .val (.long q3), .second, .val (.long r), .second, .val (.int b8), .unset, .unset, .unset, .unset] [(.int (0 : Int32))])) (fun _ k => XS.iconst X5.here hx rfl (hb hby at_32) k) ?_
      exact J 0 (by simp [hc])
  intro b9 hb9
  refine own_go (g' := (mkF m 35 #[.val (.long q1), .second, .val (.long q2), .second, .val (.long q3), .second, .val (.long r), .second, .val (.int b8), .val (.int b9), .unset, .unset, .unset] [])) (fun _ k => XS.istore X5.here hx rfl (hb hby at_33) rfl (l' := #[.val (.long q1), .second, .val (.long q2), .second, .val (.long q3), .second, .val (.long r), .second, .val (.int b8), .val (.int b9), .unset, .unset, .unset]) rfl k) ?_
  refine own_go (g' := (mkF m 37 #[.val (.long q1), .second, .val (.long q2), .second, .val (.long q3), .second, .val (.long r), .second, .val (.int b8), .val (.int b9), .unset, .unset, .unset] [(.long q3)])) (fun _ k => XT.lload X5.here hx rfl (hb hby at_35) rfl k) ?_
  refine own_go (g' := (mkF m 38 #[.val (.long q1), .second, .val (.long q2), .second, .val (.long q3), .second, .val (.long r), .second, .val (.int b8), .val (.int b9), .unset, .unset, .unset] [(.long (0 : Int64)), (.long q3)])) (fun _ k => XT.lconst X5.here hx rfl (hb hby at_37) k) ?_
  refine own_go (g' := (mkF m 39 #[.val (.long q1), .second, .val (.long q2), .second, .val (.long q3), .second, .val (.long r), .second, .val (.int b8), .val (.int b9), .unset, .unset, .unset] [(.int (XT.cmpL q3 (0 : Int64)))])) (fun _ k => XT.lcmp X5.here hx rfl (hb hby at_38) rfl k) ?_
  suffices J : ∀ b10 : Int32, (b10 = 0 ↔ ¬ 0 < q3) → own_Go p e below (own_Po s (own_Q0 n0) 16 128) T5 (mkF m 47 #[.val (.long q1), .second, .val (.long q2), .second, .val (.long q3), .second, .val (.long r), .second, .val (.int b8), .val (.int b9), .unset, .unset, .unset] [(.int b10)]) by
    by_cases hc : (0 : Int64) < q3
    · refine own_go (g' := (mkF m 42 #[.val (.long q1), .second, .val (.long q2), .second, .val (.long q3), .second, .val (.long r), .second, .val (.int b8), .val (.int b9), .unset, .unset, .unset] [])) (fun _ k => XS.ifNo X5.here hx rfl (hb hby at_39) rfl (XT.ll_le_f hc) k) ?_
      refine own_go (g' := (mkF m 43 #[.val (.long q1), .second, .val (.long q2), .second, .val (.long q3), .second, .val (.long r), .second, .val (.int b8), .val (.int b9), .unset, .unset, .unset] [(.int (1 : Int32))])) (fun _ k => XS.iconst X5.here hx rfl (hb hby at_42) k) ?_
      refine own_go (g' := (mkF m 47 #[.val (.long q1), .second, .val (.long q2), .second, .val (.long q3), .second, .val (.long r), .second, .val (.int b8), .val (.int b9), .unset, .unset, .unset] [(.int (1 : Int32))])) (fun _ k => XS.goto X5.here hx rfl (pc0 := 43) (pc' := 47) rfl (hb hby at_43) (by decide) (by decide) k) ?_
      exact J 1 (by simp [hc])
    · refine own_go (g' := (mkF m 46 #[.val (.long q1), .second, .val (.long q2), .second, .val (.long q3), .second, .val (.long r), .second, .val (.int b8), .val (.int b9), .unset, .unset, .unset] [])) (fun _ k => XS.ifYes X5.here hx rfl (pc0 := 39) (pc' := 46) rfl (hb hby at_39) rfl (XT.ll_le_t hc) (by decide) (by decide) k) ?_
      refine own_go (g' := (mkF m 47 #[.val (.long q1), .second, .val (.long q2), .second, .val (.long q3), .second, .val (.long r), .second, .val (.int b8), .val (.int b9), .unset, .unset, .unset] [(.int (0 : Int32))])) (fun _ k => XS.iconst X5.here hx rfl (hb hby at_46) k) ?_
      exact J 0 (by simp [hc])
  intro b10 hb10
  refine own_go (g' := (mkF m 49 #[.val (.long q1), .second, .val (.long q2), .second, .val (.long q3), .second, .val (.long r), .second, .val (.int b8), .val (.int b9), .val (.int b10), .unset, .unset] [])) (fun _ k => XS.istore X5.here hx rfl (hb hby at_47) rfl (l' := #[.val (.long q1), .second, .val (.long q2), .second, .val (.long q3), .second, .val (.long r), .second, .val (.int b8), .val (.int b9), .val (.int b10), .unset, .unset]) rfl k) ?_
  refine own_go (g' := (mkF m 51 #[.val (.long q1), .second, .val (.long q2), .second, .val (.long q3), .second, .val (.long r), .second, .val (.int b8), .val (.int b9), .val (.int b10), .unset, .unset] [(.int b8)])) (fun _ k => XS.iload X5.here hx rfl (hb hby at_49) rfl k) ?_
  suffices J : (0 < q1 ∨ 0 < q2 ∨ 0 < q3) → own_Go p e below (own_Po s (own_Q0 n0) 16 128) T5 (mkF m 77 #[.val (.long q1), .second, .val (.long q2), .second, .val (.long q3), .second, .val (.long r), .second, .val (.int b8), .val (.int b9), .val (.int b10), .unset, .unset] []) by
    by_cases ha : b8 = 0
    · refine own_go (g' := (mkF m 54 #[.val (.long q1), .second, .val (.long q2), .second, .val (.long q3), .second, .val (.long r), .second, .val (.int b8), .val (.int b9), .val (.int b10), .unset, .unset] [])) (fun _ k => XS.ifNo X5.here hx rfl (hb hby at_51) rfl (XT.i0_ne_f ha) k) ?_
      refine own_go (g' := (mkF m 56 #[.val (.long q1), .second, .val (.long q2), .second, .val (.long q3), .second, .val (.long r), .second, .val (.int b8), .val (.int b9), .val (.int b10), .unset, .unset] [(.int b9)])) (fun _ k => XS.iload X5.here hx rfl (hb hby at_54) rfl k) ?_
      by_cases hb2 : b9 = 0
      · refine own_go (g' := (mkF m 59 #[.val (.long q1), .second, .val (.long q2), .second, .val (.long q3), .second, .val (.long r), .second, .val (.int b8), .val (.int b9), .val (.int b10), .unset, .unset] [])) (fun _ k => XS.ifNo X5.here hx rfl (hb hby at_56) rfl (XT.i0_ne_f hb2) k) ?_
        refine own_go (g' := (mkF m 61 #[.val (.long q1), .second, .val (.long q2), .second, .val (.long q3), .second, .val (.long r), .second, .val (.int b8), .val (.int b9), .val (.int b10), .unset, .unset] [(.int b10)])) (fun _ k => XS.iload X5.here hx rfl (hb hby at_59) rfl k) ?_
        by_cases hc : b10 = 0
        · refine own_go (g' := (mkF m 64 #[.val (.long q1), .second, .val (.long q2), .second, .val (.long q3), .second, .val (.long r), .second, .val (.int b8), .val (.int b9), .val (.int b10), .unset, .unset] [])) (fun _ k => XS.ifNo X5.here hx rfl (hb hby at_61) rfl (XT.i0_ne_f hc) k) ?_
          refine own_go (g' := (mkF m 66 #[.val (.long q1), .second, .val (.long q2), .second, .val (.long q3), .second, .val (.long r), .second, .val (.int b8), .val (.int b9), .val (.int b10), .unset, .unset] [(.long r)])) (fun _ k => XT.lload X5.here hx rfl (hb hby at_64) rfl k) ?_
          refine own_go (g' := (mkF m 67 #[.val (.long q1), .second, .val (.long q2), .second, .val (.long q3), .second, .val (.long r), .second, .val (.int b8), .val (.int b9), .val (.int b10), .unset, .unset] [(.long (0 : Int64)), (.long r)])) (fun _ k => XT.lconst X5.here hx rfl (hb hby at_66) k) ?_
          refine own_go (g' := (mkF m 68 #[.val (.long q1), .second, .val (.long q2), .second, .val (.long q3), .second, .val (.long r), .second, .val (.int b8), .val (.int b9), .val (.int b10), .unset, .unset] [(.int (XT.cmpL r (0 : Int64)))])) (fun _ k => XT.lcmp X5.here hx rfl (hb hby at_67) rfl k) ?_
          refine own_go (g' := (mkF m 71 #[.val (.long q1), .second, .val (.long q2), .second, .val (.long q3), .second, .val (.long r), .second, .val (.int b8), .val (.int b9), .val (.int b10), .unset, .unset] [])) (fun _ k => XS.ifNo X5.here hx rfl (hb hby at_68) rfl (XT.ll_ne_f (sp0 (hb8.mp ha) (hb9.mp hb2) (hb10.mp hc))) k) ?_
          refine own_go (g' := (mkF m 72 #[.val (.long q1), .second, .val (.long q2), .second, .val (.long q3), .second, .val (.long r), .second, .val (.int b8), .val (.int b9), .val (.int b10), .unset, .unset] [(.int (1 : Int32))])) (fun _ k => XS.iconst X5.here hx rfl (hb hby at_71) k) ?_
          refine own_go (g' := (mkF m 76 #[.val (.long q1), .second, .val (.long q2), .second, .val (.long q3), .second, .val (.long r), .second, .val (.int b8), .val (.int b9), .val (.int b10), .unset, .unset] [(.int (1 : Int32))])) (fun _ k => XS.goto X5.here hx rfl (pc0 := 72) (pc' := 76) rfl (hb hby at_72) (by decide) (by decide) k) ?_
          exact own_retZ X5 hx hlk hret rfl (hb hby at_76) ⟨rfl, N1⟩ (by decide) (by decide)
        · refine own_go (g' := (mkF m 77 #[.val (.long q1), .second, .val (.long q2), .second, .val (.long q3), .second, .val (.long r), .second, .val (.int b8), .val (.int b9), .val (.int b10), .unset, .unset] [])) (fun _ k => XS.ifYes X5.here hx rfl (pc0 := 61) (pc' := 77) rfl (hb hby at_61) rfl (XT.i0_ne_t hc) (by decide) (by decide) k) ?_
          exact J (by simp_all)
      · refine own_go (g' := (mkF m 77 #[.val (.long q1), .second, .val (.long q2), .second, .val (.long q3), .second, .val (.long r), .second, .val (.int b8), .val (.int b9), .val (.int b10), .unset, .unset] [])) (fun _ k => XS.ifYes X5.here hx rfl (pc0 := 56) (pc' := 77) rfl (hb hby at_56) rfl (XT.i0_ne_t hb2) (by decide) (by decide) k) ?_
        exact J (by simp_all)
    · refine own_go (g' := (mkF m 77 #[.val (.long q1), .second, .val (.long q2), .second, .val (.long q3), .second, .val (.long r), .second, .val (.int b8), .val (.int b9), .val (.int b10), .unset, .unset] [])) (fun _ k => XS.ifYes X5.here hx rfl (pc0 := 51) (pc' := 77) rfl (hb hby at_51) rfl (XT.i0_ne_t ha) (by decide) (by decide) k) ?_
      exact J (by simp_all)
  intro hpos
  have hm := sp1 hpos
  refine own_go (g' := (mkF m 79 #[.val (.long q1), .second, .val (.long q2), .second, .val (.long q3), .second, .val (.long r), .second, .val (.int b8), .val (.int b9), .val (.int b10), .unset, .unset] [(.int b8)])) (fun _ k => XS.iload X5.here hx rfl (hb hby at_77) rfl k) ?_
  suffices J : own_Go p e below (own_Po s (own_Q0 n0) 16 128) T5 (mkF m 119 #[.val (.long q1), .second, .val (.long q2), .second, .val (.long q3), .second, .val (.long r), .second, .val (.int b8), .val (.int b9), .val (.int b10), .unset, .unset] [(.int 1)]) by
    by_cases c79 : b8 = 0
    · refine own_go (g' := (mkF m 89 #[.val (.long q1), .second, .val (.long q2), .second, .val (.long q3), .second, .val (.long r), .second, .val (.int b8), .val (.int b9), .val (.int b10), .unset, .unset] [])) (fun _ k => XS.ifYes X5.here hx rfl (pc0 := 79) (pc' := 89) rfl (hb hby at_79) rfl (XT.i0_eq_t c79) (by decide) (by decide) k) ?_
      refine own_go (g' := (mkF m 91 #[.val (.long q1), .second, .val (.long q2), .second, .val (.long q3), .second, .val (.long r), .second, .val (.int b8), .val (.int b9), .val (.int b10), .unset, .unset] [(.int b9)])) (fun _ k => XS.iload X5.here hx rfl (hb hby at_89) rfl k) ?_
      by_cases c91 : b9 = 0
      · refine own_go (g' := (mkF m 101 #[.val (.long q1), .second, .val (.long q2), .second, .val (.long q3), .second, .val (.long r), .second, .val (.int b8), .val (.int b9), .val (.int b10), .unset, .unset] [])) (fun _ k => XS.ifYes X5.here hx rfl (pc0 := 91) (pc' := 101) rfl (hb hby at_91) rfl (XT.i0_eq_t c91) (by decide) (by decide) k) ?_
        refine own_go (g' := (mkF m 103 #[.val (.long q1), .second, .val (.long q2), .second, .val (.long q3), .second, .val (.long r), .second, .val (.int b8), .val (.int b9), .val (.int b10), .unset, .unset] [(.int b10)])) (fun _ k => XS.iload X5.here hx rfl (hb hby at_101) rfl k) ?_
        by_cases c103 : b10 = 0
        · refine own_go (g' := (mkF m 118 #[.val (.long q1), .second, .val (.long q2), .second, .val (.long q3), .second, .val (.long r), .second, .val (.int b8), .val (.int b9), .val (.int b10), .unset, .unset] [])) (fun _ k => XS.ifYes X5.here hx rfl (pc0 := 103) (pc' := 118) rfl (hb hby at_103) rfl (XT.i0_eq_t c103) (by decide) (by decide) k) ?_
          exact hm.elim (fun q => absurd q.1 (hb8.mp c79)) (fun q => q.elim (fun q => absurd q.1 (hb9.mp c91)) (fun q => absurd q.1 (hb10.mp c103)))
        · refine own_go (g' := (mkF m 106 #[.val (.long q1), .second, .val (.long q2), .second, .val (.long q3), .second, .val (.long r), .second, .val (.int b8), .val (.int b9), .val (.int b10), .unset, .unset] [])) (fun _ k => XS.ifNo X5.here hx rfl (hb hby at_103) rfl (XT.i0_eq_f c103) k) ?_
          refine own_go (g' := (mkF m 108 #[.val (.long q1), .second, .val (.long q2), .second, .val (.long q3), .second, .val (.long r), .second, .val (.int b8), .val (.int b9), .val (.int b10), .unset, .unset] [(.long r)])) (fun _ k => XT.lload X5.here hx rfl (hb hby at_106) rfl k) ?_
          refine own_go (g' := (mkF m 110 #[.val (.long q1), .second, .val (.long q2), .second, .val (.long q3), .second, .val (.long r), .second, .val (.int b8), .val (.int b9), .val (.int b10), .unset, .unset] [(.long q3), (.long r)])) (fun _ k => XT.lload X5.here hx rfl (hb hby at_108) rfl k) ?_
          refine own_go (g' := (mkF m 111 #[.val (.long q1), .second, .val (.long q2), .second, .val (.long q3), .second, .val (.long r), .second, .val (.int b8), .val (.int b9), .val (.int b10), .unset, .unset] [(.int (XT.cmpL r q3))])) (fun _ k => XT.lcmp X5.here hx rfl (hb hby at_110) rfl k) ?_
          by_cases c111 : r = q3
          · refine own_go (g' := (mkF m 114 #[.val (.long q1), .second, .val (.long q2), .second, .val (.long q3), .second, .val (.long r), .second, .val (.int b8), .val (.int b9), .val (.int b10), .unset, .unset] [])) (fun _ k => XS.ifNo X5.here hx rfl (hb hby at_111) rfl (XT.ll_ne_f c111) k) ?_
            refine own_go (g' := (mkF m 115 #[.val (.long q1), .second, .val (.long q2), .second, .val (.long q3), .second, .val (.long r), .second, .val (.int b8), .val (.int b9), .val (.int b10), .unset, .unset] [(.int (1 : Int32))])) (fun _ k => XS.iconst X5.here hx rfl (hb hby at_114) k) ?_
            refine own_go (g' := (mkF m 119 #[.val (.long q1), .second, .val (.long q2), .second, .val (.long q3), .second, .val (.long r), .second, .val (.int b8), .val (.int b9), .val (.int b10), .unset, .unset] [(.int (1 : Int32))])) (fun _ k => XS.goto X5.here hx rfl (pc0 := 115) (pc' := 119) rfl (hb hby at_115) (by decide) (by decide) k) ?_
            exact J
          · refine own_go (g' := (mkF m 118 #[.val (.long q1), .second, .val (.long q2), .second, .val (.long q3), .second, .val (.long r), .second, .val (.int b8), .val (.int b9), .val (.int b10), .unset, .unset] [])) (fun _ k => XS.ifYes X5.here hx rfl (pc0 := 111) (pc' := 118) rfl (hb hby at_111) rfl (XT.ll_ne_t c111) (by decide) (by decide) k) ?_
            exact hm.elim (fun q => absurd q.1 (hb8.mp c79)) (fun q => q.elim (fun q => absurd q.1 (hb9.mp c91)) (fun q => absurd q.2 c111))
      · refine own_go (g' := (mkF m 94 #[.val (.long q1), .second, .val (.long q2), .second, .val (.long q3), .second, .val (.long r), .second, .val (.int b8), .val (.int b9), .val (.int b10), .unset, .unset] [])) (fun _ k => XS.ifNo X5.here hx rfl (hb hby at_91) rfl (XT.i0_eq_f c91) k) ?_
        refine own_go (g' := (mkF m 96 #[.val (.long q1), .second, .val (.long q2), .second, .val (.long q3), .second, .val (.long r), .second, .val (.int b8), .val (.int b9), .val (.int b10), .unset, .unset] [(.long r)])) (fun _ k => XT.lload X5.here hx rfl (hb hby at_94) rfl k) ?_
        refine own_go (g' := (mkF m 97 #[.val (.long q1), .second, .val (.long q2), .second, .val (.long q3), .second, .val (.long r), .second, .val (.int b8), .val (.int b9), .val (.int b10), .unset, .unset] [(.long q2), (.long r)])) (fun _ k => XT.lloadN X5.here hx rfl (hb hby at_96) rfl k) ?_
        refine own_go (g' := (mkF m 98 #[.val (.long q1), .second, .val (.long q2), .second, .val (.long q3), .second, .val (.long r), .second, .val (.int b8), .val (.int b9), .val (.int b10), .unset, .unset] [(.int (XT.cmpL r q2))])) (fun _ k => XT.lcmp X5.here hx rfl (hb hby at_97) rfl k) ?_
        by_cases c98 : r = q2
        · refine own_go (g' := (mkF m 114 #[.val (.long q1), .second, .val (.long q2), .second, .val (.long q3), .second, .val (.long r), .second, .val (.int b8), .val (.int b9), .val (.int b10), .unset, .unset] [])) (fun _ k => XS.ifYes X5.here hx rfl (pc0 := 98) (pc' := 114) rfl (hb hby at_98) rfl (XT.ll_eq_t c98) (by decide) (by decide) k) ?_
          refine own_go (g' := (mkF m 115 #[.val (.long q1), .second, .val (.long q2), .second, .val (.long q3), .second, .val (.long r), .second, .val (.int b8), .val (.int b9), .val (.int b10), .unset, .unset] [(.int (1 : Int32))])) (fun _ k => XS.iconst X5.here hx rfl (hb hby at_114) k) ?_
          refine own_go (g' := (mkF m 119 #[.val (.long q1), .second, .val (.long q2), .second, .val (.long q3), .second, .val (.long r), .second, .val (.int b8), .val (.int b9), .val (.int b10), .unset, .unset] [(.int (1 : Int32))])) (fun _ k => XS.goto X5.here hx rfl (pc0 := 115) (pc' := 119) rfl (hb hby at_115) (by decide) (by decide) k) ?_
          exact J
        · refine own_go (g' := (mkF m 101 #[.val (.long q1), .second, .val (.long q2), .second, .val (.long q3), .second, .val (.long r), .second, .val (.int b8), .val (.int b9), .val (.int b10), .unset, .unset] [])) (fun _ k => XS.ifNo X5.here hx rfl (hb hby at_98) rfl (XT.ll_eq_f c98) k) ?_
          refine own_go (g' := (mkF m 103 #[.val (.long q1), .second, .val (.long q2), .second, .val (.long q3), .second, .val (.long r), .second, .val (.int b8), .val (.int b9), .val (.int b10), .unset, .unset] [(.int b10)])) (fun _ k => XS.iload X5.here hx rfl (hb hby at_101) rfl k) ?_
          by_cases c103 : b10 = 0
          · refine own_go (g' := (mkF m 118 #[.val (.long q1), .second, .val (.long q2), .second, .val (.long q3), .second, .val (.long r), .second, .val (.int b8), .val (.int b9), .val (.int b10), .unset, .unset] [])) (fun _ k => XS.ifYes X5.here hx rfl (pc0 := 103) (pc' := 118) rfl (hb hby at_103) rfl (XT.i0_eq_t c103) (by decide) (by decide) k) ?_
            exact hm.elim (fun q => absurd q.1 (hb8.mp c79)) (fun q => q.elim (fun q => absurd q.2 c98) (fun q => absurd q.1 (hb10.mp c103)))
          · refine own_go (g' := (mkF m 106 #[.val (.long q1), .second, .val (.long q2), .second, .val (.long q3), .second, .val (.long r), .second, .val (.int b8), .val (.int b9), .val (.int b10), .unset, .unset] [])) (fun _ k => XS.ifNo X5.here hx rfl (hb hby at_103) rfl (XT.i0_eq_f c103) k) ?_
            refine own_go (g' := (mkF m 108 #[.val (.long q1), .second, .val (.long q2), .second, .val (.long q3), .second, .val (.long r), .second, .val (.int b8), .val (.int b9), .val (.int b10), .unset, .unset] [(.long r)])) (fun _ k => XT.lload X5.here hx rfl (hb hby at_106) rfl k) ?_
            refine own_go (g' := (mkF m 110 #[.val (.long q1), .second, .val (.long q2), .second, .val (.long q3), .second, .val (.long r), .second, .val (.int b8), .val (.int b9), .val (.int b10), .unset, .unset] [(.long q3), (.long r)])) (fun _ k => XT.lload X5.here hx rfl (hb hby at_108) rfl k) ?_
            refine own_go (g' := (mkF m 111 #[.val (.long q1), .second, .val (.long q2), .second, .val (.long q3), .second, .val (.long r), .second, .val (.int b8), .val (.int b9), .val (.int b10), .unset, .unset] [(.int (XT.cmpL r q3))])) (fun _ k => XT.lcmp X5.here hx rfl (hb hby at_110) rfl k) ?_
            by_cases c111 : r = q3
            · refine own_go (g' := (mkF m 114 #[.val (.long q1), .second, .val (.long q2), .second, .val (.long q3), .second, .val (.long r), .second, .val (.int b8), .val (.int b9), .val (.int b10), .unset, .unset] [])) (fun _ k => XS.ifNo X5.here hx rfl (hb hby at_111) rfl (XT.ll_ne_f c111) k) ?_
              refine own_go (g' := (mkF m 115 #[.val (.long q1), .second, .val (.long q2), .second, .val (.long q3), .second, .val (.long r), .second, .val (.int b8), .val (.int b9), .val (.int b10), .unset, .unset] [(.int (1 : Int32))])) (fun _ k => XS.iconst X5.here hx rfl (hb hby at_114) k) ?_
              refine own_go (g' := (mkF m 119 #[.val (.long q1), .second, .val (.long q2), .second, .val (.long q3), .second, .val (.long r), .second, .val (.int b8), .val (.int b9), .val (.int b10), .unset, .unset] [(.int (1 : Int32))])) (fun _ k => XS.goto X5.here hx rfl (pc0 := 115) (pc' := 119) rfl (hb hby at_115) (by decide) (by decide) k) ?_
              exact J
            · refine own_go (g' := (mkF m 118 #[.val (.long q1), .second, .val (.long q2), .second, .val (.long q3), .second, .val (.long r), .second, .val (.int b8), .val (.int b9), .val (.int b10), .unset, .unset] [])) (fun _ k => XS.ifYes X5.here hx rfl (pc0 := 111) (pc' := 118) rfl (hb hby at_111) rfl (XT.ll_ne_t c111) (by decide) (by decide) k) ?_
              exact hm.elim (fun q => absurd q.1 (hb8.mp c79)) (fun q => q.elim (fun q => absurd q.2 c98) (fun q => absurd q.2 c111))
    · refine own_go (g' := (mkF m 82 #[.val (.long q1), .second, .val (.long q2), .second, .val (.long q3), .second, .val (.long r), .second, .val (.int b8), .val (.int b9), .val (.int b10), .unset, .unset] [])) (fun _ k => XS.ifNo X5.here hx rfl (hb hby at_79) rfl (XT.i0_eq_f c79) k) ?_
      refine own_go (g' := (mkF m 84 #[.val (.long q1), .second, .val (.long q2), .second, .val (.long q3), .second, .val (.long r), .second, .val (.int b8), .val (.int b9), .val (.int b10), .unset, .unset] [(.long r)])) (fun _ k => XT.lload X5.here hx rfl (hb hby at_82) rfl k) ?_
      refine own_go (g' := (mkF m 85 #[.val (.long q1), .second, .val (.long q2), .second, .val (.long q3), .second, .val (.long r), .second, .val (.int b8), .val (.int b9), .val (.int b10), .unset, .unset] [(.long q1), (.long r)])) (fun _ k => XT.lloadN X5.here hx rfl (hb hby at_84) rfl k) ?_
      refine own_go (g' := (mkF m 86 #[.val (.long q1), .second, .val (.long q2), .second, .val (.long q3), .second, .val (.long r), .second, .val (.int b8), .val (.int b9), .val (.int b10), .unset, .unset] [(.int (XT.cmpL r q1))])) (fun _ k => XT.lcmp X5.here hx rfl (hb hby at_85) rfl k) ?_
      by_cases c86 : r = q1
      · refine own_go (g' := (mkF m 114 #[.val (.long q1), .second, .val (.long q2), .second, .val (.long q3), .second, .val (.long r), .second, .val (.int b8), .val (.int b9), .val (.int b10), .unset, .unset] [])) (fun _ k => XS.ifYes X5.here hx rfl (pc0 := 86) (pc' := 114) rfl (hb hby at_86) rfl (XT.ll_eq_t c86) (by decide) (by decide) k) ?_
        refine own_go (g' := (mkF m 115 #[.val (.long q1), .second, .val (.long q2), .second, .val (.long q3), .second, .val (.long r), .second, .val (.int b8), .val (.int b9), .val (.int b10), .unset, .unset] [(.int (1 : Int32))])) (fun _ k => XS.iconst X5.here hx rfl (hb hby at_114) k) ?_
        refine own_go (g' := (mkF m 119 #[.val (.long q1), .second, .val (.long q2), .second, .val (.long q3), .second, .val (.long r), .second, .val (.int b8), .val (.int b9), .val (.int b10), .unset, .unset] [(.int (1 : Int32))])) (fun _ k => XS.goto X5.here hx rfl (pc0 := 115) (pc' := 119) rfl (hb hby at_115) (by decide) (by decide) k) ?_
        exact J
      · refine own_go (g' := (mkF m 89 #[.val (.long q1), .second, .val (.long q2), .second, .val (.long q3), .second, .val (.long r), .second, .val (.int b8), .val (.int b9), .val (.int b10), .unset, .unset] [])) (fun _ k => XS.ifNo X5.here hx rfl (hb hby at_86) rfl (XT.ll_eq_f c86) k) ?_
        refine own_go (g' := (mkF m 91 #[.val (.long q1), .second, .val (.long q2), .second, .val (.long q3), .second, .val (.long r), .second, .val (.int b8), .val (.int b9), .val (.int b10), .unset, .unset] [(.int b9)])) (fun _ k => XS.iload X5.here hx rfl (hb hby at_89) rfl k) ?_
        by_cases c91 : b9 = 0
        · refine own_go (g' := (mkF m 101 #[.val (.long q1), .second, .val (.long q2), .second, .val (.long q3), .second, .val (.long r), .second, .val (.int b8), .val (.int b9), .val (.int b10), .unset, .unset] [])) (fun _ k => XS.ifYes X5.here hx rfl (pc0 := 91) (pc' := 101) rfl (hb hby at_91) rfl (XT.i0_eq_t c91) (by decide) (by decide) k) ?_
          refine own_go (g' := (mkF m 103 #[.val (.long q1), .second, .val (.long q2), .second, .val (.long q3), .second, .val (.long r), .second, .val (.int b8), .val (.int b9), .val (.int b10), .unset, .unset] [(.int b10)])) (fun _ k => XS.iload X5.here hx rfl (hb hby at_101) rfl k) ?_
          by_cases c103 : b10 = 0
          · refine own_go (g' := (mkF m 118 #[.val (.long q1), .second, .val (.long q2), .second, .val (.long q3), .second, .val (.long r), .second, .val (.int b8), .val (.int b9), .val (.int b10), .unset, .unset] [])) (fun _ k => XS.ifYes X5.here hx rfl (pc0 := 103) (pc' := 118) rfl (hb hby at_103) rfl (XT.i0_eq_t c103) (by decide) (by decide) k) ?_
            exact hm.elim (fun q => absurd q.2 c86) (fun q => q.elim (fun q => absurd q.1 (hb9.mp c91)) (fun q => absurd q.1 (hb10.mp c103)))
          · refine own_go (g' := (mkF m 106 #[.val (.long q1), .second, .val (.long q2), .second, .val (.long q3), .second, .val (.long r), .second, .val (.int b8), .val (.int b9), .val (.int b10), .unset, .unset] [])) (fun _ k => XS.ifNo X5.here hx rfl (hb hby at_103) rfl (XT.i0_eq_f c103) k) ?_
            refine own_go (g' := (mkF m 108 #[.val (.long q1), .second, .val (.long q2), .second, .val (.long q3), .second, .val (.long r), .second, .val (.int b8), .val (.int b9), .val (.int b10), .unset, .unset] [(.long r)])) (fun _ k => XT.lload X5.here hx rfl (hb hby at_106) rfl k) ?_
            refine own_go (g' := (mkF m 110 #[.val (.long q1), .second, .val (.long q2), .second, .val (.long q3), .second, .val (.long r), .second, .val (.int b8), .val (.int b9), .val (.int b10), .unset, .unset] [(.long q3), (.long r)])) (fun _ k => XT.lload X5.here hx rfl (hb hby at_108) rfl k) ?_
            refine own_go (g' := (mkF m 111 #[.val (.long q1), .second, .val (.long q2), .second, .val (.long q3), .second, .val (.long r), .second, .val (.int b8), .val (.int b9), .val (.int b10), .unset, .unset] [(.int (XT.cmpL r q3))])) (fun _ k => XT.lcmp X5.here hx rfl (hb hby at_110) rfl k) ?_
            by_cases c111 : r = q3
            · refine own_go (g' := (mkF m 114 #[.val (.long q1), .second, .val (.long q2), .second, .val (.long q3), .second, .val (.long r), .second, .val (.int b8), .val (.int b9), .val (.int b10), .unset, .unset] [])) (fun _ k => XS.ifNo X5.here hx rfl (hb hby at_111) rfl (XT.ll_ne_f c111) k) ?_
              refine own_go (g' := (mkF m 115 #[.val (.long q1), .second, .val (.long q2), .second, .val (.long q3), .second, .val (.long r), .second, .val (.int b8), .val (.int b9), .val (.int b10), .unset, .unset] [(.int (1 : Int32))])) (fun _ k => XS.iconst X5.here hx rfl (hb hby at_114) k) ?_
              refine own_go (g' := (mkF m 119 #[.val (.long q1), .second, .val (.long q2), .second, .val (.long q3), .second, .val (.long r), .second, .val (.int b8), .val (.int b9), .val (.int b10), .unset, .unset] [(.int (1 : Int32))])) (fun _ k => XS.goto X5.here hx rfl (pc0 := 115) (pc' := 119) rfl (hb hby at_115) (by decide) (by decide) k) ?_
              exact J
            · refine own_go (g' := (mkF m 118 #[.val (.long q1), .second, .val (.long q2), .second, .val (.long q3), .second, .val (.long r), .second, .val (.int b8), .val (.int b9), .val (.int b10), .unset, .unset] [])) (fun _ k => XS.ifYes X5.here hx rfl (pc0 := 111) (pc' := 118) rfl (hb hby at_111) rfl (XT.ll_ne_t c111) (by decide) (by decide) k) ?_
              exact hm.elim (fun q => absurd q.2 c86) (fun q => q.elim (fun q => absurd q.1 (hb9.mp c91)) (fun q => absurd q.2 c111))
        · refine own_go (g' := (mkF m 94 #[.val (.long q1), .second, .val (.long q2), .second, .val (.long q3), .second, .val (.long r), .second, .val (.int b8), .val (.int b9), .val (.int b10), .unset, .unset] [])) (fun _ k => XS.ifNo X5.here hx rfl (hb hby at_91) rfl (XT.i0_eq_f c91) k) ?_
          refine own_go (g' := (mkF m 96 #[.val (.long q1), .second, .val (.long q2), .second, .val (.long q3), .second, .val (.long r), .second, .val (.int b8), .val (.int b9), .val (.int b10), .unset, .unset] [(.long r)])) (fun _ k => XT.lload X5.here hx rfl (hb hby at_94) rfl k) ?_
          refine own_go (g' := (mkF m 97 #[.val (.long q1), .second, .val (.long q2), .second, .val (.long q3), .second, .val (.long r), .second, .val (.int b8), .val (.int b9), .val (.int b10), .unset, .unset] [(.long q2), (.long r)])) (fun _ k => XT.lloadN X5.here hx rfl (hb hby at_96) rfl k) ?_
          refine own_go (g' := (mkF m 98 #[.val (.long q1), .second, .val (.long q2), .second, .val (.long q3), .second, .val (.long r), .second, .val (.int b8), .val (.int b9), .val (.int b10), .unset, .unset] [(.int (XT.cmpL r q2))])) (fun _ k => XT.lcmp X5.here hx rfl (hb hby at_97) rfl k) ?_
          by_cases c98 : r = q2
          · refine own_go (g' := (mkF m 114 #[.val (.long q1), .second, .val (.long q2), .second, .val (.long q3), .second, .val (.long r), .second, .val (.int b8), .val (.int b9), .val (.int b10), .unset, .unset] [])) (fun _ k => XS.ifYes X5.here hx rfl (pc0 := 98) (pc' := 114) rfl (hb hby at_98) rfl (XT.ll_eq_t c98) (by decide) (by decide) k) ?_
            refine own_go (g' := (mkF m 115 #[.val (.long q1), .second, .val (.long q2), .second, .val (.long q3), .second, .val (.long r), .second, .val (.int b8), .val (.int b9), .val (.int b10), .unset, .unset] [(.int (1 : Int32))])) (fun _ k => XS.iconst X5.here hx rfl (hb hby at_114) k) ?_
            refine own_go (g' := (mkF m 119 #[.val (.long q1), .second, .val (.long q2), .second, .val (.long q3), .second, .val (.long r), .second, .val (.int b8), .val (.int b9), .val (.int b10), .unset, .unset] [(.int (1 : Int32))])) (fun _ k => XS.goto X5.here hx rfl (pc0 := 115) (pc' := 119) rfl (hb hby at_115) (by decide) (by decide) k) ?_
            exact J
          · refine own_go (g' := (mkF m 101 #[.val (.long q1), .second, .val (.long q2), .second, .val (.long q3), .second, .val (.long r), .second, .val (.int b8), .val (.int b9), .val (.int b10), .unset, .unset] [])) (fun _ k => XS.ifNo X5.here hx rfl (hb hby at_98) rfl (XT.ll_eq_f c98) k) ?_
            refine own_go (g' := (mkF m 103 #[.val (.long q1), .second, .val (.long q2), .second, .val (.long q3), .second, .val (.long r), .second, .val (.int b8), .val (.int b9), .val (.int b10), .unset, .unset] [(.int b10)])) (fun _ k => XS.iload X5.here hx rfl (hb hby at_101) rfl k) ?_
            by_cases c103 : b10 = 0
            · refine own_go (g' := (mkF m 118 #[.val (.long q1), .second, .val (.long q2), .second, .val (.long q3), .second, .val (.long r), .second, .val (.int b8), .val (.int b9), .val (.int b10), .unset, .unset] [])) (fun _ k => XS.ifYes X5.here hx rfl (pc0 := 103) (pc' := 118) rfl (hb hby at_103) rfl (XT.i0_eq_t c103) (by decide) (by decide) k) ?_
              exact hm.elim (fun q => absurd q.2 c86) (fun q => q.elim (fun q => absurd q.2 c98) (fun q => absurd q.1 (hb10.mp c103)))
            · refine own_go (g' := (mkF m 106 #[.val (.long q1), .second, .val (.long q2), .second, .val (.long q3), .second, .val (.long r), .second, .val (.int b8), .val (.int b9), .val (.int b10), .unset, .unset] [])) (fun _ k => XS.ifNo X5.here hx rfl (hb hby at_103) rfl (XT.i0_eq_f c103) k) ?_
              refine own_go (g' := (mkF m 108 #[.val (.long q1), .second, .val (.long q2), .second, .val (.long q3), .second, .val (.long r), .second, .val (.int b8), .val (.int b9), .val (.int b10), .unset, .unset] [(.long r)])) (fun _ k => XT.lload X5.here hx rfl (hb hby at_106) rfl k) ?_
              refine own_go (g' := (mkF m 110 #[.val (.long q1), .second, .val (.long q2), .second, .val (.long q3), .second, .val (.long r), .second, .val (.int b8), .val (.int b9), .val (.int b10), .unset, .unset] [(.long q3), (.long r)])) (fun _ k => XT.lload X5.here hx rfl (hb hby at_108) rfl k) ?_
              refine own_go (g' := (mkF m 111 #[.val (.long q1), .second, .val (.long q2), .second, .val (.long q3), .second, .val (.long r), .second, .val (.int b8), .val (.int b9), .val (.int b10), .unset, .unset] [(.int (XT.cmpL r q3))])) (fun _ k => XT.lcmp X5.here hx rfl (hb hby at_110) rfl k) ?_
              by_cases c111 : r = q3
              · refine own_go (g' := (mkF m 114 #[.val (.long q1), .second, .val (.long q2), .second, .val (.long q3), .second, .val (.long r), .second, .val (.int b8), .val (.int b9), .val (.int b10), .unset, .unset] [])) (fun _ k => XS.ifNo X5.here hx rfl (hb hby at_111) rfl (XT.ll_ne_f c111) k) ?_
                refine own_go (g' := (mkF m 115 #[.val (.long q1), .second, .val (.long q2), .second, .val (.long q3), .second, .val (.long r), .second, .val (.int b8), .val (.int b9), .val (.int b10), .unset, .unset] [(.int (1 : Int32))])) (fun _ k => XS.iconst X5.here hx rfl (hb hby at_114) k) ?_
                refine own_go (g' := (mkF m 119 #[.val (.long q1), .second, .val (.long q2), .second, .val (.long q3), .second, .val (.long r), .second, .val (.int b8), .val (.int b9), .val (.int b10), .unset, .unset] [(.int (1 : Int32))])) (fun _ k => XS.goto X5.here hx rfl (pc0 := 115) (pc' := 119) rfl (hb hby at_115) (by decide) (by decide) k) ?_
                exact J
              · refine own_go (g' := (mkF m 118 #[.val (.long q1), .second, .val (.long q2), .second, .val (.long q3), .second, .val (.long r), .second, .val (.int b8), .val (.int b9), .val (.int b10), .unset, .unset] [])) (fun _ k => XS.ifYes X5.here hx rfl (pc0 := 111) (pc' := 118) rfl (hb hby at_111) rfl (XT.ll_ne_t c111) (by decide) (by decide) k) ?_
                exact hm.elim (fun q => absurd q.2 c86) (fun q => q.elim (fun q => absurd q.2 c98) (fun q => absurd q.2 c111))
  refine own_go (g' := (mkF m 121 #[.val (.long q1), .second, .val (.long q2), .second, .val (.long q3), .second, .val (.long r), .second, .val (.int b8), .val (.int b9), .val (.int b10), .val (.int 1), .unset] [])) (fun _ k => XS.istore X5.here hx rfl (hb hby at_119) rfl (l' := #[.val (.long q1), .second, .val (.long q2), .second, .val (.long q3), .second, .val (.long r), .second, .val (.int b8), .val (.int b9), .val (.int b10), .val (.int 1), .unset]) rfl k) ?_
  refine own_go (g' := (mkF m 123 #[.val (.long q1), .second, .val (.long q2), .second, .val (.long q3), .second, .val (.long r), .second, .val (.int b8), .val (.int b9), .val (.int b10), .val (.int 1), .unset] [(.int b8)])) (fun _ k => XS.iload X5.here hx rfl (hb hby at_121) rfl k) ?_
  suffices J : own_Go p e below (own_Po s (own_Q0 n0) 16 128) T5 (mkF m 163 #[.val (.long q1), .second, .val (.long q2), .second, .val (.long q3), .second, .val (.long r), .second, .val (.int b8), .val (.int b9), .val (.int b10), .val (.int 1), .unset] [(.int 1)]) by
    by_cases c123 : b8 = 0
    · refine own_go (g' := (mkF m 133 #[.val (.long q1), .second, .val (.long q2), .second, .val (.long q3), .second, .val (.long r), .second, .val (.int b8), .val (.int b9), .val (.int b10), .val (.int 1), .unset] [])) (fun _ k => XS.ifYes X5.here hx rfl (pc0 := 123) (pc' := 133) rfl (hb hby at_123) rfl (XT.i0_eq_t c123) (by decide) (by decide) k) ?_
      refine own_go (g' := (mkF m 135 #[.val (.long q1), .second, .val (.long q2), .second, .val (.long q3), .second, .val (.long r), .second, .val (.int b8), .val (.int b9), .val (.int b10), .val (.int 1), .unset] [(.int b9)])) (fun _ k => XS.iload X5.here hx rfl (hb hby at_133) rfl k) ?_
      by_cases c135 : b9 = 0
      · refine own_go (g' := (mkF m 145 #[.val (.long q1), .second, .val (.long q2), .second, .val (.long q3), .second, .val (.long r), .second, .val (.int b8), .val (.int b9), .val (.int b10), .val (.int 1), .unset] [])) (fun _ k => XS.ifYes X5.here hx rfl (pc0 := 135) (pc' := 145) rfl (hb hby at_135) rfl (XT.i0_eq_t c135) (by decide) (by decide) k) ?_
        refine own_go (g' := (mkF m 147 #[.val (.long q1), .second, .val (.long q2), .second, .val (.long q3), .second, .val (.long r), .second, .val (.int b8), .val (.int b9), .val (.int b10), .val (.int 1), .unset] [(.int b10)])) (fun _ k => XS.iload X5.here hx rfl (hb hby at_145) rfl k) ?_
        by_cases c147 : b10 = 0
        · refine own_go (g' := (mkF m 158 #[.val (.long q1), .second, .val (.long q2), .second, .val (.long q3), .second, .val (.long r), .second, .val (.int b8), .val (.int b9), .val (.int b10), .val (.int 1), .unset] [])) (fun _ k => XS.ifYes X5.here hx rfl (pc0 := 147) (pc' := 158) rfl (hb hby at_147) rfl (XT.i0_eq_t c147) (by decide) (by decide) k) ?_
          refine own_go (g' := (mkF m 159 #[.val (.long q1), .second, .val (.long q2), .second, .val (.long q3), .second, .val (.long r), .second, .val (.int b8), .val (.int b9), .val (.int b10), .val (.int 1), .unset] [(.int (1 : Int32))])) (fun _ k => XS.iconst X5.here hx rfl (hb hby at_158) k) ?_
          refine own_go (g' := (mkF m 163 #[.val (.long q1), .second, .val (.long q2), .second, .val (.long q3), .second, .val (.long r), .second, .val (.int b8), .val (.int b9), .val (.int b10), .val (.int 1), .unset] [(.int (1 : Int32))])) (fun _ k => XS.goto X5.here hx rfl (pc0 := 159) (pc' := 163) rfl (hb hby at_159) (by decide) (by decide) k) ?_
          exact J
        · refine own_go (g' := (mkF m 150 #[.val (.long q1), .second, .val (.long q2), .second, .val (.long q3), .second, .val (.long r), .second, .val (.int b8), .val (.int b9), .val (.int b10), .val (.int 1), .unset] [])) (fun _ k => XS.ifNo X5.here hx rfl (hb hby at_147) rfl (XT.i0_eq_f c147) k) ?_
          refine own_go (g' := (mkF m 152 #[.val (.long q1), .second, .val (.long q2), .second, .val (.long q3), .second, .val (.long r), .second, .val (.int b8), .val (.int b9), .val (.int b10), .val (.int 1), .unset] [(.long r)])) (fun _ k => XT.lload X5.here hx rfl (hb hby at_150) rfl k) ?_
          refine own_go (g' := (mkF m 154 #[.val (.long q1), .second, .val (.long q2), .second, .val (.long q3), .second, .val (.long r), .second, .val (.int b8), .val (.int b9), .val (.int b10), .val (.int 1), .unset] [(.long q3), (.long r)])) (fun _ k => XT.lload X5.here hx rfl (hb hby at_152) rfl k) ?_
          refine own_go (g' := (mkF m 155 #[.val (.long q1), .second, .val (.long q2), .second, .val (.long q3), .second, .val (.long r), .second, .val (.int b8), .val (.int b9), .val (.int b10), .val (.int 1), .unset] [(.int (XT.cmpL r q3))])) (fun _ k => XT.lcmp X5.here hx rfl (hb hby at_154) rfl k) ?_
          by_cases c155 : q3 < r
          · refine own_go (g' := (mkF m 162 #[.val (.long q1), .second, .val (.long q2), .second, .val (.long q3), .second, .val (.long r), .second, .val (.int b8), .val (.int b9), .val (.int b10), .val (.int 1), .unset] [])) (fun _ k => XS.ifYes X5.here hx rfl (pc0 := 155) (pc' := 162) rfl (hb hby at_155) rfl (XT.ll_gt_t c155) (by decide) (by decide) k) ?_
            exact absurd c155 (sp4 (Classical.not_not.mp fun z => c147 (hb10.mpr z)))
          · refine own_go (g' := (mkF m 158 #[.val (.long q1), .second, .val (.long q2), .second, .val (.long q3), .second, .val (.long r), .second, .val (.int b8), .val (.int b9), .val (.int b10), .val (.int 1), .unset] [])) (fun _ k => XS.ifNo X5.here hx rfl (hb hby at_155) rfl (XT.ll_gt_f c155) k) ?_
            refine own_go (g' := (mkF m 159 #[.val (.long q1), .second, .val (.long q2), .second, .val (.long q3), .second, .val (.long r), .second, .val (.int b8), .val (.int b9), .val (.int b10), .val (.int 1), .unset] [(.int (1 : Int32))])) (fun _ k => XS.iconst X5.here hx rfl (hb hby at_158) k) ?_
            refine own_go (g' := (mkF m 163 #[.val (.long q1), .second, .val (.long q2), .second, .val (.long q3), .second, .val (.long r), .second, .val (.int b8), .val (.int b9), .val (.int b10), .val (.int 1), .unset] [(.int (1 : Int32))])) (fun _ k => XS.goto X5.here hx rfl (pc0 := 159) (pc' := 163) rfl (hb hby at_159) (by decide) (by decide) k) ?_
            exact J
      · refine own_go (g' := (mkF m 138 #[.val (.long q1), .second, .val (.long q2), .second, .val (.long q3), .second, .val (.long r), .second, .val (.int b8), .val (.int b9), .val (.int b10), .val (.int 1), .unset] [])) (fun _ k => XS.ifNo X5.here hx rfl (hb hby at_135) rfl (XT.i0_eq_f c135) k) ?_
        refine own_go (g' := (mkF m 140 #[.val (.long q1), .second, .val (.long q2), .second, .val (.long q3), .second, .val (.long r), .second, .val (.int b8), .val (.int b9), .val (.int b10), .val (.int 1), .unset] [(.long r)])) (fun _ k => XT.lload X5.here hx rfl (hb hby at_138) rfl k) ?_
        refine own_go (g' := (mkF m 141 #[.val (.long q1), .second, .val (.long q2), .second, .val (.long q3), .second, .val (.long r), .second, .val (.int b8), .val (.int b9), .val (.int b10), .val (.int 1), .unset] [(.long q2), (.long r)])) (fun _ k => XT.lloadN X5.here hx rfl (hb hby at_140) rfl k) ?_
        refine own_go (g' := (mkF m 142 #[.val (.long q1), .second, .val (.long q2), .second, .val (.long q3), .second, .val (.long r), .second, .val (.int b8), .val (.int b9), .val (.int b10), .val (.int 1), .unset] [(.int (XT.cmpL r q2))])) (fun _ k => XT.lcmp X5.here hx rfl (hb hby at_141) rfl k) ?_
        by_cases c142 : q2 < r
        · refine own_go (g' := (mkF m 162 #[.val (.long q1), .second, .val (.long q2), .second, .val (.long q3), .second, .val (.long r), .second, .val (.int b8), .val (.int b9), .val (.int b10), .val (.int 1), .unset] [])) (fun _ k => XS.ifYes X5.here hx rfl (pc0 := 142) (pc' := 162) rfl (hb hby at_142) rfl (XT.ll_gt_t c142) (by decide) (by decide) k) ?_
          exact absurd c142 (sp3 (Classical.not_not.mp fun z => c135 (hb9.mpr z)))
        · refine own_go (g' := (mkF m 145 #[.val (.long q1), .second, .val (.long q2), .second, .val (.long q3), .second, .val (.long r), .second, .val (.int b8), .val (.int b9), .val (.int b10), .val (.int 1), .unset] [])) (fun _ k => XS.ifNo X5.here hx rfl (hb hby at_142) rfl (XT.ll_gt_f c142) k) ?_
          refine own_go (g' := (mkF m 147 #[.val (.long q1), .second, .val (.long q2), .second, .val (.long q3), .second, .val (.long r), .second, .val (.int b8), .val (.int b9), .val (.int b10), .val (.int 1), .unset] [(.int b10)])) (fun _ k => XS.iload X5.here hx rfl (hb hby at_145) rfl k) ?_
          by_cases c147 : b10 = 0
          · refine own_go (g' := (mkF m 158 #[.val (.long q1), .second, .val (.long q2), .second, .val (.long q3), .second, .val (.long r), .second, .val (.int b8), .val (.int b9), .val (.int b10), .val (.int 1), .unset] [])) (fun _ k => XS.ifYes X5.here hx rfl (pc0 := 147) (pc' := 158) rfl (hb hby at_147) rfl (XT.i0_eq_t c147) (by decide) (by decide) k) ?_
            refine own_go (g' := (mkF m 159 #[.val (.long q1), .second, .val (.long q2), .second, .val (.long q3), .second, .val (.long r), .second, .val (.int b8), .val (.int b9), .val (.int b10), .val (.int 1), .unset] [(.int (1 : Int32))])) (fun _ k => XS.iconst X5.here hx rfl (hb hby at_158) k) ?_
            refine own_go (g' := (mkF m 163 #[.val (.long q1), .second, .val (.long q2), .second, .val (.long q3), .second, .val (.long r), .second, .val (.int b8), .val (.int b9), .val (.int b10), .val (.int 1), .unset] [(.int (1 : Int32))])) (fun _ k => XS.goto X5.here hx rfl (pc0 := 159) (pc' := 163) rfl (hb hby at_159) (by decide) (by decide) k) ?_
            exact J
          · refine own_go (g' := (mkF m 150 #[.val (.long q1), .second, .val (.long q2), .second, .val (.long q3), .second, .val (.long r), .second, .val (.int b8), .val (.int b9), .val (.int b10), .val (.int 1), .unset] [])) (fun _ k => XS.ifNo X5.here hx rfl (hb hby at_147) rfl (XT.i0_eq_f c147) k) ?_
            refine own_go (g' := (mkF m 152 #[.val (.long q1), .second, .val (.long q2), .second, .val (.long q3), .second, .val (.long r), .second, .val (.int b8), .val (.int b9), .val (.int b10), .val (.int 1), .unset] [(.long r)])) (fun _ k => XT.lload X5.here hx rfl (hb hby at_150) rfl k) ?_
            refine own_go (g' := (mkF m 154 #[.val (.long q1), .second, .val (.long q2), .second, .val (.long q3), .second, .val (.long r), .second, .val (.int b8), .val (.int b9), .val (.int b10), .val (.int 1), .unset] [(.long q3), (.long r)])) (fun _ k => XT.lload X5.here hx rfl (hb hby at_152) rfl k) ?_
            refine own_go (g' := (mkF m 155 #[.val (.long q1), .second, .val (.long q2), .second, .val (.long q3), .second, .val (.long r), .second, .val (.int b8), .val (.int b9), .val (.int b10), .val (.int 1), .unset] [(.int (XT.cmpL r q3))])) (fun _ k => XT.lcmp X5.here hx rfl (hb hby at_154) rfl k) ?_
            by_cases c155 : q3 < r
            · refine own_go (g' := (mkF m 162 #[.val (.long q1), .second, .val (.long q2), .second, .val (.long q3), .second, .val (.long r), .second, .val (.int b8), .val (.int b9), .val (.int b10), .val (.int 1), .unset] [])) (fun _ k => XS.ifYes X5.here hx rfl (pc0 := 155) (pc' := 162) rfl (hb hby at_155) rfl (XT.ll_gt_t c155) (by decide) (by decide) k) ?_
              exact absurd c155 (sp4 (Classical.not_not.mp fun z => c147 (hb10.mpr z)))
            · refine own_go (g' := (mkF m 158 #[.val (.long q1), .second, .val (.long q2), .second, .val (.long q3), .second, .val (.long r), .second, .val (.int b8), .val (.int b9), .val (.int b10), .val (.int 1), .unset] [])) (fun _ k => XS.ifNo X5.here hx rfl (hb hby at_155) rfl (XT.ll_gt_f c155) k) ?_
              refine own_go (g' := (mkF m 159 #[.val (.long q1), .second, .val (.long q2), .second, .val (.long q3), .second, .val (.long r), .second, .val (.int b8), .val (.int b9), .val (.int b10), .val (.int 1), .unset] [(.int (1 : Int32))])) (fun _ k => XS.iconst X5.here hx rfl (hb hby at_158) k) ?_
              refine own_go (g' := (mkF m 163 #[.val (.long q1), .second, .val (.long q2), .second, .val (.long q3), .second, .val (.long r), .second, .val (.int b8), .val (.int b9), .val (.int b10), .val (.int 1), .unset] [(.int (1 : Int32))])) (fun _ k => XS.goto X5.here hx rfl (pc0 := 159) (pc' := 163) rfl (hb hby at_159) (by decide) (by decide) k) ?_
              exact J
    · refine own_go (g' := (mkF m 126 #[.val (.long q1), .second, .val (.long q2), .second, .val (.long q3), .second, .val (.long r), .second, .val (.int b8), .val (.int b9), .val (.int b10), .val (.int 1), .unset] [])) (fun _ k => XS.ifNo X5.here hx rfl (hb hby at_123) rfl (XT.i0_eq_f c123) k) ?_
      refine own_go (g' := (mkF m 128 #[.val (.long q1), .second, .val (.long q2), .second, .val (.long q3), .second, .val (.long r), .second, .val (.int b8), .val (.int b9), .val (.int b10), .val (.int 1), .unset] [(.long r)])) (fun _ k => XT.lload X5.here hx rfl (hb hby at_126) rfl k) ?_
      refine own_go (g' := (mkF m 129 #[.val (.long q1), .second, .val (.long q2), .second, .val (.long q3), .second, .val (.long r), .second, .val (.int b8), .val (.int b9), .val (.int b10), .val (.int 1), .unset] [(.long q1), (.long r)])) (fun _ k => XT.lloadN X5.here hx rfl (hb hby at_128) rfl k) ?_
      refine own_go (g' := (mkF m 130 #[.val (.long q1), .second, .val (.long q2), .second, .val (.long q3), .second, .val (.long r), .second, .val (.int b8), .val (.int b9), .val (.int b10), .val (.int 1), .unset] [(.int (XT.cmpL r q1))])) (fun _ k => XT.lcmp X5.here hx rfl (hb hby at_129) rfl k) ?_
      by_cases c130 : q1 < r
      · refine own_go (g' := (mkF m 162 #[.val (.long q1), .second, .val (.long q2), .second, .val (.long q3), .second, .val (.long r), .second, .val (.int b8), .val (.int b9), .val (.int b10), .val (.int 1), .unset] [])) (fun _ k => XS.ifYes X5.here hx rfl (pc0 := 130) (pc' := 162) rfl (hb hby at_130) rfl (XT.ll_gt_t c130) (by decide) (by decide) k) ?_
        exact absurd c130 (sp2 (Classical.not_not.mp fun z => c123 (hb8.mpr z)))
      · refine own_go (g' := (mkF m 133 #[.val (.long q1), .second, .val (.long q2), .second, .val (.long q3), .second, .val (.long r), .second, .val (.int b8), .val (.int b9), .val (.int b10), .val (.int 1), .unset] [])) (fun _ k => XS.ifNo X5.here hx rfl (hb hby at_130) rfl (XT.ll_gt_f c130) k) ?_
        refine own_go (g' := (mkF m 135 #[.val (.long q1), .second, .val (.long q2), .second, .val (.long q3), .second, .val (.long r), .second, .val (.int b8), .val (.int b9), .val (.int b10), .val (.int 1), .unset] [(.int b9)])) (fun _ k => XS.iload X5.here hx rfl (hb hby at_133) rfl k) ?_
        by_cases c135 : b9 = 0
        · refine own_go (g' := (mkF m 145 #[.val (.long q1), .second, .val (.long q2), .second, .val (.long q3), .second, .val (.long r), .second, .val (.int b8), .val (.int b9), .val (.int b10), .val (.int 1), .unset] [])) (fun _ k => XS.ifYes X5.here hx rfl (pc0 := 135) (pc' := 145) rfl (hb hby at_135) rfl (XT.i0_eq_t c135) (by decide) (by decide) k) ?_
          refine own_go (g' := (mkF m 147 #[.val (.long q1), .second, .val (.long q2), .second, .val (.long q3), .second, .val (.long r), .second, .val (.int b8), .val (.int b9), .val (.int b10), .val (.int 1), .unset] [(.int b10)])) (fun _ k => XS.iload X5.here hx rfl (hb hby at_145) rfl k) ?_
          by_cases c147 : b10 = 0
          · refine own_go (g' := (mkF m 158 #[.val (.long q1), .second, .val (.long q2), .second, .val (.long q3), .second, .val (.long r), .second, .val (.int b8), .val (.int b9), .val (.int b10), .val (.int 1), .unset] [])) (fun _ k => XS.ifYes X5.here hx rfl (pc0 := 147) (pc' := 158) rfl (hb hby at_147) rfl (XT.i0_eq_t c147) (by decide) (by decide) k) ?_
            refine own_go (g' := (mkF m 159 #[.val (.long q1), .second, .val (.long q2), .second, .val (.long q3), .second, .val (.long r), .second, .val (.int b8), .val (.int b9), .val (.int b10), .val (.int 1), .unset] [(.int (1 : Int32))])) (fun _ k => XS.iconst X5.here hx rfl (hb hby at_158) k) ?_
            refine own_go (g' := (mkF m 163 #[.val (.long q1), .second, .val (.long q2), .second, .val (.long q3), .second, .val (.long r), .second, .val (.int b8), .val (.int b9), .val (.int b10), .val (.int 1), .unset] [(.int (1 : Int32))])) (fun _ k => XS.goto X5.here hx rfl (pc0 := 159) (pc' := 163) rfl (hb hby at_159) (by decide) (by decide) k) ?_
            exact J
          · refine own_go (g' := (mkF m 150 #[.val (.long q1), .second, .val (.long q2), .second, .val (.long q3), .second, .val (.long r), .second, .val (.int b8), .val (.int b9), .val (.int b10), .val (.int 1), .unset] [])) (fun _ k => XS.ifNo X5.here hx rfl (hb hby at_147) rfl (XT.i0_eq_f c147) k) ?_
            refine own_go (g' := (mkF m 152 #[.val (.long q1), .second, .val (.long q2), .second, .val (.long q3), .second, .val (.long r), .second, .val (.int b8), .val (.int b9), .val (.int b10), .val (.int 1), .unset] [(.long r)])) (fun _ k => XT.lload X5.here hx rfl (hb hby at_150) rfl k) ?_
            refine own_go (g' := (mkF m 154 #[.val (.long q1), .second, .val (.long q2), .second, .val (.long q3), .second, .val (.long r), .second, .val (.int b8), .val (.int b9), .val (.int b10), .val (.int 1), .unset] [(.long q3), (.long r)])) (fun _ k => XT.lload X5.here hx rfl (hb hby at_152) rfl k) ?_
            refine own_go (g' := (mkF m 155 #[.val (.long q1), .second, .val (.long q2), .second, .val (.long q3), .second, .val (.long r), .second, .val (.int b8), .val (.int b9), .val (.int b10), .val (.int 1), .unset] [(.int (XT.cmpL r q3))])) (fun _ k => XT.lcmp X5.here hx rfl (hb hby at_154) rfl k) ?_
            by_cases c155 : q3 < r
            · refine own_go (g' := (mkF m 162 #[.val (.long q1), .second, .val (.long q2), .second, .val (.long q3), .second, .val (.long r), .second, .val (.int b8), .val (.int b9), .val (.int b10), .val (.int 1), .unset] [])) (fun _ k => XS.ifYes X5.here hx rfl (pc0 := 155) (pc' := 162) rfl (hb hby at_155) rfl (XT.ll_gt_t c155) (by decide) (by decide) k) ?_
              exact absurd c155 (sp4 (Classical.not_not.mp fun z => c147 (hb10.mpr z)))
            · refine own_go (g' := (mkF m 158 #[.val (.long q1), .second, .val (.long q2), .second, .val (.long q3), .second, .val (.long r), .second, .val (.int b8), .val (.int b9), .val (.int b10), .val (.int 1), .unset] [])) (fun _ k => XS.ifNo X5.here hx rfl (hb hby at_155) rfl (XT.ll_gt_f c155) k) ?_
              refine own_go (g' := (mkF m 159 #[.val (.long q1), .second, .val (.long q2), .second, .val (.long q3), .second, .val (.long r), .second, .val (.int b8), .val (.int b9), .val (.int b10), .val (.int 1), .unset] [(.int (1 : Int32))])) (fun _ k => XS.iconst X5.here hx rfl (hb hby at_158) k) ?_
              refine own_go (g' := (mkF m 163 #[.val (.long q1), .second, .val (.long q2), .second, .val (.long q3), .second, .val (.long r), .second, .val (.int b8), .val (.int b9), .val (.int b10), .val (.int 1), .unset] [(.int (1 : Int32))])) (fun _ k => XS.goto X5.here hx rfl (pc0 := 159) (pc' := 163) rfl (hb hby at_159) (by decide) (by decide) k) ?_
              exact J
        · refine own_go (g' := (mkF m 138 #[.val (.long q1), .second, .val (.long q2), .second, .val (.long q3), .second, .val (.long r), .second, .val (.int b8), .val (.int b9), .val (.int b10), .val (.int 1), .unset] [])) (fun _ k => XS.ifNo X5.here hx rfl (hb hby at_135) rfl (XT.i0_eq_f c135) k) ?_
          refine own_go (g' := (mkF m 140 #[.val (.long q1), .second, .val (.long q2), .second, .val (.long q3), .second, .val (.long r), .second, .val (.int b8), .val (.int b9), .val (.int b10), .val (.int 1), .unset] [(.long r)])) (fun _ k => XT.lload X5.here hx rfl (hb hby at_138) rfl k) ?_
          refine own_go (g' := (mkF m 141 #[.val (.long q1), .second, .val (.long q2), .second, .val (.long q3), .second, .val (.long r), .second, .val (.int b8), .val (.int b9), .val (.int b10), .val (.int 1), .unset] [(.long q2), (.long r)])) (fun _ k => XT.lloadN X5.here hx rfl (hb hby at_140) rfl k) ?_
          refine own_go (g' := (mkF m 142 #[.val (.long q1), .second, .val (.long q2), .second, .val (.long q3), .second, .val (.long r), .second, .val (.int b8), .val (.int b9), .val (.int b10), .val (.int 1), .unset] [(.int (XT.cmpL r q2))])) (fun _ k => XT.lcmp X5.here hx rfl (hb hby at_141) rfl k) ?_
          by_cases c142 : q2 < r
          · refine own_go (g' := (mkF m 162 #[.val (.long q1), .second, .val (.long q2), .second, .val (.long q3), .second, .val (.long r), .second, .val (.int b8), .val (.int b9), .val (.int b10), .val (.int 1), .unset] [])) (fun _ k => XS.ifYes X5.here hx rfl (pc0 := 142) (pc' := 162) rfl (hb hby at_142) rfl (XT.ll_gt_t c142) (by decide) (by decide) k) ?_
            exact absurd c142 (sp3 (Classical.not_not.mp fun z => c135 (hb9.mpr z)))
          · refine own_go (g' := (mkF m 145 #[.val (.long q1), .second, .val (.long q2), .second, .val (.long q3), .second, .val (.long r), .second, .val (.int b8), .val (.int b9), .val (.int b10), .val (.int 1), .unset] [])) (fun _ k => XS.ifNo X5.here hx rfl (hb hby at_142) rfl (XT.ll_gt_f c142) k) ?_
            refine own_go (g' := (mkF m 147 #[.val (.long q1), .second, .val (.long q2), .second, .val (.long q3), .second, .val (.long r), .second, .val (.int b8), .val (.int b9), .val (.int b10), .val (.int 1), .unset] [(.int b10)])) (fun _ k => XS.iload X5.here hx rfl (hb hby at_145) rfl k) ?_
            by_cases c147 : b10 = 0
            · refine own_go (g' := (mkF m 158 #[.val (.long q1), .second, .val (.long q2), .second, .val (.long q3), .second, .val (.long r), .second, .val (.int b8), .val (.int b9), .val (.int b10), .val (.int 1), .unset] [])) (fun _ k => XS.ifYes X5.here hx rfl (pc0 := 147) (pc' := 158) rfl (hb hby at_147) rfl (XT.i0_eq_t c147) (by decide) (by decide) k) ?_
              refine own_go (g' := (mkF m 159 #[.val (.long q1), .second, .val (.long q2), .second, .val (.long q3), .second, .val (.long r), .second, .val (.int b8), .val (.int b9), .val (.int b10), .val (.int 1), .unset] [(.int (1 : Int32))])) (fun _ k => XS.iconst X5.here hx rfl (hb hby at_158) k) ?_
              refine own_go (g' := (mkF m 163 #[.val (.long q1), .second, .val (.long q2), .second, .val (.long q3), .second, .val (.long r), .second, .val (.int b8), .val (.int b9), .val (.int b10), .val (.int 1), .unset] [(.int (1 : Int32))])) (fun _ k => XS.goto X5.here hx rfl (pc0 := 159) (pc' := 163) rfl (hb hby at_159) (by decide) (by decide) k) ?_
              exact J
            · refine own_go (g' := (mkF m 150 #[.val (.long q1), .second, .val (.long q2), .second, .val (.long q3), .second, .val (.long r), .second, .val (.int b8), .val (.int b9), .val (.int b10), .val (.int 1), .unset] [])) (fun _ k => XS.ifNo X5.here hx rfl (hb hby at_147) rfl (XT.i0_eq_f c147) k) ?_
              refine own_go (g' := (mkF m 152 #[.val (.long q1), .second, .val (.long q2), .second, .val (.long q3), .second, .val (.long r), .second, .val (.int b8), .val (.int b9), .val (.int b10), .val (.int 1), .unset] [(.long r)])) (fun _ k => XT.lload X5.here hx rfl (hb hby at_150) rfl k) ?_
              refine own_go (g' := (mkF m 154 #[.val (.long q1), .second, .val (.long q2), .second, .val (.long q3), .second, .val (.long r), .second, .val (.int b8), .val (.int b9), .val (.int b10), .val (.int 1), .unset] [(.long q3), (.long r)])) (fun _ k => XT.lload X5.here hx rfl (hb hby at_152) rfl k) ?_
              refine own_go (g' := (mkF m 155 #[.val (.long q1), .second, .val (.long q2), .second, .val (.long q3), .second, .val (.long r), .second, .val (.int b8), .val (.int b9), .val (.int b10), .val (.int 1), .unset] [(.int (XT.cmpL r q3))])) (fun _ k => XT.lcmp X5.here hx rfl (hb hby at_154) rfl k) ?_
              by_cases c155 : q3 < r
              · refine own_go (g' := (mkF m 162 #[.val (.long q1), .second, .val (.long q2), .second, .val (.long q3), .second, .val (.long r), .second, .val (.int b8), .val (.int b9), .val (.int b10), .val (.int 1), .unset] [])) (fun _ k => XS.ifYes X5.here hx rfl (pc0 := 155) (pc' := 162) rfl (hb hby at_155) rfl (XT.ll_gt_t c155) (by decide) (by decide) k) ?_
                exact absurd c155 (sp4 (Classical.not_not.mp fun z => c147 (hb10.mpr z)))
              · refine own_go (g' := (mkF m 158 #[.val (.long q1), .second, .val (.long q2), .second, .val (.long q3), .second, .val (.long r), .second, .val (.int b8), .val (.int b9), .val (.int b10), .val (.int 1), .unset] [])) (fun _ k => XS.ifNo X5.here hx rfl (hb hby at_155) rfl (XT.ll_gt_f c155) k) ?_
                refine own_go (g' := (mkF m 159 #[.val (.long q1), .second, .val (.long q2), .second, .val (.long q3), .second, .val (.long r), .second, .val (.int b8), .val (.int b9), .val (.int b10), .val (.int 1), .unset] [(.int (1 : Int32))])) (fun _ k => XS.iconst X5.here hx rfl (hb hby at_158) k) ?_
                refine own_go (g' := (mkF m 163 #[.val (.long q1), .second, .val (.long q2), .second, .val (.long q3), .second, .val (.long r), .second, .val (.int b8), .val (.int b9), .val (.int b10), .val (.int 1), .unset] [(.int (1 : Int32))])) (fun _ k => XS.goto X5.here hx rfl (pc0 := 159) (pc' := 163) rfl (hb hby at_159) (by decide) (by decide) k) ?_
                exact J
  refine own_go (g' := (mkF m 165 #[.val (.long q1), .second, .val (.long q2), .second, .val (.long q3), .second, .val (.long r), .second, .val (.int b8), .val (.int b9), .val (.int b10), .val (.int 1), .val (.int 1)] [])) (fun _ k => XS.istore X5.here hx rfl (hb hby at_163) rfl (l' := #[.val (.long q1), .second, .val (.long q2), .second, .val (.long q3), .second, .val (.long r), .second, .val (.int b8), .val (.int b9), .val (.int b10), .val (.int 1), .val (.int 1)]) rfl k) ?_
  refine own_go (g' := (mkF m 167 #[.val (.long q1), .second, .val (.long q2), .second, .val (.long q3), .second, .val (.long r), .second, .val (.int b8), .val (.int b9), .val (.int b10), .val (.int 1), .val (.int 1)] [(.int 1)])) (fun _ k => XS.iload X5.here hx rfl (hb hby at_165) rfl k) ?_
  refine own_go (g' := (mkF m 170 #[.val (.long q1), .second, .val (.long q2), .second, .val (.long q3), .second, .val (.long r), .second, .val (.int b8), .val (.int b9), .val (.int b10), .val (.int 1), .val (.int 1)] [])) (fun _ k => XS.ifNo X5.here hx rfl (hb hby at_167) rfl (XT.i0_eq_f (by decide)) k) ?_
  refine own_go (g' := (mkF m 172 #[.val (.long q1), .second, .val (.long q2), .second, .val (.long q3), .second, .val (.long r), .second, .val (.int b8), .val (.int b9), .val (.int b10), .val (.int 1), .val (.int 1)] [(.int 1)])) (fun _ k => XS.iload X5.here hx rfl (hb hby at_170) rfl k) ?_
  refine own_go (g' := (mkF m 175 #[.val (.long q1), .second, .val (.long q2), .second, .val (.long q3), .second, .val (.long r), .second, .val (.int b8), .val (.int b9), .val (.int b10), .val (.int 1), .val (.int 1)] [])) (fun _ k => XS.ifNo X5.here hx rfl (hb hby at_172) rfl (XT.i0_eq_f (by decide)) k) ?_
  refine own_go (g' := (mkF m 176 #[.val (.long q1), .second, .val (.long q2), .second, .val (.long q3), .second, .val (.long r), .second, .val (.int b8), .val (.int b9), .val (.int b10), .val (.int 1), .val (.int 1)] [(.int (1 : Int32))])) (fun _ k => XS.iconst X5.here hx rfl (hb hby at_175) k) ?_
  refine own_go (g' := (mkF m 180 #[.val (.long q1), .second, .val (.long q2), .second, .val (.long q3), .second, .val (.long r), .second, .val (.int b8), .val (.int b9), .val (.int b10), .val (.int 1), .val (.int 1)] [(.int (1 : Int32))])) (fun _ k => XS.goto X5.here hx rfl (pc0 := 176) (pc' := 180) rfl (hb hby at_176) (by decide) (by decide) k) ?_
  exact own_retZ X5 hx hlk hret rfl (hb hby at_180) ⟨rfl, N1⟩ (by decide) (by decide)
set_option maxRecDepth 65536 in
set_option maxHeartbeats 40000000 in
theorem comes_1 {Post : Tables → Env → Array Value → State → Outcome → State → Prop} (hpost : ∀ tb e args s v u, (limb_1_1.after args s (.returned v) u = true ∧ limb_1_2.after args s (.returned v) u = true ∧ True) → FrameEnd s (.returned v) u (Jvm.fieldLocs frame_1_writes args s ++ Jvm.arrayLocs frame_1_arrays args s ++ Jvm.staticLocs frame_1_statics s) 16 128 → Post tb e args s (.returned v) u) :
    ArmFor flags0 classFile x code maxLocals ret World_1 tables_1 room_1 Calls_1 rest_1 Pre_1 Post := by
  intro l hfl _ _ p e ha hc hk s m args below hf hA hF happ hP
  obtain ⟨hcalls, hrest, hpre⟩ := hP
  obtain ⟨-, -, -, hnamed, -, -, -, hat⟩ := (Spec.applies_iff hf).mp happ
  obtain ⟨hg, hn⟩ := and_e (Cond.before_iff.mp (show (Jvm.Cond.and given_1 narrow_1).before args s = true from hpre))
  obtain ⟨h1, g0⟩ := and_e hg
  obtain ⟨k0, g1⟩ := and_e g0
  obtain ⟨k1, g2⟩ := and_e g1
  have k2 := g2
  obtain ⟨w0, w1, w2, rfl⟩ : ∃ w0 w1 w2 : Value, args = #[w0, w1, w2] := by
    have hs : args.size = 3 := by simpa [Cond.value, given_1] using h1
    obtain ⟨L⟩ := args
    match L, hs with
    | [w0, w1, w2], _ => exact ⟨w0, w1, w2, rfl⟩
  have hw := fun d (hd : d ∈ tables_1) => atoms_spec (ws := Jvm.Cond.code x code maxLocals ret :: tables_1) hat d (List.mem_cons_of_mem _ hd)
  obtain ⟨i0, e0⟩ := isL_v k0
  obtain rfl : w0 = (.long i0) := Option.some.inj e0
  obtain ⟨i1, e1⟩ := isL_v k1
  obtain rfl : w1 = (.long i1) := Option.some.inj e1
  obtain ⟨i2, e2⟩ := isL_v k2
  obtain rfl : w2 = (.long i2) := Option.some.inj e2
  obtain ⟨n, o, h1, h2, h3, _, L, rfl, ⟨rfl, N⟩, hq⟩ := own_rm0 l s _ hw tables_1 i0 i1 i2 s.heap s.heap.size (Nat.le_refl _)  p e ha hc hk s m _ below hf ((Spec.applies_iff_loose hf).mp happ).1 ⟨rfl, State.Warmed39.refl s, rfl⟩ trivial
  refine ⟨n, _, h1, h2, h3, hpost _ _ _ _ _ _ ⟨Cond.after_iff.mpr rfl, Cond.after_iff.mpr (eq_i res_at (Term.int_eval (1)) rfl), trivial⟩ ⟨hq.1, hq.2.1, (hq.2.2.sift fun y hy => Or.inr (N y hy)).mono (by decide) (by decide)⟩⟩
theorem main_1_1 : Claimed_1_1 := comes_1 fun _ _ _ _ _ _ h hF => ⟨h.1, hF⟩
theorem main_1_2 : Claimed_1_2 := comes_1 fun _ _ _ _ _ _ h hF => ⟨h.2.1, hF⟩
end Jvm.Pilot.@@N@@
namespace Jvm.Pilot.@@N@@
open Jvm Jvm.ClassFile Sem Op Lib Jvm.Free Jvm.Stand Jvm.Pilot.@@N@@.Jvm.D
/-! MADE BY PROGRAM (witnessworld.py) out of the Statement's table words and the real class files: 12 classes; the members and pool entries that the words name. The judged class is class 1, her method 1. -/
namespace start1
open Jvm.ClassFile
def u (s : String) : CpInfo := .utf8 (stringToUtf16 s)
/-- a pool by its gaps: so many unusable entries, then the entry; so many at the end -/
def gap : Nat → List CpInfo → List CpInfo
  | 0, r => r
  | n + 1, r => .unusable :: gap n r
def poolList (es : List (Nat × CpInfo)) (last : Nat) : List CpInfo := es.foldr (fun e r => gap e.1 (e.2 :: r)) (gap last [])
def pool (es : List (Nat × CpInfo)) (last : Nat) : Array CpInfo := ⟨poolList es last⟩
def fileOf (pool : Array CpInfo) (this : Nat) (attrs : Array Attribute := #[]) (ms : Array MethodInfo := #[]) (fl : Nat := 33) (sup : Nat := 0) (ifs : Array Nat := #[]) (fds : Array FieldInfo := #[]) : ClassFile where
  minorVersion := 0
  majorVersion := 65
  constantPool := pool
  accessFlags := fl
  thisClass := this
  superClass := sup
  interfaces := ifs
  fields := fds
  methods := ms
  attributes := attrs
def plain (name : String) (sup : Option ClassId) : Class where
  name := name
  kind := .ordinary
  loader := none
  accessFlags := 33
  super := sup
  interfaces := #[]
  cf := none
  fields := #[]
  methods := #[]
  instanceTypes := #[]
  staticTypes := #[]
  resolved := #[]
  callSites := []
  init := .initialized
  statics := none
  mirror := none

def pool0 : Array CpInfo := pool [(5, u "<init>"), (0, u "()V"), (1, .class_ 10), (1, u "java/lang/Object")] 113

def k0m0 : Method := { name := "<init>", desc := "()V", sig := { parameters := [], returnType := none }, accessFlags := 1, code := none }
/-- java/lang/Object -/
def k0 : Class := { plain "java/lang/Object" none with
  accessFlags := 33
  interfaces := #[]
  cf := some (fileOf pool0 8 #[] #[{ accessFlags := 1, nameIndex := 5, descriptorIndex := 6, attributes := #[] }] 33 0 #[] #[])
  fields := #[]
  methods := #[k0m0]
  instanceTypes := #[]
  staticTypes := #[]
  resolved := Array.replicate 124 none
  statics := none }

def pool1 : Array CpInfo := pool [(2, .class_ 4), (1, u "java/lang/Object"), (0, u "<init>"), (0, u "()V"), (0, .methodref 8 9), (0, .class_ 10), (0, .nameAndType 11 12), (0, u "com/example/gangplank/gangplank/slices/Slices"), (0, u "shortestSlice"), (0, u "(JJJ)J"), (0, .class_ 14), (0, u "com/example/gangplank/gangplank/slices/SlicesShortestSlicePinLaw"), (2, u "law"), (0, u "(JJJ)Z")] 3

def k1m0 : Method := { name := "<init>", desc := "()V", sig := { parameters := [], returnType := none }, accessFlags := 2, code := none }
def k1c1 : Code := { maxStack := 6, maxLocals := 13, code := code, exceptionTable := #[], attributes := #[] }
def k1m1 : Method := { name := "law", desc := "(JJJ)Z", sig := { parameters := [.long, .long, .long], returnType := some .boolean }, accessFlags := 9, code := some k1c1 }
/-- com/example/gangplank/gangplank/slices/SlicesShortestSlicePinLaw -/
def k1 : Class := { plain "com/example/gangplank/gangplank/slices/SlicesShortestSlicePinLaw" (some 0) with
  accessFlags := 49
  interfaces := #[]
  cf := some (fileOf pool1 13 #[] #[{ accessFlags := 2, nameIndex := 5, descriptorIndex := 6, attributes := #[] }, { accessFlags := 9, nameIndex := 17, descriptorIndex := 18, attributes := #[] }] 49 2 #[] #[])
  fields := #[]
  methods := #[k1m0, k1m1]
  instanceTypes := #[]
  staticTypes := #[]
  resolved := Array.replicate 22 none
  statics := none }

def pool2 : Array CpInfo := pool [(8, .class_ 10), (1, u "com/example/gangplank/gangplank/engine/TimeSharingPolicy"), (8, .class_ 20), (0, u "java/lang/Object")] 11

/-- com/example/gangplank/gangplank/engine/TimeSharingPolicy -/
def k2 : Class := { plain "com/example/gangplank/gangplank/engine/TimeSharingPolicy" (some 0) with
  accessFlags := 1537
  interfaces := #[]
  cf := some (fileOf pool2 8 #[] #[] 1537 19 #[] #[])
  fields := #[]
  methods := #[]
  instanceTypes := #[]
  staticTypes := #[]
  resolved := Array.replicate 32 none
  statics := none }

def pool3 : Array CpInfo := pool [(4, .class_ 6), (1, u "java/lang/Object"), (6, .class_ 15), (1, u "com/example/gangplank/gangplank/slices/Slices"), (0, u "owed"), (0, u "Lcom/example/gangplank/gangplank/slices/Owed;"), (5, u "submitted"), (0, u "Ljava/util/List;"), (2, u "TYPES"), (0, u "[Lcom/example/gangplank/gangplank/workload/JobClass;"), (2, u "workedAt"), (0, u "[J"), (2, u "eventsAt"), (3, u "owedAt"), (0, u "[[J"), (2, u "charged"), (1, .class_ 47), (1, u "com/example/gangplank/gangplank/slices/Slices$Builder"), (1, u "J"), (29, u "(JJJ)J"), (6, u "Z"), (2, u "nodeMemory"), (2, u "swapSeconds"), (6, u "selection"), (0, u "Lcom/example/gangplank/gangplank/slices/NodeSelection;"), (24, u "lengths"), (2, u "types"), (0, u "Ljava/util/function/Function;"), (3, u "within"), (0, u "Ljava/util/function/Supplier;"), (3, u "backfilling"), (4, u "firstStageFit"), (0, u "Lcom/example/gangplank/gangplank/slices/MemoryFit;"), (3, u "secondStageFit"), (11, u "Lcom/example/gangplank/gangplank/slices/SliceShares;"), (0, .class_ 162), (0, u "com/example/gangplank/gangplank/slices/Slices$1"), (8, u "intervals"), (0, u "Lcom/example/gangplank/gangplank/slices/Intervals;"), (2, u "shortestSlice"), (48, u "memory"), (12, u "Lcom/example/gangplank/gangplank/slices/MemoryCharges;"), (27, u "repeats"), (17, u "backfill"), (0, u "Lcom/example/gangplank/gangplank/slices/Backfill;"), (14, u "changes"), (14, u "lanes"), (0, u "[Lcom/example/gangplank/gangplank/slices/Lane;"), (29, u "endedNow"), (0, u "I"), (39, u "arrived"), (62, u "schedule"), (0, u "Lcom/example/gangplank/gangplank/engine/Schedule;"), (119, u "nodes"), (0, u "Lcom/example/gangplank/gangplank/slices/Nodes;"), (10, .class_ 583), (0, u "com/example/gangplank/gangplank/slices/Slices$TypePlacement"), (37, u "byMemory"), (0, u "Lcom/example/gangplank/gangplank/slices/MemoryPlacement;"), (56, u "DEFAULT_NODES"), (7, u "DEFAULT_FIRST_STAGE_FIT"), (5, u "DEFAULT_SECOND_STAGE_FIT"), (7, u "DEFAULT_SHARES"), (4, .class_ 707), (0, u "com/example/gangplank/gangplank/engine/TimeSharingPolicy"), (0, u "DEFAULT_SHORT_SLICE"), (3, u "DEFAULT_MEDIUM_SLICE"), (2, u "DEFAULT_LONG_SLICE"), (2, u "DEFAULT_SWITCH_COST"), (2, u "MIN_SLICE"), (2, u "MIN_SWITCH_COST"), (0, u "DEFAULT_BACKFILLING"), (1, u "DEFAULT_RUN_ON_FREE"), (1, u "MIN_NODE_MEMORY"), (2, u "MAX_NODE_MEMORY"), (0, u "MIN_SWAP_SECONDS"), (0, u "MAX_SWAP_SECONDS"), (0, u "DEFAULT_SWAP_SECONDS")] 105

def k3c0 : Code := { maxStack := 5, maxLocals := 13, code := prog_196_method_5_code, exceptionTable := #[], attributes := #[] }
def k3m0 : Method := { name := "shortestSlice", desc := "(JJJ)J", sig := { parameters := [.long, .long, .long], returnType := some .long }, accessFlags := 9, code := some k3c0 }
/-- com/example/gangplank/gangplank/slices/Slices -/
def k3 : Class := { plain "com/example/gangplank/gangplank/slices/Slices" (some 0) with
  accessFlags := 49
  interfaces := #[2]
  cf := some (fileOf pool3 13 #[.nestMembers #[45, 582, 161]] #[{ accessFlags := 9, nameIndex := 175, descriptorIndex := 79, attributes := #[] }] 49 4 #[706] #[{ accessFlags := 25, nameIndex := 708, descriptorIndex := 49, attributes := #[] }, { accessFlags := 25, nameIndex := 712, descriptorIndex := 49, attributes := #[] }, { accessFlags := 25, nameIndex := 715, descriptorIndex := 49, attributes := #[] }, { accessFlags := 25, nameIndex := 718, descriptorIndex := 49, attributes := #[] }, { accessFlags := 25, nameIndex := 721, descriptorIndex := 49, attributes := #[] }, { accessFlags := 25, nameIndex := 724, descriptorIndex := 49, attributes := #[] }, { accessFlags := 25, nameIndex := 725, descriptorIndex := 86, attributes := #[] }, { accessFlags := 25, nameIndex := 679, descriptorIndex := 100, attributes := #[] }, { accessFlags := 25, nameIndex := 687, descriptorIndex := 144, attributes := #[] }, { accessFlags := 25, nameIndex := 693, descriptorIndex := 144, attributes := #[] }, { accessFlags := 25, nameIndex := 701, descriptorIndex := 160, attributes := #[] }, { accessFlags := 25, nameIndex := 727, descriptorIndex := 86, attributes := #[] }, { accessFlags := 25, nameIndex := 729, descriptorIndex := 49, attributes := #[] }, { accessFlags := 25, nameIndex := 732, descriptorIndex := 49, attributes := #[] }, { accessFlags := 25, nameIndex := 733, descriptorIndex := 49, attributes := #[] }, { accessFlags := 25, nameIndex := 734, descriptorIndex := 49, attributes := #[] }, { accessFlags := 25, nameIndex := 735, descriptorIndex := 49, attributes := #[] }, { accessFlags := 26, nameIndex := 27, descriptorIndex := 28, attributes := #[] }, { accessFlags := 18, nameIndex := 128, descriptorIndex := 129, attributes := #[] }, { accessFlags := 18, nameIndex := 125, descriptorIndex := 32, attributes := #[] }, { accessFlags := 18, nameIndex := 133, descriptorIndex := 134, attributes := #[] }, { accessFlags := 18, nameIndex := 138, descriptorIndex := 86, attributes := #[] }, { accessFlags := 18, nameIndex := 99, descriptorIndex := 100, attributes := #[] }, { accessFlags := 18, nameIndex := 143, descriptorIndex := 144, attributes := #[] }, { accessFlags := 18, nameIndex := 148, descriptorIndex := 144, attributes := #[] }, { accessFlags := 18, nameIndex := 89, descriptorIndex := 49, attributes := #[] }, { accessFlags := 18, nameIndex := 92, descriptorIndex := 49, attributes := #[] }, { accessFlags := 18, nameIndex := 171, descriptorIndex := 172, attributes := #[] }, { accessFlags := 18, nameIndex := 16, descriptorIndex := 17, attributes := #[] }, { accessFlags := 18, nameIndex := 23, descriptorIndex := 24, attributes := #[] }, { accessFlags := 2, nameIndex := 345, descriptorIndex := 346, attributes := #[] }, { accessFlags := 2, nameIndex := 314, descriptorIndex := 315, attributes := #[] }, { accessFlags := 2, nameIndex := 570, descriptorIndex := 571, attributes := #[] }, { accessFlags := 2, nameIndex := 449, descriptorIndex := 450, attributes := #[] }, { accessFlags := 2, nameIndex := 283, descriptorIndex := 284, attributes := #[] }, { accessFlags := 2, nameIndex := 224, descriptorIndex := 237, attributes := #[] }, { accessFlags := 2, nameIndex := 621, descriptorIndex := 622, attributes := #[] }, { accessFlags := 2, nameIndex := 386, descriptorIndex := 49, attributes := #[] }, { accessFlags := 18, nameIndex := 31, descriptorIndex := 32, attributes := #[] }, { accessFlags := 18, nameIndex := 35, descriptorIndex := 32, attributes := #[] }, { accessFlags := 18, nameIndex := 39, descriptorIndex := 40, attributes := #[] }, { accessFlags := 2, nameIndex := 265, descriptorIndex := 49, attributes := #[] }, { accessFlags := 2, nameIndex := 299, descriptorIndex := 49, attributes := #[] }, { accessFlags := 18, nameIndex := 43, descriptorIndex := 24, attributes := #[] }])
  fields := #[{ name := "DEFAULT_SHORT_SLICE", type := .long, accessFlags := 25, slot := 0, constantValue := 0 }, { name := "DEFAULT_MEDIUM_SLICE", type := .long, accessFlags := 25, slot := 1, constantValue := 0 }, { name := "DEFAULT_LONG_SLICE", type := .long, accessFlags := 25, slot := 2, constantValue := 0 }, { name := "DEFAULT_SWITCH_COST", type := .long, accessFlags := 25, slot := 3, constantValue := 0 }, { name := "MIN_SLICE", type := .long, accessFlags := 25, slot := 4, constantValue := 0 }, { name := "MIN_SWITCH_COST", type := .long, accessFlags := 25, slot := 5, constantValue := 0 }, { name := "DEFAULT_BACKFILLING", type := .boolean, accessFlags := 25, slot := 6, constantValue := 0 }, { name := "DEFAULT_NODES", type := (.object "com/example/gangplank/gangplank/slices/NodeSelection"), accessFlags := 25, slot := 7, constantValue := 0 }, { name := "DEFAULT_FIRST_STAGE_FIT", type := (.object "com/example/gangplank/gangplank/slices/MemoryFit"), accessFlags := 25, slot := 8, constantValue := 0 }, { name := "DEFAULT_SECOND_STAGE_FIT", type := (.object "com/example/gangplank/gangplank/slices/MemoryFit"), accessFlags := 25, slot := 9, constantValue := 0 }, { name := "DEFAULT_SHARES", type := (.object "com/example/gangplank/gangplank/slices/SliceShares"), accessFlags := 25, slot := 10, constantValue := 0 }, { name := "DEFAULT_RUN_ON_FREE", type := .boolean, accessFlags := 25, slot := 11, constantValue := 0 }, { name := "MIN_NODE_MEMORY", type := .long, accessFlags := 25, slot := 12, constantValue := 0 }, { name := "MAX_NODE_MEMORY", type := .long, accessFlags := 25, slot := 13, constantValue := 0 }, { name := "MIN_SWAP_SECONDS", type := .long, accessFlags := 25, slot := 14, constantValue := 0 }, { name := "MAX_SWAP_SECONDS", type := .long, accessFlags := 25, slot := 15, constantValue := 0 }, { name := "DEFAULT_SWAP_SECONDS", type := .long, accessFlags := 25, slot := 16, constantValue := 0 }, { name := "TYPES", type := (.array (.object "com/example/gangplank/gangplank/workload/JobClass")), accessFlags := 26, slot := 17, constantValue := 0 }, { name := "types", type := (.object "java/util/function/Function"), accessFlags := 18, slot := 0, constantValue := 0 }, { name := "lengths", type := (.array .long), accessFlags := 18, slot := 1, constantValue := 0 }, { name := "within", type := (.object "java/util/function/Supplier"), accessFlags := 18, slot := 2, constantValue := 0 }, { name := "backfilling", type := .boolean, accessFlags := 18, slot := 3, constantValue := 0 }, { name := "selection", type := (.object "com/example/gangplank/gangplank/slices/NodeSelection"), accessFlags := 18, slot := 4, constantValue := 0 }, { name := "firstStageFit", type := (.object "com/example/gangplank/gangplank/slices/MemoryFit"), accessFlags := 18, slot := 5, constantValue := 0 }, { name := "secondStageFit", type := (.object "com/example/gangplank/gangplank/slices/MemoryFit"), accessFlags := 18, slot := 6, constantValue := 0 }, { name := "nodeMemory", type := .long, accessFlags := 18, slot := 7, constantValue := 0 }, { name := "swapSeconds", type := .long, accessFlags := 18, slot := 8, constantValue := 0 }, { name := "intervals", type := (.object "com/example/gangplank/gangplank/slices/Intervals"), accessFlags := 18, slot := 9, constantValue := 0 }, { name := "owed", type := (.object "com/example/gangplank/gangplank/slices/Owed"), accessFlags := 18, slot := 10, constantValue := 0 }, { name := "submitted", type := (.object "java/util/List"), accessFlags := 18, slot := 11, constantValue := 0 }, { name := "endedNow", type := .int, accessFlags := 2, slot := 12, constantValue := 0 }, { name := "lanes", type := (.array (.object "com/example/gangplank/gangplank/slices/Lane")), accessFlags := 2, slot := 13, constantValue := 0 }, { name := "nodes", type := (.object "com/example/gangplank/gangplank/slices/Nodes"), accessFlags := 2, slot := 14, constantValue := 0 }, { name := "schedule", type := (.object "com/example/gangplank/gangplank/engine/Schedule"), accessFlags := 2, slot := 15, constantValue := 0 }, { name := "backfill", type := (.object "com/example/gangplank/gangplank/slices/Backfill"), accessFlags := 2, slot := 16, constantValue := 0 }, { name := "memory", type := (.object "com/example/gangplank/gangplank/slices/MemoryCharges"), accessFlags := 2, slot := 17, constantValue := 0 }, { name := "byMemory", type := (.object "com/example/gangplank/gangplank/slices/MemoryPlacement"), accessFlags := 2, slot := 18, constantValue := 0 }, { name := "arrived", type := .long, accessFlags := 2, slot := 19, constantValue := 0 }, { name := "workedAt", type := (.array .long), accessFlags := 18, slot := 20, constantValue := 0 }, { name := "eventsAt", type := (.array .long), accessFlags := 18, slot := 21, constantValue := 0 }, { name := "owedAt", type := (.array (.array .long)), accessFlags := 18, slot := 22, constantValue := 0 }, { name := "repeats", type := .long, accessFlags := 2, slot := 23, constantValue := 0 }, { name := "changes", type := .long, accessFlags := 2, slot := 24, constantValue := 0 }, { name := "charged", type := (.object "java/util/List"), accessFlags := 18, slot := 25, constantValue := 0 }]
  methods := #[k3m0]
  instanceTypes := #[(.object "java/util/function/Function"), (.array .long), (.object "java/util/function/Supplier"), .boolean, (.object "com/example/gangplank/gangplank/slices/NodeSelection"), (.object "com/example/gangplank/gangplank/slices/MemoryFit"), (.object "com/example/gangplank/gangplank/slices/MemoryFit"), .long, .long, (.object "com/example/gangplank/gangplank/slices/Intervals"), (.object "com/example/gangplank/gangplank/slices/Owed"), (.object "java/util/List"), .int, (.array (.object "com/example/gangplank/gangplank/slices/Lane")), (.object "com/example/gangplank/gangplank/slices/Nodes"), (.object "com/example/gangplank/gangplank/engine/Schedule"), (.object "com/example/gangplank/gangplank/slices/Backfill"), (.object "com/example/gangplank/gangplank/slices/MemoryCharges"), (.object "com/example/gangplank/gangplank/slices/MemoryPlacement"), .long, (.array .long), (.array .long), (.array (.array .long)), .long, .long, (.object "java/util/List")]
  staticTypes := #[.long, .long, .long, .long, .long, .long, .boolean, (.object "com/example/gangplank/gangplank/slices/NodeSelection"), (.object "com/example/gangplank/gangplank/slices/MemoryFit"), (.object "com/example/gangplank/gangplank/slices/MemoryFit"), (.object "com/example/gangplank/gangplank/slices/SliceShares"), .boolean, .long, .long, .long, .long, .long, (.array (.object "com/example/gangplank/gangplank/workload/JobClass"))]
  resolved := Array.replicate 841 none
  statics := none }

def pool4 : Array CpInfo := pool [(1, u "java/lang/Cloneable"), (0, .class_ 1), (0, u "java/lang/Object"), (0, .class_ 3)] 3

/-- java/lang/Cloneable -/
def k4 : Class := { plain "java/lang/Cloneable" (some 0) with
  accessFlags := 1537
  interfaces := #[]
  cf := some (fileOf pool4 2 #[] #[] 1537 4 #[] #[])
  fields := #[]
  methods := #[]
  instanceTypes := #[]
  staticTypes := #[]
  resolved := Array.replicate 8 none
  statics := none }

def pool5 : Array CpInfo := pool [(1, u "java/io/Serializable"), (0, .class_ 1), (0, u "java/lang/Object"), (0, .class_ 3)] 3

/-- java/io/Serializable -/
def k5 : Class := { plain "java/io/Serializable" (some 0) with
  accessFlags := 1537
  interfaces := #[]
  cf := some (fileOf pool5 2 #[] #[] 1537 4 #[] #[])
  fields := #[]
  methods := #[]
  instanceTypes := #[]
  staticTypes := #[]
  resolved := Array.replicate 8 none
  statics := none }

/-- the primitive byte -/
def k6 : Class := { plain "byte" none with kind := .primitive 'B', accessFlags := 0x411 }
/-- [B -/
def k7 : Class := { plain "[B" (some 0) with kind := .array 6 .byte, interfaces := #[4, 5], accessFlags := 1041 }

/-- the primitive int -/
def k8 : Class := { plain "int" none with kind := .primitive 'I', accessFlags := 0x411 }
/-- [I -/
def k9 : Class := { plain "[I" (some 0) with kind := .array 8 .int, interfaces := #[4, 5], accessFlags := 1041 }

/-- the primitive long -/
def k10 : Class := { plain "long" none with kind := .primitive 'J', accessFlags := 0x411 }
/-- [J -/
def k11 : Class := { plain "[J" (some 0) with kind := .array 10 .long, interfaces := #[4, 5], accessFlags := 1041 }

def heap : Heap := #[]
def classes : Array Class := #[k0, k1, k2, k3, k4, k5, k6, k7, k8, k9, k10, k11]
def interned : List (Array UInt16 × Addr) := []
def slotsUsed : Nat := 0
def theMethod : MethodId := ⟨1, 1⟩
def args0 : Array Value := #[.long 5, .long 7, .long (-3)]
def aboutOver (below : List Frame) : State where
  vm := { classes := classes, interned := interned.toArray }
  heap := heap
  slotsUsed := slotsUsed
  threads := #[{ frames := .invoking theMethod args0 :: below }]
def below0 : List Frame := [.native { method := ⟨0, 0⟩, args := #[] }]
def about1 : State := aboutOver below0
def p0 : Program := .bare "" "" ""
def e0 : Env := launch0.env 0 0 0
theorem w_frames : about1.frames = Frame.invoking theMethod args0 :: below0 := rfl
set_option maxRecDepth 65536 in
theorem w_args : argsFit about1.vm theMethod args0 = true := by decide +kernel
set_option maxRecDepth 65536 in
theorem w_heap : heapFits about1 = true := by decide +kernel
set_option maxRecDepth 65536 in
theorem w_runnable : about1.curStatus? = some .runnable := by decide +kernel
set_option maxRecDepth 65536 in
theorem w_alone : about1.alone = true := by decide +kernel
set_option maxRecDepth 65536 in
theorem w_named : about1.methodNamed? x = some theMethod := by decide +kernel
set_option maxRecDepth 65536 in
theorem w_hears : about1.hears theMethod below0 = true := by decide +kernel
set_option maxRecDepth 65536 in
theorem w_ripe : about1.ripe theMethod args0 below0 = true := by decide +kernel
theorem w_running : about1.status = .running := rfl
set_option maxRecDepth 65536 in
theorem w_room : about1.hasRoom e0.platform room_1 = true :=
  launch0.hasRoom_least _ room_1 (by decide +kernel) (by decide +kernel) (by decide +kernel) (by decide +kernel) (by decide +kernel) (by decide +kernel)
theorem allAtoms_all (ts : List Jvm.Cond) (a : Array Jvm.Value) (st : Jvm.State) : (allAtoms ts).before a st = ts.all (fun c => c.before a st) := by
  induction ts with
  | nil => rfl
  | cons c t ih =>
    show (Jvm.Cond.and c (allAtoms t)).before a st = _
    rw [Jvm.Cond.before_and, ih, List.all_cons]
def words1 : List Jvm.Cond := Jvm.Cond.code x code maxLocals ret :: tables_1
/-- a 'code' word, met by the world's own term for the bytes: nothing is compared byte by byte -/
theorem code_word {y : MethodName} {bytes : ByteArray} {mx : Nat} {rt : Option FieldType} {a : Array Value} {s : State} {m : MethodId} {meth : Method} {c : Code} (h1 : s.methodNamed? y = some m) (h2 : s.vm.method? m = some meth) (h3 : meth.code = some c) (h4 : c.code = bytes)
    (h5 : (c.maxLocals == mx && c.exceptionTable.isEmpty && decide (c.maxStack ≤ mostOperands) && decide (meth.sig.returnType = rt) && !meth.locks && decide (parseMethodDescriptor y.desc = some meth.sig)) = true) : (Jvm.Cond.code y bytes mx rt).before a s = true := by
  simp only [Bool.and_eq_true, beq_iff_eq, Bool.not_eq_true', decide_eq_true_eq] at h5
  obtain ⟨⟨⟨⟨⟨g1, g2⟩, g3⟩, g4⟩, g5⟩, g6⟩ := h5
  simp [Cond.before, Cond.holds, Cond.value, h1, h2, h3, h4, g1, g2, g3, g4, g5, g6]
def isCode : Jvm.Cond → Bool
  | .code _ _ _ _ => true
  | _ => false
theorem all_split {L : List Jvm.Cond} {P : Jvm.Cond → Bool} (h1 : L.all (fun c => isCode c || P c) = true) (h2 : ∀ c ∈ L.filter isCode, P c = true) : L.all P = true := by
  refine List.all_eq_true.mpr fun c hc => ?_
  have h := List.all_eq_true.mp h1 c hc
  rcases Bool.eq_false_or_eq_true (isCode c) with hi | hi
  · exact h2 c (List.mem_filter.mpr ⟨hc, hi⟩)
  · simpa [hi] using h
set_option maxRecDepth 65536 in
theorem w_c0 : (Jvm.Cond.code x code maxLocals ret).before args0 about1 = true := code_word (m := ⟨1, 1⟩) (meth := k1m1) (c := k1c1) (by decide +kernel) rfl rfl rfl (by decide +kernel)
set_option maxRecDepth 65536 in
theorem w_c1 : (Jvm.Cond.code ({ cls := "com/example/gangplank/gangplank/slices/Slices", name := "shortestSlice", desc := "(JJJ)J" } : Jvm.MethodName) prog_196_method_5_code (13 : Nat) (Option.some Jvm.ClassFile.FieldType.long)).before args0 about1 = true := code_word (m := ⟨3, 0⟩) (meth := k3m0) (c := k3c0) (by decide +kernel) rfl rfl rfl (by decide +kernel)
def codes1 : List Jvm.Cond := [Jvm.Cond.code x code maxLocals ret, Jvm.Cond.code ({ cls := "com/example/gangplank/gangplank/slices/Slices", name := "shortestSlice", desc := "(JJJ)J" } : Jvm.MethodName) prog_196_method_5_code (13 : Nat) (Option.some Jvm.ClassFile.FieldType.long)]
set_option maxRecDepth 65536 in
theorem codes_eq : words1.filter isCode = codes1 := rfl
theorem w_codes : ∀ c ∈ words1.filter isCode, c.before args0 about1 = true := by
  rw [codes_eq]
  intro c hc
  simp only [codes1, List.mem_cons, List.not_mem_nil, or_false] at hc
  rcases hc with rfl | rfl
  · exact w_c0
  · exact w_c1
set_option maxRecDepth 65536 in
theorem w_t1 : words1.all (fun c => isCode c || c.before args0 about1) = true := by decide +kernel
theorem w_tables : (allAtoms (Jvm.Cond.code x code maxLocals ret :: tables_1)).before args0 about1 = true := by
  rw [allAtoms_all]
  show words1.all (fun c => c.before args0 about1) = true
  refine all_split ?_ w_codes
  rw [w_t1]
set_option maxRecDepth 65536 in
theorem w_case : (Jvm.Cond.and given_1 narrow_1).before args0 about1 = true := by decide +kernel
theorem w_applies : (headSpec (Jvm.Cond.code x code maxLocals ret :: tables_1) room_1).applies x e0.platform about1 = true :=
  (Spec.applies_iff w_frames).mpr ⟨w_running, w_runnable, w_alone, w_named, w_hears, w_ripe, w_room, w_tables⟩
theorem atStart : AtStart classFile x code maxLocals ret World_1 tables_1 room_1 Calls_1 rest_1 Pre_1 launch0 p0 e0 about1 theMethod args0 below0 :=
  ⟨lists_1, trivial, launch0.admits_env _ _ _, launch0.least_env, fairChoices_fair.cas, fairChoices_fair.clock, w_frames, w_args, w_heap, w_applies, trivial, trivial, w_case⟩
end start1
theorem witness_1 : WitnessClaimed_1 := ⟨start1.p0, start1.e0, start1.about1, start1.theMethod, start1.args0, start1.below0, start1.atStart⟩
end Jvm.Pilot.@@N@@
