import Derived.Test.Qxb6613555aKit
namespace Go.Proofs.Qxb6613555a.GraphA
open Go.RowKit Go.Proofs.Qxb6613555a.Kit

set_option linter.unusedVariables false

def upd (f : Nat → Int) (j : Nat) (v : Int) : Nat → Int := fun i => if i = j then v else f i
theorem upd_same (f : Nat → Int) (j : Nat) (v : Int) : upd f j v j = v := by simp [upd]
theorem upd_ne (f : Nat → Int) {i j : Nat} (v : Int) (h : i ≠ j) : upd f j v i = f i := by simp [upd, h]

/-- Field o of a row of n structs of s cells each: it holds f. -/
def Fld (w : World) (b s o n : Nat) (f : Nat → Int) : Prop := ∀ i, i < n → w.cell? ⟨b, i * s + o, none⟩ = some (.int .i32 (f i)) ∧ w.frozen? ⟨b, i * s + o, none⟩ = false

section
variable {w w' : World} {b s o n : Nat} {f : Nat → Int}
theorem Fld.same (h : Fld w b s o n f) (hb : w'.heap[b]? = w.heap[b]?) : Fld w' b s o n f := fun i hi =>
  ⟨(World.cell?_of_block hb).trans (h i hi).1, (World.frozen?_of_block hb).trans (h i hi).2⟩
theorem Fld.set (h : Fld w b s o n f) (hs : 0 < s) {j : Nat} (hj : j < n) (v : Int) : Fld (w.setCell ⟨b, j * s + o, none⟩ (.int .i32 v)) b s o n (upd f j v) := fun i hi => by
  refine ⟨?_, by rw [World.frozen?_setCell]; exact (h i hi).2⟩
  by_cases e : i = j
  · subst e
    rw [World.cell?_setCell_same _ _ _ (h i hi).1, upd_same]
  · rw [World.cell?_setCell_other _ _ _ _ (by
      intro he
      have h1 : j * s + o = i * s + o := congrArg Addr.off he
      exact e (Nat.eq_of_mul_eq_mul_right hs (by omega))), upd_ne _ _ e]
    exact (h i hi).1
theorem Fld.other (h : Fld w b s o n f) {b' x : Nat} (hne : b ≠ b') (v : Value) : Fld (w.setCell ⟨b', x, none⟩ v) b s o n f := fun i hi =>
  ⟨by rw [World.cell?_setCell_other _ _ _ _ (fun he => hne (congrArg Addr.block he).symm)]; exact (h i hi).1, by rw [World.frozen?_setCell]; exact (h i hi).2⟩
theorem Fld.off (h : Fld w b s o n f) {o' j : Nat} (ho : o < s) (ho' : o' < s) (hne : o ≠ o') (v : Value) : Fld (w.setCell ⟨b, j * s + o', none⟩ v) b s o n f := fun i hi =>
  ⟨by
    rw [World.cell?_setCell_other _ _ _ _ (by
      intro he
      have h1 : j * s + o' = i * s + o := congrArg Addr.off he
      have h2 := congrArg (· % s) h1
      simp only [Nat.mul_comm _ s, Nat.mul_add_mod, Nat.mod_eq_of_lt ho, Nat.mod_eq_of_lt ho'] at h2
      exact hne h2.symm)]
    exact (h i hi).1, by rw [World.frozen?_setCell]; exact (h i hi).2⟩
end

theorem made_get (z : Array Value) (n i o : Nat) (v : Value) (hi : i < n) (ho : z[o]? = some v) : (madeCells z (n * z.size))[i * z.size + o]? = some v := by
  have hos : o < z.size := (Array.getElem?_eq_some_iff.1 ho).1
  have hlt : i * z.size + o < n * z.size := by
    have : (i + 1) * z.size ≤ n * z.size := Nat.mul_le_mul_right _ hi
    rw [Nat.add_mul] at this
    omega
  simp only [madeCells]
  rw [Array.getElem?_map, Array.getElem?_eq_getElem (by simpa using hlt)]
  simp only [Array.getElem_range, Option.map_some, Option.some.injEq]
  rw [Nat.mul_comm i, Nat.mul_add_mod, Nat.mod_eq_of_lt hos, getElem!_def, ho]

/-- A block just made bears the zero in each field. -/
theorem fld_made {w : World} {b n o : Nat} {z : Array Value} {t : TypeId} (hb : w.heap[b]? = some (.cells (madeCells z (n * z.size)) t (0, 0))) (ho : z[o]? = some (.int .i32 0)) : Fld w b z.size o n (fun _ => 0) := fun i hi => by
  refine ⟨?_, by simp [World.frozen?, hb]⟩
  simp only [World.cell?, hb]
  have := made_get z n i o _ hi ho
  simpa using this
theorem there_block {w : World} {b n : Nat} {cs : Array Value} {t : TypeId} (hb : w.heap[b]? = some (.cells cs t (0, 0))) {o m : Nat} (h : o + m ≤ cs.size) : w.there b o m := fun j hj => by
  refine ⟨?_, by simp [World.frozen?, hb]⟩
  simp only [World.cell?, hb]
  simp [show o + j < cs.size by omega]

/-- The graph at block g: its three rows, and what the reads go by. -/
structure Gr (w : World) (g gT gA gR nT nA nR : Nat) (F E Lt Pr : Nat → Int) : Prop where
  pT : w.cell? ⟨g, 2, none⟩ = some (.slice (some ⟨gT, 0, none⟩) nT nT)
  pA : w.cell? ⟨g, 4, none⟩ = some (.slice (some ⟨gA, 0, none⟩) nA nA)
  pR : w.cell? ⟨g, 8, none⟩ = some (.slice (some ⟨gR, 0, none⟩) nR nR)
  fT : Fld w gT 12 10 nT F
  eT : Fld w gT 12 11 nT E
  lA : Fld w gA 10 7 nA Lt
  pr : Fld w gR 3 2 nR Pr
  th : ∀ i, i < nR → w.there gR (i * 3) 3
  n1 : g ≠ gT
  n2 : g ≠ gA
  n3 : g ≠ gR
  n4 : gT ≠ gA
  n5 : gT ≠ gR
  n6 : gA ≠ gR
  lg : g < w.heap.size
  lT : gT < w.heap.size
  lAA : gA < w.heap.size
  lR : gR < w.heap.size

theorem there_same {w w' : World} {b o n : Nat} (h : w.there b o n) (hb : w'.heap[b]? = w.heap[b]?) : w'.there b o n := fun j hj => by
  rw [World.cell?_of_block hb, World.frozen?_of_block hb]
  exact h j hj
theorem there_setCell {w : World} {b o n : Nat} (h : w.there b o n) (a : Addr) (v : Value) : (w.setCell a v).there b o n := fun j hj => by
  refine ⟨?_, by rw [World.frozen?_setCell]; exact (h j hj).2⟩
  obtain ⟨u, hu⟩ := Option.isSome_iff_exists.1 (h j hj).1
  by_cases e : a = ⟨b, o + j, none⟩
  · subst e; rw [World.cell?_setCell_same _ _ _ hu]; rfl
  · rw [World.cell?_setCell_other _ _ _ _ e, hu]; rfl

section
variable {w w' : World} {g gT gA gR nT nA nR : Nat} {F E Lt Pr : Nat → Int}
theorem Gr.same (h : Gr w g gT gA gR nT nA nR F E Lt Pr) (hs : w.heap.size ≤ w'.heap.size) (h0 : w'.heap[g]? = w.heap[g]?) (h1 : w'.heap[gT]? = w.heap[gT]?) (h2 : w'.heap[gA]? = w.heap[gA]?) (h3 : w'.heap[gR]? = w.heap[gR]?) : Gr w' g gT gA gR nT nA nR F E Lt Pr :=
  ⟨(World.cell?_of_block h0).trans h.pT, (World.cell?_of_block h0).trans h.pA, (World.cell?_of_block h0).trans h.pR, h.fT.same h1, h.eT.same h1, h.lA.same h2, h.pr.same h3, fun i hi => there_same (h.th i hi) h3, h.n1, h.n2, h.n3, h.n4, h.n5, h.n6, Nat.lt_of_lt_of_le h.lg hs, Nat.lt_of_lt_of_le h.lT hs, Nat.lt_of_lt_of_le h.lAA hs, Nat.lt_of_lt_of_le h.lR hs⟩
theorem Gr.below (h : Gr w g gT gA gR nT nA nR F E Lt Pr) {B : Nat} (hb : Below B w w') (h0 : g < B) (h1 : gT < B) (h2 : gA < B) (h3 : gR < B) : Gr w' g gT gA gR nT nA nR F E Lt Pr :=
  h.same hb.size (hb.block _ h0) (hb.block _ h1) (hb.block _ h2) (hb.block _ h3)
/-- A store elsewhere. -/
theorem Gr.set (h : Gr w g gT gA gR nT nA nR F E Lt Pr) {b x : Nat} (v : Value) (h0 : g ≠ b) (h1 : gT ≠ b) (h2 : gA ≠ b) (h3 : gR ≠ b) : Gr (w.setCell ⟨b, x, none⟩ v) g gT gA gR nT nA nR F E Lt Pr := by
  have hh : ∀ k, k ≠ b → (w.setCell ⟨b, x, none⟩ v).heap[k]? = w.heap[k]? := fun k hk => by
    simp [World.setCell, Array.getElem?_modify, Ne.symm hk]
  exact h.same (by simp [World.setCell]) (hh _ h0) (hh _ h1) (hh _ h2) (hh _ h3)
/-- 'ZZsetTxnAccesses'. -/
theorem Gr.txn (h : Gr w g gT gA gR nT nA nR F E Lt Pr) {i : Nat} (hi : i < nT) (x y : Int) : Gr ((w.setCell ⟨gT, i * 12 + 10, none⟩ (.int .i32 x)).setCell ⟨gT, i * 12 + 11, none⟩ (.int .i32 y)) g gT gA gR nT nA nR (upd F i x) (upd E i y) Lt Pr := by
  have c : ∀ {k p x y : Nat} {v : Value} {u : Value}, k ≠ gT → w.cell? ⟨k, p, none⟩ = some u → ((w.setCell ⟨gT, x, none⟩ v).cell? ⟨k, p, none⟩) = some u := fun hk hu => by
    rw [World.cell?_setCell_other _ _ _ _ (fun he => hk (congrArg Addr.block he).symm)]; exact hu
  refine ⟨?_, ?_, ?_, ((h.fT.set (by omega) hi x).off (by omega) (by omega) (by omega) _), ((h.eT.off (by omega) (by omega) (by omega) _).set (by omega) hi y), (h.lA.other h.n4.symm _).other h.n4.symm _, (h.pr.other h.n5.symm _).other h.n5.symm _, fun j hj => there_setCell (there_setCell (h.th j hj) _ _) _ _, h.n1, h.n2, h.n3, h.n4, h.n5, h.n6, by simpa using h.lg, by simpa using h.lT, by simpa using h.lAA, by simpa using h.lR⟩
  all_goals (rw [World.cell?_setCell_other _ _ _ _ (fun he => h.n1 (congrArg Addr.block he).symm), World.cell?_setCell_other _ _ _ _ (fun he => h.n1 (congrArg Addr.block he).symm)])
  · exact h.pT
  · exact h.pA
  · exact h.pR
/-- 'ZZsetLatestRead'. -/
theorem Gr.lat (h : Gr w g gT gA gR nT nA nR F E Lt Pr) {i : Nat} (hi : i < nA) (x : Int) : Gr (w.setCell ⟨gA, i * 10 + 7, none⟩ (.int .i32 x)) g gT gA gR nT nA nR F E (upd Lt i x) Pr := by
  refine ⟨?_, ?_, ?_, h.fT.other h.n4 _, h.eT.other h.n4 _, h.lA.set (by omega) hi x, h.pr.other h.n6.symm _, fun j hj => there_setCell (h.th j hj) _ _, h.n1, h.n2, h.n3, h.n4, h.n5, h.n6, by simpa using h.lg, by simpa using h.lT, by simpa using h.lAA, by simpa using h.lR⟩
  all_goals (rw [World.cell?_setCell_other _ _ _ _ (fun he => h.n2 (congrArg Addr.block he).symm)])
  · exact h.pT
  · exact h.pA
  · exact h.pR
/-- 'ZZsetRead'. -/
theorem Gr.read (h : Gr w g gT gA gR nT nA nR F E Lt Pr) {i : Nat} (hi : i < nR) (u1 u2 : Value) (x : Int) : Gr (((w.setCell ⟨gR, i * 3, none⟩ u1).setCell ⟨gR, i * 3 + 1, none⟩ u2).setCell ⟨gR, i * 3 + 2, none⟩ (.int .i32 x)) g gT gA gR nT nA nR F E Lt (upd Pr i x) := by
  refine ⟨?_, ?_, ?_, ((h.fT.other h.n5 _).other h.n5 _).other h.n5 _, ((h.eT.other h.n5 _).other h.n5 _).other h.n5 _, ((h.lA.other h.n6 _).other h.n6 _).other h.n6 _, Fld.set (((h.pr.off (o' := 0) (by omega) (by omega) (by omega) u1).off (o' := 1) (by omega) (by omega) (by omega) u2)) (by omega) hi x, fun j hj => there_setCell (there_setCell (there_setCell (h.th j hj) _ _) _ _) _ _, h.n1, h.n2, h.n3, h.n4, h.n5, h.n6, by simpa using h.lg, by simpa using h.lT, by simpa using h.lAA, by simpa using h.lR⟩
  all_goals (rw [World.cell?_setCell_other _ _ _ _ (fun he => h.n3 (congrArg Addr.block he).symm), World.cell?_setCell_other _ _ _ _ (fun he => h.n3 (congrArg Addr.block he).symm), World.cell?_setCell_other _ _ _ _ (fun he => h.n3 (congrArg Addr.block he).symm)])
  · exact h.pT
  · exact h.pA
  · exact h.pR
end

set_option maxHeartbeats 400000 in
theorem setTxn {g gT gA gR nT nA nR : Nat} {F E Lt Pr : Nat → Int} (i : Nat) (x y : Int) (w : World) (H : Hid (Gr w g gT gA gR nT nA nR F E Lt Pr)) (hi : i < nT) :
    Calls Try.prog 37 #[.pointer (some ⟨g, 0, none⟩), .int .i64 i, .int .i32 x, .int .i32 y] w fun e w' => e = .returned (.tuple #[]) ∧ (w.setCell ⟨gT, i * 12 + 10, none⟩ (.int .i32 x)).setCell ⟨gT, i * 12 + 11, none⟩ (.int .i32 y) = w' := by
  have hne : g ≠ gT := H.out.n1
  have hne' : ¬ gT = g := fun e => hne e.symm
  have hc := H.out.pT
  obtain ⟨h1, f1⟩ := H.out.fT i hi
  obtain ⟨h2, f2⟩ := H.out.eT i hi
  go_enter Try.func37, Try.ntmps37
  go_wp2_with fail
  first | go_ret | go_end0
  exact ⟨rfl, rfl⟩

set_option maxHeartbeats 400000 in
theorem setLatest {g gT gA gR nT nA nR : Nat} {F E Lt Pr : Nat → Int} (i : Nat) (x : Int) (w : World) (H : Hid (Gr w g gT gA gR nT nA nR F E Lt Pr)) (hi : i < nA) :
    Calls Try.prog 39 #[.pointer (some ⟨g, 0, none⟩), .int .i64 i, .int .i32 x] w fun e w' => e = .returned (.tuple #[]) ∧ w.setCell ⟨gA, i * 10 + 7, none⟩ (.int .i32 x) = w' := by
  have hc := H.out.pA
  obtain ⟨h1, f1⟩ := H.out.lA i hi
  go_enter Try.func39, Try.ntmps39
  go_wp2_with fail
  first | go_ret | go_end0
  exact ⟨rfl, rfl⟩

set_option maxHeartbeats 400000 in
theorem setRead {g gT gA gR nT nA nR : Nat} {F E Lt Pr : Nat → Int} (i : Nat) (x y : Int) (w : World) (H : Hid (Gr w g gT gA gR nT nA nR F E Lt Pr)) (hi : i < nR) :
    Calls Try.prog 38 #[.pointer (some ⟨g, 0, none⟩), .int .i64 i, .int .i32 x, .int .i32 y] w fun e w' => e = .returned (.tuple #[]) ∧ ((w.setCell ⟨gR, i * 3, none⟩ (.int .i32 x)).setCell ⟨gR, i * 3 + 1, none⟩ (.int .i32 0)).setCell ⟨gR, i * 3 + 2, none⟩ (.int .i32 y) = w' := by
  have hc := H.out.pR
  have t := H.out.th i hi
  have ht : w.there gR (i * 3) (#[.int .i32 x, .int .i32 0, .int .i32 y] : Array Value).size := t
  have t0 := (t 0 (by omega)).1
  have t1 := (t 1 (by omega)).1
  have t2 := (t 2 (by omega)).1
  have f0 := (t 0 (by omega)).2
  have f1 := (t 1 (by omega)).2
  have f2 := (t 2 (by omega)).2
  simp only [Nat.add_zero] at t0 f0
  obtain ⟨v0, c0⟩ := Option.isSome_iff_exists.1 t0
  obtain ⟨v1, c1⟩ := Option.isSome_iff_exists.1 t1
  obtain ⟨v2, c2⟩ := Option.isSome_iff_exists.1 t2
  clear t t0 t1 t2 ht
  go_enter Try.func38, Try.ntmps38
  go_wp2_with fail
  first | go_ret | go_end0
  exact ⟨rfl, rfl⟩

end Go.Proofs.Qxb6613555a.GraphA
