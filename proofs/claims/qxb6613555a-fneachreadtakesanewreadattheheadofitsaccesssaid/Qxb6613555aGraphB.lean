import Derived.Test.Qxb6613555aGraphA
namespace Go.Proofs.Qxb6613555a.GraphB
open Go.RowKit Go.Proofs.Qxb6613555a.Kit Go.Proofs.Qxb6613555a.GraphA

set_option linter.unusedVariables false

def z139 : Array Value := #[.int .i32 0, .int .i32 0, .int .i32 0, .int .i32 0, .int .i32 0, .int .u8 0, .bool false, .bool false, .int .i32 0, .int .i32 0, .int .i32 0, .int .i32 0]
def z145 : Array Value := #[.int .i32 0, .int .i32 0, .int .i32 0, .int .i32 0, .int .i32 0, .int .i32 0, .bool false, .int .i32 0, .int .i32 0, .int .i32 0]
def z141 : Array Value := #[.int .i32 0, .int .i32 0, .int .i32 0]
theorem info139 : (Try.prog.info? 139).map (fun i => (i.zero, i.size, i.bytes)) = some (some (.agg z139), 12, 40) := by kernel_rfl
theorem info145 : (Try.prog.info? 145).map (fun i => (i.zero, i.size, i.bytes)) = some (some (.agg z145), 10, 40) := by kernel_rfl
theorem info141 : (Try.prog.info? 141).map (fun i => (i.zero, i.size, i.bytes)) = some (some (.agg z141), 3, 12) := by kernel_rfl

theorem gr_of {w : World} {g gT gA gR nT nA nR : Nat} {cs : Array Value} (hg : w.heap[g]? = some (.cells cs 137 (0, 0))) (hT : w.heap[gT]? = some (.cells (madeCells z139 (nT * 12)) 139 (0, 0))) (hA : w.heap[gA]? = some (.cells (madeCells z145 (nA * 10)) 145 (0, 0))) (hR : w.heap[gR]? = some (.cells (madeCells z141 (nR * 3)) 141 (0, 0)))
    (c2 : cs[2]? = some (.slice (some ⟨gT, 0, none⟩) nT nT)) (c4 : cs[4]? = some (.slice (some ⟨gA, 0, none⟩) nA nA)) (c8 : cs[8]? = some (.slice (some ⟨gR, 0, none⟩) nR nR)) (n1 : g ≠ gT) (n2 : g ≠ gA) (n3 : g ≠ gR) (n4 : gT ≠ gA) (n5 : gT ≠ gR) (n6 : gA ≠ gR) :
    Gr w g gT gA gR nT nA nR (fun _ => 0) (fun _ => 0) (fun _ => 0) (fun _ => 0) :=
  ⟨by simp [World.cell?, hg, c2], by simp [World.cell?, hg, c4], by simp [World.cell?, hg, c8], fld_made (z := z139) (o := 10) hT rfl, fld_made (z := z139) (o := 11) hT rfl, fld_made (z := z145) (o := 7) hA rfl, fld_made (z := z141) (o := 2) hR rfl,
    fun i hi => there_block (n := nR) hR (by rw [size_madeCells]; omega), n1, n2, n3, n4, n5, n6, (Array.getElem?_eq_some_iff.1 hg).1, (Array.getElem?_eq_some_iff.1 hT).1, (Array.getElem?_eq_some_iff.1 hA).1, (Array.getElem?_eq_some_iff.1 hR).1⟩
theorem four (w : World) (a b c d : Obj) : ((((w.alloc a).alloc b).alloc c).alloc d).drew.heap[w.heap.size]? = some a ∧ ((((w.alloc a).alloc b).alloc c).alloc d).drew.heap[w.heap.size + 1]? = some b ∧ ((((w.alloc a).alloc b).alloc c).alloc d).drew.heap[w.heap.size + 2]? = some c ∧ ((((w.alloc a).alloc b).alloc c).alloc d).drew.heap[w.heap.size + 3]? = some d ∧ Below w.heap.size w ((((w.alloc a).alloc b).alloc c).alloc d).drew := by
  refine ⟨?_, ?_, ?_, ?_, ((((Below.refl _ _).alloc (Nat.le_refl _) _).alloc (by simp) _).alloc (by simp; omega) _).alloc (by simp; omega) _ |>.drew⟩
  · show ((((w.heap.push a).push b).push c).push d)[w.heap.size]? = some a
    simp only [Array.getElem?_push, Array.size_push]
    repeat rw [if_neg (by omega)]
    exact if_pos trivial
  · show ((((w.heap.push a).push b).push c).push d)[w.heap.size + 1]? = some b
    simp only [Array.getElem?_push, Array.size_push]
    repeat rw [if_neg (by omega)]
    exact if_pos trivial
  · show ((((w.heap.push a).push b).push c).push d)[w.heap.size + 2]? = some c
    simp only [Array.getElem?_push, Array.size_push]
    repeat rw [if_neg (by omega)]
    exact if_pos trivial
  · show ((((w.heap.push a).push b).push c).push d)[w.heap.size + 3]? = some d
    simp only [Array.getElem?_push, Array.size_push]
    exact if_pos trivial

theorem make112 (n : Nat) (hn : n ≤ 1048576) (w : World) : (Instr.makeSlice 112 (.int .i64 n) (.int .i64 n)).run Try.prog w = .ok (.slice (some ⟨w.heap.size, 0, none⟩) n n) (w.alloc (.cells (madeCells z139 (n * 12)) 139)) := by
  obtain ⟨i, hi, h0, h1, h2⟩ := info_parts info139
  have := run_make (P := Try.prog) w 112 139 i (.agg z139) Try.underlying112 hi h0 .i64 .i64 n n (by omega) (by omega) (by rw [h2]; omega) (by omega)
  simpa [h1, Value.cells] using this
theorem make113 (n : Nat) (hn : n ≤ 1048576) (w : World) : (Instr.makeSlice 113 (.int .i64 n) (.int .i64 n)).run Try.prog w = .ok (.slice (some ⟨w.heap.size, 0, none⟩) n n) (w.alloc (.cells (madeCells z145 (n * 10)) 145)) := by
  obtain ⟨i, hi, h0, h1, h2⟩ := info_parts info145
  have := run_make (P := Try.prog) w 113 145 i (.agg z145) Try.underlying113 hi h0 .i64 .i64 n n (by omega) (by omega) (by rw [h2]; omega) (by omega)
  simpa [h1, Value.cells] using this
theorem make114 (n : Nat) (hn : n ≤ 1048576) (w : World) : (Instr.makeSlice 114 (.int .i64 n) (.int .i64 n)).run Try.prog w = .ok (.slice (some ⟨w.heap.size, 0, none⟩) n n) (w.alloc (.cells (madeCells z141 (n * 3)) 141)) := by
  obtain ⟨i, hi, h0, h1, h2⟩ := info_parts info141
  have := run_make (P := Try.prog) w 114 141 i (.agg z141) Try.underlying114 hi h0 .i64 .i64 n n (by omega) (by omega) (by rw [h2]; omega) (by omega)
  simpa [h1, Value.cells] using this

set_option maxHeartbeats 1000000 in
theorem newGraph (nT nA nR : Nat) (w : World) (hT : nT ≤ 1048576) (hA : nA ≤ 1048576) (hR : nR ≤ 1048576) :
    Calls Try.prog 36 #[.int .i64 nT, .int .i64 nA, .int .i64 nR] w fun e w' => ∃ g gT gA gR, e = .returned (.pointer (some ⟨g, 0, none⟩)) ∧ Below w.heap.size w w' ∧ w.heap.size ≤ g ∧ w.heap.size ≤ gT ∧ w.heap.size ≤ gA ∧ w.heap.size ≤ gR ∧ Gr w' g gT gA gR nT nA nR (fun _ => 0) (fun _ => 0) (fun _ => 0) (fun _ => 0) := by
  have m1 := make112 nT hT
  have m2 := make113 nA hA
  have m3 := make114 nR hR
  go_enter Try.func36, Try.ntmps36
  go_wp2_with fail
  go_region
  all_goals go_wp2_with fail
  all_goals go_ret
  all_goals first
    | exact ⟨_, w.heap.size, w.heap.size + 1, w.heap.size + 2, rfl, (four w _ _ _ _).2.2.2.2, by omega, by omega, by omega, by omega, gr_of (four w _ _ _ _).2.2.2.1 (four w _ _ _ _).1 (four w _ _ _ _).2.1 (four w _ _ _ _).2.2.1 rfl rfl rfl (by omega) (by omega) (by omega) (by omega) (by omega) (by omega)⟩
    | exact ⟨_, w.heap.size, w.heap.size + 2, w.heap.size + 1, rfl, (four w _ _ _ _).2.2.2.2, by omega, by omega, by omega, by omega, gr_of (four w _ _ _ _).2.2.2.1 (four w _ _ _ _).1 (four w _ _ _ _).2.2.1 (four w _ _ _ _).2.1 rfl rfl rfl (by omega) (by omega) (by omega) (by omega) (by omega) (by omega)⟩
    | exact ⟨_, w.heap.size + 1, w.heap.size, w.heap.size + 2, rfl, (four w _ _ _ _).2.2.2.2, by omega, by omega, by omega, by omega, gr_of (four w _ _ _ _).2.2.2.1 (four w _ _ _ _).2.1 (four w _ _ _ _).1 (four w _ _ _ _).2.2.1 rfl rfl rfl (by omega) (by omega) (by omega) (by omega) (by omega) (by omega)⟩
    | exact ⟨_, w.heap.size + 2, w.heap.size, w.heap.size + 1, rfl, (four w _ _ _ _).2.2.2.2, by omega, by omega, by omega, by omega, gr_of (four w _ _ _ _).2.2.2.1 (four w _ _ _ _).2.2.1 (four w _ _ _ _).1 (four w _ _ _ _).2.1 rfl rfl rfl (by omega) (by omega) (by omega) (by omega) (by omega) (by omega)⟩
    | exact ⟨_, w.heap.size + 1, w.heap.size + 2, w.heap.size, rfl, (four w _ _ _ _).2.2.2.2, by omega, by omega, by omega, by omega, gr_of (four w _ _ _ _).2.2.2.1 (four w _ _ _ _).2.1 (four w _ _ _ _).2.2.1 (four w _ _ _ _).1 rfl rfl rfl (by omega) (by omega) (by omega) (by omega) (by omega) (by omega)⟩
    | exact ⟨_, w.heap.size + 2, w.heap.size + 1, w.heap.size, rfl, (four w _ _ _ _).2.2.2.2, by omega, by omega, by omega, by omega, gr_of (four w _ _ _ _).2.2.2.1 (four w _ _ _ _).2.2.1 (four w _ _ _ _).2.1 (four w _ _ _ _).1 rfl rfl rfl (by omega) (by omega) (by omega) (by omega) (by omega) (by omega)⟩
end Go.Proofs.Qxb6613555a.GraphB
