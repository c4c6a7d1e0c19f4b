import Derived.Test.Qxb6608686aShiftMain
namespace Go.Proofs.Qxb6608686a.ShiftMain
open Go.RowKit Go.Proofs.Qxb6608686a.Kit Go.Proofs.Qxb6608686a.FftA Go.Proofs.Qxb6608686a.FftE
open Go.Proofs.Qxb6608686a.FftMain (row_of len_of)

/-- WHAT THE WALK IS TOLD OF A SLICE OF INTEGERS THAT CAME IN. -/
abbrev IsRow := Go.Proofs.Qxb6608686a.FftMain.IsRow

set_option maxHeartbeats 400000 in
theorem walk_out (a0 : Option Addr) (n cap : Nat) (w : World) (hl : n ≤ 9223372036854775807) (h : 1048576 < n ∨ (4096 < n ∧ n ≤ 1048576)) :
    Calls Try.prog 4 #[.slice a0 n cap] w fun e w' => e = .returned (.bool true) ∧ Below w.heap.size w w' := by
  rcases h with h | ⟨h, h'⟩
  all_goals
    go_enter Try.func4, Try.ntmps4
    go_wp2
    go_ret
    exact ⟨rfl, Below.refl _ _⟩

set_option maxHeartbeats 400000 in
theorem walk_zero (a0 : Option Addr) (cap : Nat) (w : World) :
    Calls Try.prog 4 #[.slice a0 0 cap] w fun e w' => e = .returned (.bool true) ∧ Below w.heap.size w w' := by
  go_enter Try.func4, Try.ntmps4
  go_wp2_with (go_at_call 17; refine (bytes17 _ 0 _ _ (by omega)).mono ?_; rintro e w' ⟨rfl, rfl⟩)
  go_ret
  exact ⟨rfl, Below.refl _ _⟩

set_option maxHeartbeats 400000 in
theorem walk_bits (a0 : Option Addr) (n cap : Nat) (w : World) (hn : n ≤ 4096) (h0 : 0 < n) (hbits : (bits .and .i64 (n : Int) ((n : Int) - 1) != 0) = true) :
    Calls Try.prog 4 #[.slice a0 n cap] w fun e w' => e = .returned (.bool true) ∧ Below w.heap.size w w' := by
  have hz : ((n : Int) == 0) = false := by simp; omega
  go_enter Try.func4, Try.ntmps4
  go_wp2_with (go_at_call 17; refine (bytes17 _ _ _ _ hn).mono ?_; rintro e w' ⟨rfl, rfl⟩)
  go_ret
  exact ⟨rfl, Below.refl _ _⟩

theorem walk (a0 : Option Addr) (n cap : Nat) (zs : List Int) (w : World) (h : IsRow .u32 w a0 n cap zs) :
    Calls Try.prog 4 #[.slice a0 n cap] w fun e w' => e = .returned (.bool true) ∧ Below w.heap.size w w' := by
  have hl := len_of h
  by_cases hn : n ≤ 4096
  · rcases Nat.eq_zero_or_pos n with rfl | h0
    · exact walk_zero a0 cap w
    · have hb := and_pred hn h0
      by_cases hp : n &&& (n - 1) = 0
      · obtain ⟨b, hb12, hN⟩ := pow2_of hn h0 hp
        obtain ⟨bx, off, z, rfl, hz, hz0⟩ := row_of h h0
        exact walk_pow n b bx off cap z w hb12 hN hn h0 (by rw [hb, hp]; rfl) hz hz0
      · exact walk_bits a0 n cap w hn h0 (by rw [hb]; simpa using hp)
  · exact walk_out a0 n cap w hl (by omega)
end Go.Proofs.Qxb6608686a.ShiftMain
