import Derived.Test.Qxb6608686aFftMain
import Derived.OpenShut
namespace Go.Proofs.Qxb6608686a.FftMain
open Go.RowKit Go.Proofs.Qxb6608686a.Kit Go.Proofs.Qxb6608686a.FftA Go.Proofs.Qxb6608686a.FftB Go.Proofs.Qxb6608686a.FftC Go.Proofs.Qxb6608686a.FftD Go.Proofs.Qxb6608686a.FftE
open Go.Proofs.Qxb6608686a.Fft (cg sm rvr om wr st dft)

/-- WHAT THE WALK IS TOLD OF A SLICE OF INTEGERS THAT CAME IN. -/
def IsRow (k : IntKind) (w : World) (a : Option Addr) (len cap : Nat) (zs : List Int) : Prop :=
  (a = none ∧ len = 0 ∧ cap = 0 ∧ zs = []) ∨
  ∃ x, a = some x ∧ len ≤ cap ∧ cap ≤ maxLen ∧ zs.length = cap ∧ (∀ i, i < zs.length → w.cell? (x.add i) = some (.int k (zs.getD i 0))) ∧ ∀ n ∈ zs, (Lit.int k n).wf = true

set_option maxHeartbeats 400000 in
theorem walk_zero (a0 : Option Addr) (cap : Nat) (w : World) :
    Calls Try.prog 3 #[.slice a0 0 cap] w fun e w' => e = .returned (.bool true) ∧ Below w.heap.size w w' := by
  have hbits : bits .and .i64 0 (-1) = 0 := by decide
  go_enter Try.func3, Try.ntmps3
  go_wp2_with (go_at_call 9; refine (bytes9 _ 0 _ _ (by omega)).mono ?_; rintro e w' ⟨rfl, rfl⟩)
  refine wp_loop_rounds 1 ?_
  rw [rounds_succ]
  go_wp2_with (at_make; refine wpList_make_at rfl _ _ _ rfl 24 _ 1 4 Try.underlying22 info24 _ _ _ _ 0 0 rfl rfl rfl rfl (Nat.le_refl _) (by omega) (by omega) ?_)
  refine wp_loop_rounds 1 ?_
  rw [rounds_succ]
  go_wp2_with fail
  refine (roots_zero _).mono ?_
  rintro e w1 ⟨rfl, hb1⟩
  have hB1 := chain ((Below.refl w.heap.size w).alloc (Nat.le_refl _) _) hb1
  clear hb1
  go_wp2_with fail
  refine (zzforward_zero _ _ _ _ _).mono ?_
  rintro e w2 ⟨rfl, hb2⟩
  have hB2 := chain hB1 hb2
  clear hB1 hb2
  go_wp2_with (first | (go_at_call 12; refine (omega_any 0 _ (by omega)).mono ?_; rintro e w' ⟨rfl, rfl⟩) | (go_at_call 13; refine (log2_zero _).mono ?_; rintro e w' ⟨rfl, rfl⟩))
  refine wp_loop_rounds 1 ?_
  rw [rounds_succ]
  go_wp2_with fail
  go_ret
  exact ⟨rfl, hB2⟩

set_option maxHeartbeats 400000 in
theorem walk_out (a0 : Option Addr) (n cap : Nat) (w : World) (hl : n ≤ 9223372036854775807) (h : 1048576 < n ∨ (4096 < n ∧ n ≤ 1048576)) :
    Calls Try.prog 3 #[.slice a0 n cap] w fun e w' => e = .returned (.bool true) ∧ Below w.heap.size w w' := by
  rcases h with h | ⟨h, h'⟩
  all_goals
    go_enter Try.func3, Try.ntmps3
    go_wp2
    go_ret
    exact ⟨rfl, Below.refl _ _⟩

set_option maxHeartbeats 400000 in
theorem walk_bits (a0 : Option Addr) (n cap : Nat) (w : World) (hn : n ≤ 4096) (hbits : (bits .and .i64 (n : Int) ((n : Int) - 1) != 0) = true) :
    Calls Try.prog 3 #[.slice a0 n cap] w fun e w' => e = .returned (.bool true) ∧ Below w.heap.size w w' := by
  go_enter Try.func3, Try.ntmps3
  go_wp2_with (go_at_call 9; refine (bytes9 _ _ _ _ hn).mono ?_; rintro e w' ⟨rfl, rfl⟩)
  go_ret
  exact ⟨rfl, Below.refl _ _⟩

/-- The row that came in, as the walks ask it. -/
theorem row_of {w : World} {a0 : Option Addr} {n cap : Nat} {zs : List Int} (h : IsRow .u32 w a0 n cap zs) (hn : 0 < n) :
    ∃ (bx off : Nat) (z : Nat → Int), a0 = some ⟨bx, off, none⟩ ∧ (∀ i, i < n → w.cell? ⟨bx, off + i, none⟩ = some (.int .u32 (z i))) ∧ (∀ i, 0 ≤ z i ∧ z i ≤ 4294967295) := by
  rcases h with ⟨_, rfl, _⟩ | ⟨x, rfl, hlc, hcm, hzl, hcell, hwf⟩
  · omega
  · obtain ⟨bx, off, spot⟩ := x
    have hspot : spot = none := by simpa [Addr.add] using World.cell?_spot (hcell 0 (by omega))
    subst hspot
    refine ⟨bx, off, fun i => zs.getD i 0, rfl, fun i hi => ?_, fun i => ?_⟩
    · have := hcell i (by omega)
      rwa [Addr.add_lit] at this
    · by_cases hi : i < zs.length
      · have hm : zs.getD i 0 ∈ zs := by simp [List.getD, hi]
        exact bounds_u32 (hwf _ hm)
      · simp [List.getD, hi]

theorem len_of {k : IntKind} {w : World} {a0 : Option Addr} {n cap : Nat} {zs : List Int} (h : IsRow k w a0 n cap zs) : n ≤ 9223372036854775807 := by
  rcases h with ⟨_, rfl, _⟩ | ⟨_, _, h1, h2, _⟩
  · omega
  · unfold maxLen at h2; omega

theorem walk (a0 : Option Addr) (n cap : Nat) (zs : List Int) (w : World) (h : IsRow .u32 w a0 n cap zs) :
    Calls Try.prog 3 #[.slice a0 n cap] w fun e w' => e = .returned (.bool true) ∧ Below w.heap.size w w' := by
  have hl := len_of h
  by_cases hn : n ≤ 4096
  · rcases Nat.eq_zero_or_pos n with rfl | h0
    · exact walk_zero a0 cap w
    · have hb := and_pred hn h0
      by_cases hp : n &&& (n - 1) = 0
      · obtain ⟨b, hb12, hN⟩ := pow2_of hn h0 hp
        obtain ⟨bx, off, z, rfl, hz, hz0⟩ := row_of h h0
        exact walk_pow n b bx off cap z w hb12 hN hn h0 (by rw [hb, hp]; rfl) hz hz0
      · exact walk_bits a0 n cap w hn (by rw [hb]; simpa using hp)
  · exact walk_out a0 n cap w hl (by omega)
end Go.Proofs.Qxb6608686a.FftMain
