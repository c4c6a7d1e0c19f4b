import Derived.Test.Qxb6608686aFftD
namespace Go.Proofs.Qxb6608686a.FftE
open Go.RowKit Go.Proofs.Qxb6608686a.Kit Go.Proofs.Qxb6608686a.FftA Go.Proofs.Qxb6608686a.FftB Go.Proofs.Qxb6608686a.FftC Go.Proofs.Qxb6608686a.FftD
open Go.Proofs.Qxb6608686a.Fft (cg sm rvr om wr st dft)

theorem tab : (List.range 4097).all (fun n => (n == 0) || (n &&& (n - 1) != 0) || (List.range 13).any (fun b => n == 2 ^ b)) = true := by decide +kernel
theorem pow2_of {n : Nat} (hn : n ≤ 4096) (h0 : 0 < n) (h : n &&& (n - 1) = 0) : ∃ b, b ≤ 12 ∧ n = 2 ^ b := by
  have := List.all_eq_true.1 tab n (List.mem_range.2 (by omega))
  simp only [h, Bool.or_eq_true, beq_iff_eq, bne_self_eq_false, Bool.false_eq_true, or_false, List.any_eq_true, List.mem_range] at this
  rcases this with h' | ⟨b, hb, e⟩
  · omega
  · exact ⟨b, by omega, e⟩
theorem and_pred {n : Nat} (hn : n ≤ 4096) (h0 : 0 < n) : bits .and .i64 (n : Int) ((n : Int) - 1) = ((n &&& (n - 1) : Nat) : Int) := by
  rw [show (n : Int) - 1 = ((n - 1 : Nat) : Int) by omega]
  exact (bits_nat .i64 32 (by decide) wraps_i64 n (n - 1) (by omega) (by omega)).1

set_option maxHeartbeats 400000 in
theorem bytes9 (ao : Option Addr) (n cap : Nat) (w : World) (hn : n ≤ 4096) : Calls Try.prog 9 #[.slice ao n cap] w fun e w' => e = .returned (.bool true) ∧ w = w' := by
  go_enter Try.func9, Try.ntmps9
  go_wp2
  go_ret
  exact ⟨rfl, rfl⟩
set_option maxHeartbeats 400000 in
theorem bytes17 (ao : Option Addr) (n cap : Nat) (w : World) (hn : n ≤ 4096) : Calls Try.prog 17 #[.slice ao n cap] w fun e w' => e = .returned (.bool true) ∧ w = w' := by
  go_enter Try.func17, Try.ntmps17
  go_wp2
  go_ret
  exact ⟨rfl, rfl⟩

set_option maxHeartbeats 400000 in
theorem zzforward_any (n b ga gr : Nat) (a : Nat → Int) (w : World) (hb : b ≤ 12) (HN : Hid (n = 2 ^ b)) (hn : n ≤ 4096) (ha : Hid (∀ i, i < n → 0 ≤ a i ∧ a i < Fft.P)) (hne : Hid (gr ≠ ga)) (hlt : ga < w.heap.size)
    (hR : Hid (RootsAt w gr b)) (hA : Hid (Arr w ga n a)) (hF : Hid (Free w ga n)) :
    Calls Try.prog 10 #[.slice (some ⟨gr, 0, none⟩) n n, .slice (some ⟨ga, 0, none⟩) n n] w fun e w' => e = .returned (.tuple #[]) ∧ Fs w w' ga gr n b (st a b b) := by
  go_enter Try.func10, Try.ntmps10
  go_wp2_with (go_at_call 30; refine (forward_any n b ga gr a w hb HN hn ha hne hlt hR hA hF).mono ?_; rintro e w' ⟨rfl, hfs⟩)
  go_end0
  exact ⟨rfl, hfs⟩

set_option maxHeartbeats 400000 in
theorem zzforward_zero (a1 a2 : Option Addr) (c1 c2 : Nat) (w : World) :
    Calls Try.prog 10 #[.slice a1 0 c1, .slice a2 0 c2] w fun e w' => e = .returned (.tuple #[]) ∧ Below w.heap.size w w' := by
  go_enter Try.func10, Try.ntmps10
  go_wp2
  refine wp_loop_rounds 1 ?_
  rw [rounds_succ]
  go_wp2
  go_end0
  go_wp2
  go_end0
  exact ⟨rfl, (Below.refl _ _).alloc (Nat.le_refl _) _⟩

set_option maxHeartbeats 400000 in
theorem roots_zero (w : World) : Calls Try.prog 11 #[.int .i64 0] w fun e w' => e = .returned (.slice (some ⟨w.heap.size, 0, none⟩) 0 0) ∧ Below w.heap.size w w' := by
  go_enter Try.func11, Try.ntmps11
  go_wp2_with (at_make; refine wpList_make_at rfl _ _ _ rfl 24 _ 1 4 Try.underlying22 info24 _ _ _ _ 0 0 rfl rfl rfl rfl (Nat.le_refl _) (by omega) (by omega) ?_)
  refine wp_loop_rounds 1 ?_
  rw [rounds_succ]
  go_wp2
  go_ret
  exact ⟨rfl, (Below.refl _ _).alloc (Nat.le_refl _) _⟩
theorem log2_zero (w : World) : Calls Try.prog 13 #[.int .i64 0] w fun e w' => e = .returned (.int .i64 0) ∧ w = w' := by
  go_enter Try.func13, Try.ntmps13
  go_wp2
  refine wp_loop_rounds 1 ?_
  rw [rounds_succ]
  go_wp2
  go_ret
  exact ⟨rfl, rfl⟩
end Go.Proofs.Qxb6608686a.FftE
