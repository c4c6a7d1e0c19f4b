import Derived.Test.Qxb6608686aFftA
namespace Go.Proofs.Qxb6608686a.FftB
open Go.RowKit Go.Proofs.Qxb6608686a.Kit Go.Proofs.Qxb6608686a.FftA
open Go.Proofs.Qxb6608686a.Fft (cg sm rvr om wr st)

theorem powP_at (B E : Int) (w : World) (hB : 0 ≤ B) (hB' : B ≤ 4294967295) (h0 : 0 ≤ E) (hE : E ≤ 4294967295) :
    Calls Try.prog 31 #[.int .u32 B, .int .u32 E] w fun e w' => e = .returned (.int .u32 (B ^ E.toNat % Fft.P)) ∧ w = w' := by
  obtain ⟨k, rfl⟩ := Int.eq_ofNat_of_zero_le h0
  exact powP_any B k w hB hB' (by omega)

theorem omega_eq {n : Nat} (h : 1 < n) : (31 : Int) ^ ((2013265920 : Int) / (n : Int)).toNat % Fft.P = om n := by
  have e : ((2013265920 : Int) / (n : Int)).toNat = 2013265920 / n := by
    have : (2013265920 : Int) / (n : Int) = ((2013265920 / n : Nat) : Int) := by rw [Int.natCast_ediv]; rfl
    rw [this]; rfl
  rw [e, om, if_neg (by omega)]

set_option maxHeartbeats 400000 in
theorem omega_any (n : Nat) (w : World) (hn : n ≤ 4096) : Calls Try.prog 12 #[.int .i64 n] w fun e w' => e = .returned (.int .u32 (om n)) ∧ w = w' := by
  by_cases h : n ≤ 1
  · go_enter Try.func12, Try.ntmps12
    go_wp2
    go_ret
    exact ⟨ret_int (by rw [om, if_pos h]), rfl⟩
  · have d0 : 0 ≤ (2013265920 : Int) / (n : Int) := Int.ediv_nonneg (by omega) (by omega)
    have d1 : (2013265920 : Int) / (n : Int) ≤ 2013265920 := Int.ediv_le_self _ (by omega)
    go_enter Try.func12, Try.ntmps12
    go_wp2_with (go_at_call 31; refine (powP_at _ _ _ (by omega) (by omega) (by omega) (by omega)).mono ?_; rintro e w' ⟨rfl, rfl⟩)
    go_ret
    exact ⟨ret_int (omega_eq (by omega)), rfl⟩

set_option maxHeartbeats 400000 in
theorem log2_any (n b : Nat) (w : World) (hb : b ≤ 12) (HN : Hid (n = 2 ^ b)) : Calls Try.prog 13 #[.int .i64 n] w fun e w' => e = .returned (.int .i64 b) ∧ w = w' := by
  go_enter Try.func13, Try.ntmps13
  go_wp2
  go_loop [3, 4] (fun c m => ∃ (i M : Nat), i ≤ b ∧ c = .int .i64 i ∧ m = .int .i64 M ∧ Hid (M = 2 ^ (b - i))) (fun _ m => (intOf m).toNat)
  case atStart => exact ⟨0, n, Nat.zero_le _, rfl, rfl, HN⟩
  case round =>
    obtain ⟨i, M, hi, rfl, rfl, HM⟩ := hrel
    by_cases hlt : i < b
    · have h1 := Fft.pow_pred (b - i) (by omega)
      have h2 : 2 ^ (b - i - 1) ≤ 2 ^ 12 := Nat.pow_le_pow_right (by omega) (by omega)
      have h3 : 0 < 2 ^ (b - i - 1) := Nat.pow_pos (by omega)
      obtain ⟨Q, HQ⟩ : ∃ Q, Hid (Q = 2 ^ (b - i - 1)) := ⟨_, hid rfl⟩
      have hM := HM.out
      rw [h1, ← HQ.out] at hM
      rw [← HQ.out] at h2 h3
      subst hM
      clear h1 HM
      go_wp2
      go_round
      case rel => exact ⟨i + 1, Q, by omega, by go_num, by go_num, by rw [HQ.out]; show _ = _; congr 1⟩
      case measure => simp [intOf]; omega
    · obtain rfl : i = b := by omega
      have hM := HM.out
      rw [Nat.sub_self, Nat.pow_zero] at hM
      subst hM
      clear HM
      go_wp2
      go_ret
      exact ⟨rfl, rfl⟩
  
theorem rev_step (R k i : Nat) (hR : R ≤ 4096) (hk : k ≤ 4096) : bits .or .i64 ((R : Int) * 2) (bits .and .i64 ((k : Int) / 2 ^ i) 1) = ((2 * R + (k / 2 ^ i) % 2 : Nat) : Int) := by
  have h0 : k / 2 ^ i ≤ k := Nat.div_le_self _ _
  have e : (k : Int) / 2 ^ i = ((k / 2 ^ i : Nat) : Int) := by rw [Int.natCast_ediv, Int.natCast_pow]; rfl
  rw [e, and1_i64 _ (by omega), or1_i64 _ _ (by omega) (by omega) (by omega) (by omega) (by omega)]
  omega

set_option maxHeartbeats 400000 in
theorem rev_any (k b : Nat) (w : World) (hb : b ≤ 12) (hk : k ≤ 4096) : Calls Try.prog 16 #[.int .i64 k, .int .i64 b] w fun e w' => e = .returned (.int .i64 (rvr k b : Nat)) ∧ w = w' := by
  go_enter Try.func16, Try.ntmps16
  go_wp2
  go_loop [5, 6] (fun r c => ∃ (i R : Nat), i ≤ b ∧ c = .int .i64 i ∧ r = .int .i64 R ∧ Hid (R = rvr k i)) (fun _ m => b - (intOf m).toNat)
  case atStart => exact ⟨0, 0, Nat.zero_le _, rfl, rfl, rfl⟩
  case round =>
    obtain ⟨i, R, hi, rfl, rfl, HR⟩ := hrel
    by_cases hlt : i < b
    · have hR : R ≤ 4096 := by
        have h1 := Fft.rvr_lt k i
        have h2 : 2 ^ i ≤ 2 ^ 12 := Nat.pow_le_pow_right (by omega) (by omega)
        rw [HR.out]; omega
      go_wp2
      go_round
      case rel => exact ⟨i + 1, 2 * R + (k / 2 ^ i) % 2, by omega, by go_num, by rw [rev_step R k i hR hk], by rw [HR.out]; rfl⟩
      case measure => simp [intOf]; omega
    · obtain rfl : i = b := by omega
      go_wp2
      go_ret
      exact ⟨ret_int (by rw [HR.out]), rfl⟩

end Go.Proofs.Qxb6608686a.FftB
