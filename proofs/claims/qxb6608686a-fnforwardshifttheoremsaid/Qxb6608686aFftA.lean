import Derived.Test.Qxb6608686aKit
import Derived.Test.Qxb6608686aFft
namespace Go.Proofs.Qxb6608686a.FftA
open Go.RowKit Go.Proofs.Qxb6608686a.Kit
open Go.Proofs.Qxb6608686a.Fft (cg sm rvr om st)

theorem hid {p : Prop} (h : p) : Hid p := h

/-- The product, the sum and the difference in the field: names of their own, so that the walk leaves them. -/
def mm (a b : Int) : Int := a * b % 2013265921
def aa (a b : Int) : Int := (a + b) % 2013265921
def ss (a b : Int) : Int := (a - b) % 2013265921
theorem mm_bd (a b : Int) : 0 ≤ mm a b ∧ mm a b < 2013265921 := by unfold mm; omega
theorem aa_bd (a b : Int) : 0 ≤ aa a b ∧ aa a b < 2013265921 := by unfold aa; omega
theorem ss_bd (a b : Int) : 0 ≤ ss a b ∧ ss a b < 2013265921 := by unfold ss; omega
theorem mm_cg (a b : Int) : cg (mm a b) (a * b) := Fft.cg.mod _
theorem aa_cg (a b : Int) : cg (aa a b) (a + b) := Fft.cg.mod _
theorem ss_cg (a b : Int) : cg (ss a b) (a - b) := Fft.cg.mod _

set_option maxHeartbeats 400000 in
theorem mulP_any (a b : Int) (w : World) (ha : 0 ≤ a) (ha' : a ≤ 4294967295) (hb : 0 ≤ b) (hb' : b ≤ 4294967295) :
    Calls Try.prog 15 #[.int .u32 a, .int .u32 b] w fun e w' => e = .returned (.int .u32 (mm a b)) ∧ w = w' := by
  have h0 : 0 ≤ a * b := Int.mul_nonneg ha hb
  have h1 : a * b ≤ 4294967295 * 4294967295 := Int.mul_le_mul ha' hb' hb (by omega)
  go_enter Try.func15, Try.ntmps15
  go_wp2
  go_ret
  exact ⟨rfl, rfl⟩

set_option maxHeartbeats 400000 in
theorem mulMod_any (a b : Int) (w : World) (ha : 0 ≤ a) (ha' : a ≤ 4294967295) (hb : 0 ≤ b) (hb' : b ≤ 4294967295) :
    Calls Try.prog 36 #[.int .u32 a, .int .u32 b] w fun e w' => e = .returned (.int .u32 (mm a b)) ∧ w = w' := by
  have h0 : 0 ≤ a * b := Int.mul_nonneg ha hb
  have h1 : a * b ≤ 4294967295 * 4294967295 := Int.mul_le_mul ha' hb' hb (by omega)
  go_enter Try.func36, Try.ntmps36
  go_wp2
  go_ret
  exact ⟨rfl, rfl⟩

set_option maxHeartbeats 400000 in
theorem addP_any (a b : Int) (w : World) (ha : 0 ≤ a) (ha' : a ≤ 4294967295) (hb : 0 ≤ b) (hb' : b ≤ 4294967295) :
    Calls Try.prog 14 #[.int .u32 a, .int .u32 b] w fun e w' => e = .returned (.int .u32 (aa a b)) ∧ w = w' := by
  go_enter Try.func14, Try.ntmps14
  go_wp2
  go_ret
  exact ⟨rfl, rfl⟩

set_option maxHeartbeats 400000 in
theorem addMod_any (a b : Int) (w : World) (ha : 0 ≤ a) (ha' : a < 2013265921) (hb : 0 ≤ b) (hb' : b ≤ 2013265921) :
    Calls Try.prog 35 #[.int .u32 a, .int .u32 b] w fun e w' => e = .returned (.int .u32 (aa a b)) ∧ w = w' := by
  go_enter Try.func35, Try.ntmps35
  go_wp2
  all_goals go_ret
  all_goals exact ⟨ret_int (by unfold aa; omega), rfl⟩

set_option maxHeartbeats 400000 in
theorem subMod_any (a b : Int) (w : World) (ha : 0 ≤ a) (ha' : a < 2013265921) (hb : 0 ≤ b) (hb' : b < 2013265921) :
    Calls Try.prog 37 #[.int .u32 a, .int .u32 b] w fun e w' => e = .returned (.int .u32 (ss a b)) ∧ w = w' := by
  go_enter Try.func37, Try.ntmps37
  go_wp2_with (go_at_call 35; refine (addMod_any _ _ _ ha ha' (by omega) (by omega)).mono ?_; rintro e w' ⟨rfl, rfl⟩)
  go_ret
  exact ⟨ret_int (by unfold aa ss; omega), rfl⟩

theorem wraps_u32 (n : Int) (h₀ : 0 ≤ n) (h₁ : n < 2 ^ 32) : IntKind.u32.wrap n = n := by rw [IntKind.wrap_u32]; omega
theorem wraps_i64 (n : Int) (h₀ : 0 ≤ n) (h₁ : n < 2 ^ 32) : IntKind.i64.wrap n = n := by rw [IntKind.wrap_i64]; omega
theorem and1_u32 (k : Nat) (h : k ≤ 4294967295) : bits .and .u32 (k : Int) 1 = (k : Int) % 2 := bits_mask .u32 32 (by decide) wraps_u32 1 (by decide) k (by omega) (by omega)
theorem and1_i64 (k : Nat) (h : k ≤ 4294967295) : bits .and .i64 (k : Int) 1 = (k : Int) % 2 := bits_mask .i64 32 (by decide) wraps_i64 1 (by decide) k (by omega) (by omega)
theorem or1_i64 (x y : Int) (h0 : 0 ≤ x) (h1 : x % 2 = 0) (h2 : x ≤ 4294967295) (h3 : 0 ≤ y) (h4 : y ≤ 1) : bits .or .i64 x y = x + y := bits_join .i64 32 (by decide) wraps_i64 1 x y h0 (by omega) (by omega) h3 (by omega) (by omega)

theorem pow_even {y x B' : Int} {k : Nat} (h : cg (y * x ^ k) B') (hk : k % 2 = 0) : cg (y * mm x x ^ (k / 2)) B' := by
  refine Fft.cg.trans ?_ h
  refine (Fft.cg.refl y).mul (((mm_cg x x).pow (k / 2)).trans ?_)
  have : (x * x) ^ (k / 2) = x ^ k := by
    rw [show x * x = x ^ 2 by rw [Int.pow_succ, Int.pow_succ, Int.pow_zero, Int.one_mul], ← Int.pow_mul]
    congr 1; omega
  rw [this]; exact Fft.cg.refl _
theorem pow_odd {y x B' : Int} {k : Nat} (h : cg (y * x ^ k) B') (hk : k % 2 = 1) : cg (mm y x * mm x x ^ (k / 2)) B' := by
  refine Fft.cg.trans ?_ h
  refine ((mm_cg y x).mul ((mm_cg x x).pow (k / 2))).trans ?_
  have : y * x * (x * x) ^ (k / 2) = y * x ^ k := by
    rw [show x * x = x ^ 2 by rw [Int.pow_succ, Int.pow_succ, Int.pow_zero, Int.one_mul], ← Int.pow_mul, Int.mul_assoc]
    congr 1
    have e : k = 2 * (k / 2) + 1 := by omega
    have : x ^ k = x ^ (2 * (k / 2) + 1) := by rw [← e]
    rw [this, Int.pow_succ, Int.mul_comm]
  rw [this]; exact Fft.cg.refl _

set_option maxHeartbeats 400000 in
theorem powP_any (B : Int) (E : Nat) (w : World) (hB : 0 ≤ B) (hB' : B ≤ 4294967295) (hE : E ≤ 4294967295) :
    Calls Try.prog 31 #[.int .u32 B, .int .u32 E] w fun e w' => e = .returned (.int .u32 (B ^ E % Fft.P)) ∧ w = w' := by
  go_enter Try.func31, Try.ntmps31
  go_wp2
  go_loop [0, 1, 5] (fun b e r => ∃ (x : Int) (k : Nat) (y : Int), b = .int .u32 x ∧ e = .int .u32 k ∧ r = .int .u32 y ∧ 0 ≤ x ∧ x ≤ 4294967295 ∧ k ≤ 4294967295 ∧ 0 ≤ y ∧ y < 2013265921 ∧ Hid (cg (y * x ^ k) (B ^ E))) (fun _ e _ => (intOf e).toNat)
  case atStart => exact ⟨B, E, 1, rfl, rfl, rfl, hB, hB', hE, by omega, by omega, by rw [Int.one_mul]; exact Fft.cg.refl _⟩
  case round =>
    obtain ⟨x, k, y, rfl, rfl, rfl, hx, hx', hk, hy, hy', HR⟩ := hrel
    by_cases hlt : 0 < k
    · have hb := and1_u32 k hk
      have m1 := mm_bd x x
      have m2 := mm_bd y x
      by_cases hp : k % 2 = 1
      · have hp' : (k : Int) % 2 = 1 := by omega
        clear hp
        go_wp2_with (go_at_call 15; refine (mulP_any _ _ _ (by omega) (by omega) (by omega) (by omega)).mono ?_; rintro e w' ⟨rfl, rfl⟩)
        go_round
        case rel => exact ⟨mm x x, k / 2, mm y x, rfl, by go_num, rfl, m1.1, by omega, by omega, m2.1, m2.2, pow_odd HR.out (by omega)⟩
        case measure => simp [intOf]; omega
      · have hp' : (k : Int) % 2 = 0 := by omega
        clear hp
        go_wp2_with (go_at_call 15; refine (mulP_any _ _ _ (by omega) (by omega) (by omega) (by omega)).mono ?_; rintro e w' ⟨rfl, rfl⟩)
        go_round
        case rel => exact ⟨mm x x, k / 2, y, rfl, by go_num, rfl, m1.1, by omega, by omega, hy, hy', pow_even HR.out (by omega)⟩
        case measure => simp [intOf]; omega
    · obtain rfl : k = 0 := by omega
      have hr := HR.out
      rw [Int.pow_zero, Int.mul_one] at hr
      have HY : Hid (y = B ^ E % Fft.P) := by
        have := hr.emod
        rwa [Fft.mod_small hy (by rw [Fft.P_eq]; exact hy')] at this
      clear hr HR
      go_wp2
      go_ret
      exact ⟨ret_int HY.out, rfl⟩
end Go.Proofs.Qxb6608686a.FftA
