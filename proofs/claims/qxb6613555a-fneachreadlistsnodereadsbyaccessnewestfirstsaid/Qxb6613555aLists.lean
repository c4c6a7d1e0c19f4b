import Derived.Test.Qxb6613555aSort
namespace Go.Proofs.Qxb6613555a.Lists
open Go.RowKit Go.Proofs.Qxb6613555a.Kit Go.Proofs.Qxb6613555a.GraphA Go.Proofs.Qxb6613555a.GraphB Go.Proofs.Qxb6613555a.Plain Go.Proofs.Qxb6613555a.Build Go.Proofs.Qxb6613555a.Each Go.Proofs.Qxb6613555a.Sort

set_option linter.unusedVariables false
set_option linter.unusedSimpArgs false

set_option maxHeartbeats 400000 in
theorem bytes17 (aP aR : Option Addr) (n capP K capR : Nat) (x : Int) (w : World) : Calls Try.prog 17 #[.slice aP n capP, .slice aR K capR, .int .i32 x] w fun e w' => e = .returned (.bool (decide (n + K ≤ 1048576))) ∧ w = w' := by
  by_cases h1 : n ≤ 1048576
  · by_cases h2 : K ≤ 1048576
    · by_cases h3 : n + K ≤ 1048576
      · have h3' : ¬ (1048576 : Int) < (n : Int) + K := by omega
        go_enter Try.func17, Try.ntmps17
        go_wp2_with fail
        go_ret
        exact ⟨ret_bool (by simp [h3]), rfl⟩
      · have h3' : (1048576 : Int) < (n : Int) + K := by omega
        go_enter Try.func17, Try.ntmps17
        go_wp2_with fail
        go_ret
        exact ⟨ret_bool (by simp [h3]), rfl⟩
    · have h3 : ¬ n + K ≤ 1048576 := by omega
      go_enter Try.func17, Try.ntmps17
      go_wp2_with fail
      go_ret
      exact ⟨ret_bool (by simp [h3]), rfl⟩
  · have h3 : ¬ n + K ≤ 1048576 := by omega
    go_enter Try.func17, Try.ntmps17
    go_wp2_with fail
    go_ret
    exact ⟨ret_bool (by simp [h3]), rfl⟩

set_option maxHeartbeats 1000000 in
set_option maxRecDepth 4000 in
theorem walk_out (aP aR : Option Addr) (n capP K capR : Nat) (x : Int) (w : World) (h : 65536 < n ∨ 65536 < K) : Calls Try.prog 5 #[.slice aP n capP, .slice aR K capR, .int .i32 x] w fun e w' => e = .returned (.bool true) ∧ w = w' := by
  by_cases h3 : n + K ≤ 1048576
  · rcases h with h | h
    all_goals
      go_enter Try.func5, Try.ntmps5
      go_wp2_with fail
      refine (bytes17 _ _ _ _ _ _ _ _).mono ?_
      rintro e w' ⟨rfl, rfl⟩
      go_wp2_with fail
    all_goals
      go_ret
      exact ⟨rfl, rfl⟩
  · go_enter Try.func5, Try.ntmps5
    go_wp2_with fail
    refine (bytes17 _ _ _ _ _ _ _ _).mono ?_
    rintro e w' ⟨rfl, rfl⟩
    go_wp2_with fail
    go_ret
    exact ⟨rfl, rfl⟩

set_option maxRecDepth 20000 in
set_option maxHeartbeats 4000000 in
theorem walk_main (aP aR : Option Addr) (bP oP n capP bR oR K capR : Nat) (a : Int) (p acc : Nat → Nat) (w : World) (HP : Hid (Arg w .u8 aP bP oP n p)) (HR : Hid (Arg w .u32 aR bR oR K acc)) (hn : n ≤ 65536) (hK : K ≤ 65536) (ha : -2147483648 ≤ a ∧ a ≤ 2147483647)
    (HPB : Hid (∀ i, i < n → p i ≤ 255)) (HAB : Hid (∀ r, r < K → acc r < 4294967296)) :
    Calls Try.prog 5 #[.slice aP n capP, .slice aR K capR, .int .i32 a] w fun e w' => e = .returned (.bool true) ∧ Below w.heap.size w w' := by
  go_enter Try.func5, Try.ntmps5
  go_wp2_with fail
  refine (bytes17 _ _ _ _ _ _ _ _).mono ?_
  rintro e w' ⟨rfl, rfl⟩
  have hs : n + K ≤ 1048576 := by omega
  go_wp2_with fail
  go_loopw [7, 8] (fun v7 v8 wr => ∃ (k s : Nat), k ≤ n ∧ Hid (pre p k = s) ∧ s ≤ 65536 ∧ v7 = .int .i64 s ∧ v8 = .int .i64 k ∧ w = wr) (fun _ v8 _ => n - (intOf v8).toNat)
  case atStart => exact ⟨0, 0, Nat.zero_le _, hid rfl, by omega, rfl, rfl, rfl⟩
  case round =>
    obtain ⟨k, s, hk, hse, hs1, rfl, rfl, rfl⟩ := hrel
    by_cases hlt : k < n
    · obtain rfl := HP.out.ad (by omega)
      have c := HP.out.at_ k hlt
      have hx := HPB.out k hlt
      obtain ⟨x, hxe⟩ : ∃ x, Hid (p k = x) := ⟨_, rfl⟩
      rw [hxe.out] at c hx
      by_cases hsx : s + x ≤ 65536
      · have hsx' : ¬ (65536 : Int) < (s : Int) + x := by omega
        go_wp2_with fail
        go_roundw
        case rel => exact ⟨k + 1, s + x, by omega, hid (by simp only [pre]; rw [hse.out, hxe.out]), hsx, by go_num, by go_num, by simp⟩
        case measure => simp [intOf]; omega
      · have hsx' : (65536 : Int) < (s : Int) + x := by omega
        go_wp2_with fail
        go_ret
        exact ⟨rfl, Below.refl _ _⟩
    · obtain rfl : n = k := by omega
      clear hlt hk
      by_cases hr : 0 ≤ a ∧ a < n
      rotate_left 1
      · rcases (show a < 0 ∨ (0 ≤ a ∧ (n : Int) ≤ a) by omega) with h1 | ⟨h1, h2⟩
        all_goals
          go_wp2_with fail
          go_ret
          exact ⟨rfl, Below.refl _ _⟩
      obtain ⟨h1, h2⟩ := hr
      obtain ⟨i, rfl⟩ : ∃ i : Nat, a = i := ⟨a.toNat, (Int.toNat_of_nonneg h1).symm⟩
      have hi : i < n := by omega
      clear h1 h2
      go_wp2_with fail
      go_loopw [9] (fun v9 wr => ∃ (k : Nat), k ≤ K ∧ v9 = .int .i64 k ∧ w = wr ∧ Hid (∀ r, r < k → acc r < s)) (fun v9 _ => K - (intOf v9).toNat)
      case atStart => exact ⟨0, Nat.zero_le _, rfl, rfl, hid (fun r hr => absurd hr (Nat.not_lt_zero r))⟩
      case round =>
        obtain ⟨k, hk, rfl, rfl, HA⟩ := hrel
        by_cases hlt : k < K
        · obtain rfl := HR.out.ad (by omega)
          have c := HR.out.at_ k hlt
          have hx := HAB.out k hlt
          obtain ⟨x, hxe⟩ : ∃ x, Hid (acc k = x) := ⟨_, rfl⟩
          rw [hxe.out] at c hx
          by_cases hsx : x < s
          · go_wp2_with fail
            go_roundw
            case rel => exact ⟨k + 1, by omega, by go_num, by simp, hid (fun r hr => by
              rcases Nat.lt_succ_iff_lt_or_eq.1 hr with h | rfl
              · exact HA.out r h
              · rw [hxe.out]; exact hsx)⟩
            case measure => simp [intOf]; omega
          · go_wp2_with fail
            go_ret
            exact ⟨rfl, Below.refl _ _⟩
        · obtain rfl : K = k := by omega
          clear hlt hk
          go_wp2_with fail
          refine (buildGraph _ _ bP oP n capP bR oR K capR s p acc _ HP HR hn (by omega) hs1 hse HPB HA).mono ?_
          rintro e w1 ⟨g, gT, gA, gR, F, E, Lt, Pr, rfl, hb1, hbt⟩
          have HB1 := hid hb1
          have HBT := hid hbt
          clear hb1 hbt
          go_wp2_with fail
          refine (nodeRange _ bP oP n capP p i _ (hid (HP.out.below HB1.out)) hn HPB (hid (by rw [hse.out]; exact hs1)) hi).mono ?_
          rintro e w2 ⟨rfl, nq, rfl⟩
          have hpi : pre p (i + 1) ≤ s := by rw [← hse.out]; exact pre_mono p hi
          have hpe : pre p (i + 1) = pre p i + p i := rfl
          obtain ⟨lo, hlo⟩ : ∃ lo, Hid (pre p i = lo) := ⟨_, rfl⟩
          obtain ⟨D, hD⟩ : ∃ D, Hid (p i = D) := ⟨_, rfl⟩
          obtain ⟨hi', hhi⟩ : ∃ hi', Hid (lo + D = hi') := ⟨_, rfl⟩
          rw [hpe, hlo.out, hD.out, hhi.out] at hpi
          rw [hlo.out, hD.out, show (lo : Int) + (D : Int) = (hi' : Int) from by rw [← hhi.out]; rfl]
          clear hpe
          have HB2 := hid (HB1.out.trans (drewN_below _ _ nq))
          have HBT2 := hid (built_below HBT.out (drewN_below w1.heap.size w1 nq) HBT.out.gr.lg HBT.out.gr.lT HBT.out.gr.lAA HBT.out.gr.lR)
          clear HBT HB1
          go_wp2_with fail
          refine (readsOf _ bR oR K capR lo D hi' acc _ (hid (HR.out.below HB2.out)) hK (by omega) hhi (hid (fun r hr => by have := HA.out r hr; omega))).mono ?_
          rintro e w3 ⟨b3, rfl, hr3, hb3⟩
          have HR3 := hid hr3
          have HB3 := hid (HB2.out.trans (hb3.mono HB2.out.size))
          have HBT3 := hid (built_below HBT2.out hb3 HBT2.out.gr.lg HBT2.out.gr.lT HBT2.out.gr.lAA HBT2.out.gr.lR)
          clear hr3 hb3 HBT2 HB2
          go_wp2_with fail
          refine (zzEach i _ HBT3 hi hn (by omega) hs1 hse).mono ?_
          rintro e w4 ⟨a4, cap4, b4, rfl, hr4, hb4⟩
          have HR5 := hid (HR3.out.below hb4)
          have HB4 := hid (HB3.out.trans (hb4.mono HB3.out.size))
          rw [hlo.out, hD.out] at hr4
          rw [hlo.out, hD.out]
          have HR4 := hid hr4
          have hln := cat_len acc K lo D
          obtain ⟨xs, hxs⟩ : ∃ xs, cat acc K lo D = xs := ⟨_, rfl⟩
          rw [hxs] at HR4 HR5 hln
          rw [hxs]
          clear hxs hr4 hb4 HR3 HB3 HBT3
          go_wp2_with fail
          refine (same _ _ b4 b3 _ _ xs _ HR4 HR5 (by omega)).mono ?_
          rintro e w5 ⟨rfl, hb5⟩
          have HB5 := hid (HB4.out.trans (hb5.mono HB4.out.size))
          clear hb5
          go_wp2_with fail
          go_ret
          exact ⟨rfl, HB5.out⟩
end Go.Proofs.Qxb6613555a.Lists
