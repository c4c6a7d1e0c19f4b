import Derived.Test.Qxb6613555aEach
namespace Go.Proofs.Qxb6613555a.Takes
open Go.RowKit Go.Proofs.Qxb6613555a.Kit Go.Proofs.Qxb6613555a.GraphA Go.Proofs.Qxb6613555a.GraphB Go.Proofs.Qxb6613555a.Plain Go.Proofs.Qxb6613555a.Build Go.Proofs.Qxb6613555a.Each

set_option linter.unusedVariables false
set_option linter.unusedSimpArgs false

theorem owner_ex (p : Nat → Nat) (a : Nat) : ∀ n : Nat, a < pre p n → ∃ i, i < n ∧ pre p i ≤ a ∧ a < pre p (i + 1)
  | 0, h => by simp [pre] at h
  | n + 1, h => by
    by_cases h' : a < pre p n
    · obtain ⟨i, h1, h2⟩ := owner_ex p a n h'
      exact ⟨i, by omega, h2⟩
    · exact ⟨n, by omega, by omega, h⟩

set_option maxHeartbeats 400000 in
theorem bytes23 (aP aR : Option Addr) (n capP K capR : Nat) (x : Int) (w : World) : Calls Try.prog 23 #[.slice aP n capP, .slice aR K capR, .int .u32 x] w fun e w' => e = .returned (.bool (decide (n + K ≤ 1048576))) ∧ w = w' := by
  by_cases h1 : n ≤ 1048576
  · by_cases h2 : K ≤ 1048576
    · by_cases h3 : n + K ≤ 1048576
      · have h3' : ¬ (1048576 : Int) < (n : Int) + K := by omega
        go_enter Try.func23, Try.ntmps23
        go_wp2_with fail
        go_ret
        exact ⟨ret_bool (by simp [h3]), rfl⟩
      · have h3' : (1048576 : Int) < (n : Int) + K := by omega
        go_enter Try.func23, Try.ntmps23
        go_wp2_with fail
        go_ret
        exact ⟨ret_bool (by simp [h3]), rfl⟩
    · have h3 : ¬ n + K ≤ 1048576 := by omega
      go_enter Try.func23, Try.ntmps23
      go_wp2_with fail
      go_ret
      exact ⟨ret_bool (by simp [h3]), rfl⟩
  · have h3 : ¬ n + K ≤ 1048576 := by omega
    go_enter Try.func23, Try.ntmps23
    go_wp2_with fail
    go_ret
    exact ⟨ret_bool (by simp [h3]), rfl⟩

set_option maxHeartbeats 1000000 in
set_option maxRecDepth 4000 in
theorem walk_out (aP aR : Option Addr) (n capP K capR : Nat) (x : Int) (w : World) (h : 65536 < n ∨ 65536 < K) : Calls Try.prog 6 #[.slice aP n capP, .slice aR K capR, .int .u32 x] w fun e w' => e = .returned (.bool true) ∧ w = w' := by
  by_cases h3 : n + K ≤ 1048576
  · rcases h with h | h
    all_goals
      go_enter Try.func6, Try.ntmps6
      go_wp2_with fail
      refine (bytes23 _ _ _ _ _ _ _ _).mono ?_
      rintro e w' ⟨rfl, rfl⟩
      go_wp2_with fail
    all_goals
      go_ret
      exact ⟨rfl, rfl⟩
  · go_enter Try.func6, Try.ntmps6
    go_wp2_with fail
    refine (bytes23 _ _ _ _ _ _ _ _).mono ?_
    rintro e w' ⟨rfl, rfl⟩
    go_wp2_with fail
    go_ret
    exact ⟨rfl, rfl⟩

def ext (acc : Nat → Nat) (K a : Nat) : Nat → Nat := fun r => if r = K then a else acc r

set_option maxRecDepth 20000 in
set_option maxHeartbeats 4000000 in
theorem walk_main (aP aR : Option Addr) (bP oP n capP bR oR K capR a : Nat) (p acc : Nat → Nat) (w : World) (HP : Hid (Arg w .u8 aP bP oP n p)) (HR : Hid (Arg w .u32 aR bR oR K acc)) (hn : n ≤ 65536) (hK : K ≤ 65536) (ha : a < 4294967296)
    (HPB : Hid (∀ i, i < n → p i ≤ 255)) (HAB : Hid (∀ r, r < K → acc r < 4294967296)) :
    Calls Try.prog 6 #[.slice aP n capP, .slice aR K capR, .int .u32 a] w fun e w' => e = .returned (.bool true) ∧ Below w.heap.size w w' := by
  go_enter Try.func6, Try.ntmps6
  go_wp2_with fail
  refine (bytes23 _ _ _ _ _ _ _ _).mono ?_
  rintro e w' ⟨rfl, rfl⟩
  have hs : n + K ≤ 1048576 := by omega
  go_wp2_with fail
  go_loopw [7, 8] (fun v7 v8 wr => ∃ (k s : Nat), k ≤ n ∧ Hid (pre p k = s) ∧ s ≤ 65536 ∧ v7 = .int .i64 s ∧ v8 = .int .i64 k ∧ w = wr) (fun _ v8 _ => n - (intOf v8).toNat)
  case atStart => exact ⟨0, 0, Nat.zero_le _, hid rfl, by omega, rfl, rfl, rfl⟩
  case round =>
    obtain ⟨k, s, hk, hse, hs1, rfl, rfl, rfl⟩ := hrel
    by_cases hlt : k < n
    · obtain rfl := HP.out.ad (by omega)
      have c := HP.out.at_ k hlt
      have hx := HPB.out k hlt
      obtain ⟨x, hxe⟩ : ∃ x, Hid (p k = x) := ⟨_, rfl⟩
      rw [hxe.out] at c hx
      by_cases hsx : s + x ≤ 65536
      · have hsx' : ¬ (65536 : Int) < (s : Int) + x := by omega
        go_wp2_with fail
        go_roundw
        case rel => exact ⟨k + 1, s + x, by omega, hid (by simp only [pre]; rw [hse.out, hxe.out]), hsx, by go_num, by go_num, by simp⟩
        case measure => simp [intOf]; omega
      · have hsx' : (65536 : Int) < (s : Int) + x := by omega
        go_wp2_with fail
        go_ret
        exact ⟨rfl, Below.refl _ _⟩
    · obtain rfl : n = k := by omega
      clear hlt hk
      go_wp2_with fail
      go_loopw [9] (fun v9 wr => ∃ (k : Nat), k ≤ K ∧ v9 = .int .i64 k ∧ w = wr ∧ Hid (∀ r, r < k → acc r < s)) (fun v9 _ => K - (intOf v9).toNat)
      case atStart => exact ⟨0, Nat.zero_le _, rfl, rfl, hid (fun r hr => absurd hr (Nat.not_lt_zero r))⟩
      case round =>
        obtain ⟨k, hk, rfl, rfl, HA⟩ := hrel
        by_cases hlt : k < K
        · obtain rfl := HR.out.ad (by omega)
          have c := HR.out.at_ k hlt
          have hx := HAB.out k hlt
          obtain ⟨x, hxe⟩ : ∃ x, Hid (acc k = x) := ⟨_, rfl⟩
          rw [hxe.out] at c hx
          by_cases hsx : x < s
          · go_wp2_with fail
            go_roundw
            case rel => exact ⟨k + 1, by omega, by go_num, by simp, hid (fun r hr => by
              rcases Nat.lt_succ_iff_lt_or_eq.1 hr with h | rfl
              · exact HA.out r h
              · rw [hxe.out]; exact hsx)⟩
            case measure => simp [intOf]; omega
          · go_wp2_with fail
            go_ret
            exact ⟨rfl, Below.refl _ _⟩
        · obtain rfl : K = k := by omega
          clear hlt hk
          by_cases has : a < s
          · obtain ⟨i, hi, hi1, hi2⟩ := owner_ex p a n (by rw [hse.out]; exact has)
            have HI1 := hid hi1
            have HI2 := hid hi2
            clear hi1 hi2
            go_wp2_with fail
            refine (owner _ bP oP n capP p a i _ HP hn HPB (hid (by rw [hse.out]; exact hs1)) hi HI1.out HI2.out).mono ?_
            rintro e w' ⟨rfl, rfl⟩
            go_wp2_with fail
            refine (buildGraph _ _ bP oP n capP bR oR K capR s p acc _ HP HR hn (by omega) hs1 hse HPB HA).mono ?_
            rintro e w1 ⟨g, gT, gA, gR, F, E, Lt, Pr, rfl, hb1, hbt⟩
            have HB1 := hid hb1
            have HBT := hid hbt
            clear hb1 hbt
            go_wp2_with fail
            refine (zzEach i _ HBT hi hn (by omega) hs1 hse).mono ?_
            rintro e w2 ⟨a1, cap1, b1, rfl, hr1, hb2⟩
            have HB2 := hid (HB1.out.trans (hb2.mono HB1.out.size))
            obtain ⟨X, Y, hXY, hXKY, hX, hY⟩ := cat_new (acc := acc) (acc' := ext acc K a) (K := K) (lo := pre p i) (D := p i) (fun r hr => by simp [ext, show r ≠ K by omega]) (by simpa [ext] using HI1.out) (by simpa [ext, pre] using HI2.out)
            rw [hXY] at hr1
            rw [hXY]
            have HR1 := hid hr1
            have HXKY := hid hXKY
            have HX : Hid (∀ r ∈ X, r < K ∧ acc r < a) := hid (by simpa [ext] using hX)
            have HY : Hid (∀ r ∈ Y, r < K ∧ a ≤ acc r) := hid (by simpa [ext] using hY)
            have hlen : X.length + Y.length ≤ K := by
              have := cat_len acc K (pre p i) (p i)
              rw [hXY, List.length_append] at this
              exact this
            obtain ⟨nx, hnx⟩ : ∃ nx, Hid (X.length = nx) := ⟨_, rfl⟩
            obtain ⟨ny, hny⟩ : ∃ ny, Hid (Y.length = ny) := ⟨_, rfl⟩
            rw [hnx.out, hny.out] at hlen
            obtain ⟨N, hN⟩ : ∃ N, Hid (nx + ny = N) := ⟨_, rfl⟩
            have hnN : nx ≤ N := by have := hN.out; omega
            rw [hN.out] at hlen
            have hXL : Hid ((X ++ Y).length = N) := hid (by rw [List.length_append, hnx.out, hny.out, hN.out])
            have hYL : Hid ((X ++ K :: Y).length = N + 1) := hid (by rw [List.length_append, List.length_cons, hnx.out, hny.out, ← hN.out]; rfl)
            rw [hXL.out]
            clear hr1 hXKY hX hY hXY hb2 HB1 HBT
            go_wp2_with (at_make; refine wpList_make_at rfl (.tmp 78) (.tmp 78) 39 rfl 41 (.int .u32 0) 1 4 Try.underlying39 info41 _ _ _ _ (K + 1) (K + 1) rfl rfl (by omega) (by omega) (Nat.le_refl _) (by omega) (by omega) ?_)
            have hL0 : w.heap.size ≤ w2.heap.size := HB2.out.size
            have HRW : Hid (IRow (w2.alloc (.cells (madeCells #[.int .u32 0] (K + 1)) 41)) w2.heap.size (K + 1) .u32 (fun _ => 0)) := hid (IRow.made w2 (K + 1) .u32 41)
            have HBa : Hid (Below w2.heap.size w2 (w2.alloc (.cells (madeCells #[.int .u32 0] (K + 1)) 41))) := hid ((Below.refl _ _).alloc (Nat.le_refl _) _)
            obtain ⟨L, hL⟩ : ∃ L, Hid (w2.heap.size = L) := ⟨_, rfl⟩
            rw [hL.out] at hL0 HRW
            rw [hL.out]
            obtain ⟨wb, hwb⟩ : ∃ wb, w2.alloc (.cells (madeCells #[.int .u32 0] (K + 1)) 41) = wb := ⟨_, rfl⟩
            rw [hwb] at HBa HRW
            rw [hwb]
            clear hwb
            go_loopw [13] (fun v13 wr => ∃ (k : Nat) (f : Nat → Int), k ≤ K ∧ v13 = .int .i64 k ∧ Hid (Below w2.heap.size w2 wr) ∧ Hid (IRow wr L (K + 1) .u32 f) ∧ Hid (∀ r, r < k → f r = acc r)) (fun v13 _ => K - (intOf v13).toNat)
            case atStart => exact ⟨0, _, Nat.zero_le _, rfl, HBa, HRW, hid (fun i hi => absurd hi (Nat.not_lt_zero i))⟩
            case round =>
              clear HBa HRW wb
              obtain ⟨k, f, hk, rfl, HBa, HRW, HF⟩ := hrel
              by_cases hlt : k < K
              · obtain rfl := HR.out.ad (by omega)
                have c := cell_below (HB2.out.trans (HBa.out.mono HB2.out.size)) (Nat.le_refl _) (HR.out.at_ k hlt)
                obtain ⟨x, hxe⟩ : ∃ x, Hid (acc k = x) := ⟨_, rfl⟩
                rw [hxe.out] at c
                obtain ⟨c0, f0⟩ := HRW.out k (by omega)
                go_wp2_with fail
                go_roundw
                case rel => exact ⟨k + 1, _, by omega, by go_num, hid (HBa.out.setCell (by simp [hL.out]) _), hid (HRW.out.set (show k < K + 1 by omega) x), hid (fun r hr => by
                  by_cases e : r = k
                  · subst e; rw [upd_same, hxe.out]
                  · rw [upd_ne _ _ e]; exact HF.out r (by omega))⟩
                case measure => simp [intOf]; omega
              · obtain rfl : K = k := by omega
                clear hlt hk
                obtain ⟨c0, f0⟩ := HRW.out K (by omega)
                go_wp2_with fail
                have HR2 : Hid (Arg (wr.setCell ⟨L, K, none⟩ (.int .u32 a)) .u32 (some ⟨L, 0, none⟩) L 0 (K + 1) (ext acc K a)) := hid ⟨fun _ => rfl, fun r hr => by
                  have := (HRW.out.set (show K < K + 1 by omega) a r hr).1
                  rw [Nat.zero_add, this]
                  by_cases e : r = K
                  · subst e; simp [upd, ext]
                  · rw [upd_ne _ _ e, HF.out r (by omega)]; simp [ext, e]⟩
                have HB3 : Hid (Below w2.heap.size w2 (wr.setCell ⟨L, K, none⟩ (.int .u32 a))) := hid (HBa.out.setCell (by simp [hL.out]) _)
                obtain ⟨w3, hw3⟩ : ∃ w3, wr.setCell ⟨L, K, none⟩ (.int .u32 a) = w3 := ⟨_, rfl⟩
                rw [hw3] at HR2 HB3
                rw [hw3]
                clear hw3 HRW HF HBa c0 f0
                have HB4 := hid (HB2.out.trans (HB3.out.mono HB2.out.size))
                refine (buildGraph _ _ bP oP n capP L 0 (K + 1) (K + 1) s p (ext acc K a) _ (hid (HP.out.below HB4.out)) HR2 hn (by omega) hs1 hse HPB (hid (fun r hr => by
                  by_cases e : r = K
                  · subst e; simpa [ext] using has
                  · simpa [ext, e] using HA.out r (by omega)))).mono ?_
                rintro e w4 ⟨g, gT, gA, gR, F, E, Lt, Pr, rfl, hb4, hbt⟩
                have HBT := hid hbt
                have HB5 := hid (HB3.out.trans (hb4.mono HB3.out.size))
                clear hb4 hbt HB4 HR2 HB3
                go_wp2_with fail
                refine (zzEach i _ HBT hi hn (by omega) hs1 hse).mono ?_
                rintro e w5 ⟨a2, cap2, b2, rfl, hr2, hb6⟩
                have HB6 := hid (HB5.out.trans (hb6.mono HB5.out.size))
                rw [HXKY.out] at hr2
                rw [HXKY.out, hYL.out]
                have HRX := hid (HR1.out.below HB6.out)
                have HRY := hid hr2
                have HB := hid (HB2.out.trans (HB6.out.mono HB2.out.size))
                clear hr2 hb6 HB5 HB6 HBT HR1 HB2 HXKY
                go_wp2_with fail
                go_loopw [15, 16] (fun v15 v16 wr => ∃ (k m : Nat), k ≤ N ∧ Hid (m = min k nx) ∧ v15 = .int .i64 m ∧ v16 = .int .i64 k ∧ w5 = wr) (fun _ v16 _ => N - (intOf v16).toNat)
                case atStart => exact ⟨0, 0, Nat.zero_le _, hid (by omega), rfl, rfl, rfl⟩
                case round =>
                  obtain ⟨k, m, hk, hm, rfl, rfl, rfl⟩ := hrel
                  have hmn : m ≤ nx := by have := hm.out; omega
                  by_cases hlt : k < N
                  · obtain ⟨r, hr⟩ : ∃ r, (X ++ Y)[k]? = some r := ⟨_, List.getElem?_eq_getElem (by rw [hXL.out]; exact hlt)⟩
                    have c1 := HRX.out.at_ k r hr
                    obtain rfl := HRX.out.ad (by rw [hXL.out]; omega)
                    by_cases hkx : k < nx
                    · have hrX : r ∈ X := by
                        rw [List.getElem?_append_left (by rw [hnx.out]; exact hkx)] at hr
                        exact List.mem_of_getElem? hr
                      obtain ⟨hrK, hra⟩ := HX.out r hrX
                      obtain rfl := HR.out.ad (by omega)
                      have c2 := cell_below HB.out (Nat.le_refl _) (HR.out.at_ r hrK)
                      obtain ⟨x, hxe⟩ : ∃ x, Hid (acc r = x) := ⟨_, rfl⟩
                      rw [hxe.out] at c2 hra
                      clear hr hrX
                      go_wp2_with fail
                      go_roundw
                      case rel => exact ⟨k + 1, m + 1, by omega, hid (by have := hm.out; omega), by go_num, by go_num, by simp⟩
                      case measure => simp [intOf]; omega
                    · have hrY : r ∈ Y := by
                        rw [List.getElem?_append_right (by rw [hnx.out]; omega)] at hr
                        exact List.mem_of_getElem? hr
                      obtain ⟨hrK, hra⟩ := HY.out r hrY
                      obtain rfl := HR.out.ad (by omega)
                      have c2 := cell_below HB.out (Nat.le_refl _) (HR.out.at_ r hrK)
                      obtain ⟨x, hxe⟩ : ∃ x, Hid (acc r = x) := ⟨_, rfl⟩
                      rw [hxe.out] at c2 hra
                      clear hr hrY
                      go_wp2_with fail
                      go_roundw
                      case rel => exact ⟨k + 1, m, by omega, hid (by have := hm.out; omega), by go_num, by go_num, by simp⟩
                      case measure => simp [intOf]; omega
                  · obtain rfl : N = k := by omega
                    obtain rfl : nx = m := by have := hm.out; omega
                    clear hlt hm hmn hk
                    obtain rfl := HRY.out.ad (by rw [hYL.out]; omega)
                    go_wp2_with fail
                    go_loopw [18] (fun v18 wr => ∃ (k : Nat), k ≤ nx ∧ v18 = .int .i64 k ∧ Hid (Below w5.heap.size w5 wr)) (fun v18 _ => nx - (intOf v18).toNat)
                    case atStart => exact ⟨0, Nat.zero_le _, rfl, hid (Below.refl _ _)⟩
                    case round =>
                      obtain ⟨k, hk, rfl, HB7⟩ := hrel
                      by_cases hlt : k < nx
                      · obtain ⟨r, hr⟩ : ∃ r, X[k]? = some r := ⟨_, List.getElem?_eq_getElem (by rw [hnx.out]; exact hlt)⟩
                        have c1 := cell_below HB7.out (Nat.le_refl _) (HRX.out.at_ k r (by rw [List.getElem?_append_left (by rw [hnx.out]; exact hlt)]; exact hr))
                        have c2 := cell_below HB7.out (Nat.le_refl _) (HRY.out.at_ k r (by rw [List.getElem?_append_left (by rw [hnx.out]; exact hlt)]; exact hr))
                        obtain rfl := HRX.out.ad (by rw [hXL.out]; omega)
                        clear hr
                        go_wp2_with fail
                        go_quiet (fail)
                        go_wp2_with fail
                        go_roundw
                        case rel => exact ⟨k + 1, by omega, by go_num, hid (HB7.out.trans (drewN_below _ _ _))⟩
                        case measure => simp [intOf]; omega
                      · obtain rfl : nx = k := by omega
                        clear hlt hk
                        have c2 := cell_below HB7.out (Nat.le_refl _) (HRY.out.at_ nx K (by rw [List.getElem?_append_right (by rw [hnx.out]; omega), hnx.out]; simp))
                        go_wp2_with fail
                        clear c2
                        obtain ⟨w6, rfl⟩ : ∃ w6 : World, w6 = wr := ⟨_, rfl⟩
                        go_loopw [19] (fun v19 wr => ∃ (k : Nat), nx ≤ k ∧ k ≤ N ∧ v19 = .int .i64 k ∧ Hid (Below w5.heap.size w5 wr)) (fun v19 _ => N - (intOf v19).toNat)
                        case atStart => exact ⟨nx, Nat.le_refl _, hnN, rfl, HB7⟩
                        case round =>
                          clear HB7
                          obtain ⟨k, hkx, hk, rfl, HB7⟩ := hrel
                          by_cases hlt : k < N
                          · obtain ⟨r, hr⟩ : ∃ r, Y[k - nx]? = some r := ⟨_, List.getElem?_eq_getElem (by rw [hny.out]; have := hN.out; omega)⟩
                            have c1 := cell_below HB7.out (Nat.le_refl _) (HRX.out.at_ k r (by rw [List.getElem?_append_right (by rw [hnx.out]; exact hkx), hnx.out]; exact hr))
                            have c2 := cell_below HB7.out (Nat.le_refl _) (HRY.out.at_ (k + 1) r (by rw [List.getElem?_append_right (by rw [hnx.out]; omega), hnx.out, show k + 1 - nx = (k - nx) + 1 by omega, List.getElem?_cons_succ]; exact hr))
                            obtain rfl := HRX.out.ad (by rw [hXL.out]; omega)
                            clear hr
                            go_wp2_with fail
                            go_quiet (fail)
                            go_wp2_with fail
                            go_roundw
                            case rel => exact ⟨k + 1, by omega, by omega, by go_num, hid (HB7.out.trans (drewN_below _ _ _))⟩
                            case measure => simp [intOf]; omega
                          · obtain rfl : N = k := by omega
                            go_wp2_with fail
                            go_ret
                            exact ⟨rfl, HB.out.trans (HB7.out.mono HB.out.size)⟩
          · go_wp2_with fail
            go_ret
            exact ⟨rfl, Below.refl _ _⟩
end Go.Proofs.Qxb6613555a.Takes
