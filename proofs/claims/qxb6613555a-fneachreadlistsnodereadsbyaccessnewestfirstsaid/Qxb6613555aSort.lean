import Derived.Test.Qxb6613555aEach
import Derived.Test.Qxb6613555aPlainB
namespace Go.Proofs.Qxb6613555a.Sort
open Go.RowKit Go.Proofs.Qxb6613555a.Kit Go.Proofs.Qxb6613555a.GraphA Go.Proofs.Qxb6613555a.GraphB Go.Proofs.Qxb6613555a.Plain Go.Proofs.Qxb6613555a.Build Go.Proofs.Qxb6613555a.Each Go.Proofs.Qxb6613555a.PlainB

set_option linter.unusedVariables false

set_option maxHeartbeats 400000 in
theorem same (a1 a2 : Option Addr) (b1 b2 c1 c2 : Nat) (xs : List Nat) (w : World) (H1 : Hid (Res w a1 b1 xs)) (H2 : Hid (Res w a2 b2 xs)) (hl : xs.length ≤ 1048576) :
    Calls Try.prog 22 #[.slice a1 xs.length c1, .slice a2 xs.length c2] w fun e w' => e = .returned (.bool true) ∧ Below w.heap.size w w' := by
  obtain ⟨N, hN⟩ : ∃ N, Hid (xs.length = N) := ⟨_, rfl⟩
  rw [hN.out] at hl ⊢
  go_enter Try.func22, Try.ntmps22
  go_wp2_with fail
  go_loopw [5] (fun v5 wr => ∃ (k : Nat), k ≤ N ∧ v5 = .int .i64 k ∧ Hid (Below w.heap.size w wr)) (fun v5 _ => N - (intOf v5).toNat)
  case atStart => exact ⟨0, Nat.zero_le _, rfl, hid (Below.refl _ _)⟩
  case round =>
    obtain ⟨k, hk, rfl, HB⟩ := hrel
    by_cases hlt : k < N
    · obtain ⟨r, hr⟩ : ∃ r, xs[k]? = some r := ⟨_, List.getElem?_eq_getElem (by rw [hN.out]; exact hlt)⟩
      have c1 := cell_below HB.out (Nat.le_refl _) (H1.out.at_ k r hr)
      have c2 := cell_below HB.out (Nat.le_refl _) (H2.out.at_ k r hr)
      obtain rfl := H1.out.ad (by rw [hN.out]; omega)
      obtain rfl := H2.out.ad (by rw [hN.out]; omega)
      clear hr
      go_wp2_with fail
      go_quiet (fail)
      go_wp2_with fail
      go_roundw
      case rel => exact ⟨k + 1, by omega, by go_num, hid (HB.out.trans (drewN_below _ _ _))⟩
      case measure => simp [intOf]; omega
    · obtain rfl : N = k := by omega
      go_wp2_with fail
      go_ret
      exact ⟨rfl, HB.out⟩

set_option maxRecDepth 4000 in
set_option maxHeartbeats 1000000 in
theorem readsOf (aR : Option Addr) (bR oR K capR lo D hi : Nat) (acc : Nat → Nat) (w : World) (HR : Hid (Arg w .u32 aR bR oR K acc)) (hK : K ≤ 65536) (hhi : hi ≤ 65536) (HH : Hid (lo + D = hi)) (HAB : Hid (∀ r, r < K → acc r < 65536)) :
    Calls Try.prog 20 #[.slice aR K capR, .int .i64 lo, .int .i64 hi] w fun e w' => ∃ b, e = .returned (.slice (some ⟨b, 0, none⟩) (cat acc K lo D).length (cat acc K lo D).length) ∧ Res w' (some ⟨b, 0, none⟩) b (cat acc K lo D) ∧ Below w.heap.size w w' := by
  have hw : (hi : Int) - (lo : Int) = (D : Int) := by have := HH.out; omega
  have hD : D ≤ 65536 := by have := HH.out; omega
  have hlo : lo ≤ hi := by have := HH.out; omega
  go_enter Try.func20, Try.ntmps20
  go_wp2_with (at_make; refine wpList_make_at rfl (.tmp 19) (.tmp 19) 54 rfl 3 (.int .i64 0) 1 8 Try.underlying54 info3 _ _ _ _ (D + 1) (D + 1) rfl rfl (by omega) (by omega) (Nat.le_refl _) (by omega) (by omega) ?_)
  have HRW : Hid (IRow (w.alloc (.cells (madeCells #[.int .i64 0] (D + 1)) 3)) w.heap.size (D + 1) .i64 (fun _ => 0)) := hid (IRow.made w (D + 1) .i64 3)
  have HB0 : Hid (Below w.heap.size w (w.alloc (.cells (madeCells #[.int .i64 0] (D + 1)) 3))) := hid ((Below.refl _ _).alloc (Nat.le_refl _) _)
  have hC1 : w.heap.size < (w.alloc (.cells (madeCells #[.int .i64 0] (D + 1)) 3)).heap.size := by simp
  obtain ⟨C, hC⟩ : ∃ C, Hid (w.heap.size = C) := ⟨_, rfl⟩
  rw [hC.out] at HRW hC1
  rw [hC.out]
  obtain ⟨wb, hwb⟩ : ∃ wb, w.alloc (.cells (madeCells #[.int .i64 0] (D + 1)) 3) = wb := ⟨_, rfl⟩
  rw [hwb] at HRW HB0 hC1
  rw [hwb]
  clear hwb
  go_loopw [9] (fun v9 wr => ∃ (k : Nat) (f : Nat → Int), k ≤ K ∧ v9 = .int .i64 k ∧ Hid (Below w.heap.size w wr) ∧ C < wr.heap.size ∧ Hid (IRow wr C (D + 1) .i64 f) ∧ Hid (f 0 = 0) ∧ Hid (∀ j, j < D → f (j + 1) = ((rd acc k (lo + j)).length : Nat))) (fun v9 _ => K - (intOf v9).toNat)
  case atStart => exact ⟨0, _, Nat.zero_le _, rfl, HB0, hC1, HRW, hid rfl, hid (fun j hj => rfl)⟩
  case round =>
    clear HB0 HRW hC1 wb
    obtain ⟨k, f, hk, rfl, HB, hC1, HRW, HF0, HF⟩ := hrel
    by_cases hlt : k < K
    · obtain rfl := HR.out.ad (by omega)
      have c := cell_below HB.out (Nat.le_refl _) (HR.out.at_ k hlt)
      have hx := HAB.out k hlt
      obtain ⟨x, hxe⟩ : ∃ x, Hid (acc k = x) := ⟨_, rfl⟩
      rw [hxe.out] at c hx
      by_cases hin : lo ≤ x ∧ x < hi
      · obtain ⟨h1, h2⟩ := hin
        obtain ⟨j, hj⟩ : ∃ j, Hid (lo + j = x) := ⟨x - lo, hid (by omega)⟩
        have hjw : (x : Int) - (lo : Int) = (j : Int) := by have := hj.out; omega
        have hjD : j < D := by have := hj.out; have := HH.out; omega
        obtain ⟨c0, f0⟩ := HRW.out (j + 1) (by omega)
        have hfv := HF.out j hjD
        have hlen := rd_len (acc := acc) k (lo + j)
        obtain ⟨y, hy⟩ : ∃ y, Hid ((rd acc k (lo + j)).length = y) := ⟨_, rfl⟩
        rw [hfv, hy.out] at c0
        rw [hy.out] at hlen
        clear hfv
        go_wp2_with fail
        go_roundw
        case rel => exact ⟨k + 1, _, by omega, by go_num, hid (HB.out.setCell (by simp [hC.out]) _), by simpa using hC1, hid (HRW.out.set (show j + 1 < D + 1 by omega) ((y : Int) + 1)), hid (by rw [upd_ne _ _ (by omega)]; exact HF0.out), hid (fun i hi => by
          by_cases e : i = j
          · subst e; rw [upd_same, rd_hit (by rw [hxe.out, hj.out]), hy.out]; rfl
          · rw [upd_ne _ _ (by omega), rd_miss (by rw [hxe.out, ← hj.out]; omega)]; exact HF.out i hi)⟩
        case measure => simp [intOf]; omega
      · have hin' : ¬ ((lo : Int) ≤ (x : Int) ∧ (x : Int) < (hi : Int)) := by omega
        have HM : Hid (∀ j, j < D → acc k ≠ lo + j) := hid (fun j hj => by rw [hxe.out]; have := HH.out; omega)
        rcases (show x < lo ∨ (lo ≤ x ∧ hi ≤ x) by omega) with h1 | ⟨h1, h2⟩
        all_goals
          go_wp2_with fail
          go_roundw
          case rel => exact ⟨k + 1, f, by omega, by go_num, HB, hC1, HRW, HF0, hid (fun i hi => by rw [rd_miss (HM.out i hi)]; exact HF.out i hi)⟩
          case measure => simp [intOf]; omega
    · obtain rfl : K = k := by omega
      clear hlt hk
      go_wp2_with fail
      go_loopw [11] (fun v11 wr => ∃ (k : Nat) (f : Nat → Int), k ≤ D ∧ v11 = .int .i64 ((k : Int) + 1) ∧ Hid (Below w.heap.size w wr) ∧ C < wr.heap.size ∧ Hid (IRow wr C (D + 1) .i64 f) ∧ Hid (∀ j, j ≤ k → f j = (cl acc K lo j : Nat)) ∧ Hid (∀ j, k ≤ j → j < D → f (j + 1) = ((rd acc K (lo + j)).length : Nat))) (fun v11 _ => D + 1 - (intOf v11).toNat)
      case atStart => exact ⟨0, f, Nat.zero_le _, rfl, HB, hC1, HRW, hid (fun j hj => by rw [Nat.le_zero.1 hj, HF0.out]; rfl), hid (fun j _ hj => HF.out j hj)⟩
      case round =>
        clear HB hC1 HRW HF0 HF f
        obtain ⟨k, f, hk, rfl, HB, hC1, HRW, HF0, HF⟩ := hrel
        by_cases hlt : k < D
        · obtain ⟨c0, f0⟩ := HRW.out (k + 1) (by omega)
          obtain ⟨c1, _⟩ := HRW.out k (by omega)
          have hl1 := cat_len acc K lo k
          have hl2 := rd_len (acc := acc) K (lo + k)
          have hs := hid (cl_succ acc K lo k)
          rw [HF.out k (Nat.le_refl _) hlt] at c0
          rw [HF0.out k (Nat.le_refl _)] at c1
          change cl acc K lo k ≤ K at hl1
          obtain ⟨x, hx⟩ : ∃ x, Hid (cl acc K lo k = x) := ⟨_, rfl⟩
          obtain ⟨y, hy⟩ : ∃ y, Hid ((rd acc K (lo + k)).length = y) := ⟨_, rfl⟩
          rw [hx.out] at c1 hl1
          rw [hy.out] at c0 hl2
          have hle : ((k : Int) + 1 ≤ (D : Int)) := by omega
          go_wp2_with fail
          go_region
          go_wp2_with fail
          go_roundw
          case rel => exact ⟨k + 1, _, by omega, by go_num, hid (HB.out.setCell (by simp [hC.out]) _).drew, by simpa using hC1, hid ((HRW.out.set (show k + 1 < D + 1 by omega) ((y : Int) + x)).same rfl), hid (fun j hj => by
            by_cases e : j = k + 1
            · subst e; rw [upd_same, hs.out, hx.out, hy.out]; omega
            · rw [upd_ne _ _ e]; exact HF0.out j (by omega)), hid (fun j h1 h2 => by rw [upd_ne _ _ (by omega)]; exact HF.out j (by omega) h2)⟩
          case measure => simp [intOf]; omega
        · obtain rfl : D = k := by omega
          clear hlt hk HF
          have hle : ¬ ((D : Int) + 1 ≤ (D : Int)) := by omega
          have c0 := (HRW.out D (by omega)).1
          rw [HF0.out D (Nat.le_refl _)] at c0
          have hN1 : cl acc K lo D ≤ K := cat_len acc K lo D
          obtain ⟨N, hN⟩ : ∃ N, Hid (cl acc K lo D = N) := ⟨_, rfl⟩
          rw [hN.out] at c0 hN1
          obtain ⟨wa, rfl⟩ : ∃ wa : World, wa = wr := ⟨_, rfl⟩
          go_wp2_with (at_make; refine wpList_make_at rfl (.tmp 68) (.tmp 68) 46 rfl 21 (.int .i32 0) 1 4 Try.underlying46 info21 _ _ _ _ N N rfl rfl rfl rfl (Nat.le_refl _) (by omega) (by omega) ?_)
          clear c0
          have HO : Hid (IRow (wa.alloc (.cells (madeCells #[.int .i32 0] N) 21)) wa.heap.size N .i32 (fun _ => 0)) := hid (IRow.made wa N .i32 21)
          have HB0 : Hid (Below w.heap.size w (wa.alloc (.cells (madeCells #[.int .i32 0] N) 21))) := hid (HB.out.alloc HB.out.size _)
          have HRW0 : Hid (IRow (wa.alloc (.cells (madeCells #[.int .i32 0] N) 21)) C (D + 1) .i64 f) := hid (HRW.out.below ((Below.refl wa.heap.size wa).alloc (Nat.le_refl _) _) hC1)
          have hO0 : w.heap.size ≤ wa.heap.size := HB.out.size
          obtain ⟨O, hO⟩ : ∃ O, wa.heap.size = O := ⟨_, rfl⟩
          rw [hO] at HO hC1 hO0
          rw [hO]
          obtain ⟨wb, hwb⟩ : ∃ wb, wa.alloc (.cells (madeCells #[.int .i32 0] N) 21) = wb := ⟨_, rfl⟩
          rw [hwb] at HO HB0 HRW0
          rw [hwb]
          clear hwb hO HB HRW wa
          have hne : C ≠ O := by omega
          have hne' : ¬ O = C := by omega
          go_loopw [13] (fun v13 wr => ∃ (k : Nat) (f g : Nat → Int), k ≤ K ∧ v13 = .int .i64 ((k : Int) - 1) ∧ Hid (Below w.heap.size w wr) ∧ Hid (IRow wr C (D + 1) .i64 f) ∧ Hid (IRow wr O N .i32 g) ∧ Hid (Srt acc K lo D k f g)) (fun v13 _ => (intOf v13 + 1).toNat)
          case atStart => exact ⟨K, f, _, Nat.le_refl _, rfl, HB0, HRW0, HO, hid (good_start (fun j hj => HF0.out j (by omega)))⟩
          case round =>
            clear HB0 HRW0 HO HF0 f wb
            obtain ⟨k, f, g, hk, rfl, HB, HRW, HO, HG⟩ := hrel
            cases k with
            | zero =>
              go_wp2_with fail
              go_ret
              refine ⟨O, ?_, ⟨fun _ => rfl, fun j v hv => ?_⟩, HB.out⟩
              · have : (cat acc K lo D).length = N := hN.out
                rw [this]; rfl
              · have hj : j < N := by
                  have := (List.getElem?_eq_some_iff.1 hv).1
                  have h2 : (cat acc K lo D).length = N := hN.out
                  omega
                rw [(HO.out j hj).1, good_end HG.out j v hv]
            | succ k =>
              have hlt : k < K := hk
              have hk1 : ((k + 1 : Nat) : Int) - 1 = (k : Int) := by omega
              rw [hk1]
              obtain rfl := HR.out.ad (by omega)
              have c := cell_below HB.out (Nat.le_refl _) (HR.out.at_ k hlt)
              have hx := HAB.out k hlt
              obtain ⟨x, hxe⟩ : ∃ x, Hid (acc k = x) := ⟨_, rfl⟩
              rw [hxe.out] at c hx
              clear hk1
              by_cases hin : lo ≤ x ∧ x < hi
              · obtain ⟨h1, h2⟩ := hin
                obtain ⟨j, hj⟩ : ∃ j, Hid (lo + j = x) := ⟨x - lo, hid (by omega)⟩
                have hjw : (x : Int) - (lo : Int) = (j : Int) := by have := hj.out; omega
                have hjD : j < D := by have := hj.out; have := HH.out; omega
                obtain ⟨q, hq, hqN, hg⟩ := good_hit HG.out hlt hjD (by rw [hxe.out, hj.out])
                rw [hN.out] at hqN
                have HG2 := hid hg
                obtain ⟨c0, f0⟩ := HRW.out j (by omega)
                obtain ⟨c1, f1⟩ := HO.out q hqN
                rw [hq] at c0
                clear hg hq
                go_wp2_with fail
                go_roundw
                case rel => exact ⟨k, _, _, by omega, by go_num, hid ((HB.out.setCell (by simpa using hO0) _).setCell (by simp [hC.out]) _), hid ((HRW.out.other hne _).set (show j < D + 1 by omega) ((q : Int) + 1)), hid ((HO.out.set hqN k).other (Ne.symm hne) _), HG2⟩
                case measure => simp [intOf] <;> omega
              · have hin' : ¬ ((lo : Int) ≤ (x : Int) ∧ (x : Int) < (hi : Int)) := by omega
                have HG2 := hid (good_miss HG.out (by rw [hxe.out]; have := HH.out; omega))
                rcases (show x < lo ∨ (lo ≤ x ∧ hi ≤ x) by omega) with h1 | ⟨h1, h2⟩
                all_goals
                  go_wp2_with fail
                  go_roundw
                  case rel => exact ⟨k, f, g, by omega, by go_num, HB, HRW, HO, HG2⟩
                  case measure => simp [intOf] <;> omega
end Go.Proofs.Qxb6613555a.Sort
