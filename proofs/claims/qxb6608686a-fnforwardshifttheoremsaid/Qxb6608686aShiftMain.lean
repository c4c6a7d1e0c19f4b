import Derived.Test.Qxb6608686aFftMain2
namespace Go.Proofs.Qxb6608686a.ShiftMain
open Go.RowKit Go.Proofs.Qxb6608686a.Kit Go.Proofs.Qxb6608686a.FftA Go.Proofs.Qxb6608686a.FftB Go.Proofs.Qxb6608686a.FftC Go.Proofs.Qxb6608686a.FftD Go.Proofs.Qxb6608686a.FftE Go.Proofs.Qxb6608686a.FftMain
open Go.Proofs.Qxb6608686a.Fft (cg sm rvr om wr st dft rot)

theorem free_below {w w' : World} {g n : Nat} (hb : Below w.heap.size w w') (hg : g < w.heap.size) (h : Free w g n) : Free w' g n := fun i hi => by rw [hb.cell hg, hb.frozen hg]; exact h i hi
theorem arr_below {w w' : World} {g n : Nat} {f : Nat → Int} (hb : Below w.heap.size w w') (hg : g < w.heap.size) (h : Arr w g n f) : Arr w' g n f := fun i hi => by rw [hb.cell hg]; exact h i hi
theorem arr_grown {w w' : World} {g g' n : Nat} {f : Nat → Int} (hb : w.grownBy w' (some g')) (hg : g ≠ g') (h : Arr w g n f) : Arr w' g n f := fun i hi => hb.cell (h i hi) (by simp; exact hg)
theorem free_grown {w w' : World} {g g' n : Nat} (hb : w.grownBy w' (some g')) (hlt : g < w.heap.size) (hg : g ≠ g') (h : Free w g n) : Free w' g n := fun i hi => by
  have hk := hb.block g hlt (by simp; exact hg)
  rw [World.cell?_of_block (a := ⟨g, 0 + i, none⟩) hk, World.frozen?_of_block (a := ⟨g, 0 + i, none⟩) hk]; exact h i hi
theorem arr_drewN {w : World} {g n q : Nat} {f : Nat → Int} (h : Arr w g n f) : Arr (w.drewN q) g n f := h
theorem rot_bd {z : Nat → Int} {n : Nat} (hz : ∀ i, i < n → 0 ≤ z i ∧ z i < Fft.P) (h0 : 0 < n) : ∀ i, i < n → 0 ≤ rot z n i ∧ rot z n i < Fft.P := fun i hi => by
  unfold rot
  split
  · exact hz _ (by omega)
  · exact hz _ (by omega)
theorem sum_next {z : Nat → Int} {J : Nat} {Sv v : Int} (hS : Sv = sm J z % Fft.P) (hv : z J = v) : aa Sv v = sm (J + 1) z % Fft.P := by
  subst hv
  have h1 : cg Sv (sm J z) := by rw [hS]; exact Fft.cg.mod _
  exact (h1.add (cg.refl _)).emod
theorem first_cell {w : World} {g n b : Nat} {z : Nat → Int} (h : Arr w g n (st z b b)) (hN : n = 2 ^ b) : w.cell? ⟨g, 0, none⟩ = some (.int .u32 (sm n z % Fft.P)) := by
  have hp : 0 < 2 ^ b := Nat.pow_pos (by omega)
  have := h 0 (by omega)
  have e := Fft.st_dft z b 0 hp
  rw [Fft.rvr_zero, Fft.dft_zero] at e
  rw [this, e, hN]
theorem dft_cell {w : World} {g n b K : Nat} {z : Nat → Int} (h : Arr w g n (st z b b)) (hN : n = 2 ^ b) (hK : K < n) : w.cell? ⟨g, rvr K b, none⟩ = some (.int .u32 (dft z b K)) := by
  have := h (rvr K b) (by rw [hN]; exact Fft.rvr_lt K b)
  rwa [Fft.st_dft z b K (by omega)] at this
theorem rot_mm {z : Nat → Int} {n b K : Nat} {W : Int} (hN : n = 2 ^ b) (hb : b ≤ 12) (hW : W = om n ^ K % Fft.P) : dft (rot z n) b K = mm W (dft z b K) := by
  rw [hW, hN]; exact Fft.dft_rot z b K (by omega)

set_option maxRecDepth 4000 in
set_option maxHeartbeats 1000000 in
theorem walk_pow (n b bx off cap : Nat) (z : Nat → Int) (w : World) (hb : b ≤ 12) (HN : Hid (n = 2 ^ b)) (hn : n ≤ 4096) (h1 : 0 < n) (hbits : bits .and .i64 (n : Int) ((n : Int) - 1) = 0)
    (HZ : Hid (∀ i, i < n → w.cell? ⟨bx, off + i, none⟩ = some (.int .u32 (z i)))) (HZ0 : Hid (∀ i, 0 ≤ z i ∧ z i ≤ 4294967295)) :
    Calls Try.prog 4 #[.slice (some ⟨bx, off, none⟩) n cap] w fun e w' => e = .returned (.bool true) ∧ Below w.heap.size w w' := by
  go_enter Try.func4, Try.ntmps4
  go_wp2_with (go_at_call 17; refine (bytes17 _ _ _ _ hn).mono ?_; rintro e w' ⟨rfl, rfl⟩)
  go_loop [4] (fun i => ∃ k : Nat, k ≤ n ∧ i = .int .i64 k ∧ Hid (∀ j, j < k → z j < 2013265921)) (fun i => n - (intOf i).toNat)
  case atStart => exact ⟨0, Nat.zero_le _, rfl, hid (fun j hj => absurd hj (Nat.not_lt_zero _))⟩
  case round =>
    obtain ⟨k, hk, rfl, HK⟩ := hrel
    by_cases hlt : k < n
    · obtain ⟨v, HV⟩ : ∃ v, Hid (z k = v) := ⟨_, hid rfl⟩
      have r1 : w.cell? ⟨bx, off + k, none⟩ = some (.int .u32 v) := by rw [← HV.out]; exact HZ.out k hlt
      obtain ⟨v0, v1⟩ : 0 ≤ v ∧ v ≤ 4294967295 := by rw [← HV.out]; exact HZ0.out k
      by_cases hv : v < 2013265921
      · go_wp2
        go_round
        case rel => exact ⟨k + 1, by omega, by go_num, hid (fun j hj => by
          rcases Nat.lt_succ_iff_lt_or_eq.1 hj with h | rfl
          · exact HK.out j h
          · rw [HV.out]; exact hv)⟩
        case measure => simp [intOf]; omega
      · go_wp2
        go_ret
        exact ⟨rfl, Below.refl _ _⟩
    · obtain rfl : n = k := by omega
      clear hlt hk
      go_wp2_with (at_make; refine wpList_make_at rfl _ _ _ rfl 24 _ 1 4 Try.underlying22 info24 _ _ _ _ n n rfl rfl rfl rfl (Nat.le_refl _) (by omega) (by omega) ?_)
      go_loopw [7] (fun i wr => ∃ k : Nat, k ≤ n ∧ i = .int .i64 k ∧ Below w.heap.size w wr ∧ w.heap.size + 1 < wr.heap.size ∧ Hid (Free wr w.heap.size n) ∧ Hid (Free wr (w.heap.size + 1) n) ∧ Hid (Arr wr w.heap.size k z)) (fun i _ => n - (intOf i).toNat)
      case atStart => exact ⟨0, Nat.zero_le _, rfl, ((Below.refl _ _).alloc (Nat.le_refl _) _).alloc (by simp) _, by simp, hid (World.there_alloc (Free.made _ _ _ _ (by simp [size_madeCells])) _), hid (by
        have := Free.made (w.alloc (.cells (madeCells #[.int .u32 0] n) 24)) (madeCells #[.int .u32 0] n) 24 n (by simp [size_madeCells])
        rwa [World.size_alloc] at this), hid (fun j hj => absurd hj (Nat.not_lt_zero _))⟩
      case round =>
        obtain ⟨k, hk, rfl, hB, hsz, HF, HF2, HA⟩ := hrel
        by_cases hlt : k < n
        · obtain ⟨v, HV⟩ : ∃ v, Hid (z k = v) := ⟨_, hid rfl⟩
          have r1 : wr.cell? ⟨bx, off + k, none⟩ = some (.int .u32 v) := by
            rw [← HV.out]
            have := HZ.out k hlt
            rw [hB.cell (World.block_lt_of_cell? w _ this)]; exact this
          have f1 : wr.frozen? ⟨w.heap.size, k, none⟩ = false := HF.out.unfrozen hlt
          obtain ⟨u, hu⟩ := HF.out.cell hlt
          go_wp2
          go_roundw
          case rel => exact ⟨k + 1, by omega, by go_num, hB.setCell (Nat.le_refl _) _, by rw [World.size_setCell]; exact hsz, hid (HF.out.set _ _ _), hid (HF2.out.set _ _ _), hid (fun j hj => by
            rcases Nat.lt_succ_iff_lt_or_eq.1 hj with h | rfl
            · rw [set_other (by right; omega)]; exact HA.out j h
            · rw [set_same hu, HV.out])⟩
          case measure => simp [intOf]; omega
        · obtain rfl : n = k := by omega
          clear hlt hk
          obtain ⟨wo, rfl⟩ : ∃ wo : World, wo = wr := ⟨_, rfl⟩
          obtain ⟨v, HV⟩ : ∃ v, Hid (z (n - 1) = v) := ⟨_, hid rfl⟩
          have r1 : wo.cell? ⟨bx, off + (n - 1), none⟩ = some (.int .u32 v) := by
            rw [← HV.out]
            have := HZ.out (n - 1) (by omega)
            rw [hB.cell (World.block_lt_of_cell? w _ this)]; exact this
          have f1 : wo.frozen? ⟨w.heap.size + 1, 0, none⟩ = false := HF2.out.unfrozen h1
          obtain ⟨u, hu⟩ := HF2.out.cell h1
          go_wp2
          clear r1 f1
          have HBs : Hid (Below w.heap.size w (wo.setCell ⟨w.heap.size + 1, 0, none⟩ (.int .u32 v))) := hid (hB.setCell (by simp) _)
          have HC1 : Hid (Arr (wo.setCell ⟨w.heap.size + 1, 0, none⟩ (.int .u32 v)) (w.heap.size + 1) 1 (rot z n)) := hid (fun j hj => by
            obtain rfl : j = 0 := by omega
            rw [set_same hu, ← HV.out]; rfl)
          have HA1 : Hid (Arr (wo.setCell ⟨w.heap.size + 1, 0, none⟩ (.int .u32 v)) w.heap.size n z) := hid (fun j hj => by rw [set_other (by left; omega)]; exact HA.out j hj)
          have HF1 := hid (HF.out.set (w.heap.size + 1) 0 (.int .u32 v))
          have HF21 := hid (HF2.out.set (w.heap.size + 1) 0 (.int .u32 v))
          have hsz1 : w.heap.size + 1 < (wo.setCell ⟨w.heap.size + 1, 0, none⟩ (.int .u32 v)).heap.size := by rw [World.size_setCell]; exact hsz
          clear hu HA HF HF2 hB hsz
          go_loopw [8] (fun i wr => ∃ k : Nat, 1 ≤ k ∧ k ≤ n ∧ i = .int .i64 k ∧ Hid (Below w.heap.size w wr) ∧ w.heap.size + 1 < wr.heap.size ∧ Hid (Free wr w.heap.size n) ∧ Hid (Free wr (w.heap.size + 1) n) ∧ Hid (Arr wr w.heap.size n z) ∧ Hid (Arr wr (w.heap.size + 1) k (rot z n))) (fun i _ => n - (intOf i).toNat)
          case atStart => exact ⟨1, by omega, by omega, rfl, HBs, hsz1, HF1, HF21, HA1, HC1⟩
          case round =>
            clear HBs hsz1 HF1 HF21 HA1 HC1 HV
            obtain ⟨k, hk1, hk, rfl, HB, hsz, HF, HF2, HA, HC⟩ := hrel
            by_cases hlt : k < n
            · obtain ⟨x, HX⟩ : ∃ x, Hid (z (k - 1) = x) := ⟨_, hid rfl⟩
              have r1 : wr.cell? ⟨bx, off + (k - 1), none⟩ = some (.int .u32 x) := by
                rw [← HX.out]
                have := HZ.out (k - 1) (by omega)
                rw [HB.out.cell (World.block_lt_of_cell? w _ this)]; exact this
              have f1 : wr.frozen? ⟨w.heap.size + 1, k, none⟩ = false := HF2.out.unfrozen hlt
              obtain ⟨u, hu⟩ := HF2.out.cell hlt
              go_wp2
              go_roundw
              case rel => exact ⟨k + 1, by omega, by omega, by go_num, hid (HB.out.setCell (by simp) _), by rw [World.size_setCell]; exact hsz, hid (HF.out.set _ _ _), hid (HF2.out.set _ _ _), hid (fun j hj => by rw [set_other (by left; omega)]; exact HA.out j hj), hid (fun j hj => by
                rcases Nat.lt_succ_iff_lt_or_eq.1 hj with h | rfl
                · rw [set_other (by right; omega)]; exact HC.out j h
                · rw [set_same hu, ← HX.out, rot, if_neg (by omega)])⟩
              case measure => simp [intOf]; omega
            · obtain rfl : n = k := by omega
              clear hlt hk
              obtain ⟨wq, rfl⟩ : ∃ wq : World, wq = wr := ⟨_, rfl⟩
              go_wp2_with fail
              refine (roots_any n b _ hb HN hn).mono ?_
              rintro e w3 ⟨rfl, hb3, hs3, hR3, _⟩
              have HA3 := hid (arr_below hb3 (by omega) HA.out)
              have HC3 := hid (arr_below hb3 hsz HC.out)
              have HF3 := hid (free_below hb3 (by omega) HF.out)
              have HG3 := hid (free_below hb3 hsz HF2.out)
              have HB3 := hid (chain HB.out hb3)
              have HR3 := hid hR3
              have hsz3 : w.heap.size + 1 < w3.heap.size := by omega
              have hszq : w.heap.size + 1 < wq.heap.size := hsz
              have HNE : Hid (wq.heap.size ≠ w.heap.size) := hid (by omega)
              have HNE2 : Hid (wq.heap.size ≠ w.heap.size + 1) := hid (by omega)
              have HZB : Hid (∀ i, i < n → 0 ≤ z i ∧ z i < Fft.P) := hid (fun i hi => ⟨(HZ0.out i).1, HK.out i hi⟩)
              have HRB := hid (rot_bd HZB.out h1)
              clear hb3 hs3 hR3 HF HF2 HA HC HB
              go_wp2_with fail
              refine (zzforward_any n b w.heap.size wq.heap.size z w3 hb HN hn HZB HNE (by omega) HR3 HA3 HF3).mono ?_
              rintro e w4 ⟨rfl, hfs⟩
              have HB4 : Hid (Below w.heap.size w w4) := hid (HB3.out.grown hfs.grown (by omega) (fun k hk => by simp at hk; omega))
              have HA4 := hid hfs.arr
              have HR4 := hid hfs.roots
              have HC4 := hid (arr_grown hfs.grown (by omega) HC3.out)
              have HG4 := hid (free_grown hfs.grown (by omega) (by omega) HG3.out)
              have hsz4 : w.heap.size + 1 < w4.heap.size := by have := hfs.grown.size; omega
              clear hfs HA3 HF3 HB3 HR3 HNE HC3 HG3 hsz3
              go_wp2_with fail
              refine (zzforward_any n b (w.heap.size + 1) wq.heap.size (rot z n) w4 hb HN hn HRB HNE2 hsz4 HR4 HC4 HG4).mono ?_
              rintro e w5 ⟨rfl, hfs⟩
              have HB5 : Hid (Below w.heap.size w w5) := hid (HB4.out.grown hfs.grown (by omega) (fun k hk => by simp at hk; omega))
              have HC5 := hid hfs.arr
              have HA5 := hid (arr_grown hfs.grown (by omega) HA4.out)
              clear hfs HA4 HR4 HC4 HG4 hsz4 HB4 HNE2
              have HAB : Hid (∀ i, i < n → w5.cell? ⟨bx, off + i, none⟩ = some (.int .u32 (z i))) := hid (fun i hi => by
                have := HZ.out i hi
                rw [HB5.out.cell (World.block_lt_of_cell? w _ this)]; exact this)
              go_wp2_with fail
              go_loop [10, 11] (fun sv c => ∃ (J : Nat) (Sv : Int), J ≤ n ∧ c = .int .i64 J ∧ sv = .int .u32 Sv ∧ 0 ≤ Sv ∧ Sv < 2013265921 ∧ Hid (Sv = sm J z % Fft.P)) (fun _ c => n - (intOf c).toNat)
              case atStart => exact ⟨0, 0, Nat.zero_le _, rfl, rfl, by omega, by omega, hid rfl⟩
              case round =>
                obtain ⟨J, Sv, hJ, rfl, rfl, s0, s1, HS⟩ := hrel
                by_cases hJn : J < n
                · obtain ⟨x, HX⟩ : ∃ x, Hid (z J = x) := ⟨_, hid rfl⟩
                  have r1 : w5.cell? ⟨bx, off + J, none⟩ = some (.int .u32 x) := by rw [← HX.out]; exact HAB.out J hJn
                  obtain ⟨x0, x1⟩ : 0 ≤ x ∧ x ≤ 4294967295 := by rw [← HX.out]; exact HZ0.out J
                  go_wp2_with (go_at_call 14; refine (addP_any _ _ _ (by omega) (by omega) (by omega) (by omega)).mono ?_; rintro e w' ⟨rfl, rfl⟩)
                  go_round
                  case rel =>
                    have b1 := aa_bd Sv x
                    exact ⟨J + 1, aa Sv x, by omega, by go_num, rfl, b1.1, b1.2, hid (sum_next HS.out HX.out)⟩
                  case measure => simp [intOf]; omega
                · obtain rfl : n = J := by omega
                  have r1 : w5.cell? ⟨w.heap.size, 0, none⟩ = some (.int .u32 Sv) := by rw [HS.out]; exact first_cell HA5.out HN.out
                  go_wp2_with (first | (go_at_call 12; refine (omega_any _ _ hn).mono ?_; rintro e w' ⟨rfl, rfl⟩) | (go_at_call 13; refine (log2_any n b _ hb HN).mono ?_; rintro e w' ⟨rfl, rfl⟩))
                  clear r1 hJ s0 s1 HS hJn
                  obtain ⟨o0, o1⟩ := om_lt n
                  go_loopw [14, 15] (fun wk c wr => ∃ (K : Nat) (W : Int), K ≤ n ∧ c = .int .i64 K ∧ wk = .int .u32 W ∧ 0 ≤ W ∧ W < 2013265921 ∧ Hid (W = om n ^ K % Fft.P) ∧ Hid (Below w.heap.size w wr) ∧ Hid (Arr wr w.heap.size n (st z b b)) ∧ Hid (Arr wr (w.heap.size + 1) n (st (rot z n) b b))) (fun _ c _ => n - (intOf c).toNat)
                  case atStart => exact ⟨0, 1, Nat.zero_le _, rfl, rfl, by omega, by omega, hid (by rw [Int.pow_zero]; rfl), HB5, HA5, HC5⟩
                  case round =>
                    clear HB5 HA5 HC5
                    obtain ⟨K, W, hK, rfl, rfl, hW0, hW1, HW, HB5, HA5, HC5⟩ := hrel
                    by_cases hKn : K < n
                    · obtain ⟨RV, HRV⟩ : ∃ RV, Hid (rvr K b = RV) := ⟨_, hid rfl⟩
                      have hRV : RV < n := by rw [← HRV.out, HN.out]; exact Fft.rvr_lt K b
                      obtain ⟨D, HD⟩ : ∃ D, Hid (dft z b K = D) := ⟨_, hid rfl⟩
                      obtain ⟨d0, d1⟩ : 0 ≤ D ∧ D < 2013265921 := by rw [← HD.out]; exact Fft.mod_lt _
                      have r1 : wr.cell? ⟨w.heap.size, RV, none⟩ = some (.int .u32 D) := by rw [← HRV.out, ← HD.out]; exact dft_cell HA5.out HN.out hKn
                      have r2 : wr.cell? ⟨w.heap.size + 1, RV, none⟩ = some (.int .u32 (mm W D)) := by rw [← HRV.out, ← HD.out, ← rot_mm HN.out hb HW.out]; exact dft_cell HC5.out HN.out hKn
                      go_wp2_with (go_at_call 16; refine (rev_to K b RV _ hb (by omega) HRV).mono ?_; rintro e w' ⟨rfl, rfl⟩)
                      go_quiet ((go_at_call 15; exact Calls.quiet_of_same ((mulP_any _ _ _ (by omega) (by omega) (by omega) (by omega)).mono fun _ _ ⟨he, hw⟩ => ⟨he, hw.symm⟩)))
                      go_wp2_with (go_at_call 15; refine (mulP_any _ _ _ (by omega) (by omega) (by omega) (by omega)).mono ?_; rintro e w' ⟨rfl, rfl⟩)
                      go_roundw
                      case rel =>
                        have b2 := mm_bd W (om n)
                        exact ⟨K + 1, mm W (om n), by omega, by go_num, rfl, b2.1, b2.2, hid (by rw [HW.out]; exact pow_step (om n) K), hid (below_drewN HB5.out _), hid (arr_drewN HA5.out), hid (arr_drewN HC5.out)⟩
                      case measure => simp [intOf]; omega
                    · go_wp2_with fail
                      go_ret
                      exact ⟨rfl, HB5.out⟩
end Go.Proofs.Qxb6608686a.ShiftMain
