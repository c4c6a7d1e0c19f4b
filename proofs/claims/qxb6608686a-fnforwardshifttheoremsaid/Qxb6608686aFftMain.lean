import Derived.Test.Qxb6608686aFftE
namespace Go.Proofs.Qxb6608686a.FftMain
open Go.RowKit Go.Proofs.Qxb6608686a.Kit Go.Proofs.Qxb6608686a.FftA Go.Proofs.Qxb6608686a.FftB Go.Proofs.Qxb6608686a.FftC Go.Proofs.Qxb6608686a.FftD Go.Proofs.Qxb6608686a.FftE
open Go.Proofs.Qxb6608686a.Fft (cg sm rvr om wr st dft)

/-- Two steps of 'Below' from the call's head on. -/
theorem chain {w w1 w2 : World} (h1 : Below w.heap.size w w1) (h2 : Below w1.heap.size w1 w2) : Below w.heap.size w w2 := h1.trans (h2.mono h1.size)

theorem om_lt (n : Nat) : 0 ≤ om n ∧ om n < 2013265921 := Fft.om_bd n
theorem sum_step {z : Nat → Int} {n K J : Nat} {Sv Pv v : Int} (hS : Sv = sm J (fun i => z i * om n ^ (i * K)) % Fft.P) (hP : Pv = om n ^ (J * K) % Fft.P) (hv : z J = v) :
    aa Sv (mm v Pv) = sm (J + 1) (fun i => z i * om n ^ (i * K)) % Fft.P := by
  have h1 : cg Sv (sm J (fun i => z i * om n ^ (i * K))) := by rw [hS]; exact Fft.cg.mod _
  have h2 : cg (mm v Pv) (z J * om n ^ (J * K)) := by
    rw [hv, hP]
    exact (mm_cg _ _).trans ((cg.refl v).mul (Fft.cg.mod _))
  exact (h1.add h2).emod
theorem pw_step {n K J : Nat} {Pv W : Int} (hP : Pv = om n ^ (J * K) % Fft.P) (hW : W = om n ^ K % Fft.P) : mm Pv W = om n ^ ((J + 1) * K) % Fft.P := by
  rw [Nat.add_mul, Nat.one_mul, Int.pow_add, hP, hW]
  exact ((Fft.cg.mod _).mul (Fft.cg.mod _)).emod
theorem rev_to (k b R : Nat) (w : World) (hb : b ≤ 12) (hk : k ≤ 4096) (hR : Hid (rvr k b = R)) : Calls Try.prog 16 #[.int .i64 k, .int .i64 b] w fun e w' => e = .returned (.int .i64 (R : Nat)) ∧ w = w' :=
  (rev_any k b w hb hk).mono fun _ _ ⟨he, hw⟩ => ⟨he.trans (ret_int (by rw [hR.out])), hw⟩
theorem fin_cell {w : World} {g n b K : Nat} {z : Nat → Int} (h : Arr w g n (st z b b)) (hN : n = 2 ^ b) (hK : K < n) : w.cell? ⟨g, rvr K b, none⟩ = some (.int .u32 (sm n (fun i => z i * om n ^ (i * K)) % Fft.P)) := by
  have := h (rvr K b) (by rw [hN]; exact Fft.rvr_lt K b)
  rw [Fft.st_dft z b K (by omega)] at this
  rw [this, dft, hN]

set_option maxRecDepth 4000 in
set_option maxHeartbeats 1000000 in
theorem walk_pow (n b bx off cap : Nat) (z : Nat → Int) (w : World) (hb : b ≤ 12) (HN : Hid (n = 2 ^ b)) (hn : n ≤ 4096) (h1 : 0 < n) (hbits : bits .and .i64 (n : Int) ((n : Int) - 1) = 0)
    (HZ : Hid (∀ i, i < n → w.cell? ⟨bx, off + i, none⟩ = some (.int .u32 (z i)))) (HZ0 : Hid (∀ i, 0 ≤ z i ∧ z i ≤ 4294967295)) :
    Calls Try.prog 3 #[.slice (some ⟨bx, off, none⟩) n cap] w fun e w' => e = .returned (.bool true) ∧ Below w.heap.size w w' := by
  go_enter Try.func3, Try.ntmps3
  go_wp2_with (go_at_call 9; refine (bytes9 _ _ _ _ hn).mono ?_; rintro e w' ⟨rfl, rfl⟩)
  go_loop [4] (fun i => ∃ k : Nat, k ≤ n ∧ i = .int .i64 k ∧ Hid (∀ j, j < k → z j < 2013265921)) (fun i => n - (intOf i).toNat)
  case atStart => exact ⟨0, Nat.zero_le _, rfl, hid (fun j hj => absurd hj (Nat.not_lt_zero _))⟩
  case round =>
    obtain ⟨k, hk, rfl, HK⟩ := hrel
    by_cases hlt : k < n
    · obtain ⟨v, HV⟩ : ∃ v, Hid (z k = v) := ⟨_, hid rfl⟩
      have r1 : w.cell? ⟨bx, off + k, none⟩ = some (.int .u32 v) := by rw [← HV.out]; exact HZ.out k hlt
      obtain ⟨v0, v1⟩ : 0 ≤ v ∧ v ≤ 4294967295 := by rw [← HV.out]; exact HZ0.out k
      by_cases hv : v < 2013265921
      · go_wp2
        go_round
        case rel => exact ⟨k + 1, by omega, by go_num, hid (fun j hj => by
          rcases Nat.lt_succ_iff_lt_or_eq.1 hj with h | rfl
          · exact HK.out j h
          · rw [HV.out]; exact hv)⟩
        case measure => simp [intOf]; omega
      · go_wp2
        go_ret
        exact ⟨rfl, Below.refl _ _⟩
    · obtain rfl : n = k := by omega
      clear hlt hk
      go_wp2_with (at_make; refine wpList_make_at rfl _ _ _ rfl 24 _ 1 4 Try.underlying22 info24 _ _ _ _ n n rfl rfl rfl rfl (Nat.le_refl _) (by omega) (by omega) ?_)
      go_loopw [6] (fun i wr => ∃ k : Nat, k ≤ n ∧ i = .int .i64 k ∧ Below w.heap.size w wr ∧ w.heap.size < wr.heap.size ∧ Hid (Free wr w.heap.size n) ∧ Hid (Arr wr w.heap.size k z)) (fun i _ => n - (intOf i).toNat)
      case atStart => exact ⟨0, Nat.zero_le _, rfl, (Below.refl _ _).alloc (Nat.le_refl _) _, by simp, hid (Free.made _ _ _ _ (by simp [size_madeCells])), hid (fun j hj => absurd hj (Nat.not_lt_zero _))⟩
      case round =>
        obtain ⟨k, hk, rfl, hB, hsz, HF, HA⟩ := hrel
        by_cases hlt : k < n
        · obtain ⟨v, HV⟩ : ∃ v, Hid (z k = v) := ⟨_, hid rfl⟩
          have r1 : wr.cell? ⟨bx, off + k, none⟩ = some (.int .u32 v) := by
            rw [← HV.out]
            have := HZ.out k hlt
            rw [hB.cell (World.block_lt_of_cell? w _ this)]; exact this
          have f1 : wr.frozen? ⟨w.heap.size, k, none⟩ = false := HF.out.unfrozen hlt
          obtain ⟨u, hu⟩ := HF.out.cell hlt
          go_wp2
          go_roundw
          case rel => exact ⟨k + 1, by omega, by go_num, hB.setCell (Nat.le_refl _) _, by rw [World.size_setCell]; exact hsz, hid (HF.out.set _ _ _), hid (fun j hj => by
            rcases Nat.lt_succ_iff_lt_or_eq.1 hj with h | rfl
            · rw [set_other (by right; omega)]; exact HA.out j h
            · rw [set_same hu, HV.out])⟩
          case measure => simp [intOf]; omega
        · obtain rfl : n = k := by omega
          clear hlt hk
          obtain ⟨wo, rfl⟩ : ∃ wo : World, wo = wr := ⟨_, rfl⟩
          go_wp2_with fail
          refine (roots_any n b _ hb HN hn).mono ?_
          rintro e w3 ⟨rfl, hb3, hs3, hR3, hF3⟩
          have HA3 : Hid (Arr w3 w.heap.size n z) := hid (fun i hi => by rw [hb3.cell hsz]; exact HA.out i hi)
          have HF3 : Hid (Free w3 w.heap.size n) := hid (fun i hi => by rw [hb3.cell hsz, hb3.frozen hsz]; exact HF.out i hi)
          have HB3 := hid (chain hB hb3)
          have HR3 := hid hR3
          have hsz3 : w.heap.size < w3.heap.size := by omega
          have HNE : Hid (wo.heap.size ≠ w.heap.size) := hid (by omega)
          have HZB : Hid (∀ i, i < n → 0 ≤ z i ∧ z i < Fft.P) := hid (fun i hi => ⟨(HZ0.out i).1, HK.out i hi⟩)
          clear hb3 hs3 hR3 hF3 HF HA hB
          go_wp2_with fail
          refine (zzforward_any n b w.heap.size wo.heap.size z w3 hb HN hn HZB HNE hsz3 HR3 HA3 HF3).mono ?_
          rintro e w4 ⟨rfl, hfs⟩
          have HB4 : Hid (Below w.heap.size w w4) := hid (HB3.out.grown hfs.grown (by omega) (fun k hk => by simp at hk; omega))
          have HA4 := hid hfs.arr
          clear hfs HA3 HF3 HB3 HR3 HNE
          go_wp2_with (first | (go_at_call 12; refine (omega_any _ _ hn).mono ?_; rintro e w' ⟨rfl, rfl⟩) | (go_at_call 13; refine (log2_any n b _ hb HN).mono ?_; rintro e w' ⟨rfl, rfl⟩))
          obtain ⟨o0, o1⟩ := om_lt n
          have hab : ∀ i, i < n → w4.cell? ⟨bx, off + i, none⟩ = some (.int .u32 (z i)) := fun i hi => by
            have := HZ.out i hi
            rw [HB4.out.cell (World.block_lt_of_cell? w _ this)]; exact this
          have HAB := hid hab
          clear hab
          go_loop [9, 10] (fun wk c => ∃ (K : Nat) (W : Int), K ≤ n ∧ c = .int .i64 K ∧ wk = .int .u32 W ∧ 0 ≤ W ∧ W < 2013265921 ∧ Hid (W = om n ^ K % Fft.P)) (fun _ c => n - (intOf c).toNat)
          case atStart => exact ⟨0, 1, Nat.zero_le _, rfl, rfl, by omega, by omega, hid (by rw [Int.pow_zero]; rfl)⟩
          case round =>
            obtain ⟨K, W, hK, rfl, rfl, hW0, hW1, HW⟩ := hrel
            by_cases hKn : K < n
            · go_wp2_with fail
              go_loop [11, 12, 13] (fun sv pv c => ∃ (J : Nat) (Sv Pv : Int), J ≤ n ∧ c = .int .i64 J ∧ sv = .int .u32 Sv ∧ pv = .int .u32 Pv ∧ 0 ≤ Sv ∧ Sv < 2013265921 ∧ 0 ≤ Pv ∧ Pv < 2013265921 ∧ Hid (Sv = sm J (fun i => z i * om n ^ (i * K)) % Fft.P) ∧ Hid (Pv = om n ^ (J * K) % Fft.P)) (fun _ _ c => n - (intOf c).toNat)
              case atStart => exact ⟨0, 0, 1, Nat.zero_le _, rfl, rfl, rfl, by omega, by omega, by omega, by omega, hid rfl, hid (by rw [Nat.zero_mul, Int.pow_zero]; rfl)⟩
              case round =>
                obtain ⟨J, Sv, Pv, hJ, rfl, rfl, rfl, s0, s1, p0, p1, HS, HP⟩ := hrel
                by_cases hJn : J < n
                · obtain ⟨v, HV⟩ : ∃ v, Hid (z J = v) := ⟨_, hid rfl⟩
                  have r1 : w4.cell? ⟨bx, off + J, none⟩ = some (.int .u32 v) := by rw [← HV.out]; exact HAB.out J hJn
                  obtain ⟨v0, v1⟩ : 0 ≤ v ∧ v ≤ 4294967295 := by rw [← HV.out]; exact HZ0.out J
                  obtain ⟨m0, m1⟩ := mm_bd v Pv
                  go_wp2_with (first | (go_at_call 15; refine (mulP_any _ _ _ (by omega) (by omega) (by omega) (by omega)).mono ?_; rintro e w' ⟨rfl, rfl⟩) | (go_at_call 14; refine (addP_any _ _ _ (by omega) (by omega) (by omega) (by omega)).mono ?_; rintro e w' ⟨rfl, rfl⟩))
                  go_round
                  case rel =>
                    have b1 := aa_bd Sv (mm v Pv)
                    have b2 := mm_bd Pv W
                    exact ⟨J + 1, aa Sv (mm v Pv), mm Pv W, by omega, by go_num, rfl, rfl, b1.1, b1.2, b2.1, b2.2, hid (sum_step HS.out HP.out HV.out), hid (pw_step HP.out HW.out)⟩
                  case measure => simp [intOf]; omega
                · obtain rfl : n = J := by omega
                  obtain ⟨RV, HRV⟩ : ∃ RV, Hid (rvr K b = RV) := ⟨_, hid rfl⟩
                  have hRV : RV < n := by rw [← HRV.out, HN.out]; exact Fft.rvr_lt K b
                  have r1 : w4.cell? ⟨w.heap.size, RV, none⟩ = some (.int .u32 Sv) := by rw [HS.out, ← HRV.out]; exact fin_cell HA4.out HN.out hKn
                  go_wp2_with (first | (go_at_call 16; refine (rev_to K b RV _ hb (by omega) HRV).mono ?_; rintro e w' ⟨rfl, rfl⟩) | (go_at_call 15; refine (mulP_any _ _ _ (by omega) (by omega) (by omega) (by omega)).mono ?_; rintro e w' ⟨rfl, rfl⟩))
                  go_round
                  case rel =>
                    have b2 := mm_bd W (om n)
                    exact ⟨K + 1, mm W (om n), by omega, by go_num, rfl, b2.1, b2.2, hid (by rw [HW.out]; exact pow_step (om n) K)⟩
                  case measure => simp [intOf]; omega
            · go_wp2_with fail
              go_ret
              exact ⟨rfl, HB4.out⟩
end Go.Proofs.Qxb6608686a.FftMain
