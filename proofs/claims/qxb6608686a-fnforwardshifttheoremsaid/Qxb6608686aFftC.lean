import Derived.Test.Qxb6608686aFftB
import Derived.Deep.MidRow
namespace Go.Proofs.Qxb6608686a.FftC
open Go.RowKit Go.Proofs.Qxb6608686a.Kit Go.Proofs.Qxb6608686a.FftA Go.Proofs.Qxb6608686a.FftB
open Go.Proofs.Qxb6608686a.Fft (cg sm rvr om wr st)

theorem info24 : (Try.prog.info? 24).map (fun i => (i.zero, i.size, i.bytes)) = some (some (.int .u32 0), 1, 4) := by kernel_rfl

theorem wr_eq {h : Nat} : (31 : Int) ^ ((2013265920 : Int) / (2 * (h : Int))).toNat % Fft.P = wr h := by
  have e : ((2013265920 : Int) / (2 * (h : Int))).toNat = 2013265920 / (2 * h) := by
    have : (2013265920 : Int) / (2 * (h : Int)) = ((2013265920 / (2 * h) : Nat) : Int) := by rw [Int.natCast_ediv]; rfl
    rw [this]; rfl
  rw [e, wr]

/-- All n cells of block g are there and may be written. -/
def Free (w : World) (g n : Nat) : Prop := w.there g 0 n
theorem Free.cell {w : World} {g n i : Nat} (h : Free w g n) (hi : i < n) : ∃ v, w.cell? ⟨g, i, none⟩ = some v := by
  have := (h i hi).1
  rw [Nat.zero_add] at this
  exact Option.isSome_iff_exists.1 this
theorem Free.unfrozen {w : World} {g n i : Nat} (h : Free w g n) (hi : i < n) : w.frozen? ⟨g, i, none⟩ = false := by
  have := (h i hi).2
  rwa [Nat.zero_add] at this
theorem Free.set {w : World} {g n : Nat} (h : Free w g n) (g' o : Nat) (v : Value) : Free (w.setCell ⟨g', o, none⟩ v) g n := World.there_setCells (b := g') (o := o) (vs := [v]) h
theorem Free.made (w : World) (cs : Array Value) (t : TypeId) (n : Nat) (h : cs.size = n) : Free (w.alloc (.cells cs t)) w.heap.size n := fun j hj => by
  refine ⟨?_, World.frozen?_alloc_new w cs t _⟩
  rw [World.cell?_alloc_new]
  simp [show j < cs.size by omega]
theorem set_same {w : World} {g i : Nat} {v u : Value} (h : w.cell? ⟨g, i, none⟩ = some u) : (w.setCell ⟨g, i, none⟩ v).cell? ⟨g, i, none⟩ = some v := World.cell?_setCell_same _ _ _ h
theorem set_other {w : World} {g i g' j : Nat} {v : Value} (h : g ≠ g' ∨ i ≠ j) : (w.setCell ⟨g, i, none⟩ v).cell? ⟨g', j, none⟩ = w.cell? ⟨g', j, none⟩ :=
  World.cell?_setCell_other _ _ _ _ (by intro e; simp only [Addr.mk.injEq] at e; omega)

/-- The powers of the root of order 2^(c+1) lie from offset 2^c on, for every c below b. -/
def RootsAt (w : World) (g b : Nat) : Prop := ∀ c j, c < b → j < 2 ^ c → w.cell? ⟨g, 2 ^ c + j, none⟩ = some (.int .u32 (wr (2 ^ c) ^ j % Fft.P))

theorem roots_set {w : World} {g b : Nat} (h : RootsAt w g b) (o : Nat) (v : Value) (ho : 2 ^ b ≤ o) : RootsAt (w.setCell ⟨g, o, none⟩ v) g b := fun c j hc hj => by
  have h1 : 2 ^ c * 2 ≤ 2 ^ b := by rw [← Nat.pow_succ]; exact Nat.pow_le_pow_right (by omega) hc
  rw [set_other (by right; omega)]
  exact h c j hc hj

theorem pow_step (W : Int) (k : Nat) : mm (W ^ k % Fft.P) W = W ^ (k + 1) % Fft.P := by
  rw [Int.pow_succ]
  exact ((Fft.cg.mod (W ^ k)).mul (Fft.cg.refl W)).emod

theorem powP_to (B E V : Int) (w : World) (hB : 0 ≤ B) (hB' : B ≤ 4294967295) (h0 : 0 ≤ E) (hE : E ≤ 4294967295) (hV : Hid (B ^ E.toNat % Fft.P = V)) :
    Calls Try.prog 31 #[.int .u32 B, .int .u32 E] w fun e w' => e = .returned (.int .u32 V) ∧ w = w' :=
  (powP_at B E w hB hB' h0 hE).mono fun _ _ ⟨he, hw⟩ => ⟨he.trans (ret_int hV.out), hw⟩

set_option maxHeartbeats 400000 in
theorem roots_any (n b : Nat) (w : World) (hb : b ≤ 12) (HN : Hid (n = 2 ^ b)) (hn : n ≤ 4096) :
    Calls Try.prog 11 #[.int .i64 n] w fun e w' => e = .returned (.slice (some ⟨w.heap.size, 0, none⟩) n n) ∧ Below w.heap.size w w' ∧ w'.heap.size = w.heap.size + 1 ∧ RootsAt w' w.heap.size b ∧ Free w' w.heap.size n := by
  go_enter Try.func11, Try.ntmps11
  go_wp2_with (at_make; refine wpList_make_at rfl _ _ _ rfl 24 _ 1 4 Try.underlying22 info24 _ _ _ _ n n rfl rfl rfl rfl (Nat.le_refl _) (by omega) (by omega) ?_)
  go_loopw [4] (fun h wr' => ∃ (c H : Nat), c ≤ b ∧ h = .int .i64 H ∧ Hid (H = 2 ^ c) ∧ Below w.heap.size w wr' ∧ Hid (wr'.heap.size = w.heap.size + 1) ∧ Hid (RootsAt wr' w.heap.size c) ∧ Hid (Free wr' w.heap.size n)) (fun h _ => n - (intOf h).toNat)
  case atStart => exact ⟨0, 1, Nat.zero_le _, rfl, hid rfl, (Below.refl _ _).alloc (Nat.le_refl _) _, hid (by simp), hid (fun c j hc => absurd hc (Nat.not_lt_zero _)), hid (Free.made _ _ _ _ (by simp [size_madeCells]))⟩
  case round =>
    obtain ⟨c, H, hc, rfl, HH, hB, HS, HR, HF⟩ := hrel
    have hH0 : 0 < H := by rw [HH.out]; exact Nat.pow_pos (by omega)
    by_cases hlt : c < b
    · have hH2 : 2 * H ≤ n := by
        rw [HH.out, HN.out, Nat.mul_comm, ← Nat.pow_succ]; exact Nat.pow_le_pow_right (by omega) hlt
      have d0 : 0 ≤ (2013265920 : Int) / (2 * (H : Int)) := Int.ediv_nonneg (by omega) (by omega)
      have d1 : (2013265920 : Int) / (2 * (H : Int)) ≤ 2013265920 := Int.ediv_le_self _ (by omega)
      obtain ⟨wo, rfl⟩ : ∃ wo : World, wo = wr := ⟨_, rfl⟩
      obtain ⟨W, HW⟩ : ∃ W, Hid (wr H = W) := ⟨_, hid rfl⟩
      have hW := Fft.wr_bd H
      rw [HW.out, Fft.P_eq] at hW
      obtain ⟨hW0, hW1⟩ := hW
      have HW' : Hid ((31 : Int) ^ ((2013265920 : Int) / (2 * (H : Int))).toNat % Fft.P = W) := hid (wr_eq.trans HW.out)
      go_wp2_with (go_at_call 31; refine (powP_to _ _ W _ (by omega) (by omega) (by omega) (by omega) HW').mono ?_; rintro e w' ⟨rfl, rfl⟩)
      go_loopw [6, 7] (fun x j wr' => ∃ (k : Nat) (X : Int), k ≤ H ∧ j = .int .i64 k ∧ x = .int .u32 X ∧ 0 ≤ X ∧ X < 2013265921 ∧ Hid (X = W ^ k % Fft.P) ∧ Below w.heap.size w wr' ∧ Hid (wr'.heap.size = w.heap.size + 1) ∧ Hid (RootsAt wr' w.heap.size c) ∧ Hid (Free wr' w.heap.size n) ∧ Hid (∀ i, i < k → wr'.cell? ⟨w.heap.size, H + i, none⟩ = some (.int .u32 (W ^ i % Fft.P)))) (fun _ j _ => H - (intOf j).toNat)
      case atStart => exact ⟨0, 1, Nat.zero_le _, rfl, rfl, by omega, by omega, hid (by rw [Int.pow_zero]; rfl), hB, HS, HR, HF, hid (fun i hi => absurd hi (Nat.not_lt_zero _))⟩
      case round =>
        clear hB HS HR HF
        obtain ⟨k, X, hk, rfl, rfl, hX0, hX1, HX, hB, HS, HR, HF, HK⟩ := hrel
        by_cases hkl : k < H
        · have hfz : wr.frozen? ⟨w.heap.size, H + k, none⟩ = false := HF.out.unfrozen (by omega)
          obtain ⟨u, hu⟩ := HF.out.cell (show H + k < n by omega)
          go_wp2_with (go_at_call 15; refine (mulP_any _ _ _ (by omega) (by omega) (by omega) (by omega)).mono ?_; rintro e w' ⟨rfl, rfl⟩)
          go_roundw
          case rel =>
            have hm := mm_bd X W
            exact ⟨k + 1, mm X W, by omega, by go_num, rfl, hm.1, hm.2, hid (by rw [HX.out]; exact pow_step W k), hB.setCell (Nat.le_refl _) _, hid (by rw [World.size_setCell]; exact HS.out), hid (roots_set HR.out _ _ (by rw [← HH.out]; omega)), hid (HF.out.set _ _ _), hid (fun i hi => by
              rcases Nat.lt_succ_iff_lt_or_eq.1 hi with h | rfl
              · rw [set_other (by right; omega)]; exact HK.out i h
              · rw [set_same hu, HX.out])⟩
          case measure => simp [intOf]; omega
        · obtain rfl : k = H := by omega
          go_wp2_with fail
          go_roundw
          case rel => exact ⟨c + 1, 2 * k, by omega, by go_num, hid (by rw [HH.out, Nat.pow_succ, Nat.mul_comm]), hB, HS, hid (fun c' j hc' hj => by
            rcases Nat.lt_succ_iff_lt_or_eq.1 hc' with h | rfl
            · exact HR.out c' j h hj
            · have := HK.out j (by rw [HH.out]; exact hj)
              rw [← HW.out, HH.out] at this
              exact this), HF⟩
          case measure => simp [intOf]; omega
    · obtain rfl : c = b := by omega
      have hHn : H = n := HH.out.trans HN.out.symm
      have HHn := hid hHn
      have hle : n ≤ H := by omega
      clear hHn
      go_wp2_with fail
      go_ret
      exact ⟨rfl, hB, HS.out, HR.out, HF.out⟩
end Go.Proofs.Qxb6608686a.FftC
