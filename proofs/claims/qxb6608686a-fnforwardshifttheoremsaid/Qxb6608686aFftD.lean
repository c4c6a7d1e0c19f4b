import Derived.Test.Qxb6608686aFftC
import Derived.Deep.DrawnRows
namespace Go.Proofs.Qxb6608686a.FftD
open Go.RowKit Go.Proofs.Qxb6608686a.Kit Go.Proofs.Qxb6608686a.FftA Go.Proofs.Qxb6608686a.FftB Go.Proofs.Qxb6608686a.FftC
open Go.Proofs.Qxb6608686a.Fft (cg sm rvr om wr st)

attribute [local go_sem ↓] Go.wp_at_zero Go.wp_at_succ

/-- Block g holds the numbers f in its first n cells. -/
def Arr (w : World) (g n : Nat) (f : Nat → Int) : Prop := ∀ i, i < n → w.cell? ⟨g, i, none⟩ = some (.int .u32 (f i))

/-- Behind t stages, inside the next one: the butterflies of the first S points, and k of the block at S, are done. -/
def mix (a : Nat → Int) (b t S H k x : Nat) : Int := if x < S + k ∨ (S + H ≤ x ∧ x < S + H + k) then st a b (t + 1) x else st a b t x

theorem grown_trans {a b c : World} {row : Option Nat} (h : a.grownBy b row) (k : b.grownBy c row) : a.grownBy c row :=
  ⟨k.os.trans h.os, k.tape.trans h.tape, k.output.trans h.output, Nat.le_trans h.size k.size, fun i hi hne => (k.block i (Nat.lt_of_lt_of_le hi h.size) hne).trans (h.block i hi hne)⟩
theorem grown_set {w : World} {g : Nat} (o : Nat) (v : Value) : w.grownBy (w.setCell ⟨g, o, none⟩ v) (some g) :=
  ⟨rfl, rfl, rfl, by simp, fun k _ hne => Below.heap_setCell _ _ _ _ (fun e => hne (by simp [e]))⟩
theorem grown_drewN {w : World} {row : Option Nat} (q : Nat) : w.grownBy (w.drewN q) row := ⟨rfl, rfl, rfl, Nat.le_refl _, fun _ _ _ => rfl⟩
theorem grown_drew {w : World} {row : Option Nat} : w.grownBy w.drew row := ⟨rfl, rfl, rfl, Nat.le_refl _, fun _ _ _ => rfl⟩

/-- The state of 'forward': everything but block ga is as it was; ga holds f. -/
structure Fs (w0 w : World) (ga gr n b : Nat) (f : Nat → Int) : Prop where
  grown : w0.grownBy w (some ga)
  arr : Arr w ga n f
  free : Free w ga n
  roots : RootsAt w gr b

theorem Fs.drewN {w0 w : World} {ga gr n b : Nat} {f : Nat → Int} (h : Fs w0 w ga gr n b f) (q : Nat) : Fs w0 (w.drewN q) ga gr n b f :=
  ⟨grown_trans h.grown (grown_drewN q), h.arr, h.free, h.roots⟩

theorem Fs.cell {w0 w : World} {ga gr n b : Nat} {f : Nat → Int} (h : Fs w0 w ga gr n b f) {g o : Nat} {v : Value} (hg : g ≠ ga) (hc : w0.cell? ⟨g, o, none⟩ = some v) : w.cell? ⟨g, o, none⟩ = some v :=
  h.grown.cell hc (by simp; exact hg)

theorem start_fs (w : World) (ga gr n b : Nat) (a : Nat → Int) (o : Obj) (hN : n = 2 ^ b) (hlt : ga < w.heap.size) (ha : ∀ i, i < n → 0 ≤ a i ∧ a i < Fft.P) (hR : RootsAt w gr b) (hA : Arr w ga n a) (hF : Free w ga n) : Fs w (w.alloc o) ga gr n b (st a b 0) := by
  refine ⟨World.grownBy_alloc _ _ _, fun i hi => ?_, World.there_alloc hF _, fun c j hc hj => ?_⟩
  · rw [Fft.st_zero a b i (by omega) (ha i hi), World.cell?_alloc_past _ _ _ hlt]; exact hA i hi
  · have := hR c j hc hj
    rw [World.cell?_alloc_past _ _ _ (World.block_lt_of_cell? w _ this)]; exact this
theorem Fs.congr {w0 w : World} {ga gr n b : Nat} {f f' : Nat → Int} (h : Fs w0 w ga gr n b f) (e : ∀ i, i < n → f i = f' i) : Fs w0 w ga gr n b f' :=
  ⟨h.grown, fun i hi => by rw [← e i hi]; exact h.arr i hi, h.free, h.roots⟩
theorem fs_begin {w0 w : World} {ga gr n b : Nat} {a : Nat → Int} {t H : Nat} (h : Fs w0 w ga gr n b (st a b t)) : Fs w0 w ga gr n b (mix a b t 0 H 0) :=
  h.congr fun i _ => by rw [mix, if_neg (by omega)]
theorem step_in {n b t q S H : Nat} (hS : S = 2 ^ (b - t) * q) (hn : n = 2 * H * 2 ^ t) (hH : H = 2 ^ (b - t - 1)) (ht : t < b) (h : S < n) : S + 2 * H ≤ n := by
  have e : 2 ^ (b - t) = 2 * H := by rw [hH]; exact Fft.pow_pred (b - t) (by omega)
  rw [e] at hS
  rw [hS, hn] at h ⊢
  have hq : q < 2 ^ t := Nat.lt_of_mul_lt_mul_left h
  have : 2 * H * (q + 1) ≤ 2 * H * 2 ^ t := Nat.mul_le_mul_left _ hq
  rwa [Nat.mul_add, Nat.mul_one] at this

/-- The table's number at offset H + k. -/
def wr_at (H k : Nat) : Int := wr H ^ k % Fft.P
theorem bounds3 {a : Nat → Int} {b t x y H k : Nat} {U V R : Int} (hU : st a b t x = U) (hV : st a b t y = V) (hR : wr_at H k = R) : (0 ≤ U ∧ U < 2013265921) ∧ (0 ≤ V ∧ V < 2013265921) ∧ (0 ≤ R ∧ R < 2013265921) := by
  subst hU hV hR
  exact ⟨Fft.st_bd a b t x, Fft.st_bd a b t y, Fft.mod_lt _⟩
section
variable {w0 w : World} {ga gr n b : Nat} {a : Nat → Int} {t S H k : Nat}
theorem fs_lo (h : Fs w0 w ga gr n b (mix a b t S H k)) (hS : S + 2 * H ≤ n) (hk : k < H) : w.cell? ⟨ga, S + k, none⟩ = some (.int .u32 (st a b t (S + k))) := by
  have := h.arr (S + k) (by omega)
  rwa [mix, if_neg (by omega)] at this
theorem fs_hi (h : Fs w0 w ga gr n b (mix a b t S H k)) (hS : S + 2 * H ≤ n) (hk : k < H) : w.cell? ⟨ga, S + H + k, none⟩ = some (.int .u32 (st a b t (S + H + k))) := by
  have := h.arr (S + H + k) (by omega)
  rwa [mix, if_neg (by omega)] at this
theorem fs_rt {f : Nat → Int} (h : Fs w0 w ga gr n b f) (hH : H = 2 ^ (b - t - 1)) (ht : t < b) (hk : k < H) : w.cell? ⟨gr, H + k, none⟩ = some (.int .u32 (wr_at H k)) := by
  have := h.roots (b - t - 1) k (by omega) (by omega)
  rw [← hH] at this
  exact this
end

theorem box_kept {w w' : World} {ga o1 o2 q : Nat} {v1 v2 v : Value} (hlt : ga < w.heap.size) (h : w'.cell? ⟨w.heap.size, 0, none⟩ = some v) : (((w'.drewN q).setCell ⟨ga, o1, none⟩ v1).setCell ⟨ga, o2, none⟩ v2).cell? ⟨w.heap.size, 0, none⟩ = some v := by
  rw [set_other (by left; omega), set_other (by left; omega)]; exact h

theorem fs_step {w0 w : World} {ga gr n b : Nat} {a : Nat → Int} {t S H k qq : Nat} {U V R : Int} (h : Fs w0 w ga gr n b (mix a b t S H k)) (hne : gr ≠ ga) (hSq : S = 2 ^ (b - t) * qq) (hH : H = 2 ^ (b - t - 1)) (ht : t < b) (hb : b ≤ 12) (hS : S + 2 * H ≤ n) (hk : k < H)
    (hU : st a b t (S + k) = U) (hV : st a b t (S + H + k) = V) (hR : wr_at H k = R) (q : Nat) :
    Fs w0 (((w.drewN q).setCell ⟨ga, S + k, none⟩ (.int .u32 (aa U V))).setCell ⟨ga, S + H + k, none⟩ (.int .u32 (mm (ss U V) R))) ga gr n b (mix a b t S H (k + 1)) := by
  have hadd : st a b (t + 1) (S + k) = aa U V := by
    have := Fft.st_add a b t qq k ht (by omega)
    rw [← hSq, ← hH, hU, hV] at this
    exact this
  have hmul : st a b (t + 1) (S + H + k) = mm (ss U V) R := by
    have := Fft.st_mul a b t qq k ht (by omega) (by omega)
    rw [← hSq, ← hH, hU, hV] at this
    rw [this, ← hR]
    exact ((ss_cg U V).symm.mul (cg.refl _)).emod
  have hd := h.drewN q
  obtain ⟨c1, hc1⟩ := hd.free.cell (show S + k < n by omega)
  obtain ⟨c2, hc2⟩ := (hd.free.set ga (S + k) (.int .u32 (aa U V))).cell (show S + H + k < n by omega)
  refine ⟨grown_trans (grown_trans hd.grown (grown_set _ _)) (grown_set _ _), fun i hi => ?_, (hd.free.set _ _ _).set _ _ _, fun c j hc hj => ?_⟩
  · by_cases e2 : i = S + H + k
    · subst e2
      rw [set_same hc2, mix, if_pos (by omega), hmul]
    · rw [set_other (by right; omega)]
      by_cases e1 : i = S + k
      · subst e1
        rw [set_same hc1, mix, if_pos (by omega), hadd]
      · rw [set_other (by right; omega), hd.arr i hi]
        unfold mix
        by_cases hD : i < S + k ∨ (S + H ≤ i ∧ i < S + H + k)
        · rw [if_pos hD, if_pos (by omega)]
        · rw [if_neg hD, if_neg (by omega)]
  · rw [set_other (by left; omega), set_other (by left; omega)]; exact hd.roots c j hc hj
theorem fs_next {w0 w : World} {ga gr n b : Nat} {a : Nat → Int} {t S H : Nat} (h : Fs w0 w ga gr n b (mix a b t S H H)) : Fs w0 w ga gr n b (mix a b t (S + 2 * H) H 0) :=
  h.congr fun i _ => by
    unfold mix
    by_cases hD : i < S + H ∨ (S + H ≤ i ∧ i < S + H + H)
    · rw [if_pos hD, if_pos (by omega)]
    · rw [if_neg hD, if_neg (by omega)]
theorem fs_done {w0 w : World} {ga gr n b : Nat} {a : Nat → Int} {t H : Nat} (h : Fs w0 w ga gr n b (mix a b t n H 0)) : Fs w0 w ga gr n b (st a b (t + 1)) :=
  h.congr fun i hi => by rw [mix, if_pos (by omega)]
theorem next_S {b t q S H : Nat} (hS : S = 2 ^ (b - t) * q) (hH : H = 2 ^ (b - t - 1)) (ht : t < b) : S + 2 * H = 2 ^ (b - t) * (q + 1) := by
  rw [Nat.mul_add, Nat.mul_one, ← hS, hH, ← Fft.pow_pred (b - t) (by omega)]

set_option maxRecDepth 4000 in
set_option maxHeartbeats 1000000 in
theorem forward_any (n b ga gr : Nat) (a : Nat → Int) (w : World) (hb : b ≤ 12) (HN : Hid (n = 2 ^ b)) (hn : n ≤ 4096) (ha : Hid (∀ i, i < n → 0 ≤ a i ∧ a i < Fft.P)) (hne : Hid (gr ≠ ga)) (hlt : ga < w.heap.size)
    (hR : Hid (RootsAt w gr b)) (hA : Hid (Arr w ga n a)) (hF : Hid (Free w ga n)) :
    Calls Try.prog 30 #[.agg #[.slice (some ⟨gr, 0, none⟩) n n], .slice (some ⟨ga, 0, none⟩) n n] w fun e w' => e = .returned (.tuple #[]) ∧ Fs w w' ga gr n b (st a b b) := by
  go_enter Try.func30, Try.ntmps30
  go_wp2_with fail
  go_loopw [4] (fun h wr => ∃ (t H : Nat), t ≤ b ∧ h = .int .i64 H ∧ Hid (H = 2 ^ (b - t) / 2) ∧ wr.cell? ⟨w.heap.size, 0, none⟩ = some (.slice (some ⟨gr, 0, none⟩) n n) ∧ Hid (Fs w wr ga gr n b (st a b t))) (fun h _ => (intOf h).toNat)
  case atStart => exact ⟨0, n / 2, Nat.zero_le _, by go_num, hid (by rw [HN.out]; rfl), by simp, hid (start_fs w ga gr n b a _ HN.out hlt ha.out hR.out hA.out hF.out)⟩
  case round =>
    obtain ⟨t, H, ht, rfl, HH, hbx, HF⟩ := hrel
    by_cases htb : t < b
    · have hHe : H = 2 ^ (b - t - 1) := by rw [HH.out, Fft.pow_pred (b - t) (by omega)]; omega
      have hH0 : 0 < H := by rw [hHe]; exact Nat.pow_pos (by omega)
      have HE := hid hHe
      have hnn : n = 2 * H * 2 ^ t := by rw [hHe, HN.out, ← Fft.pow_pred (b - t) (by omega), ← Nat.pow_add]; congr 1; omega
      have HNN := hid hnn
      have hT0 : 0 < 2 ^ t := Nat.pow_pos (by omega)
      have h2H : 2 * H ≤ n := by rw [hnn]; exact Nat.le_mul_of_pos_right _ hT0
      clear hHe hnn hT0
      obtain ⟨wo, rfl⟩ : ∃ wo : World, wo = wr := ⟨_, rfl⟩
      go_wp2_with fail
      rw [show 2 * H - H = H from by omega]
      go_loopw [6] (fun s wr => ∃ (q S : Nat), S ≤ n ∧ s = .int .i64 S ∧ Hid (S = 2 ^ (b - t) * q) ∧ wr.cell? ⟨w.heap.size, 0, none⟩ = some (.slice (some ⟨gr, 0, none⟩) n n) ∧ Hid (Fs w wr ga gr n b (mix a b t S H 0))) (fun s _ => n - (intOf s).toNat)
      case atStart => exact ⟨0, 0, Nat.zero_le _, rfl, hid rfl, hbx, hid (fs_begin HF.out)⟩
      case round =>
        clear HF hbx
        obtain ⟨q, S, hS, rfl, HS, hbx, HF⟩ := hrel
        by_cases hSn : S < n
        · have hS2 : S + 2 * H ≤ n := step_in HS.out HNN.out HE.out htb hSn
          obtain ⟨wp, rfl⟩ : ∃ wp : World, wp = wr := ⟨_, rfl⟩
          go_wp2_with fail
          go_quiet (fail)
          go_wp2_with fail
          have e2 : S + H - S = H := by omega
          have e3 : S + 2 * H - (S + H) = H := by omega
          go_quiet (fail)
          go_wp2_with fail
          rw [e2, e3]
          clear e2 e3
          go_loopw [59] (fun j wr => ∃ (k : Nat), k ≤ H ∧ j = .int .i64 k ∧ wr.cell? ⟨w.heap.size, 0, none⟩ = some (.slice (some ⟨gr, 0, none⟩) n n) ∧ Hid (Fs w wr ga gr n b (mix a b t S H k))) (fun j _ => H - (intOf j).toNat)
          case atStart => exact ⟨0, Nat.zero_le _, rfl, by simpa using hbx, hid (HF.out.drewN _)⟩
          case round =>
            clear HF hbx
            obtain ⟨k, hk, rfl, hbx, HF⟩ := hrel
            by_cases hkH : k < H
            · obtain ⟨U, HU⟩ : ∃ U, Hid (st a b t (S + k) = U) := ⟨_, hid rfl⟩
              obtain ⟨V, HV⟩ : ∃ V, Hid (st a b t (S + H + k) = V) := ⟨_, hid rfl⟩
              obtain ⟨R, HRt⟩ : ∃ R, Hid (wr_at H k = R) := ⟨_, hid rfl⟩
              obtain ⟨⟨u0, u1⟩, ⟨v0, v1⟩, ⟨z0, z1⟩⟩ := bounds3 HU.out HV.out HRt.out
              have r1 : wr.cell? ⟨ga, S + k, none⟩ = some (.int .u32 U) := by rw [← HU.out]; exact fs_lo HF.out hS2 hkH
              have r2 : wr.cell? ⟨ga, S + H + k, none⟩ = some (.int .u32 V) := by rw [← HV.out]; exact fs_hi HF.out hS2 hkH
              have r3 : wr.cell? ⟨gr, H + k, none⟩ = some (.int .u32 R) := by rw [← HRt.out]; exact fs_rt HF.out HE.out htb hkH
              have f1 : wr.frozen? ⟨ga, S + k, none⟩ = false := HF.out.free.unfrozen (by omega)
              have f2 : wr.frozen? ⟨ga, S + H + k, none⟩ = false := HF.out.free.unfrozen (by omega)
              obtain ⟨s0, s1⟩ := ss_bd U V
              go_wp2_with fail
              go_quiet (fail)
              go_wp2_with fail
              go_region_with (first | (go_at_call 35; refine (addMod_any _ _ _ (by omega) (by omega) (by omega) (by omega)).mono ?_; rintro e w' ⟨rfl, rfl⟩) | (go_at_call 37; refine (subMod_any _ _ _ (by omega) (by omega) (by omega) (by omega)).mono ?_; rintro e w' ⟨rfl, rfl⟩) | (go_at_call 36; refine (mulMod_any _ _ _ (by omega) (by omega) (by omega) (by omega)).mono ?_; rintro e w' ⟨rfl, rfl⟩))
              all_goals
                go_wp2_with fail
                go_roundw
                case rel => exact ⟨k + 1, by omega, by go_num, box_kept hlt hbx, hid (fs_step HF.out hne.out HS.out HE.out htb hb hS2 hkH HU.out HV.out HRt.out _)⟩
                case measure => simp [intOf]; omega
            · obtain rfl : k = H := by omega
              go_wp2_with fail
              go_roundw
              case rel => exact ⟨q + 1, S + 2 * k, by omega, by go_num, hid (next_S HS.out HE.out htb), hbx, hid (fs_next HF.out)⟩
              case measure => simp [intOf]; omega
        · obtain rfl : S = n := by omega
          go_wp2_with fail
          go_roundw
          case rel => exact ⟨t + 1, H / 2, by omega, by go_num, hid (by rw [HE.out]; congr 1), hbx, hid (fs_done HF.out)⟩
          case measure => simp [intOf]; omega
    · obtain rfl : t = b := by omega
      have hH0 : H ≤ 0 := by rw [HH.out, Nat.sub_self]; decide
      go_wp2_with fail
      go_end0
      exact ⟨rfl, HF.out⟩
end Go.Proofs.Qxb6608686a.FftD
