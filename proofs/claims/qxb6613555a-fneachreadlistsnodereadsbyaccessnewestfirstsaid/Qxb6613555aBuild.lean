import Derived.Test.Qxb6613555aGraphB
import Derived.Test.Qxb6613555aPlain
namespace Go.Proofs.Qxb6613555a.Build
open Go.RowKit Go.Proofs.Qxb6613555a.Kit Go.Proofs.Qxb6613555a.GraphA Go.Proofs.Qxb6613555a.GraphB Go.Proofs.Qxb6613555a.Plain

set_option linter.unusedVariables false

theorem info21 : (Try.prog.info? 21).map (fun i => (i.zero, i.size, i.bytes)) = some (some (.int .i32 0), 1, 4) := by kernel_rfl
theorem info3 : (Try.prog.info? 3).map (fun i => (i.zero, i.size, i.bytes)) = some (some (.int .i64 0), 1, 8) := by kernel_rfl
theorem info41 : (Try.prog.info? 41).map (fun i => (i.zero, i.size, i.bytes)) = some (some (.int .u32 0), 1, 4) := by kernel_rfl

/-- An argument: a slice of n numbers. -/
structure Arg (w : World) (k : IntKind) (a0 : Option Addr) (b off n : Nat) (f : Nat → Nat) : Prop where
  ad : 0 < n → a0 = some ⟨b, off, none⟩
  at_ : ∀ i, i < n → w.cell? ⟨b, off + i, none⟩ = some (.int k (f i))
theorem cell_below {w w' : World} {B : Nat} (hb : Below B w w') (hB : w.heap.size ≤ B) {a : Addr} {v : Value} (h : w.cell? a = some v) : w'.cell? a = some v := by
  rw [hb.cell (Nat.lt_of_lt_of_le (World.block_lt_of_cell? w a h) hB)]; exact h
theorem Arg.below {w w' : World} {k : IntKind} {a0 : Option Addr} {b off n : Nat} {f : Nat → Nat} (h : Arg w k a0 b off n f) (hb : Below w.heap.size w w') : Arg w' k a0 b off n f :=
  ⟨h.ad, fun i hi => cell_below hb (Nat.le_refl _) (h.at_ i hi)⟩

/-- A row of n numbers of the call's own. -/
def IRow (w : World) (b n : Nat) (k : IntKind) (f : Nat → Int) : Prop := ∀ i, i < n → w.cell? ⟨b, i, none⟩ = some (.int k (f i)) ∧ w.frozen? ⟨b, i, none⟩ = false
section
variable {w w' : World} {b n : Nat} {k : IntKind} {f : Nat → Int}
theorem IRow.same (h : IRow w b n k f) (hb : w'.heap[b]? = w.heap[b]?) : IRow w' b n k f := fun i hi =>
  ⟨(World.cell?_of_block hb).trans (h i hi).1, (World.frozen?_of_block hb).trans (h i hi).2⟩
theorem IRow.set (h : IRow w b n k f) {j : Nat} (hj : j < n) (v : Int) : IRow (w.setCell ⟨b, j, none⟩ (.int k v)) b n k (upd f j v) := fun i hi => by
  refine ⟨?_, by rw [World.frozen?_setCell]; exact (h i hi).2⟩
  by_cases e : i = j
  · subst e
    rw [World.cell?_setCell_same _ _ _ (h i hi).1, upd_same]
  · rw [World.cell?_setCell_other _ _ _ _ (fun he => e (congrArg Addr.off he).symm), upd_ne _ _ e]
    exact (h i hi).1
theorem IRow.other (h : IRow w b n k f) {b' x : Nat} (hne : b ≠ b') (v : Value) : IRow (w.setCell ⟨b', x, none⟩ v) b n k f := fun i hi =>
  ⟨by rw [World.cell?_setCell_other _ _ _ _ (fun he => hne (congrArg Addr.block he).symm)]; exact (h i hi).1, by rw [World.frozen?_setCell]; exact (h i hi).2⟩
theorem IRow.made (w : World) (n : Nat) (k : IntKind) (t : TypeId) : IRow (w.alloc (.cells (madeCells #[.int k 0] n) t)) w.heap.size n k (fun _ => 0) := fun i hi => by
  have hb := heap_alloc_new w (.cells (madeCells #[.int k 0] n) t)
  refine ⟨?_, World.frozen?_alloc_new w _ t _⟩
  rw [World.cell?_alloc_new]
  have := made_get #[.int k 0] n i 0 (.int k 0) hi rfl
  simpa using this
theorem IRow.below (h : IRow w b n k f) {B : Nat} (hb : Below B w w') (hB : b < B) : IRow w' b n k f := h.same (hb.block _ hB)
end

/-- What 'zzBuildGraph' lays. -/
structure Built (w : World) (B g n K total : Nat) (p acc : Nat → Nat) (gT gA gR : Nat) (F E Lt Pr : Nat → Int) : Prop where
  gr : Gr w g gT gA gR n total K F E Lt Pr
  hF : ∀ i, i < n → F i = pre p i ∧ E i = pre p (i + 1)
  hL : ∀ a, a < total → Lt a = lat acc K a
  hP : ∀ r, r < K → Pr r = lat acc r (acc r)
  b0 : B ≤ g
  b1 : B ≤ gT
  b2 : B ≤ gA
  b3 : B ≤ gR

/-- Inside 'zzBuildGraph'. -/
structure St (w0 w : World) (g gT gA gR n total K : Nat) (p acc : Nat → Nat) (kn kt kr : Nat) (F E Lt Pr : Nat → Int) : Prop where
  bel : Below w0.heap.size w0 w
  gr : Gr w g gT gA gR n total K F E Lt Pr
  hF : ∀ i, i < kn → F i = pre p i ∧ E i = pre p (i + 1)
  hL : ∀ a, a < kt → Lt a = lat acc K a
  hP : ∀ r, r < kr → Pr r = lat acc r (acc r)
  b0 : w0.heap.size ≤ g
  b1 : w0.heap.size ≤ gT
  b2 : w0.heap.size ≤ gA
  b3 : w0.heap.size ≤ gR
section
variable {w0 w : World} {g gT gA gR n total K : Nat} {p acc : Nat → Nat} {kn kt kr : Nat} {F E Lt Pr : Nat → Int}
theorem St.txn (h : St w0 w g gT gA gR n total K p acc kn kt kr F E Lt Pr) (hk : kn < n) {x y : Int} (hx : x = pre p kn) (hy : y = pre p (kn + 1)) : St w0 ((w.setCell ⟨gT, kn * 12 + 10, none⟩ (.int .i32 x)).setCell ⟨gT, kn * 12 + 11, none⟩ (.int .i32 y)) g gT gA gR n total K p acc (kn + 1) kt kr (upd F kn x) (upd E kn y) Lt Pr := by
  refine ⟨(h.bel.setCell h.b1 _).setCell h.b1 _, h.gr.txn hk x y, fun i hi => ?_, h.hL, h.hP, h.b0, h.b1, h.b2, h.b3⟩
  by_cases e : i = kn
  · subst e; rw [upd_same, upd_same]; exact ⟨hx, hy⟩
  · rw [upd_ne _ _ e, upd_ne _ _ e]; exact h.hF i (by omega)
theorem St.alloc (h : St w0 w g gT gA gR n total K p acc kn kt kr F E Lt Pr) (o : Obj) : St w0 (w.alloc o) g gT gA gR n total K p acc kn kt kr F E Lt Pr := by
  have hs := h.bel.size
  exact ⟨h.bel.alloc hs _, h.gr.below ((Below.refl w.heap.size w).alloc (Nat.le_refl _) o) h.gr.lg h.gr.lT h.gr.lAA h.gr.lR, h.hF, h.hL, h.hP, h.b0, h.b1, h.b2, h.b3⟩
/-- A store into a block that is none of the graph's. -/
theorem St.set (h : St w0 w g gT gA gR n total K p acc kn kt kr F E Lt Pr) {b x : Nat} (v : Value) (hb : w0.heap.size ≤ b) (h0 : g ≠ b) (h1 : gT ≠ b) (h2 : gA ≠ b) (h3 : gR ≠ b) : St w0 (w.setCell ⟨b, x, none⟩ v) g gT gA gR n total K p acc kn kt kr F E Lt Pr :=
  ⟨h.bel.setCell hb _, h.gr.set v h0 h1 h2 h3, h.hF, h.hL, h.hP, h.b0, h.b1, h.b2, h.b3⟩
theorem St.read (h : St w0 w g gT gA gR n total K p acc kn kt kr F E Lt Pr) (hk : kr < K) {x : Int} (u1 u2 : Value) (hx : x = lat acc kr (acc kr)) : St w0 (((w.setCell ⟨gR, kr * 3, none⟩ u1).setCell ⟨gR, kr * 3 + 1, none⟩ u2).setCell ⟨gR, kr * 3 + 2, none⟩ (.int .i32 x)) g gT gA gR n total K p acc kn kt (kr + 1) F E Lt (upd Pr kr x) := by
  refine ⟨((h.bel.setCell h.b3 _).setCell h.b3 _).setCell h.b3 _, h.gr.read hk u1 u2 x, h.hF, h.hL, fun i hi => ?_, h.b0, h.b1, h.b2, h.b3⟩
  by_cases e : i = kr
  · subst e; rw [upd_same]; exact hx
  · rw [upd_ne _ _ e]; exact h.hP i (by omega)
theorem St.late (h : St w0 w g gT gA gR n total K p acc kn kt kr F E Lt Pr) (hk : kt < total) {x : Int} (hx : x = lat acc K kt) : St w0 (w.setCell ⟨gA, kt * 10 + 7, none⟩ (.int .i32 x)) g gT gA gR n total K p acc kn (kt + 1) kr F E (upd Lt kt x) Pr := by
  refine ⟨h.bel.setCell h.b2 _, h.gr.lat hk x, h.hF, fun i hi => ?_, h.hP, h.b0, h.b1, h.b2, h.b3⟩
  by_cases e : i = kt
  · subst e; rw [upd_same]; exact hx
  · rw [upd_ne _ _ e]; exact h.hL i (by omega)
end

set_option maxRecDepth 4000 in
set_option maxHeartbeats 1000000 in
theorem buildGraph (aP aR : Option Addr) (bP oP n capP bR oR K capR total : Nat) (p acc : Nat → Nat) (w : World) (HP : Hid (Arg w .u8 aP bP oP n p)) (HR : Hid (Arg w .u32 aR bR oR K acc))
    (hn : n ≤ 65536) (hK : K ≤ 65537) (ht : total ≤ 65536) (HT : Hid (pre p n = total)) (HPB : Hid (∀ i, i < n → p i ≤ 255)) (HAB : Hid (∀ r, r < K → acc r < total)) :
    Calls Try.prog 18 #[.slice aP n capP, .slice aR K capR, .int .i64 total] w fun e w' => ∃ g gT gA gR F E Lt Pr, e = .returned (.pointer (some ⟨g, 0, none⟩)) ∧ Below w.heap.size w w' ∧ Built w' w.heap.size g n K total p acc gT gA gR F E Lt Pr := by
  go_enter Try.func18, Try.ntmps18
  go_wp2_with fail
  refine (newGraph n total K w (by omega) (by omega) (by omega)).mono ?_
  rintro e w1 ⟨g, gT, gA, gR, rfl, hb1, b0, b1, b2, b3, hgr⟩
  have HS : Hid (St w w1 g gT gA gR n total K p acc 0 0 0 (fun _ => 0) (fun _ => 0) (fun _ => 0) (fun _ => 0)) := hid ⟨hb1, hgr, fun i hi => absurd hi (Nat.not_lt_zero i), fun i hi => absurd hi (Nat.not_lt_zero i), fun i hi => absurd hi (Nat.not_lt_zero i), b0, b1, b2, b3⟩
  clear hgr hb1 b0 b1 b2 b3
  go_wp2_with fail
  go_loopw [8, 9] (fun v8 v9 wr => ∃ (k : Nat) (F E : Nat → Int), k ≤ n ∧ v8 = .int .i32 (pre p k) ∧ v9 = .int .i64 k ∧ Hid (St w wr g gT gA gR n total K p acc k 0 0 F E (fun _ => 0) (fun _ => 0))) (fun v8 v9 _ => n - (intOf v9).toNat)
  case atStart => exact ⟨0, _, _, Nat.zero_le _, rfl, rfl, HS⟩
  case round =>
    clear HS
    obtain ⟨k, F, E, hk, rfl, rfl, HS⟩ := hrel
    by_cases hlt : k < n
    · obtain rfl := HP.out.ad (by omega)
      have c := cell_below HS.out.bel (Nat.le_refl _) (HP.out.at_ k hlt)
      have hx := HPB.out k hlt
      have hs : pre p k + p k ≤ total := by rw [← HT.out]; exact pre_mono p (show k + 1 ≤ n from hlt)
      obtain ⟨x, hxe⟩ : ∃ x, Hid (p k = x) := ⟨_, rfl⟩
      obtain ⟨s, hse⟩ : ∃ s, Hid (pre p k = s) := ⟨_, rfl⟩
      rw [hxe.out] at c hx hs
      rw [hse.out] at hs ⊢
      go_wp2_with fail
      refine (setTxn k _ _ wr (hid HS.out.gr) hlt).mono ?_
      rintro e w' ⟨rfl, rfl⟩
      have HS2 := hid (HS.out.txn hlt (x := s) (y := s + x) (by rw [hse.out]) (by simp only [pre]; rw [hse.out, hxe.out]; omega))
      go_wp2_with fail
      go_roundw
      case rel => exact ⟨k + 1, _, _, by omega, by rw [pre, hse.out, hxe.out]; go_num, by go_num, HS2⟩
      case measure => simp [intOf]; omega
    · obtain rfl : n = k := by omega
      clear hlt hk
      obtain ⟨wa, rfl⟩ : ∃ wa : World, wa = wr := ⟨_, rfl⟩
      go_wp2_with (at_make; refine wpList_make_at rfl (.tmp 41) (.tmp 41) 46 rfl 21 (.int .i32 0) 1 4 Try.underlying46 info21 _ _ _ _ total total rfl rfl rfl rfl (Nat.le_refl _) (by omega) (by omega) ?_)
      have hL0 : w.heap.size ≤ wa.heap.size := HS.out.bel.size
      have q0 : g ≠ wa.heap.size := by have := HS.out.gr.lg; omega
      have q1 : gT ≠ wa.heap.size := by have := HS.out.gr.lT; omega
      have q2 : gA ≠ wa.heap.size := by have := HS.out.gr.lAA; omega
      have q3 : gR ≠ wa.heap.size := by have := HS.out.gr.lR; omega
      have HRW : Hid (IRow (wa.alloc (.cells (madeCells #[.int .i32 0] total) 21)) wa.heap.size total .i32 (fun _ => 0)) := hid (IRow.made wa total .i32 21)
      have HS1 := hid (HS.out.alloc (.cells (madeCells #[.int .i32 0] total) 21))
      clear HS
      obtain ⟨L, hL⟩ : ∃ L, wa.heap.size = L := ⟨_, rfl⟩
      rw [hL] at hL0 q0 q1 q2 q3 HRW
      rw [hL]
      obtain ⟨wb, hwb⟩ : ∃ wb, wa.alloc (.cells (madeCells #[.int .i32 0] total) 21) = wb := ⟨_, rfl⟩
      rw [hwb] at HS1 HRW
      rw [hwb]
      clear hwb hL wa
      go_loopw [12] (fun v12 wr => ∃ (k : Nat) (f : Nat → Int), k ≤ total ∧ v12 = .int .i64 k ∧ Hid (St w wr g gT gA gR n total K p acc n 0 0 F E (fun _ => 0) (fun _ => 0)) ∧ Hid (IRow wr L total .i32 f) ∧ Hid (∀ a, a < k → f a = -1)) (fun v12 _ => total - (intOf v12).toNat)
      case atStart => exact ⟨0, _, Nat.zero_le _, rfl, HS1, HRW, hid (fun i hi => absurd hi (Nat.not_lt_zero i))⟩
      case round =>
        clear HS1 HRW
        obtain ⟨k, f, hk, rfl, HS, HRW, HF⟩ := hrel
        by_cases hlt : k < total
        · obtain ⟨c0, f0⟩ := HRW.out k hlt
          go_wp2_with fail
          go_roundw
          case rel => exact ⟨k + 1, _, by omega, by go_num, hid (HS.out.set _ hL0 q0 q1 q2 q3), hid (HRW.out.set hlt (-1)), hid (fun a ha => by
            by_cases e : a = k
            · subst e; rw [upd_same]
            · rw [upd_ne _ _ e]; exact HF.out a (by omega))⟩
          case measure => simp [intOf]; omega
        · obtain rfl : total = k := by omega
          clear hlt hk
          have HF0 : Hid (∀ a, a < total → f a = lat acc 0 a) := HF
          clear HF
          go_wp2_with fail
          go_loopw [13] (fun v13 wr => ∃ (k : Nat) (f Pr : Nat → Int), k ≤ K ∧ v13 = .int .i64 k ∧ Hid (St w wr g gT gA gR n total K p acc n 0 k F E (fun _ => 0) Pr) ∧ Hid (IRow wr L total .i32 f) ∧ Hid (∀ a, a < total → f a = lat acc k a)) (fun v13 _ => K - (intOf v13).toNat)
          case atStart => exact ⟨0, _, _, Nat.zero_le _, rfl, HS, HRW, HF0⟩
          case round =>
            clear HS HRW HF0
            obtain ⟨k, f, Pr, hk, rfl, HS, HRW, HF⟩ := hrel
            by_cases hlt : k < K
            · obtain rfl := HR.out.ad (by omega)
              have c := cell_below HS.out.bel (Nat.le_refl _) (HR.out.at_ k hlt)
              have hx := HAB.out k hlt
              obtain ⟨x, hxe⟩ : ∃ x, Hid (acc k = x) := ⟨_, rfl⟩
              rw [hxe.out] at c hx
              obtain ⟨c0, f0⟩ := HRW.out x hx
              have HV := hid (HF.out x hx)
              obtain ⟨y, hye⟩ : ∃ y, Hid (f x = y) := ⟨_, rfl⟩
              rw [hye.out] at c0
              go_wp2_with fail
              refine (setRead k _ _ wr (hid HS.out.gr) hlt).mono ?_
              rintro e w' ⟨rfl, hw'⟩
              have HS2 := hid (HS.out.read hlt (x := y) (.int .i32 x) (.int .i32 0) (by rw [hxe.out, ← HV.out, hye.out]))
              have HRW2 := hid (((HRW.out.other (Ne.symm q3) (x := k * 3) (.int .i32 x)).other (Ne.symm q3) (x := k * 3 + 1) (.int .i32 0)).other (Ne.symm q3) (x := k * 3 + 2) (.int .i32 y))
              rw [hw'] at HS2 HRW2
              clear hw' c0 f0 HRW
              obtain ⟨c0, f0⟩ := HRW2.out x hx
              go_wp2_with fail
              go_roundw
              case rel => exact ⟨k + 1, _, _, by omega, by go_num, hid (HS2.out.set _ hL0 q0 q1 q2 q3), hid (HRW2.out.set hx k), hid (fun a ha => by
                by_cases e : a = x
                · subst e; rw [upd_same, ← hxe.out, lat_same]
                · rw [upd_ne _ _ e, lat_ne acc (by rw [hxe.out]; exact Ne.symm e)]; exact HF.out a ha)⟩
              case measure => simp [intOf]; omega
            · obtain rfl : K = k := by omega
              clear hlt hk
              go_wp2_with fail
              go_loopw [15] (fun v15 wr => ∃ (k : Nat) (Lt : Nat → Int), k ≤ total ∧ v15 = .int .i64 k ∧ Hid (St w wr g gT gA gR n total K p acc n k K F E Lt Pr) ∧ Hid (IRow wr L total .i32 f)) (fun v15 _ => total - (intOf v15).toNat)
              case atStart => exact ⟨0, _, Nat.zero_le _, rfl, HS, HRW⟩
              case round =>
                clear HS HRW
                obtain ⟨k, Lt, hk, rfl, HS, HRW⟩ := hrel
                by_cases hlt : k < total
                · obtain ⟨c0, f0⟩ := HRW.out k hlt
                  have HV := hid (HF.out k hlt)
                  obtain ⟨y, hye⟩ : ∃ y, Hid (f k = y) := ⟨_, rfl⟩
                  rw [hye.out] at c0
                  go_wp2_with fail
                  refine (setLatest k _ wr (hid HS.out.gr) hlt).mono ?_
                  rintro e w' ⟨rfl, hw'⟩
                  have HS2 := hid (HS.out.late hlt (x := y) (by rw [← hye.out, HV.out]))
                  have HRW2 := hid (HRW.out.other (Ne.symm q2) (x := k * 10 + 7) (.int .i32 y))
                  rw [hw'] at HS2 HRW2
                  clear hw'
                  go_wp2_with fail
                  go_roundw
                  case rel => exact ⟨k + 1, _, by omega, by go_num, HS2, HRW2⟩
                  case measure => simp [intOf]; omega
                · obtain rfl : total = k := by omega
                  go_wp2_with fail
                  go_ret
                  exact ⟨g, gT, gA, gR, F, E, Lt, Pr, rfl, HS.out.bel, HS.out.gr, HS.out.hF, HS.out.hL, HS.out.hP, HS.out.b0, HS.out.b1, HS.out.b2, HS.out.b3⟩
end Go.Proofs.Qxb6613555a.Build
