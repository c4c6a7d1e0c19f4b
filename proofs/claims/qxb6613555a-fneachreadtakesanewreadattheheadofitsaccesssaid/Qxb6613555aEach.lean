import Derived.Test.Qxb6613555aBuild
namespace Go.Proofs.Qxb6613555a.Each
open Go.RowKit Go.Proofs.Qxb6613555a.Kit Go.Proofs.Qxb6613555a.GraphA Go.Proofs.Qxb6613555a.GraphB Go.Proofs.Qxb6613555a.Plain Go.Proofs.Qxb6613555a.Build

set_option linter.unusedVariables false

def vals (xs : List Nat) : List Value := xs.map (fun r => Value.int .i32 (r : Nat))
theorem vals_len (xs : List Nat) : (vals xs).length = xs.length := by simp [vals]

/-- The captured variable 'out' at block q: it holds xs. -/
def Out (w : World) (q : Nat) (xs : List Nat) : Prop :=
  ∃ (a0 : Option Addr) (cap : Nat), w.cell? ⟨q, 0, none⟩ = some (.slice a0 xs.length cap) ∧ w.frozen? ⟨q, 0, none⟩ = false ∧ w.ownsRow (q + 1) 21 1 (.slice a0 xs.length cap) xs.length (vals xs) ∧ q < w.heap.size

theorem owns_same {w w' : World} {base : Nat} {e : TypeId} {v : Value} {n : Nat} {xs : List Value} (h : w.ownsRow base e 1 v n xs) (hb : ∀ k, base ≤ k → k < w.heap.size → w'.heap[k]? = w.heap[k]?) : w'.ownsRow base e 1 v n xs := by
  obtain ⟨h0, h | ⟨g, cap, cur, h1, h2, h3, h4⟩⟩ := h
  · exact ⟨h0, .inl h⟩
  · exact ⟨h0, .inr ⟨g, cap, cur, h1, h2, (hb g h2 (Array.getElem?_eq_some_iff.1 h3).1).trans h3, h4⟩⟩
theorem owns_slice {w : World} {base : Nat} {e : TypeId} {v : Value} {n : Nat} {xs : List Value} (h : w.ownsRow base e 1 v (n + 1) xs) : ∃ a0 cap, v = .slice a0 (n + 1) cap := by
  obtain ⟨h0, ⟨_, h⟩ | ⟨g, cap, cur, h1, _⟩⟩ := h
  · omega
  · exact ⟨_, _, h1⟩
theorem one_new (w : World) (v : Value) (t : TypeId) : ∀ j u, [v][j]? = some u → (w.alloc (.cells #[v] t)).cell? ((⟨w.heap.size, 0, none⟩ : Addr).add j) = some u := by
  intro j u h
  match j, h with
  | 0, h => rw [Addr.add_mid, World.cell?_alloc_new]; simpa using h

set_option maxHeartbeats 400000 in
theorem push (q : Nat) (r : Nat) (xs : List Nat) (w : World) (H : Hid (Out w q xs)) (hl : xs.length ≤ 1048576) :
    Calls Try.prog 41 #[.int .i32 r, .pointer (some ⟨q, 0, none⟩)] w fun e w' => e = .returned (.tuple #[]) ∧ Out w' q (xs ++ [r]) ∧ Below q w w' := by
  obtain ⟨a0, cap, c0, f0, ho, hq⟩ := H.out
  obtain ⟨i, hi, hz0, hz1, hz2⟩ := info_parts info21
  have hi := hid hi
  have hz0 := hid hz0
  have hz1 := hid hz1
  have hz2 := hid hz2
  have HO := hid ho
  obtain ⟨n, hn⟩ : ∃ n, Hid (xs.length = n) := ⟨_, rfl⟩
  rw [hn.out] at c0 HO hl
  clear ho H
  go_enter Try.func41, Try.ntmps41
  go_wp2_with (at_builtin; refine wpList_append_own _ rfl (.tmp 3) (.tmp 5) 46 rfl (q + 1) 21 i (.int .i32 0) 1 4 Try.underlying46 hi.out hz0.out hz1.out hz2.out rfl (by omega) (.slice a0 n cap) n (vals xs) rfl (HO.out.alloc _) ⟨w.heap.size, 0, none⟩ 1 1 [.int .i32 r] rfl rfl (one_new _ _ _) (by simp [Value.oneCell']) (by simp [maxLen]; omega) (by omega) (by simp; omega) ?_; intro v' w' ho' hg' _; obtain ⟨a1, cap1, rfl⟩ := owns_slice ho'; have HO' := hid ho'; have HG' := hid hg'; have hwq : w'.heap[q]? = (w.alloc (.cells #[.int .i32 r] 21)).heap[q]? := hg'.block q (by simp; omega) (fun e => by have := (HO.out.lt q e.symm).1; omega); have c1 : w'.cell? ⟨q, 0, none⟩ = some (.slice a0 n cap) := (World.cell?_of_block hwq).trans ((World.cell?_alloc_lt _ _ _ hq).trans c0); have f1 : w'.frozen? ⟨q, 0, none⟩ = false := (World.frozen?_of_block hwq).trans ((Below.frozen ((Below.refl w.heap.size w).alloc (Nat.le_refl _) _) hq).trans f0); clear ho' hg' c0 f0 hwq)
  first | go_ret | go_end0
  have hs : q < w'.heap.size := by have := HG'.out.size; simp at this; omega
  refine ⟨rfl, ⟨a1, cap1, ?_, ?_, ?_, by simpa using hs⟩, ?_⟩
  · rw [World.cell?_setCell_same _ _ _ c1]; simp [hn.out]
  · rw [World.frozen?_setCell]; exact f1
  · have : (xs ++ [r]).length = n + 1 := by simp [hn.out]
    rw [this]
    refine owns_same (w := w') (by simpa [vals] using HO'.out) (fun k hk _ => ?_)
    simp [World.setCell, Array.getElem?_modify, show q ≠ k by omega]
  · refine Below.setCell (B := q) (p := ⟨q, 0, none⟩) (Below.grown ((Below.refl q w).alloc (by omega) _) HG'.out (by simp; omega) (fun k hk => ?_)) (Nat.le_refl _) _
    have := (HO.out.lt k hk).1
    omega

set_option maxHeartbeats 400000 in
theorem accessesOf {B g n K total : Nat} {p acc : Nat → Nat} {gT gA gR : Nat} {F E Lt Pr : Nat → Int} (i : Nat) (w : World) (H : Hid (Built w B g n K total p acc gT gA gR F E Lt Pr)) (hi : i < n) :
    Calls Try.prog 51 #[.pointer (some ⟨g, 0, none⟩), .int .i32 i] w fun e w' => e = .returned (.tuple #[.int .i32 (pre p i), .int .i32 (pre p (i + 1))]) ∧ ∃ q, w' = w.drewN q := by
  have hc := H.out.gr.pT
  obtain ⟨h1, _⟩ := H.out.gr.fT i hi
  obtain ⟨h2, _⟩ := H.out.gr.eT i hi
  obtain ⟨e1, e2⟩ := H.out.hF i hi
  rw [e1] at h1
  rw [e2] at h2
  obtain ⟨x, hx⟩ : ∃ x, pre p i = x := ⟨_, rfl⟩
  obtain ⟨y, hy⟩ : ∃ y, pre p (i + 1) = y := ⟨_, rfl⟩
  rw [hx] at h1 ⊢
  rw [hy] at h2 ⊢
  clear e1 e2 hx hy
  go_enter Try.func51, Try.ntmps51
  go_wp2_with fail
  go_quiet (fail)
  go_wp2_with fail
  go_ret2
  exact ⟨rfl, nq, rfl⟩

theorem built_below {w w' : World} {B g n K total : Nat} {p acc : Nat → Nat} {gT gA gR : Nat} {F E Lt Pr : Nat → Int} (h : Built w B g n K total p acc gT gA gR F E Lt Pr) {C : Nat} (hb : Below C w w') (h0 : g < C) (h1 : gT < C) (h2 : gA < C) (h3 : gR < C) : Built w' B g n K total p acc gT gA gR F E Lt Pr :=
  ⟨h.gr.below hb h0 h1 h2 h3, h.hF, h.hL, h.hP, h.b0, h.b1, h.b2, h.b3⟩
theorem drewN_below (B : Nat) (w : World) (q : Nat) : Below B w (w.drewN q) := ⟨rfl, rfl, rfl, Nat.le_refl _, fun _ _ => rfl⟩
theorem Out.drewN {w : World} {q : Nat} {xs : List Nat} (h : Out w q xs) (m : Nat) : Out (w.drewN m) q xs := h

/-- Inside 'eachRead', 'out' captured at block q. -/
structure ESt (w0 w : World) (q B g n K total : Nat) (p acc : Nat → Nat) (gT gA gR : Nat) (F E Lt Pr : Nat → Int) (xs : List Nat) : Prop where
  bt : Built w B g n K total p acc gT gA gR F E Lt Pr
  out : Out w q xs
  bel : Below q w0 w
  q0 : g < q
  q1 : gT < q
  q2 : gA < q
  q3 : gR < q
theorem ESt.next {w0 w w' : World} {q B g n K total : Nat} {p acc : Nat → Nat} {gT gA gR : Nat} {F E Lt Pr : Nat → Int} {xs ys : List Nat} (h : ESt w0 w q B g n K total p acc gT gA gR F E Lt Pr xs) (hb : Below q w w') (ho : Out w' q ys) : ESt w0 w' q B g n K total p acc gT gA gR F E Lt Pr ys :=
  ⟨built_below h.bt hb h.q0 h.q1 h.q2 h.q3, ho, h.bel.trans hb, h.q0, h.q1, h.q2, h.q3⟩

set_option maxHeartbeats 1000000 in
theorem eachRead {q B g n K total : Nat} {p acc : Nat → Nat} {gT gA gR : Nat} {F E Lt Pr : Nat → Int} (i : Nat) (w : World) (H : Hid (ESt w w q B g n K total p acc gT gA gR F E Lt Pr [])) (hi : i < n) (hn : n ≤ 65536) (hK : K ≤ 65537) (ht : total ≤ 65536) (HT : Hid (pre p n = total)) :
    Calls Try.prog 40 #[.pointer (some ⟨g, 0, none⟩), .int .i32 i, .func (.func 41) #[] #[.pointer (some ⟨q, 0, none⟩)]] w fun e w' => e = .returned (.tuple #[]) ∧ ESt w w' q B g n K total p acc gT gA gR F E Lt Pr (cat acc K (pre p i) (p i)) := by
  have hpi : pre p (i + 1) ≤ total := by rw [← HT.out]; exact pre_mono p hi
  have hpe : Hid (pre p (i + 1) = pre p i + p i) := hid rfl
  obtain ⟨lo, hlo⟩ : ∃ lo, Hid (pre p i = lo) := ⟨_, rfl⟩
  obtain ⟨D, hD⟩ : ∃ D, Hid (p i = D) := ⟨_, rfl⟩
  rw [hpe.out, hlo.out, hD.out] at hpi
  rw [hlo.out, hD.out]
  go_enter Try.func40, Try.ntmps40
  go_wp2_with fail
  refine (accessesOf i w (hid H.out.bt) hi).mono ?_
  rintro e w1 ⟨rfl, nq, rfl⟩
  rw [hpe.out, hlo.out, hD.out]
  have H1 := hid (H.out.next (drewN_below q w nq) (H.out.out.drewN nq))
  clear H
  go_wp2_with fail
  go_loopw [6] (fun v6 wr => ∃ (d a : Nat), d ≤ D ∧ Hid (lo + d = a) ∧ v6 = .int .i32 a ∧ Hid (ESt w wr q B g n K total p acc gT gA gR F E Lt Pr (cat acc K lo d))) (fun v6 _ => lo + D - (intOf v6).toNat)
  case atStart => exact ⟨0, lo, Nat.zero_le _, hid rfl, rfl, H1⟩
  case round =>
    clear H1
    obtain ⟨d, a, hd, ha, rfl, H⟩ := hrel
    by_cases hlt : d < D
    · have hal : a < lo + D := by have := ha.out; omega
      have hal' : (a : Int) < (lo : Int) + (D : Int) := by omega
      have hc := H.out.bt.gr.pA
      obtain ⟨h1, _⟩ := H.out.bt.gr.lA a (by omega)
      rw [H.out.bt.hL a (by omega)] at h1
      have hlt2 := hid (lat_lt acc K a)
      obtain ⟨x, hx⟩ : ∃ x, Hid (lat acc K a = x) := ⟨_, rfl⟩
      rw [hx.out] at h1
      go_wp2_with fail
      go_loopw [8] (fun v8 wr => ∃ (j : Nat) (c : List Nat), j ≤ K ∧ v8 = .int .i32 (lat acc j a) ∧ Hid (rd acc K a = c ++ rd acc j a) ∧ Hid (ESt w wr q B g n K total p acc gT gA gR F E Lt Pr (cat acc K lo d ++ c))) (fun v8 _ => (intOf v8 + 1).toNat)
      case atStart => exact ⟨K, [], Nat.le_refl _, by rw [hx.out], hid rfl, hid (by simpa using H.out)⟩
      case round =>
        clear H hc h1 hx hlt2
        obtain ⟨j, c, hj, rfl, HC, H⟩ := hrel
        by_cases hpos : 0 ≤ lat acc j a
        · obtain ⟨r, hr, hrj, hra, hrd⟩ := lat_pos hpos
          have HRA := hid hra
          have HRD := hid hrd
          have hlen : (cat acc K lo d ++ c).length ≤ 1048576 := by
            have h1 := cat_len acc K lo (d + 1)
            rw [cat, ha.out, HC.out] at h1
            simp only [List.length_append] at h1 ⊢
            omega
          rw [hr]
          clear hpos hr hra hrd
          go_wp2_with fail
          refine (push q r _ wr (hid H.out.out) hlen).mono ?_
          rintro e w2 ⟨rfl, ho2, hb2⟩
          have H2 := hid (H.out.next hb2 ho2)
          clear H ho2 hb2
          have hc := H2.out.bt.gr.pR
          obtain ⟨h1, _⟩ := H2.out.bt.gr.pr r (by omega)
          rw [H2.out.bt.hP r (by omega), HRA.out] at h1
          have hl := lat_lt acc r a
          obtain ⟨x, hx⟩ : ∃ x, Hid (lat acc r a = x) := ⟨_, rfl⟩
          rw [hx.out] at h1 hl
          go_wp2_with fail
          go_roundw
          case rel => exact ⟨r, c ++ [r], by omega, by rw [hx.out], hid (by rw [HC.out, HRD.out]; simp), hid (by simpa using H2.out)⟩
          case measure => simp [intOf]; omega
        · have hl := lat_lt acc j a
          have HN := hid (lat_neg (show lat acc j a < 0 by omega))
          have HF : Hid (ESt w wr q B g n K total p acc gT gA gR F E Lt Pr (cat acc K lo (d + 1))) := hid (by
            have h := HC.out
            rw [HN.out, List.append_nil] at h
            rw [cat, ha.out, h]; exact H.out)
          obtain ⟨x, hx⟩ : ∃ x, Hid (lat acc j a = x) := ⟨_, rfl⟩
          rw [hx.out] at hpos hl ⊢
          clear H HC HN
          go_wp2_with fail
          go_roundw
          case rel => exact ⟨d + 1, a + 1, by omega, hid (by rw [← ha.out]; rfl), by go_num, HF⟩
          case measure => simp [intOf]; omega
    · obtain rfl : D = d := by omega
      have hal : a = lo + D := ha.out.symm
      go_wp2_with fail
      first | go_ret | go_end0
      exact ⟨rfl, H.out⟩

/-- A slice that holds xs. -/
structure Res (w : World) (a0 : Option Addr) (b : Nat) (xs : List Nat) : Prop where
  ad : 0 < xs.length → a0 = some ⟨b, 0, none⟩
  at_ : ∀ (j v : Nat), xs[j]? = some v → w.cell? ⟨b, j, none⟩ = some (.int .i32 v)
theorem Res.below {w w' : World} {a0 : Option Addr} {b : Nat} {xs : List Nat} (h : Res w a0 b xs) (hb : Below w.heap.size w w') : Res w' a0 b xs :=
  ⟨h.ad, fun j v hv => cell_below hb (Nat.le_refl _) (h.at_ j v hv)⟩
theorem Out.res {w : World} {q : Nat} {xs : List Nat} (h : Out w q xs) : ∃ a0 cap b, w.cell? ⟨q, 0, none⟩ = some (.slice a0 xs.length cap) ∧ Res w a0 b xs := by
  obtain ⟨a0, cap, c, _, ho, _⟩ := h
  obtain ⟨h0, ⟨h1, h2⟩ | ⟨g, cap', cur, h1, h2, h3, h4, h5, h6, h7⟩⟩ := ho
  · refine ⟨a0, cap, 0, c, fun h => by omega, fun j v hv => ?_⟩
    have := (List.getElem?_eq_some_iff.1 hv).1
    omega
  · simp only [Value.slice.injEq, true_and] at h1
    obtain ⟨rfl, rfl⟩ := h1
    refine ⟨_, cap, g, c, fun _ => rfl, fun j v hv => ?_⟩
    have hj := (List.getElem?_eq_some_iff.1 hv).1
    simp only [World.cell?, h3]
    have : (vals xs)[j]? = some (.int .i32 v) := by simp [vals, hv]
    rw [← h7, List.getElem?_take, if_pos (by omega)] at this
    simpa using this

set_option maxHeartbeats 400000 in
theorem zzEach {B g n K total : Nat} {p acc : Nat → Nat} {gT gA gR : Nat} {F E Lt Pr : Nat → Int} (i : Nat) (w : World) (H : Hid (Built w B g n K total p acc gT gA gR F E Lt Pr)) (hi : i < n) (hn : n ≤ 65536) (hK : K ≤ 65537) (ht : total ≤ 65536) (HT : Hid (pre p n = total)) :
    Calls Try.prog 21 #[.pointer (some ⟨g, 0, none⟩), .int .i32 i] w fun e w' => ∃ a0 cap b, e = .returned (.slice a0 (cat acc K (pre p i) (p i)).length cap) ∧ Res w' a0 b (cat acc K (pre p i) (p i)) ∧ Below w.heap.size w w' := by
  obtain ⟨xs, hxs⟩ : ∃ xs, Hid (cat acc K (pre p i) (p i) = xs) := ⟨_, rfl⟩
  rw [hxs.out]
  have hb0 : Below w.heap.size w (w.alloc (.cells #[.slice none 0 0] 46)) := (Below.refl _ _).alloc (Nat.le_refl _) _
  have HE : Hid (ESt (w.alloc (.cells #[.slice none 0 0] 46)) (w.alloc (.cells #[.slice none 0 0] 46)) w.heap.size B g n K total p acc gT gA gR F E Lt Pr []) := hid ⟨built_below H.out hb0 H.out.gr.lg H.out.gr.lT H.out.gr.lAA H.out.gr.lR, ⟨none, 0, by simp, World.frozen?_alloc_new w _ _ _, World.ownsRow_nil _ _ _ _, by simp⟩, Below.refl _ _, H.out.gr.lg, H.out.gr.lT, H.out.gr.lAA, H.out.gr.lR⟩
  have HB0 := hid hb0
  clear hb0 H
  go_enter Try.func21, Try.ntmps21
  go_wp2_with fail
  refine (eachRead i _ HE hi hn hK ht HT).mono ?_
  rintro e w1 ⟨rfl, h1⟩
  rw [hxs.out] at h1
  obtain ⟨a0, cap, b, c, hr⟩ := h1.out.res
  have HR := hid hr
  have HB1 := hid (HB0.out.trans h1.bel)
  clear hr h1 HE HB0
  go_wp2_with fail
  go_ret
  exact ⟨a0, cap, b, rfl, HR.out, HB1.out⟩

set_option maxHeartbeats 400000 in
theorem owner (aP : Option Addr) (bP oP n capP : Nat) (p : Nat → Nat) (a i : Nat) (w : World) (HP : Hid (Arg w .u8 aP bP oP n p)) (hn : n ≤ 65536) (HPB : Hid (∀ i, i < n → p i ≤ 255)) (HT : Hid (pre p n ≤ 65536)) (hi : i < n) (h1 : pre p i ≤ a) (h2 : a < pre p (i + 1)) :
    Calls Try.prog 24 #[.slice aP n capP, .int .i64 a] w fun e w' => e = .returned (.int .i64 i) ∧ w = w' := by
  obtain rfl := HP.out.ad (by omega)
  have h1 := hid h1
  have h2 := hid h2
  go_enter Try.func24, Try.ntmps24
  go_wp2_with fail
  go_loopw [5, 6] (fun v5 v6 wr => ∃ (k s : Nat), k ≤ i ∧ Hid (pre p k = s) ∧ v5 = .int .i64 s ∧ v6 = .int .i64 k ∧ w = wr) (fun _ v6 _ => n - (intOf v6).toNat)
  case atStart => exact ⟨0, 0, Nat.zero_le _, hid rfl, rfl, rfl, rfl⟩
  case round =>
    obtain ⟨k, s, hk, hs, rfl, rfl, rfl⟩ := hrel
    have hlt : k < n := by omega
    have c := HP.out.at_ k hlt
    have hx := HPB.out k hlt
    have hst : pre p (k + 1) ≤ pre p n := pre_mono p hlt
    have hT := HT.out
    have hps : pre p (k + 1) = pre p k + p k := rfl
    obtain ⟨x, hxe⟩ : ∃ x, Hid (p k = x) := ⟨_, rfl⟩
    rw [hps, hs.out, hxe.out] at hst
    rw [hxe.out] at c hx
    by_cases hki : k < i
    · have hle : s + x ≤ a := by
        have := pre_mono p (show k + 1 ≤ i by omega)
        rw [hps, hs.out, hxe.out] at this
        have := h1.out
        omega
      have hle' : ¬ ((a : Int) < (s : Int) + (x : Int)) := by omega
      clear hps
      go_wp2_with fail
      go_roundw
      case rel => exact ⟨k + 1, s + x, by omega, hid (by simp only [pre]; rw [hs.out, hxe.out]), by go_num, by go_num, by simp⟩
      case measure => simp [intOf]; omega
    · obtain rfl : k = i := by omega
      have hle : a < s + x := by
        have := h2.out
        rw [hps, hs.out, hxe.out] at this
        omega
      have hle' : (a : Int) < (s : Int) + (x : Int) := by omega
      clear hps
      go_wp2_with fail
      go_ret
      exact ⟨rfl, rfl⟩

set_option maxHeartbeats 400000 in
theorem nodeRange (aP : Option Addr) (bP oP n capP : Nat) (p : Nat → Nat) (i : Nat) (w : World) (HP : Hid (Arg w .u8 aP bP oP n p)) (hn : n ≤ 65536) (HPB : Hid (∀ i, i < n → p i ≤ 255)) (HT : Hid (pre p n ≤ 65536)) (hi : i < n) :
    Calls Try.prog 19 #[.slice aP n capP, .int .i64 i] w fun e w' => e = .returned (.tuple #[.int .i64 (pre p i), .int .i64 ((pre p i : Int) + p i)]) ∧ ∃ q, w' = w.drewN q := by
  obtain rfl := HP.out.ad (by omega)
  go_enter Try.func19, Try.ntmps19
  go_wp2_with fail
  go_loopw [6, 7] (fun v6 v7 wr => ∃ (k s : Nat), k ≤ i ∧ Hid (pre p k = s) ∧ v6 = .int .i64 s ∧ v7 = .int .i64 k ∧ w = wr) (fun _ v7 _ => n - (intOf v7).toNat)
  case atStart => exact ⟨0, 0, Nat.zero_le _, hid rfl, rfl, rfl, rfl⟩
  case round =>
    obtain ⟨k, s, hk, hs, rfl, rfl, rfl⟩ := hrel
    have hlt : k < n := by omega
    have c := HP.out.at_ k hlt
    have hx := HPB.out k hlt
    have hst : pre p (k + 1) ≤ pre p n := pre_mono p hlt
    have hT := HT.out
    have hps : pre p (k + 1) = pre p k + p k := rfl
    obtain ⟨x, hxe⟩ : ∃ x, Hid (p k = x) := ⟨_, rfl⟩
    rw [hps, hs.out, hxe.out] at hst
    rw [hxe.out] at c hx
    clear hps
    by_cases hki : k < i
    · go_wp2_with fail
      go_roundw
      case rel => exact ⟨k + 1, s + x, by omega, hid (by simp only [pre]; rw [hs.out, hxe.out]), by go_num, by go_num, by simp⟩
      case measure => simp [intOf]; omega
    · obtain rfl : k = i := by omega
      go_wp2_with fail
      go_quiet (fail)
      go_wp2_with fail
      go_ret2
      exact ⟨by rw [hs.out, hxe.out]; rfl, nq, rfl⟩
end Go.Proofs.Qxb6613555a.Each
