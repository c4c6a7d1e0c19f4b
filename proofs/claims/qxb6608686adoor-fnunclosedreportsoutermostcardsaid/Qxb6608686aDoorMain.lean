import Derived.Test.Qxb6608686aDoorParts2
namespace Go.Proofs.Qxb6608686aDoor.Main
open Go.RowKit Go.Proofs.Qxb6608686aDoor.Kit Go.Proofs.Qxb6608686aDoor.Parts

set_option maxHeartbeats 400000 in
theorem bytes4 (h : Bool) (ao : Option Addr) (n cap : Nat) (x l c k : Int) (f1 f2 f3 : Bool) (w : World) (hn : n ≤ 4096) :
    Calls Tryd.prog 4 #[.bool h, .slice ao n cap, .int .i64 x, .agg #[.int .i64 l, .int .i64 c, .int .u8 k, .bool f1, .bool f2, .bool f3]] w fun e w' => e = .returned (.bool true) ∧ Below w.heap.size w w' := by
  go_enter Tryd.func4, Tryd.ntmps4
  go_wp2
  go_ret
  exact ⟨rfl, (Below.refl _ _).alloc (Nat.le_refl _) _⟩

theorem info32 : (Tryd.prog.info? 32).map (fun i => (i.zero, i.size, i.bytes)) = some (some (.agg #[.int .i64 0, .int .i64 0, .int .u8 0, .bool false, .bool false, .bool false]), 6, 24) := by kernel_rfl

/-- The box of the parameter 'nb', behind whatever calls. -/
def Box (w : World) (g : Nat) (l c k : Int) (f1 f2 f3 : Bool) : Prop :=
  w.cell? ⟨g, 0, none⟩ = some (.int .i64 l) ∧ w.cell? ⟨g, 1, none⟩ = some (.int .i64 c) ∧ w.cell? ⟨g, 2, none⟩ = some (.int .u8 k) ∧ w.cell? ⟨g, 3, none⟩ = some (.bool f1) ∧ w.cell? ⟨g, 4, none⟩ = some (.bool f2) ∧ w.cell? ⟨g, 5, none⟩ = some (.bool f3)

theorem Box.below {w w' : World} {g : Nat} {l c k : Int} {f1 f2 f3 : Bool} (h : Box w g l c k f1 f2 f3) (hb : Below w.heap.size w w') : Box w' g l c k f1 f2 f3 := by
  obtain ⟨h0, h1, h2, h3, h4, h5⟩ := h
  exact ⟨cell_below hb h0, cell_below hb h1, cell_below hb h2, cell_below hb h3, cell_below hb h4, cell_below hb h5⟩
theorem Box.new (w : World) (l c k : Int) (f1 f2 f3 : Bool) : Box (w.alloc (.cells #[.int .i64 l, .int .i64 c, .int .u8 k, .bool f1, .bool f2, .bool f3] 24)) w.heap.size l c k f1 f2 f3 := by
  refine ⟨?_, ?_, ?_, ?_, ?_, ?_⟩ <;> simp
theorem Box.setCells {w : World} {g : Nat} {l c k : Int} {f1 f2 f3 : Bool} (h : Box w g l c k f1 f2 f3) (b o : Nat) (vs : List Value) (hne : g ≠ b) : Box (w.setCells b o vs) g l c k f1 f2 f3 := by
  obtain ⟨h0, h1, h2, h3, h4, h5⟩ := h
  refine ⟨?_, ?_, ?_, ?_, ?_, ?_⟩ <;> (rw [World.cell?_setCells_out _ _ _ _ _ (fun e => absurd e hne)]; assumption)
theorem Box.alloc {w : World} {g : Nat} {l c k : Int} {f1 f2 f3 : Bool} (h : Box w g l c k f1 f2 f3) (o : Obj) : Box (w.alloc o) g l c k f1 f2 f3 :=
  h.below ((Below.refl _ _).alloc (Nat.le_refl _) _)

/-- Two steps of 'Below' from the call's head on. -/
theorem chain {w w1 w2 : World} (h1 : Below w.heap.size w w1) (h2 : Below w1.heap.size w1 w2) : Below w.heap.size w w2 := h1.trans (h2.mono h1.size)

theorem blk_at {w wr : World} {b o : Nat} {x : Blk} {l c k : Int} {f1 f2 f3 : Bool} (h : w.rangeAt b o x.cells) (hx : x = ⟨l, c, k, f1, f2, f3⟩) (hb : Below w.heap.size w wr) : wr.rangeAt b o [.int .i64 l, .int .i64 c, .int .u8 k, .bool f1, .bool f2, .bool f3] := by
  subst hx
  exact rangeAt_below hb h
theorem cells6 {w : World} {b o : Nat} {c0 c1 c2 c3 c4 c5 : Value} (h : w.rangeAt b o [c0, c1, c2, c3, c4, c5]) :
    w.cell? ⟨b, o, none⟩ = some c0 ∧ w.cell? ⟨b, o + 1, none⟩ = some c1 ∧ w.cell? ⟨b, o + 2, none⟩ = some c2 ∧ w.cell? ⟨b, o + 3, none⟩ = some c3 ∧ w.cell? ⟨b, o + 4, none⟩ = some c4 ∧ w.cell? ⟨b, o + 5, none⟩ = some c5 :=
  ⟨h 0 _ rfl, h 1 _ rfl, h 2 _ rfl, h 3 _ rfl, h 4 _ rfl, h 5 _ rfl⟩

theorem one6 (l c k : Int) (f1 f2 f3 : Bool) : (#[.int .i64 l, .int .i64 c, .int .u8 k, .bool f1, .bool f2, .bool f3] : Array Value).all (·.oneCell') = true := by
  simp [Value.oneCell']

/-- The state inside the loops that fill 'base' (block g) and 'ins' (block g + 1): k elements of 'base' are laid. -/
structure Rel2 (w : World) (g n k : Nat) (B : Nat → Blk) (gb : Nat) (nl nc nk : Int) (m1 m2 m3 : Bool) : Prop where
  box : Box w gb nl nc nk m1 m2 m3
  gb : gb < g
  t1 : ∀ j, j < n → w.there g (j * 6) 6
  t2 : ∀ j, j < n + 1 → w.there (g + 1) (j * 6) 6
  r1 : ∀ j, j < k → w.rangeAt g (j * 6) (B j).cells

section
variable {w : World} {g n k : Nat} {B : Nat → Blk} {gb : Nat} {nl nc nk : Int} {m1 m2 m3 : Bool}
theorem Rel2.below (h : Rel2 w g n k B gb nl nc nk m1 m2 m3) {w' : World} (hb : Below w.heap.size w w') : Rel2 w' g n k B gb nl nc nk m1 m2 m3 :=
  ⟨h.box.below hb, h.gb, fun j hj => there_below hb (h.t1 j hj), fun j hj => there_below hb (h.t2 j hj), fun j hj => rangeAt_below hb (h.r1 j hj)⟩
/-- A store of element k of 'base'. -/
theorem Rel2.base (h : Rel2 w g n k B gb nl nc nk m1 m2 m3) (hk : k < n) {cs : List Value} (hcs : cs = (B k).cells) : Rel2 (w.setCells g (k * 6) cs) g n (k + 1) B gb nl nc nk m1 m2 m3 := by
  have hg := h.gb
  subst hcs
  refine ⟨h.box.setCells _ _ _ (by omega), hg, fun j hj => World.there_setCells (h.t1 j hj) _ _ _, fun j hj => World.there_setCells (h.t2 j hj) _ _ _, fun j hj => ?_⟩
  rcases Nat.lt_succ_iff_lt_or_eq.1 hj with h' | rfl
  · exact World.rangeAt_setCells_apart (h.r1 j h') _ _ _ (by rw [Blk.len]; omega)
  · exact World.rangeAt_setCells_same _ _ _ _ (by rw [Blk.len]; exact h.t1 j hk)
/-- A store of an element of 'ins'. -/
theorem Rel2.ins (h : Rel2 w g n k B gb nl nc nk m1 m2 m3) (o : Nat) (cs : List Value) : Rel2 (w.setCells (g + 1) o cs) g n k B gb nl nc nk m1 m2 m3 := by
  have hg := h.gb
  exact ⟨h.box.setCells _ _ _ (by omega), hg, fun j hj => World.there_setCells (h.t1 j hj) _ _ _, fun j hj => World.there_setCells (h.t2 j hj) _ _ _, fun j hj => World.rangeAt_setCells_apart (h.r1 j hj) _ _ _ (by omega)⟩
end
theorem rel2_start (w : World) (n : Nat) (B : Nat → Blk) (gb : Nat) (nl nc nk : Int) (m1 m2 m3 : Bool) (hbx : Box w gb nl nc nk m1 m2 m3) (c1 c2 : Array Value) (h1 : c1.size = n * 6) (h2 : c2.size = (n + 1) * 6) :
    Rel2 ((w.alloc (.cells c1 32)).alloc (.cells c2 32)) w.heap.size n 0 B gb nl nc nk m1 m2 m3 := by
  refine ⟨(hbx.alloc _).alloc _, World.block_lt_of_cell? w _ hbx.1, fun j hj => World.there_alloc (there_made w _ _ _ _ (by omega)) _, fun j hj => ?_, fun j hj => absurd hj (Nat.not_lt_zero j)⟩
  have := there_made (w.alloc (.cells c1 32)) c2 32 (j * 6) 6 (by omega)
  rwa [World.size_alloc] at this

/-- Element 0 of 'ins' behind a store of element k: it is the first of B. -/
theorem first_kept {w : World} {g k : Nat} {B : Nat → Blk} {l c kk : Int} {f1 f2 f3 : Bool} (h : 0 < k → w.rangeAt g 0 (B 0).cells) (ht : w.there g (k * 6) 6) (hB : B k = ⟨l, c, kk, f1, f2, f3⟩) :
    (w.setCells g (k * 6) [.int .i64 l, .int .i64 c, .int .u8 kk, .bool f1, .bool f2, .bool f3]).rangeAt g 0 (B 0).cells := by
  rcases Nat.eq_zero_or_pos k with rfl | hk
  · rw [hB]
    have := World.rangeAt_setCells_same w g (0 * 6) [.int .i64 l, .int .i64 c, .int .u8 kk, .bool f1, .bool f2, .bool f3] ht
    rwa [Nat.zero_mul] at this ⊢
  · exact World.rangeAt_setCells_apart (h hk) _ _ _ (by rw [Blk.len]; omega)

/-- Which block is the outermost of 'ins'. -/
def want (p : Nat) (b0 nb : Blk) : Blk := if 0 < p then b0 else nb
theorem first_put {w : World} {g p : Nat} {b0 : Blk} {l c kk : Int} {f1 f2 f3 : Bool} (h : 0 < p → w.rangeAt g 0 b0.cells) (ht : w.there g (p * 6) 6) :
    (w.setCells g (p * 6) [.int .i64 l, .int .i64 c, .int .u8 kk, .bool f1, .bool f2, .bool f3]).rangeAt g 0 (want p b0 ⟨l, c, kk, f1, f2, f3⟩).cells := by
  rcases Nat.eq_zero_or_pos p with rfl | hk
  · have := World.rangeAt_setCells_same w g (0 * 6) [.int .i64 l, .int .i64 c, .int .u8 kk, .bool f1, .bool f2, .bool f3] ht
    rw [Nat.zero_mul] at this ⊢
    exact this
  · rw [want, if_pos hk]
    exact World.rangeAt_setCells_apart (h hk) _ _ _ (by rw [Blk.len]; omega)

theorem ok_bd {l c k : Int} {f1 f2 f3 : Bool} (h : Blk.okB ⟨l, c, k, f1, f2, f3⟩ = true) : 1 ≤ l ∧ 1 ≤ c ∧ 1 ≤ k ∧ k ≤ 6 := by simpa [Blk.okB] using h
theorem msg_eq (k : Int) : msg k = (⟨#[117, 110, 116, 101, 114, 109, 105, 110, 97, 116, 101, 100, 32, 36, 36]⟩ : ByteArray) ++ kwT k := rfl
theorem kw_below {w w' : World} (h : KwLaid w) (hb : Below w.heap.size w w') : KwLaid w' := fun k h1 h2 => cell_below hb (h k h1 h2)
theorem base0 {w : World} {g n k : Nat} {B : Nat → Blk} {gb : Nat} {nl nc nk : Int} {m1 m2 m3 : Bool} (h : Rel2 w g n k B gb nl nc nk m1 m2 m3) (hk : 0 < k) {x : Blk} (hx : B 0 = x) : w.rangeAt g 0 x.cells := by
  have := h.r1 0 hk
  rw [Nat.zero_mul, hx] at this
  exact this
theorem blk0_at {w wr : World} {b off n : Nat} {B : Nat → Blk} {l c k : Int} {f1 f2 f3 : Bool} (h : ∀ i, i < n → w.rangeAt b (off + i * 6) (B i).cells) (hn : 0 < n) (hx : B 0 = ⟨l, c, k, f1, f2, f3⟩) (hb : Below w.heap.size w wr) : wr.rangeAt b off [.int .i64 l, .int .i64 c, .int .u8 k, .bool f1, .bool f2, .bool f3] := by
  have := blk_at (h 0 hn) hx hb
  rwa [Nat.zero_mul, Nat.add_zero] at this

set_option maxRecDepth 20000 in
set_option maxHeartbeats 1000000 in
theorem walk_pos (hs : Bool) (b off n cap p : Nat) (B : Nat → Blk) (nl nc nk : Int) (m1 m2 m3 : Bool) (w : World) (hn : 0 < n) (hn' : n ≤ 4096) (hp : p ≤ n) (hnb : Blk.okB ⟨nl, nc, nk, m1, m2, m3⟩ = true)
    (HC : Hid (∀ i, i < n → w.rangeAt b (off + i * 6) (B i).cells)) (HKW : Hid (KwLaid w)) :
    Calls Tryd.prog 3 #[.bool hs, .slice (some ⟨b, off, none⟩) n cap, .int .i64 p, .agg #[.int .i64 nl, .int .i64 nc, .int .u8 nk, .bool m1, .bool m2, .bool m3]] w fun e w' => e = .returned (.bool true) ∧ Below w.heap.size w w' := by
  go_enter Tryd.func3, Tryd.ntmps3
  go_wp2_with fail
  refine (bytes4 _ _ _ _ _ _ _ _ _ _ _ _ hn').mono ?_
  rintro e w1 ⟨rfl, hb1⟩
  have hx1 := (Box.new w nl nc nk m1 m2 m3).below hb1
  have hB1 := chain ((Below.refl w.heap.size w).alloc (Nat.le_refl _) _) hb1
  have hz1 : w.heap.size < w1.heap.size := by have := hb1.size; simp at this; omega
  clear hb1
  have X1 := hid hx1
  obtain ⟨q0, q1, q2, q3, q4, q5⟩ := hx1
  go_wp2_with fail
  refine (openable_any _ _ _ _ _ _ _).mono ?_
  rintro e w2 ⟨rfl, hb2⟩
  clear q0 q1 q2 q3 q4 q5
  have hB2 := chain hB1 hb2
  have hz2 : w.heap.size < w2.heap.size := by have := hb2.size; omega
  have X2 := hid (X1.out.below hb2)
  clear hB1 hz1 X1 hb2
  go_wp2_with fail
  go_loopw [9] (fun i wr => ∃ k : Nat, k ≤ n ∧ i = .int .i64 k ∧ Below w.heap.size w wr ∧ w.heap.size < wr.heap.size ∧ Hid (Box wr w.heap.size nl nc nk m1 m2 m3) ∧ Hid (∀ j, j < k → (B j).okB = true)) (fun i _ => n - (intOf i).toNat)
  case atStart => exact ⟨0, Nat.zero_le _, rfl, hB2, hz2, X2, hid (fun j hj => absurd hj (Nat.not_lt_zero j))⟩
  case round =>
    obtain ⟨k, hk, rfl, hBr, hzr, Xr, Ok⟩ := hrel
    clear hB2 hz2 X2
    by_cases hlt : k < n
    · obtain ⟨⟨l, c, kk, f1, f2, f3⟩, HB⟩ : ∃ x, Hid (B k = x) := ⟨_, rfl⟩
      have hr : wr.rangeAt b (off + k * 6) [.int .i64 l, .int .i64 c, .int .u8 kk, .bool f1, .bool f2, .bool f3] := by
        have h := HC.out k hlt
        rw [HB.out] at h
        exact fun j v hv => by rw [hBr.cell (World.block_lt_of_cell? w _ (h j v hv))]; exact h j v hv
      have r0 : wr.cell? ⟨b, off + k * 6, none⟩ = some (.int .i64 l) := hr 0 _ rfl
      have r1 : wr.cell? ⟨b, off + k * 6 + 1, none⟩ = some (.int .i64 c) := hr 1 _ rfl
      have r2 : wr.cell? ⟨b, off + k * 6 + 2, none⟩ = some (.int .u8 kk) := hr 2 _ rfl
      have r3 : wr.cell? ⟨b, off + k * 6 + 3, none⟩ = some (.bool f1) := hr 3 _ rfl
      have r4 : wr.cell? ⟨b, off + k * 6 + 4, none⟩ = some (.bool f2) := hr 4 _ rfl
      have r5 : wr.cell? ⟨b, off + k * 6 + 5, none⟩ = some (.bool f3) := hr 5 _ rfl
      clear hr
      by_cases hok : Blk.okB ⟨l, c, kk, f1, f2, f3⟩ = true
      · go_wp2_with fail
        refine (openable_any _ _ _ _ _ _ _).mono ?_
        rintro e w3 ⟨rfl, hb3⟩
        clear r0 r1 r2 r3 r4 r5
        go_wp2_with fail
        go_roundw
        case rel => exact ⟨k + 1, by omega, by go_num, chain hBr hb3, by have := hb3.size; omega, hid (Xr.out.below hb3), hid (fun j hj => by
          rcases Nat.lt_succ_iff_lt_or_eq.1 hj with h | rfl
          · exact Ok.out j h
          · rw [HB.out]; exact hok)⟩
        case measure => simp [intOf]; omega
      · have hok' : Blk.okB ⟨l, c, kk, f1, f2, f3⟩ = false := by simpa using hok
        clear hok
        go_wp2_with fail
        refine (openable_any _ _ _ _ _ _ _).mono ?_
        rintro e w3 ⟨rfl, hb3⟩
        clear r0 r1 r2 r3 r4 r5
        go_wp2_with fail
        go_ret
        exact ⟨rfl, chain hBr hb3⟩
    · obtain rfl : n = k := by omega
      clear hlt hk
      obtain ⟨wo, rfl⟩ : ∃ wo : World, wo = wr := ⟨_, rfl⟩
      go_wp2_with (first | (at_make; refine wpList_make_at rfl _ _ _ rfl 32 _ 6 24 Tryd.underlying27 info32 _ _ _ _ n n rfl rfl rfl rfl (Nat.le_refl _) (by omega) (by omega) ?_) | (at_make; refine wpList_make_at rfl _ _ _ rfl 32 _ 6 24 Tryd.underlying27 info32 _ _ _ _ (n + 1) (n + 1) rfl rfl rfl rfl (Nat.le_refl _) (by omega) (by omega) ?_))
      go_loopw [12] (fun i wr => ∃ k : Nat, k ≤ n ∧ i = .int .i64 k ∧ Below w.heap.size w wr ∧ wo.heap.size + 1 < wr.heap.size ∧ Hid (Rel2 wr wo.heap.size n k B w.heap.size nl nc nk m1 m2 m3)) (fun i _ => n - (intOf i).toNat)
      case atStart => exact ⟨0, Nat.zero_le _, rfl, (hBr.alloc (by omega) _).alloc (by simp; omega) _, by simp, hid (rel2_start wo n B _ _ _ _ _ _ _ Xr.out _ _ (by simp [size_madeCells]) (by simp [size_madeCells]))⟩
      case round =>
        obtain ⟨k, hk, rfl, hBk, hzk, Rk⟩ := hrel
        by_cases hlt : k < n
        · obtain ⟨⟨l, c, kk, f1, f2, f3⟩, HB⟩ : ∃ x, Hid (B k = x) := ⟨_, rfl⟩
          obtain ⟨r0, r1, r2, r3, r4, r5⟩ := cells6 (blk_at (HC.out k hlt) HB.out hBk)
          go_wp2_with fail
          refine (block_any _ _ _ _ _ _ _).mono ?_
          rintro e w3 ⟨rfl, hb3⟩
          clear r0 r1 r2 r3 r4 r5
          have hth := (Rk.out.below hb3).t1 k hlt
          go_wp2_with (refine at_store ?_; refine wpList_store_mid rfl 32 (.tmp 76) (.tmp 75) rfl wo.heap.size (k * 6) _ rfl rfl (by exact hth) (by kernel_rfl) (one6 _ _ _ _ _ _) ?_)
          go_roundw
          case rel => exact ⟨k + 1, by omega, by go_num, below_setCells _ (by omega) _ _ _ (chain hBk hb3), by rw [size_setCells]; have := hb3.size; omega, hid ((Rk.out.below hb3).base hlt (by rw [HB.out]; rfl))⟩
          case measure => simp [intOf]; omega
        · obtain rfl : n = k := by omega
          clear hlt hk
          clear hBr hzr Xr
          obtain ⟨wp, rfl⟩ : ∃ wp : World, wp = wr := ⟨_, rfl⟩
          go_wp2_with fail
          go_loopw [13] (fun i wr => ∃ k : Nat, k ≤ p ∧ i = .int .i64 k ∧ Below w.heap.size w wr ∧ wo.heap.size + 1 < wr.heap.size ∧ Hid (Rel2 wr wo.heap.size n n B w.heap.size nl nc nk m1 m2 m3) ∧ Hid (0 < k → wr.rangeAt (wo.heap.size + 1) 0 (B 0).cells)) (fun i _ => p - (intOf i).toNat)
          case atStart => exact ⟨0, Nat.zero_le _, rfl, hBk, hzk, Rk, hid (fun h => absurd h (Nat.lt_irrefl 0))⟩
          case round =>
            clear hBk hzk Rk
            obtain ⟨k, hk, rfl, hBk, hzk, Rk, Fk⟩ := hrel
            by_cases hlt : k < p
            · obtain ⟨⟨l, c, kk, f1, f2, f3⟩, HB⟩ : ∃ x, Hid (B k = x) := ⟨_, rfl⟩
              obtain ⟨r0, r1, r2, r3, r4, r5⟩ := cells6 (blk_at (Rk.out.r1 k (by omega)) HB.out (Below.refl _ _))
              have hth := Rk.out.t2 k (by omega)
              go_wp2_with (refine at_store ?_; refine wpList_store_mid rfl 32 (.tmp 88) (.tmp 87) rfl (wo.heap.size + 1) (k * 6) _ rfl rfl (by exact hth) (by kernel_rfl) (one6 _ _ _ _ _ _) ?_)
              go_roundw
              case rel => exact ⟨k + 1, by omega, by go_num, below_setCells _ (by have := Rk.out.gb; omega) _ _ _ hBk, by rw [size_setCells]; omega, hid (Rk.out.ins _ _), hid (fun _ => first_kept (w := wr) (k := k) (fun h => Fk.out h) hth HB.out)⟩
              case measure => simp [intOf]; omega
            · obtain rfl : p = k := by omega
              clear hlt hk
              obtain ⟨q0, q1, q2, q3, q4, q5⟩ := Rk.out.box
              go_wp2_with fail
              refine (block_any _ _ _ _ _ _ _).mono ?_
              rintro e w3 ⟨rfl, hb3⟩
              clear q0 q1 q2 q3 q4 q5
              have hth := (Rk.out.below hb3).t2 p (by omega)
              go_wp2_with (refine at_store ?_; refine wpList_store_mid rfl 32 (.tmp 93) (.tmp 92) rfl (wo.heap.size + 1) (p * 6) _ rfl rfl (by exact hth) (by kernel_rfl) (one6 _ _ _ _ _ _) ?_)
              have hB4 := below_setCells (wo.heap.size + 1) (by have := Rk.out.gb; omega) [Value.int .i64 nl, .int .i64 nc, .int .u8 nk, .bool m1, .bool m2, .bool m3] (p * 6) w3 (chain hBk hb3)
              have hz4 : wo.heap.size + 1 < (w3.setCells (wo.heap.size + 1) (p * 6) [Value.int .i64 nl, .int .i64 nc, .int .u8 nk, .bool m1, .bool m2, .bool m3]).heap.size := by rw [size_setCells]; have := hb3.size; omega
              have R4 := hid ((Rk.out.below hb3).ins (p * 6) [Value.int .i64 nl, .int .i64 nc, .int .u8 nk, .bool m1, .bool m2, .bool m3])
              have F4 := hid (first_put (l := nl) (c := nc) (kk := nk) (f1 := m1) (f2 := m2) (f3 := m3) (fun h => rangeAt_below hb3 (Fk.out h)) hth)
              clear hBk hzk Rk Fk hb3 hth
              go_loopw [14] (fun i wr => ∃ k : Nat, p ≤ k ∧ k ≤ n ∧ i = .int .i64 k ∧ Below w.heap.size w wr ∧ wo.heap.size + 1 < wr.heap.size ∧ Hid (Rel2 wr wo.heap.size n n B w.heap.size nl nc nk m1 m2 m3) ∧ Hid (wr.rangeAt (wo.heap.size + 1) 0 (want p (B 0) ⟨nl, nc, nk, m1, m2, m3⟩).cells)) (fun i _ => n - (intOf i).toNat)
              case atStart => exact ⟨p, Nat.le_refl _, hp, rfl, hB4, hz4, R4, F4⟩
              case round =>
                clear hB4 hz4 R4 F4
                obtain ⟨k, hpk, hk, rfl, hBk, hzk, Rk, Fk⟩ := hrel
                by_cases hlt : k < n
                · obtain ⟨⟨l, c, kk, f1, f2, f3⟩, HB⟩ : ∃ x, Hid (B k = x) := ⟨_, rfl⟩
                  obtain ⟨r0, r1, r2, r3, r4, r5⟩ := cells6 (blk_at (Rk.out.r1 k (by omega)) HB.out (Below.refl _ _))
                  have hth := Rk.out.t2 (k + 1) (by omega)
                  go_wp2_with (refine at_store ?_; refine wpList_store_mid rfl 32 (.tmp 108) (.tmp 107) rfl (wo.heap.size + 1) ((k + 1) * 6) _ rfl rfl (by exact hth) (by kernel_rfl) (one6 _ _ _ _ _ _) ?_)
                  go_roundw
                  case rel => exact ⟨k + 1, by omega, by omega, by go_num, below_setCells _ (by have := Rk.out.gb; omega) _ _ _ hBk, by rw [size_setCells]; omega, hid (Rk.out.ins _ _), hid (World.rangeAt_setCells_apart Fk.out _ _ _ (by rw [Blk.len]; omega))⟩
                  case measure => simp [intOf]; omega
                · obtain rfl : n = k := by omega
                  clear hlt hk
                  obtain ⟨⟨l, c, kk, f1, f2, f3⟩, HB⟩ : ∃ x, Hid (B 0 = x) := ⟨_, rfl⟩
                  have hok0 : Blk.okB ⟨l, c, kk, f1, f2, f3⟩ = true := by rw [← HB.out]; exact Ok.out 0 hn
                  obtain ⟨_, _, hk1, hk2⟩ := ok_bd hok0
                  obtain ⟨_, _, hm1, hm2⟩ := ok_bd hnb
                  have hmsg := fun k => msg_eq k
                  by_cases hp0 : 0 < p
                  · have hF : wr.rangeAt (wo.heap.size + 1) 0 (Blk.cells ⟨l, c, kk, f1, f2, f3⟩) := by have := Fk.out; rw [want, if_pos hp0, HB.out] at this; exact this
                    have FF := hid hF
                    clear hF Fk
                    cases hs
                    · go_wp2_with fail
                      refine (zz_none _ _ _ _).mono ?_
                      rintro e w4 ⟨rfl, hb4⟩
                      go_wp2_with fail
                      refine (zz_some (wo.heap.size + 1) 0 (n + 1) (n + 1) ⟨l, c, kk, f1, f2, f3⟩ _ (by omega) (rangeAt_below hb4 FF.out) hok0 (kw_below HKW.out (chain hBk hb4))).mono ?_
                      rintro e w5 ⟨rfl, hb5⟩
                      have hB5 := chain (chain hBk hb4) hb5
                      obtain ⟨q0, q1, q2, q3, q4, q5⟩ := (Rk.out.box.below hb4).below hb5
                      obtain ⟨r0, r1, r2, r3, r4, r5⟩ := cells6 (blk0_at HC.out hn HB.out hB5)
                      have hz5 : w.heap.size < w5.heap.size := World.block_lt_of_cell? w5 _ q0
                      have hb05 : b < w5.heap.size := World.block_lt_of_cell? w5 _ r0
                      clear hb4 hb5 hBk Rk FF hzk hok0 hnb
                      have hsz1 := kwT_size kk
                      have hsz2 := kwT_size nk
                      go_wp2_with (go_at_call 8; refine (kwText_any _ _ (by omega) (by omega)).mono ?_; rintro e w6 ⟨rfl, rfl⟩)
                      go_ret
                      exact ⟨rfl, hB5.alloc (by omega) _⟩
                    · go_wp2_with fail
                      refine (zz_some wo.heap.size 0 n n ⟨l, c, kk, f1, f2, f3⟩ _ hn (base0 Rk.out hn HB.out) hok0 (kw_below HKW.out hBk)).mono ?_
                      rintro e w4 ⟨rfl, hb4⟩
                      go_wp2_with fail
                      refine (zz_some (wo.heap.size + 1) 0 (n + 1) (n + 1) ⟨l, c, kk, f1, f2, f3⟩ _ (by omega) (rangeAt_below hb4 FF.out) hok0 (kw_below HKW.out (chain hBk hb4))).mono ?_
                      rintro e w5 ⟨rfl, hb5⟩
                      have hB5 := chain (chain hBk hb4) hb5
                      obtain ⟨q0, q1, q2, q3, q4, q5⟩ := (Rk.out.box.below hb4).below hb5
                      obtain ⟨r0, r1, r2, r3, r4, r5⟩ := cells6 (blk0_at HC.out hn HB.out hB5)
                      have hz5 : w.heap.size < w5.heap.size := World.block_lt_of_cell? w5 _ q0
                      have hb05 : b < w5.heap.size := World.block_lt_of_cell? w5 _ r0
                      clear hb4 hb5 hBk Rk FF hzk hok0 hnb
                      have hsz1 := kwT_size kk
                      have hsz2 := kwT_size nk
                      go_wp2_with (go_at_call 8; refine (kwText_any _ _ (by omega) (by omega)).mono ?_; rintro e w6 ⟨rfl, rfl⟩)
                      go_ret
                      exact ⟨rfl, hB5.alloc (by omega) _⟩
                  · have hF : wr.rangeAt (wo.heap.size + 1) 0 (Blk.cells ⟨nl, nc, nk, m1, m2, m3⟩) := by have := Fk.out; rw [want, if_neg hp0] at this; exact this
                    have FF := hid hF
                    clear hF Fk
                    cases hs
                    · go_wp2_with fail
                      refine (zz_none _ _ _ _).mono ?_
                      rintro e w4 ⟨rfl, hb4⟩
                      go_wp2_with fail
                      refine (zz_some (wo.heap.size + 1) 0 (n + 1) (n + 1) ⟨nl, nc, nk, m1, m2, m3⟩ _ (by omega) (rangeAt_below hb4 FF.out) hnb (kw_below HKW.out (chain hBk hb4))).mono ?_
                      rintro e w5 ⟨rfl, hb5⟩
                      have hB5 := chain (chain hBk hb4) hb5
                      obtain ⟨q0, q1, q2, q3, q4, q5⟩ := (Rk.out.box.below hb4).below hb5
                      obtain ⟨r0, r1, r2, r3, r4, r5⟩ := cells6 (blk0_at HC.out hn HB.out hB5)
                      have hz5 : w.heap.size < w5.heap.size := World.block_lt_of_cell? w5 _ q0
                      have hb05 : b < w5.heap.size := World.block_lt_of_cell? w5 _ r0
                      clear hb4 hb5 hBk Rk FF hzk hok0 hnb
                      have hsz1 := kwT_size kk
                      have hsz2 := kwT_size nk
                      go_wp2_with (go_at_call 8; refine (kwText_any _ _ (by omega) (by omega)).mono ?_; rintro e w6 ⟨rfl, rfl⟩)
                      go_ret
                      exact ⟨rfl, hB5.alloc (by omega) _⟩
                    · go_wp2_with fail
                      refine (zz_some wo.heap.size 0 n n ⟨l, c, kk, f1, f2, f3⟩ _ hn (base0 Rk.out hn HB.out) hok0 (kw_below HKW.out hBk)).mono ?_
                      rintro e w4 ⟨rfl, hb4⟩
                      go_wp2_with fail
                      refine (zz_some (wo.heap.size + 1) 0 (n + 1) (n + 1) ⟨nl, nc, nk, m1, m2, m3⟩ _ (by omega) (rangeAt_below hb4 FF.out) hnb (kw_below HKW.out (chain hBk hb4))).mono ?_
                      rintro e w5 ⟨rfl, hb5⟩
                      have hB5 := chain (chain hBk hb4) hb5
                      obtain ⟨q0, q1, q2, q3, q4, q5⟩ := (Rk.out.box.below hb4).below hb5
                      obtain ⟨r0, r1, r2, r3, r4, r5⟩ := cells6 (blk0_at HC.out hn HB.out hB5)
                      have hz5 : w.heap.size < w5.heap.size := World.block_lt_of_cell? w5 _ q0
                      have hb05 : b < w5.heap.size := World.block_lt_of_cell? w5 _ r0
                      clear hb4 hb5 hBk Rk FF hzk hok0 hnb
                      have hsz1 := kwT_size kk
                      have hsz2 := kwT_size nk
                      go_wp2_with (go_at_call 8; refine (kwText_any _ _ (by omega) (by omega)).mono ?_; rintro e w6 ⟨rfl, rfl⟩)
                      go_ret
                      exact ⟨rfl, hB5.alloc (by omega) _⟩

end Go.Proofs.Qxb6608686aDoor.Main
