import Derived.Test.Qxb6608686aDoorMain
namespace Go.Proofs.Qxb6608686aDoor.Main
open Go.RowKit Go.Proofs.Qxb6608686aDoor.Kit Go.Proofs.Qxb6608686aDoor.Parts

set_option maxRecDepth 20000 in
set_option maxHeartbeats 1000000 in
theorem walk_zero (hs : Bool) (a0 : Option Addr) (cap : Nat) (nl nc nk : Int) (m1 m2 m3 : Bool) (w : World) (hnb : Blk.okB ⟨nl, nc, nk, m1, m2, m3⟩ = true) (HKW : Hid (KwLaid w)) :
    Calls Tryd.prog 3 #[.bool hs, .slice a0 0 cap, .int .i64 0, .agg #[.int .i64 nl, .int .i64 nc, .int .u8 nk, .bool m1, .bool m2, .bool m3]] w fun e w' => e = .returned (.bool true) ∧ Below w.heap.size w w' := by
  go_enter Tryd.func3, Tryd.ntmps3
  go_wp2_with fail
  refine (bytes4 _ _ 0 _ _ _ _ _ _ _ _ _ (by omega)).mono ?_
  rintro e w1 ⟨rfl, hb1⟩
  have hx1 := (Box.new w nl nc nk m1 m2 m3).below hb1
  have hB1 := chain ((Below.refl w.heap.size w).alloc (Nat.le_refl _) _) hb1
  have hz1 : w.heap.size < w1.heap.size := by have := hb1.size; simp at this; omega
  clear hb1
  have X1 := hid hx1
  obtain ⟨q0, q1, q2, q3, q4, q5⟩ := hx1
  go_wp2_with fail
  refine (openable_any _ _ _ _ _ _ _).mono ?_
  rintro e w2 ⟨rfl, hb2⟩
  clear q0 q1 q2 q3 q4 q5
  have hB2 := chain hB1 hb2
  have hz2 : w.heap.size < w2.heap.size := by have := hb2.size; omega
  have X2 := hid (X1.out.below hb2)
  clear hB1 hz1 X1 hb2
  go_wp2_with fail
  refine wp_loop_rounds 1 ?_
  rw [rounds_succ]
  go_wp2_with (first | (at_make; refine wpList_make_at rfl (.tmp 57) (.tmp 57) 27 rfl 32 _ 6 24 Tryd.underlying27 info32 _ _ _ _ 0 0 rfl rfl rfl rfl (Nat.le_refl _) (by omega) (by omega) ?_) | (at_make; refine wpList_make_at rfl (.tmp 61) (.tmp 61) 27 rfl 32 _ 6 24 Tryd.underlying27 info32 _ _ _ _ 1 1 rfl rfl rfl rfl (Nat.le_refl _) (by omega) (by omega) ?_))
  refine wp_loop_rounds 1 ?_
  rw [rounds_succ]
  go_wp2_with fail
  refine wp_loop_rounds 1 ?_
  rw [rounds_succ]
  have X3 := hid (rel2_start w2 0 (fun _ => ⟨nl, nc, nk, m1, m2, m3⟩) _ _ _ _ _ _ _ X2.out (madeCells #[.int .i64 0, .int .i64 0, .int .u8 0, .bool false, .bool false, .bool false] (0 * 6)) (madeCells #[.int .i64 0, .int .i64 0, .int .u8 0, .bool false, .bool false, .bool false] (1 * 6)) (by simp [size_madeCells]) (by simp [size_madeCells]))
  obtain ⟨q0, q1, q2, q3, q4, q5⟩ := X3.out.box
  go_wp2_with fail
  refine (block_any _ _ _ _ _ _ _).mono ?_
  rintro e w3 ⟨rfl, hb3⟩
  clear q0 q1 q2 q3 q4 q5
  have hth := (X3.out.below hb3).t2 0 (by omega)
  have hB3 : Below w.heap.size w w3 := chain ((hB2.alloc (by omega) _).alloc (by simp; omega) _) hb3
  have X4 := hid ((X3.out.below hb3).ins (0 * 6) [Value.int .i64 nl, .int .i64 nc, .int .u8 nk, .bool m1, .bool m2, .bool m3])
  have FF := hid (first_put (p := 0) (b0 := ⟨nl, nc, nk, m1, m2, m3⟩) (l := nl) (c := nc) (kk := nk) (f1 := m1) (f2 := m2) (f3 := m3) (fun h => absurd h (Nat.lt_irrefl 0)) hth)
  have hB4 := below_setCells (w2.heap.size + 1) (by omega) [Value.int .i64 nl, .int .i64 nc, .int .u8 nk, .bool m1, .bool m2, .bool m3] (0 * 6) w3 hB3
  clear hB2 hz2 X2 X3 hb3 hB3
  go_wp2_with (refine at_store ?_; refine wpList_store_mid rfl 32 (.tmp 93) (.tmp 92) rfl (w2.heap.size + 1) 0 _ rfl rfl (by exact hth) (by kernel_rfl) (one6 _ _ _ _ _ _) ?_)
  refine wp_loop_rounds 1 ?_
  rw [rounds_succ]
  obtain ⟨_, _, hm1, hm2⟩ := ok_bd hnb
  have hmsg := fun k => msg_eq k
  have hsz2 := kwT_size nk
  cases hs
  · go_wp2_with fail
    refine (zz_none _ _ _ _).mono ?_
    rintro e w4 ⟨rfl, hb4⟩
    have hB4' := chain hB4 hb4
    go_wp2_with fail
    refine (zz_some (w2.heap.size + 1) 0 1 1 ⟨nl, nc, nk, m1, m2, m3⟩ _ (by omega) (rangeAt_below hb4 FF.out) hnb (kw_below HKW.out hB4')).mono ?_
    rintro e w5 ⟨rfl, hb5⟩
    have hB5 := chain hB4' hb5
    obtain ⟨q0, q1, q2, q3, q4, q5⟩ := (X4.out.box.below hb4).below hb5
    have hz5 : w.heap.size < w5.heap.size := World.block_lt_of_cell? w5 _ q0
    clear hb4 hb5 hB4 hB4' X4 FF hnb
    go_wp2_with (go_at_call 8; refine (kwText_any _ _ (by omega) (by omega)).mono ?_; rintro e w6 ⟨rfl, rfl⟩)
    go_ret
    exact ⟨rfl, hB5.alloc (by omega) _⟩
  · go_wp2_with fail
    refine (zz_empty _ _ _).mono ?_
    rintro e w4 ⟨rfl, hb4⟩
    have hB4' := chain hB4 hb4
    go_wp2_with fail
    refine (zz_some (w2.heap.size + 1) 0 1 1 ⟨nl, nc, nk, m1, m2, m3⟩ _ (by omega) (rangeAt_below hb4 FF.out) hnb (kw_below HKW.out hB4')).mono ?_
    rintro e w5 ⟨rfl, hb5⟩
    have hB5 := chain hB4' hb5
    obtain ⟨q0, q1, q2, q3, q4, q5⟩ := (X4.out.box.below hb4).below hb5
    have hz5 : w.heap.size < w5.heap.size := World.block_lt_of_cell? w5 _ q0
    clear hb4 hb5 hB4 hB4' X4 FF hnb
    go_wp2_with (go_at_call 8; refine (kwText_any _ _ (by omega) (by omega)).mono ?_; rintro e w6 ⟨rfl, rfl⟩)
    go_ret
    exact ⟨rfl, hB5.alloc (by omega) _⟩

set_option maxRecDepth 20000 in
set_option maxHeartbeats 1000000 in
theorem walk_out (hs : Bool) (a0 : Option Addr) (n cap : Nat) (p : Int) (nl nc nk : Int) (m1 m2 m3 : Bool) (w : World) (hl : n ≤ 9223372036854775807)
    (h : 4096 < n ∨ (n ≤ 4096 ∧ (p < 0 ∨ (0 ≤ p ∧ n < p) ∨ (0 ≤ p ∧ p ≤ n ∧ Blk.okB ⟨nl, nc, nk, m1, m2, m3⟩ = false)))) :
    Calls Tryd.prog 3 #[.bool hs, .slice a0 n cap, .int .i64 p, .agg #[.int .i64 nl, .int .i64 nc, .int .u8 nk, .bool m1, .bool m2, .bool m3]] w fun e w' => e = .returned (.bool true) ∧ Below w.heap.size w w' := by
  rcases h with h | ⟨hn, h⟩
  · by_cases h2 : n ≤ 1048576
    · go_enter Tryd.func3, Tryd.ntmps3
      go_wp2
      go_ret
      exact ⟨rfl, ((Below.refl _ _).alloc (Nat.le_refl _) _).alloc (by simp) _⟩
    · go_enter Tryd.func3, Tryd.ntmps3
      go_wp2
      go_ret
      exact ⟨rfl, ((Below.refl _ _).alloc (Nat.le_refl _) _).alloc (by simp) _⟩
  · have step : ∀ w1 : World, Below (w.alloc (.cells #[.int .i64 nl, .int .i64 nc, .int .u8 nk, .bool m1, .bool m2, .bool m3] 24)).heap.size (w.alloc (.cells #[.int .i64 nl, .int .i64 nc, .int .u8 nk, .bool m1, .bool m2, .bool m3] 24)) w1 →
        Below w.heap.size w w1 ∧ Box w1 w.heap.size nl nc nk m1 m2 m3 := fun w1 hb1 => ⟨chain ((Below.refl w.heap.size w).alloc (Nat.le_refl _) _) hb1, (Box.new w nl nc nk m1 m2 m3).below hb1⟩
    have ST := hid step
    clear step
    rcases h with h | ⟨h1, h2⟩ | ⟨h1, h2, h3⟩
    · go_enter Tryd.func3, Tryd.ntmps3
      go_wp2_with fail
      refine (bytes4 _ _ _ _ _ _ _ _ _ _ _ _ hn).mono ?_
      rintro e w1 ⟨rfl, hb1⟩
      obtain ⟨hB1, q0, q1, q2, q3, q4, q5⟩ := ST.out w1 hb1
      clear hb1 ST
      go_wp2_with fail
      go_ret
      exact ⟨rfl, hB1⟩
    · go_enter Tryd.func3, Tryd.ntmps3
      go_wp2_with fail
      refine (bytes4 _ _ _ _ _ _ _ _ _ _ _ _ hn).mono ?_
      rintro e w1 ⟨rfl, hb1⟩
      obtain ⟨hB1, q0, q1, q2, q3, q4, q5⟩ := ST.out w1 hb1
      clear hb1 ST
      go_wp2_with fail
      go_ret
      exact ⟨rfl, hB1⟩
    · go_enter Tryd.func3, Tryd.ntmps3
      go_wp2_with fail
      refine (bytes4 _ _ _ _ _ _ _ _ _ _ _ _ hn).mono ?_
      rintro e w1 ⟨rfl, hb1⟩
      obtain ⟨hB1, q0, q1, q2, q3, q4, q5⟩ := ST.out w1 hb1
      clear hb1 ST
      go_wp2_with fail
      refine (openable_any _ _ _ _ _ _ _).mono ?_
      rintro e w2 ⟨rfl, hb2⟩
      have hB2 := chain hB1 hb2
      clear hB1 hb2 q0 q1 q2 q3 q4 q5
      go_wp2_with fail
      go_ret
      exact ⟨rfl, hB2⟩

end Go.Proofs.Qxb6608686aDoor.Main
