import Derived.Test.Qxb6608686aUnread
namespace Go.Proofs.Qxb6608686a.UnreadWalk
open Go.RowKit
/-- WHAT THE WALK IS TOLD OF A SLICE OF INTEGERS THAT CAME IN: it is nil; or it leads to a row of 'cap' cells, the numbers 'zs' (the first 'len' are its elements, the rest its spare room), each fitting its kind. -/
def IsRow (k : IntKind) (w : World) (a : Option Addr) (len cap : Nat) (zs : List Int) : Prop :=
  (a = none ∧ len = 0 ∧ cap = 0 ∧ zs = []) ∨
  ∃ x, a = some x ∧ len ≤ cap ∧ cap ≤ maxLen ∧ zs.length = cap ∧ (∀ i, i < zs.length → w.cell? (x.add i) = some (.int k (zs.getD i 0))) ∧ ∀ n ∈ zs, (Lit.int k n).wf = true

open Go.Proofs.Qxb6608686a.Kit Go.Proofs.Qxb6608686a.Unread

theorem zz_chain (W : World) (B : Nat) (ao : Option Addr) (n cap : Nat) (x y z u : Int) (w : World) (hu : Hid (unr n x y z = u)) (hb : Below B W w) (hB : B ≤ W.heap.size) (hn : n ≤ 65536) (hx : -2147483648 ≤ x) (hx' : x ≤ 2147483648) (hy : 0 ≤ y) (hy' : y ≤ 2147483648) (hz : -2147483648 ≤ z) (hz' : z ≤ 2147483648) :
    Calls Try.prog 19 #[.slice ao n cap, .int .i64 x, .int .i64 y, .int .i64 z] w fun e w' => e = .returned (.int .i64 u) ∧ Below B W w' :=
  (zzunread_any ao n cap x y z w hn hx hx' hy hy' hz hz').mono fun e w' ⟨he, hb'⟩ => ⟨he.trans (ret_int hu.out), hb.trans (hb'.mono (by have := hb.size; omega))⟩

theorem bytes20_yes (ao : Option Addr) (n cap : Nat) (x y z d : Int) (w : World) (hn : n ≤ 65536) :
    Calls Try.prog 20 #[.slice ao n cap, .int .i64 x, .int .i64 y, .int .i64 z, .int .i64 d] w fun e w' => e = .returned (.bool true) ∧ w = w' := by
  go_enter Try.func20, Try.ntmps20
  go_wp2
  go_ret
  exact ⟨rfl, rfl⟩

theorem unr_shift (n x y z d : Int) : unr n (x + d) y (z + d) = unr n x y z := by
  unfold unr resm
  rw [show x + d - (z + d) = x - z by omega]
theorem unr_lo (n x y z : Int) (hn : 0 ≤ n) (hy : 0 ≤ y) : (y ≤ unr n x y z ∨ unr n x y z = n) ∧ 0 ≤ unr n x y z ∧ unr n x y z ≤ n := by
  unfold unr resm
  split <;> omega
theorem unr_grow (n x y z : Int) : unr n x y z ≤ unr n x (y + 1) z := by
  unfold unr resm
  split <;> split <;> omega
theorem unr_all (n x y z : Int) (h : x ≤ z) : unr n x y z = n := by
  unfold unr resm
  split <;> omega
theorem info21 : (Try.prog.info? 21).map (fun i => (i.zero, i.size, i.bytes)) = some (some (.int .i32 0), 1, 4) := by kernel_rfl

set_option maxHeartbeats 1000000 in
theorem walk_in (a0 : Option Addr) (len0 cap0 : Nat) (z0 : List Int) (a1 a2 a3 a4 : Int) (w : World) (w0 : IsRow .i32 w a0 len0 cap0 z0) (c1 : len0 ≤ 65536)
    (p1 : 0 ≤ a1) (p2 : a1 ≤ 536870912) (p3 : 0 ≤ a2) (p4 : a2 ≤ 536870912) (p5 : 0 ≤ a3) (p6 : a3 ≤ 536870912) (q1 : -536870912 ≤ a4) (q2 : a4 ≤ 536870912)
    (U V : Int) (H1 : Hid (unr len0 a1 a2 a3 = U)) (H2 : Hid (unr len0 (a1 + a4) a2 (a3 + a4) = U)) (H3 : Hid (unr len0 a1 (a2 + 1) a3 = V)) (_u0 : 0 ≤ U) (u1 : U ≤ len0) (u2 : U ≤ V)
    (u3 : (len0 < a2 ∧ len0 ≤ U) ∨ (a2 ≤ len0 ∧ a2 ≤ U)) (u4 : (a1 ≤ a3 ∧ len0 ≤ U) ∨ a3 < a1) :
    Calls Try.prog 6 #[.slice a0 len0 cap0, .int .i64 a1, .int .i64 a2, .int .i64 a3, .int .i64 a4] w fun e w' => e = .returned (.bool true) ∧ Below w.heap.size w w' := by
  rcases u3 with ⟨s1, s2⟩ | ⟨s1, s2⟩ <;> rcases u4 with ⟨t1, t2⟩ | t1
  all_goals
    rcases w0 with ⟨rfl, hl0, hc0, rfl⟩ | ⟨xa, rfl, hlc, hcm, hzl, hcell, hwf⟩
    · have HL : Hid (len0 = 0) := hl0
      clear hl0 hc0
      go_enter Try.func6, Try.ntmps6
      go_wp2_with (first
        | (go_at_call 19; refine (zz_chain w w.heap.size _ _ _ _ _ _ _ _ (by first | exact H1 | exact H2 | exact H3) (by first | assumption | exact Below.refl _ _) (Nat.le_refl _) (by omega) (by omega) (by omega) (by omega) (by omega) (by omega) (by omega)).mono ?_; rintro e w' ⟨rfl, hb⟩)
        | (go_at_call 20; refine (bytes20_yes _ _ _ _ _ _ _ _ (by omega)).mono ?_; rintro e w' ⟨rfl, rfl⟩))
      go_ret
      exact ⟨rfl, by assumption⟩
    · have hsrc : ∀ j v, ((z0.take len0).map (Value.int .i32))[j]? = some v → w.cell? (xa.add j) = some v := by
        intro j v hv
        have hj : j < len0 := by
          have := (List.getElem?_eq_some_iff.1 hv).1
          simp at this; omega
        rw [hcell j (by omega)]
        rw [← hv]
        simp [List.getD, show j < z0.length by omega, hj]
      clear hcell hwf hcm
      go_enter Try.func6, Try.ntmps6
      go_wp2_with (first
        | (go_at_call 20; refine (bytes20_yes _ _ _ _ _ _ _ _ (by omega)).mono ?_; rintro e w' ⟨rfl, rfl⟩)
        | (at_make; refine wpList_make_at rfl (.tmp 58) (.tmp 58) 31 rfl 21 (.int .i32 0) 1 4 Try.underlying31 info21 _ _ _ _ len0 len0 rfl rfl rfl rfl (Nat.le_refl _) (by omega) (by omega) ?_)
        | (refine at_copy ?_; refine wpList_copy_fresh rfl (.tmp 60) (.tmp 61) 31 31 rfl 21 Try.underlying31 (by kernel_rfl) len0 cap0 xa rfl rfl _ 21 ((z0.take len0).map (Value.int .i32)) (by simp; omega) (by simp [size_madeCells]) (by exact hsrc) (ints_oneCell _ _) ?_; intro w' hb0 _ _)
        | (go_at_call 19; refine (zz_chain w w.heap.size _ _ _ _ _ _ _ _ (by first | exact H1 | exact H2 | exact H3) (by assumption) (Nat.le_refl _) (by omega) (by omega) (by omega) (by omega) (by omega) (by omega) (by omega)).mono ?_; rintro e w' ⟨rfl, hb⟩))
      go_ret
      exact ⟨rfl, by assumption⟩

set_option maxHeartbeats 1000000 in
theorem walk_out (a0 : Option Addr) (len0 cap0 : Nat) (a1 a2 a3 a4 : Int) (w : World) (hl : len0 ≤ 9223372036854775807)
    (h : 1048576 < len0 ∨ (65536 < len0 ∧ len0 ≤ 1048576) ∨ (len0 ≤ 65536 ∧ (a1 < 0 ∨ (0 ≤ a1 ∧ 536870912 < a1) ∨ (0 ≤ a1 ∧ a1 ≤ 536870912 ∧ a2 < 0) ∨ (0 ≤ a1 ∧ a1 ≤ 536870912 ∧ 0 ≤ a2 ∧ 536870912 < a2) ∨ (0 ≤ a1 ∧ a1 ≤ 536870912 ∧ 0 ≤ a2 ∧ a2 ≤ 536870912 ∧ a3 < 0)
      ∨ (0 ≤ a1 ∧ a1 ≤ 536870912 ∧ 0 ≤ a2 ∧ a2 ≤ 536870912 ∧ 0 ≤ a3 ∧ 536870912 < a3) ∨ (0 ≤ a1 ∧ a1 ≤ 536870912 ∧ 0 ≤ a2 ∧ a2 ≤ 536870912 ∧ 0 ≤ a3 ∧ a3 ≤ 536870912 ∧ a4 < -536870912) ∨ (0 ≤ a1 ∧ a1 ≤ 536870912 ∧ 0 ≤ a2 ∧ a2 ≤ 536870912 ∧ 0 ≤ a3 ∧ a3 ≤ 536870912 ∧ -536870912 ≤ a4 ∧ 536870912 < a4)))) :
    Calls Try.prog 6 #[.slice a0 len0 cap0, .int .i64 a1, .int .i64 a2, .int .i64 a3, .int .i64 a4] w fun e w' => e = .returned (.bool true) ∧ Below w.heap.size w w' := by
  rcases h with h | ⟨h, h'⟩ | ⟨h, h' | ⟨h1, h'⟩ | ⟨h1, h2, h'⟩ | ⟨h1, h2, h3, h'⟩ | ⟨h1, h2, h3, h4, h'⟩ | ⟨h1, h2, h3, h4, h5, h'⟩ | ⟨h1, h2, h3, h4, h5, h6, h'⟩ | ⟨h1, h2, h3, h4, h5, h6, h7, h'⟩⟩
  all_goals
    go_enter Try.func6, Try.ntmps6
    go_wp2
    go_ret
    exact ⟨rfl, Below.refl _ _⟩

theorem walk (a0 : Option Addr) (len0 cap0 : Nat) (z0 : List Int) (a1 : Int) (a2 : Int) (a3 : Int) (a4 : Int) (w : World) (w0 : IsRow .i32 w a0 len0 cap0 z0) :
    Calls Try.prog 6 #[.slice a0 len0 cap0, .int .i64 a1, .int .i64 a2, .int .i64 a3, .int .i64 a4] w fun e w' => e = .returned (.bool true) ∧ Below w.heap.size w w' := by
  have hl : len0 ≤ 9223372036854775807 := by
    rcases w0 with ⟨_, rfl, _⟩ | ⟨_, _, h1, h2, _⟩
    · omega
    · unfold maxLen at h2; omega
  by_cases hc : len0 ≤ 65536 ∧ 0 ≤ a1 ∧ a1 ≤ 536870912 ∧ 0 ≤ a2 ∧ a2 ≤ 536870912 ∧ 0 ≤ a3 ∧ a3 ≤ 536870912 ∧ -536870912 ≤ a4 ∧ a4 ≤ 536870912
  · obtain ⟨c1, p1, p2, p3, p4, p5, p6, q1, q2⟩ := hc
    have e1 := unr_shift len0 a1 a2 a3 a4
    have e2 := unr_lo len0 a1 a2 a3 (by omega) p3
    have e3 := unr_grow len0 a1 a2 a3
    have e4 := unr_all len0 a1 a2 a3
    exact walk_in a0 len0 cap0 z0 a1 a2 a3 a4 w w0 c1 p1 p2 p3 p4 p5 p6 q1 q2 (unr len0 a1 a2 a3) (unr len0 a1 (a2 + 1) a3) rfl e1 rfl (by omega) (by omega) e3 (by omega) (by
      by_cases h : a1 ≤ a3
      · have := e4 h; omega
      · omega)
  · exact walk_out a0 len0 cap0 a1 a2 a3 a4 w hl (by omega)

end Go.Proofs.Qxb6608686a.UnreadWalk
