import Derived.Test.Qxb6608686aKit
namespace Go.Proofs.Qxb6608686a.Unread
open Go.RowKit Go.Proofs.Qxb6608686a.Kit

/-- What 'resumes' answers: plain. -/
def resm (n carried places read : Int) : Int := if 0 ≤ carried - read ∧ carried - read ≤ n - places then carried - read else -1
/-- What 'unread' answers: plain. -/
def unr (n carried places read : Int) : Int := n - max (resm n carried places read) 0

theorem resm_yes {n x y z : Int} (h1 : 0 ≤ x - z) (h2 : x - z ≤ n - y) : x - z = resm n x y z := by
  unfold resm; rw [if_pos ⟨h1, h2⟩]
theorem resm_no {n x y z : Int} (h : ¬ (0 ≤ x - z ∧ x - z ≤ n - y)) : -1 = resm n x y z := by
  unfold resm; rw [if_neg h]

set_option maxHeartbeats 400000 in
theorem resumes_any (b : Nat) (ao : Option Addr) (n cap : Nat) (x y z : Int) (w : World) (hn : n ≤ 65536) (hx : -2147483648 ≤ x) (hx' : x ≤ 2147483648) (hy : 0 ≤ y) (hy' : y ≤ 2147483648) (hz : -2147483648 ≤ z) (hz' : z ≤ 2147483648)
    (hc : w.cell? ⟨b, 8, none⟩ = some (.slice ao n cap)) :
    Calls Try.prog 38 #[.pointer (some ⟨b, 0, none⟩), .int .i64 x, .int .i64 y, .int .i64 z] w fun e w' => e = .returned (.int .i64 (resm n x y z)) ∧ w' = w := by
  by_cases h1 : 0 ≤ x - z
  · by_cases h2 : x - z ≤ n - y
    · go_enter Try.func38, Try.ntmps38
      go_wp2
      go_ret
      exact ⟨ret_int (resm_yes h1 h2), rfl⟩
    · go_enter Try.func38, Try.ntmps38
      go_wp2
      go_ret
      exact ⟨ret_int (resm_no (by omega)), rfl⟩
  · go_enter Try.func38, Try.ntmps38
    go_wp2
    go_ret
    exact ⟨ret_int (resm_no (by omega)), rfl⟩

theorem resm_bd (n x y z : Int) (hx : -2147483648 ≤ x) (hx' : x ≤ 2147483648) (hz : -2147483648 ≤ z) (hz' : z ≤ 2147483648) : -1 ≤ resm n x y z ∧ resm n x y z ≤ 4294967296 := by
  unfold resm; split <;> omega

set_option maxHeartbeats 400000 in
theorem unread_any (b : Nat) (ao : Option Addr) (n cap : Nat) (x y z : Int) (w : World) (hn : n ≤ 65536) (hx : -2147483648 ≤ x) (hx' : x ≤ 2147483648) (hy : 0 ≤ y) (hy' : y ≤ 2147483648) (hz : -2147483648 ≤ z) (hz' : z ≤ 2147483648)
    (hc : w.cell? ⟨b, 8, none⟩ = some (.slice ao n cap)) :
    Calls Try.prog 32 #[.pointer (some ⟨b, 0, none⟩), .int .i64 x, .int .i64 y, .int .i64 z] w fun e w' => e = .returned (.int .i64 (unr n x y z)) ∧ ∃ q, w' = w.drewN q := by
  have hb := resm_bd n x y z hx hx' hz hz'
  go_enter Try.func32, Try.ntmps32
  go_wp2
  go_quiet ((go_at_call 38; exact Calls.quiet_of_same (resumes_any _ _ _ _ _ _ _ _ hn hx hx' hy hy' hz hz' (by simpa using hc))))
  all_goals go_wp2
  all_goals go_ret
  all_goals exact ⟨ret_int (by unfold unr; omega), nq, rfl⟩

def conv (v : Value) : Array Value := #[.int .i64 0, .slice none 0 0, .int .i64 0, .int .i64 0, .int .i64 0, .int .i64 0, .int .i64 0, .int .i64 0, v, .int .i64 0, .int .i64 0, .slice none 0 0, .slice none 0 0, .bool false, .bool false, .slice none 0 0, .slice none 0 0, .int .u32 0, .int .u32 0, .slice none 0 0, .slice none 0 0, .slice none 0 0, .int .i32 0, .int .i32 0, .int .i64 0, .slice none 0 0, .slice none 0 0, .slice none 0 0, .slice none 0 0, .slice none 0 0, .slice none 0 0, .slice none 0 0, .int .i64 0, .int .i64 0, .int .i64 0, .int .u32 0, .int .i64 0, .int .i64 0, .slice none 0 0, .slice none 0 0, .slice none 0 0, .int .i64 0, .int .i64 0, .slice none 0 0, .slice none 0 0, .slice none 0 0, .slice none 0 0, .int .i64 0, .slice none 0 0, .int .i64 0]

theorem build68 (ao : Option Addr) (n cap : Nat) (w : World) : (Instr.build 68 #[(8, .slice ao n cap)]).run Try.prog w = .ok (.agg (conv (.slice ao n cap))) w := by kernel_rfl
theorem box68 (v : Value) (w : World) : (Instr.box 68 (.agg (conv v))).run Try.prog w = .ok (.pointer (some ⟨w.heap.size, 0, none⟩)) (w.alloc (.cells (conv v) 68)) := by kernel_rfl
theorem conv8 (v : Value) : (conv v)[8]? = some v := by kernel_rfl

theorem wpList_build68 {w : World} {ops : Array Oper} {rest : List Oper} {o : Oper} {a : Act} {Q : Exit → Act → World → Prop} (hg : o.guard = none) (x : Operand) (hop : o.op = Op.build 68 #[(8, x)])
    (ao : Option Addr) (n cap : Nat) (hx : a.eval x = .slice ao n cap) (hK : wpList Try.prog ops Q rest (a.put o.dst (.agg (conv (.slice ao n cap)))) w) : wpList Try.prog ops Q (o :: rest) a w := by
  refine wpList_known hg _ ?_ hK
  have hrun := build68 ao n cap w
  have he : execOp a.eval o = (do pure (.value (← Instr.build 68 #[(8, a.eval x)]))) := by unfold execOp; rw [hop]; simp
  rw [he, hx, Sem.run_bind, hrun]
  rfl

theorem wpList_box68 {w : World} {ops : Array Oper} {rest : List Oper} {o : Oper} {a : Act} {Q : Exit → Act → World → Prop} (hg : o.guard = none) (x : Operand) (hop : o.op = Op.box 68 x)
    (v : Value) (hx : a.eval x = .agg (conv v)) (hK : wpList Try.prog ops Q rest (a.put o.dst (.pointer (some ⟨w.heap.size, 0, none⟩))) (w.alloc (.cells (conv v) 68))) : wpList Try.prog ops Q (o :: rest) a w := by
  refine wpList_known hg _ ?_ hK
  have hrun := box68 v w
  have he : execOp a.eval o = (do pure (.value (← Instr.box 68 (a.eval x)))) := by unfold execOp; rw [hop]
  rw [he, hx, Sem.run_bind, hrun]
  rfl

set_option maxHeartbeats 400000 in
theorem zzunread_any (ao : Option Addr) (n cap : Nat) (x y z : Int) (w : World) (hn : n ≤ 65536) (hx : -2147483648 ≤ x) (hx' : x ≤ 2147483648) (hy : 0 ≤ y) (hy' : y ≤ 2147483648) (hz : -2147483648 ≤ z) (hz' : z ≤ 2147483648) :
    Calls Try.prog 19 #[.slice ao n cap, .int .i64 x, .int .i64 y, .int .i64 z] w fun e w' => e = .returned (.int .i64 (unr n x y z)) ∧ Below w.heap.size w w' := by
  go_enter Try.func19, Try.ntmps19
  go_wp2_with (first
    | (refine wpList_build68 rfl _ rfl _ _ _ rfl ?_)
    | (refine wpList_box68 rfl _ rfl _ rfl ?_)
    | (go_at_call 32; refine (unread_any _ ao n cap _ _ _ _ hn hx hx' hy hy' hz hz' (by simp [conv8])).mono ?_; rintro e w' ⟨rfl, q, rfl⟩))
  go_ret
  exact ⟨rfl, below_drewN ((Below.refl _ _).alloc (Nat.le_refl _) _) _⟩

end Go.Proofs.Qxb6608686a.Unread
