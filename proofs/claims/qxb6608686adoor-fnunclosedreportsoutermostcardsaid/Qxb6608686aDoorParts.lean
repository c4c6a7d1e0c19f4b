import Derived.Test.Qxb6608686aDoorKit
namespace Go.Proofs.Qxb6608686aDoor.Parts
open Go.RowKit Go.Proofs.Qxb6608686aDoor.Kit

/-- One open block: its six cells. -/
structure Blk where
  line : Int
  col : Int
  kw : Int
  f1 : Bool
  f2 : Bool
  f3 : Bool

def Blk.cells (b : Blk) : List Value := [.int .i64 b.line, .int .i64 b.col, .int .u8 b.kw, .bool b.f1, .bool b.f2, .bool b.f3]
theorem Blk.len (b : Blk) : b.cells.length = 6 := rfl
/-- 'zzOpenable'. -/
def Blk.okB (b : Blk) : Bool := decide (1 ≤ b.line ∧ 1 ≤ b.col ∧ 1 ≤ b.kw ∧ b.kw ≤ 6)

set_option maxHeartbeats 400000 in
theorem openable_any (l c k : Int) (f1 f2 f3 : Bool) (w : World) :
    Calls Tryd.prog 5 #[.agg #[.int .i64 l, .int .i64 c, .int .u8 k, .bool f1, .bool f2, .bool f3]] w fun e w' => e = .returned (.bool (Blk.okB ⟨l, c, k, f1, f2, f3⟩)) ∧ Below w.heap.size w w' := by
  by_cases h1 : 1 ≤ l
  · by_cases h2 : 1 ≤ c
    · by_cases h3 : 1 ≤ k
      · go_enter Tryd.func5, Tryd.ntmps5
        go_wp2
        go_ret
        exact ⟨ret_bool (by simp [Blk.okB, *] <;> omega), (Below.refl _ _).alloc (Nat.le_refl _) _⟩
      · go_enter Tryd.func5, Tryd.ntmps5
        go_wp2
        go_ret
        exact ⟨ret_bool (by simp [Blk.okB, *] <;> omega), (Below.refl _ _).alloc (Nat.le_refl _) _⟩
    · go_enter Tryd.func5, Tryd.ntmps5
      go_wp2
      go_ret
      exact ⟨ret_bool (by simp [Blk.okB, *] <;> omega), (Below.refl _ _).alloc (Nat.le_refl _) _⟩
  · go_enter Tryd.func5, Tryd.ntmps5
    go_wp2
    go_ret
    exact ⟨ret_bool (by simp [Blk.okB, *] <;> omega), (Below.refl _ _).alloc (Nat.le_refl _) _⟩

set_option maxHeartbeats 400000 in
theorem newBlock_any (l c k : Int) (f1 f2 f3 : Bool) (w : World) :
    Calls Tryd.prog 9 #[.int .i64 l, .int .i64 c, .int .u8 k, .bool f1, .bool f2, .bool f3] w fun e w' => e = .returned (.agg #[.int .i64 l, .int .i64 c, .int .u8 k, .bool f1, .bool f2, .bool f3]) ∧ w.alloc (.cells #[.int .i64 l, .int .i64 c, .int .u8 k, .bool f1, .bool f2, .bool f3] 32) = w' := by
  go_enter Tryd.func9, Tryd.ntmps9
  go_wp2
  exact bodyPost_ret (v := .agg #[.int .i64 l, .int .i64 c, .int .u8 k, .bool f1, .bool f2, .bool f3]) (by simp [results, Tryd.results9, go_sem]) rfl ⟨rfl, rfl⟩

set_option maxHeartbeats 400000 in
theorem block_any (l c k : Int) (f1 f2 f3 : Bool) (w : World) :
    Calls Tryd.prog 6 #[.agg #[.int .i64 l, .int .i64 c, .int .u8 k, .bool f1, .bool f2, .bool f3]] w fun e w' => e = .returned (.agg #[.int .i64 l, .int .i64 c, .int .u8 k, .bool f1, .bool f2, .bool f3]) ∧ Below w.heap.size w w' := by
  go_enter Tryd.func6, Tryd.ntmps6
  go_wp2_with (go_at_call 9; refine (newBlock_any _ _ _ _ _ _ _).mono ?_; rintro e w' ⟨rfl, rfl⟩)
  exact bodyPost_ret (v := .agg #[.int .i64 l, .int .i64 c, .int .u8 k, .bool f1, .bool f2, .bool f3]) (by simp [results, Tryd.results6, go_sem]) rfl ⟨rfl, (((Below.refl _ _).alloc (Nat.le_refl _) _).alloc (by simp) _).alloc (by simp; omega) _⟩

set_option maxHeartbeats 400000 in
theorem errorAt_any (l c : Int) (s : ByteArray) (w : World) :
    Calls Tryd.prog 11 #[.agg #[.int .i64 l, .int .i64 c], .string s] w fun e w' => e = .returned (.pointer (some ⟨w.heap.size + 1, 0, none⟩)) ∧ (w.alloc (.cells #[.int .i64 l, .int .i64 c] 29)).alloc (.cells #[.int .i64 l, .int .i64 c, .string s] 74) = w' := by
  go_enter Tryd.func11, Tryd.ntmps11
  go_wp2
  go_ret
  exact ⟨rfl, rfl⟩

/-- The texts of the keywords 1 to 6. -/
def kwT (k : Int) : ByteArray := if k = 1 then ⟨#[105, 102, 100, 101, 102]⟩ else if k = 2 then ⟨#[105, 102, 110, 100, 101, 102]⟩ else if k = 3 then ⟨#[105, 102, 115, 101, 116]⟩ else if k = 4 then ⟨#[105, 102, 110, 115, 101, 116]⟩ else if k = 5 then ⟨#[105, 102, 116, 114, 117, 101]⟩ else if k = 6 then ⟨#[105, 102, 102, 97, 108, 115, 101]⟩ else ⟨#[]⟩

def pre : ByteArray := ⟨#[117, 110, 116, 101, 114, 109, 105, 110, 97, 116, 101, 100, 32, 36, 36]⟩
def msg (k : Int) : ByteArray := pre ++ kwT k

set_option maxHeartbeats 400000 in
theorem kwText_any (k : Int) (w : World) (h1 : 1 ≤ k) (h2 : k ≤ 6) :
    Calls Tryd.prog 8 #[.int .u8 k] w fun e w' => e = .returned (.string (kwT k)) ∧ w = w' := by
  rcases (show k = 1 ∨ k = 2 ∨ k = 3 ∨ k = 4 ∨ k = 5 ∨ k = 6 by omega) with rfl | rfl | rfl | rfl | rfl | rfl
  all_goals
    go_enter Tryd.func8, Tryd.ntmps8
    go_wp2
    go_ret
    exact ⟨rfl, rfl⟩

/-- What a world tells of the table of keywords. -/
def KwLaid (w : World) : Prop := ∀ k : Nat, 1 ≤ k → k ≤ 6 → w.cell? ⟨0, k * 4, none⟩ = some (.string (kwT k))

set_option maxHeartbeats 400000 in
theorem unclosed_none (b : Nat) (w : World) (hc : w.cell? ⟨b, 39, none⟩ = some (.pointer none)) :
    Calls Tryd.prog 10 #[.pointer (some ⟨b, 0, none⟩)] w fun e w' => e = .returned .nilIface ∧ Below w.heap.size w w' := by
  go_enter Tryd.func10, Tryd.ntmps10
  go_wp2
  go_ret
  exact ⟨rfl, Below.refl _ _⟩

set_option maxHeartbeats 400000 in
theorem unclosed_empty (b d : Nat) (ao : Option Addr) (cap : Nat) (w : World) (hc : w.cell? ⟨b, 39, none⟩ = some (.pointer (some ⟨d, 0, none⟩))) (hd : w.cell? ⟨d, 0, none⟩ = some (.slice ao 0 cap)) :
    Calls Tryd.prog 10 #[.pointer (some ⟨b, 0, none⟩)] w fun e w' => e = .returned .nilIface ∧ Below w.heap.size w w' := by
  go_enter Tryd.func10, Tryd.ntmps10
  go_wp2
  go_ret
  exact ⟨rfl, Below.refl _ _⟩

theorem below_final (w : World) (a b c : Obj) : Below w.heap.size w (((w.alloc a).alloc b).alloc c).drew :=
  ((((Below.refl _ _).alloc (Nat.le_refl _) _).alloc (by simp) _).alloc (by simp; omega) _).drew

set_option maxHeartbeats 400000 in
theorem unclosed_some (b d g o n cap : Nat) (l c : Int) (k : Nat) (f1 f2 f3 : Bool) (w : World) (hc : w.cell? ⟨b, 39, none⟩ = some (.pointer (some ⟨d, 0, none⟩))) (hd : w.cell? ⟨d, 0, none⟩ = some (.slice (some ⟨g, o, none⟩) n cap))
    (hn : 0 < n) (hr : w.rangeAt g o [.int .i64 l, .int .i64 c, .int .u8 k, .bool f1, .bool f2, .bool f3]) (hk1 : 1 ≤ k) (hk2 : k ≤ 6) (hkw : w.cell? ⟨0, k * 4, none⟩ = some (.string (kwT k))) (hs : (kwT k).size ≤ 10) :
    Calls Tryd.prog 10 #[.pointer (some ⟨b, 0, none⟩)] w fun e w' => ∃ p, e = .returned (.iface 68 (.pointer (some ⟨p, 0, none⟩))) ∧ w'.cell? ⟨p, 0, none⟩ = some (.int .i64 l) ∧ w'.cell? ⟨p, 1, none⟩ = some (.int .i64 c) ∧ w'.cell? ⟨p, 2, none⟩ = some (.string (msg k)) ∧ Below w.heap.size w w' := by
  have r0 : w.cell? ⟨g, o, none⟩ = some (.int .i64 l) := hr 0 _ rfl
  have r1 : w.cell? ⟨g, o + 1, none⟩ = some (.int .i64 c) := hr 1 _ rfl
  have r2 : w.cell? ⟨g, o + 2, none⟩ = some (.int .u8 k) := hr 2 _ rfl
  have r3 : w.cell? ⟨g, o + 3, none⟩ = some (.bool f1) := hr 3 _ rfl
  have r4 : w.cell? ⟨g, o + 4, none⟩ = some (.bool f2) := hr 4 _ rfl
  have r5 : w.cell? ⟨g, o + 5, none⟩ = some (.bool f3) := hr 5 _ rfl
  clear hr
  have h0 : 0 < w.heap.size := World.block_lt_of_cell? w _ hkw
  have hi1 : (0 : Int) ≤ (k : Int) := by omega
  have hi2 : (k : Int) < 9 := by omega
  go_enter Tryd.func10, Tryd.ntmps10
  go_wp2
  go_region_with (go_at_call 11; refine (errorAt_any _ _ _ _).mono ?_; rintro e w' ⟨rfl, rfl⟩)
  all_goals go_wp2
  all_goals go_ret
  all_goals (refine ⟨w.heap.size + 2, rfl, ?_, ?_, ?_, ?_⟩)
  all_goals first
    | exact below_final w _ _ _
    | (simp [go_sem, msg, pre]; done)

end Go.Proofs.Qxb6608686aDoor.Parts
