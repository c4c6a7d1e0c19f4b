import Derived.Test.Qxb6608686aMapKit
import Derived.Lib.BufferWrite
import Derived.Lib.UnsafeStr
import Derived.Deep.DrawnRows
namespace Go.Proofs.Qxb6608686a.KeepA
open Go.RowKit Go.Proofs.Qxb6608686a.Kit Go.Proofs.Qxb6608686a.MapKit

theorem hid {p : Prop} (h : p) : Hid p := h
theorem info5 : (Try.prog.info? 5).map (fun i => (i.zero, i.size, i.bytes)) = some (some (.int .u8 0), 1, 1) := by kernel_rfl

/-- 'copy(b, s)', b just made as long as the string s. -/
theorem wpList_copy_str {P : Program} {w : World} {ops : Array Oper} {rest : List Oper} {o : Oper} {a : Act} {Q : Exit → Act → World → Prop} (hgd : o.guard = none) (d s : Operand) (dT sT : TypeId)
    (ho : o.op = .call { callee := .builtin .copy, args := #[d, s], argTypes := #[dT, sT] }) (elem : TypeId) (hu : P.underlying dT = some (.slice elem)) (hsz : (P.info? elem).map (·.size) = some 1)
    (S : ByteArray) (cur : Array Value) (t : TypeId) (hd : a.eval d = .slice (some ⟨w.heap.size, 0, none⟩) S.size S.size) (hs : a.eval s = .string S) (hcur : cur.size = S.size)
    (h : wpList P ops Q rest (a.put o.dst (goInt S.size)) ((w.alloc (.cells cur t)).setRow w.heap.size (Lib.byteCells S.data.toList).toArray)) :
    wpList P ops Q (o :: rest) a (w.alloc (.cells cur t)) := by
  refine wpList_plain hgd fun K hK => ?_
  have hrun := Lib.run_copy_row_string (P := P) (w.alloc (.cells cur t)) dT sT o.type elem w.heap.size 0 S.size S.size S cur t hu hsz (heap_alloc_new w _) (Nat.le_refl _) (by omega)
  have e : cur.toList.take 0 ++ Lib.byteCells S.data.toList ++ cur.toList.drop (0 + S.size) = Lib.byteCells S.data.toList := by
    rw [List.take_zero, List.nil_append, List.drop_of_length_le (by rw [Array.length_toList]; omega), List.append_nil]
  rw [e] at hrun
  unfold Oper.wp
  simp [execOp, ho, resolve, invoke, builtin, hd, hs, hrun, Result.andThen]
  exact hK _ _ h

set_option maxRecDepth 4000 in
set_option maxHeartbeats 1000000 in
theorem clone_in (s : ByteArray) (w : World) (hs : s.size ≤ 1048576) : Calls Try.prog 41 #[.string s] w fun e w' => e = .returned (.string s) ∧ Below w.heap.size w w' := by
  by_cases h0 : s.size = 0
  · have hs : s = ⟨#[]⟩ := by
      apply ByteArray.ext
      exact Array.eq_empty_of_size_eq_zero h0
    subst hs
    go_enter Try.func41, Try.ntmps41
    go_wp2
    go_ret
    exact ⟨rfl, Below.refl _ _⟩
  · have hp : 0 < s.size := by omega
    have hl : (Lib.byteCells s.data.toList).length = s.size := by rw [Lib.byteCells_length, ← Lib.size_eq]
    obtain ⟨M, HM⟩ : ∃ M, Hid (madeCells (Value.int .u8 0).cells (s.size * 1) = M) := ⟨_, hid rfl⟩
    have hMs : M.size = s.size := by rw [← HM.out, size_madeCells, Nat.mul_one]
    have hg : ((w.alloc (.cells M 5)).setRow w.heap.size (Lib.byteCells s.data.toList).toArray).heap[w.heap.size]? = some (.cells (Lib.byteCells s.data.toList).toArray 5 (0, 0)) := setRow_heap _ _ M _ 5 (0, 0) (heap_alloc_new w _)
    have hUS := Lib.run_unsafeString_row (P := Try.prog) ((w.alloc (.cells M 5)).setRow w.heap.size (Lib.byteCells s.data.toList).toArray) 91 3 9 5 Try.underlying91 (by kernel_rfl) w.heap.size s.size (by unfold World.shape?; rw [hg]; simp [hl]) s.data.toList
      (fun e => h0 (by rw [Lib.size_eq, e]; rfl)) (by rw [← Lib.size_eq]; omega) (by rw [← Lib.size_eq]; omega)
      (fun j x hx => Lib.cells_of_row hg s.size j _ (by rw [List.take_of_length_le (by simp [hl])]; simp [Lib.byteCells, hx]))
    rw [← Lib.size_eq] at hUS
    have es : (⟨s.data.toList.toArray⟩ : ByteArray) = s := by cases s; simp
    rw [es] at hUS
    clear hg hl es
    go_enter Try.func41, Try.ntmps41
    go_wp2_with (first
      | (at_make; refine wpList_make_at rfl (.tmp 8) (.tmp 8) 65 rfl 5 (.int .u8 0) 1 1 Try.underlying65 info5 _ _ _ _ s.size s.size rfl rfl rfl rfl (Nat.le_refl _) (by omega) (by omega) ?_; rw [HM.out])
      | (refine at_copy ?_; refine wpList_copy_str rfl (.tmp 10) (.tmp 11) 65 9 rfl 5 Try.underlying65 (by kernel_rfl) s M 5 rfl rfl hMs ?_))
    go_ret
    exact ⟨rfl, Lib.below_freeze (below_setRow ((Below.refl _ _).alloc (Nat.le_refl _) _) (Nat.le_refl _) _) (Nat.le_refl _) _⟩

set_option maxHeartbeats 400000 in
theorem clone_any (s : ByteArray) (w : World) (hs : s.size ≤ 1048576) : Calls Try.prog 40 #[.string s] w fun e w' => e = .returned (.string s) ∧ Below w.heap.size w w' := by
  go_enter Try.func40, Try.ntmps40
  go_wp2_with (go_at_call 41; refine (clone_in s _ hs).mono ?_; rintro e w' ⟨rfl, hb⟩)
  go_ret
  exact ⟨rfl, hb⟩

set_option maxHeartbeats 400000 in
theorem of_any (gm : Nat) (s : ByteArray) (d : Bool) (w : World) :
    Calls Try.prog 34 #[.pointer (some ⟨gm, 0, none⟩), .agg #[.string s, .bool d]] w fun e w' => e = .returned (.pointer (some ⟨gm, d.toNat, none⟩)) ∧ w.alloc (.cells #[.string s, .bool d] 83) = w' := by
  cases d
  all_goals
    go_enter Try.func34, Try.ntmps34
    go_wp2
    go_ret
    exact ⟨rfl, rfl⟩

set_option maxHeartbeats 400000 in
theorem held_any (gb : Nat) (f : Int) (w : World) (h0 : 0 ≤ f) (h1 : f ≤ 65536) (hc : w.cell? ⟨gb, 4, none⟩ = some (.int .i64 f)) :
    Calls Try.prog 39 #[.pointer (some ⟨gb, 0, none⟩)] w fun e w' => e = .returned (.tuple #[.int .i64 (65536 - f), .bool (decide (0 < f))]) ∧ ∃ q, w' = w.drewN q := by
  go_enter Try.func39, Try.ntmps39
  go_wp2
  go_quiet (fail)
  go_wp2
  go_ret2
  exact ⟨rfl, nq, rfl⟩
end Go.Proofs.Qxb6608686a.KeepA
