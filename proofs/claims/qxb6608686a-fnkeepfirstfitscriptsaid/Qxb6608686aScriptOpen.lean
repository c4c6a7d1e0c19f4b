import Derived.Test.Qxb6608686aScriptC
import Derived.ProofKit
import Derived.OpenShut
import Derived.ShutString
import Derived.ChangeOld
import Derived.Below
import Derived.Deep.Slices
import Derived.Deep.Fields
import Derived.Lib.SmallJoins
namespace Go.Proofs.Qxb6608686a.ScriptOpen
open Go.ChangeShapes Go.WideShapes Go.ChangeAt Go.RowKit Go.Deep Go.Joins
open Go.Proofs.Qxb6608686a.ScriptC

set_option linter.unusedVariables false

theorem c48 : Try.prog.cellsOf 48 = 4 := by kernel_rfl
theorem c9 : Try.prog.cellsOf 9 = 1 := by kernel_rfl
theorem c4 : Try.prog.cellsOf 4 = 1 := by kernel_rfl
theorem c3 : Try.prog.cellsOf 3 = 1 := by kernel_rfl

section
variable {H : Type} {enc : TypeId × Value → H} {P : Program} {w : World} {base : Nat} {spare : Nat → Bool} {held : Bool}
theorem trod_bool1 {t : TypeId} {fuel : Nat} {v : Value} {x : DataW H × List MemPlace} (ht : P.underlying t = some .bool) (h : DataW.trod enc P w base spare held fuel t [v] = some x) : ∃ b, v = .bool b := by
  cases fuel with
  | zero => simp [DataW.trod] at h
  | succ n =>
    unfold DataW.trod at h
    rw [ht] at h
    split at h <;> simp_all
theorem list4 {α : Type} {l : List α} (h : l.length = 4) : ∃ a b c d, l = [a, b, c, d] := by
  match l, h with
  | [a, b, c, d], _ => exact ⟨a, b, c, d, rfl⟩
/-- Four cells that read as a step are a step's cells. -/
theorem trod_stp {fuel : Nat} {cs : List Value} {x : DataW H × List MemPlace} (h : DataW.trod enc Try.prog w base spare held fuel 48 cs = some x) : ∃ b : Stp, cs = b.cells ∧ b.t.size ≤ maxLen := by
  obtain ⟨y0, y1, y2, y3, n, rfl, hl, f0, f1, f2, f3⟩ := trod_struct4 Try.underlying48 h
  rw [c48] at hl
  obtain ⟨a0, a1, a2, a3, rfl⟩ := list4 hl
  simp only [c9, c4, c3, List.take, List.drop] at f0 f1 f2 f3
  obtain ⟨s, e0, e0', hs⟩ := DataW.trod_string Try.underlying9 f0
  obtain ⟨b1, rfl⟩ := trod_bool1 Try.underlying4 f1
  obtain ⟨i2, e2, _⟩ := DataW.trod_int Try.underlying3 f2
  obtain ⟨i3, e3, _⟩ := DataW.trod_int Try.underlying3 f3
  simp only [List.cons.injEq, and_true] at e0 e2 e3
  subst e0 e2 e3
  exact ⟨⟨s, b1, i2, i3⟩, rfl, hs⟩
end

/-- WHAT THE WALK IS TOLD OF THE SLICE OF STEPS. -/
def IsSteps (w : World) (a : Option Addr) (n : Nat) : Prop := n ≤ 9223372036854775807 ∧ ∃ b off St, ScriptC.Steps w a b off n St

theorem isSteps_of {H : Type} {enc : TypeId × Value → H} {w : World} {base : Nat} {spare : Nat → Bool} {held : Bool} {fuel : Nat} {a : Option Addr} {n cap : Nat} {x : DataW H × List MemPlace} (h : DataW.trod enc Try.prog w base spare held fuel 45 [.slice a n cap] = some x) : IsSteps w a n := by
  rcases open_slice Try.underlying45 h with ⟨hcs, _⟩ | ⟨ad, len, cap', m, k, D, Pl, hcs, hb, hl, hm, hmm, _, hx⟩
  · simp at hcs
    obtain ⟨_, rfl, _⟩ := hcs
    exact ⟨by omega, 0, 0, fun _ => ⟨⟨#[]⟩, false, 0, 0⟩, fun h => absurd h (Nat.lt_irrefl 0), fun i hi => absurd hi (Nat.not_lt_zero i), fun i hi => absurd hi (Nat.not_lt_zero i)⟩
  · simp only [List.cons.injEq, Value.slice.injEq, and_true] at hcs
    obtain ⟨rfl, rfl, rfl⟩ := hcs
    have hmax : maxLen ≤ 9223372036854775807 := by decide
    refine ⟨by omega, ?_⟩
    rcases Nat.eq_zero_or_pos n with rfl | hn
    · exact ⟨0, 0, fun _ => ⟨⟨#[]⟩, false, 0, 0⟩, fun h => absurd h (Nat.lt_irrefl 0), fun i hi => absurd hi (Nat.not_lt_zero i), fun i hi => absurd hi (Nat.not_lt_zero i)⟩
    have hlm : n ≤ m := by rw [hmm]; split <;> omega
    rw [c48] at hx
    haveI : Inhabited Stp := ⟨⟨⟨#[]⟩, false, 0, 0⟩⟩
    obtain ⟨B, hB⟩ := choose_lt (α := Stp) (p := fun i b => b.t.size ≤ maxLen ∧ ∀ j v, b.cells[j]? = some v → w.cell? (ad.add (i * 4 + j)) = some v) (n := n) (fun i hi => by
      obtain ⟨cs', h1, h2⟩ := hx i (by omega)
      obtain ⟨b, rfl, hs⟩ := trod_stp h2
      obtain ⟨_, hlen, hcell⟩ := World.cells?_some h1
      exact ⟨b, hs, fun j v hv => by
        have hj : j < 4 := by have := (List.getElem?_eq_some_iff.1 hv).1; simpa [Stp.cells] using this
        rw [← add_add, hcell j hj]; exact hv⟩)
    obtain ⟨b, off, spot⟩ := ad
    have h0 := (hB 0 hn).2 0 _ rfl
    have hspot : spot = none := by simpa [Addr.add] using World.cell?_spot h0
    subst hspot
    refine ⟨b, off, B, fun _ => rfl, fun i hi j v hv => ?_, fun i hi => by have := (hB i hi).1; omega⟩
    have := (hB i hi).2 j v hv
    rw [Addr.add_lit] at this
    rw [Nat.add_assoc]; exact this

set_option maxRecDepth 20000 in
set_option maxHeartbeats 800000 in
theorem walk_long (a0 : Option Addr) (b off n cap : Nat) (St : Nat → Stp) (w : World) (hn : 4096 < n) (hn' : n ≤ 1048576) (H : Hid (ScriptC.Steps w a0 b off n St)) :
    Calls Try.prog 8 #[.slice a0 n cap] w fun e w' => e = .returned (.bool true) ∧ Below w.heap.size w w' := by
  go_enter Try.func8, Try.ntmps8
  go_wp2_with fail
  refine (bytes29_in a0 b off n cap St w hn' H).mono ?_
  rintro e w' ⟨rfl, ⟨rfl, hs⟩ | rfl⟩
  · clear hs
    go_wp2_with fail
    go_ret
    exact ⟨rfl, Below.refl _ _⟩
  · go_wp2_with fail
    go_ret
    exact ⟨rfl, Below.refl _ _⟩
set_option maxRecDepth 20000 in
set_option maxHeartbeats 800000 in
theorem walk_huge (a0 : Option Addr) (n cap : Nat) (w : World) (hn : 1048576 < n) (hn' : n ≤ 9223372036854775807) :
    Calls Try.prog 8 #[.slice a0 n cap] w fun e w' => e = .returned (.bool true) ∧ Below w.heap.size w w' := by
  go_enter Try.func8, Try.ntmps8
  go_wp2_with (go_at_call 29; refine (bytes29_out a0 n cap w hn hn').mono ?_; rintro e w' ⟨rfl, rfl⟩)
  go_ret
  exact ⟨rfl, Below.refl _ _⟩
end Go.Proofs.Qxb6608686a.ScriptOpen
