import Derived.Test.Qxb6608686aDoorMain2
import Derived.ProofKit
import Derived.LaidMore
import Derived.OpenShut
import Derived.Stop.Joined
import Derived.Deep.Slices
import Derived.Deep.Fields
import Derived.Lib.SmallJoins
import Derived.WalkSmall
namespace Go.Proofs.Qxb6608686aDoor.Open
open Go.ChangeShapes Go.WideShapes Go.ChangeAt Go.WideMaps Go.WideElems Go.RowKit Go.Deep Go.Joins
open Go.Proofs.Qxb6608686aDoor.Kit Go.Proofs.Qxb6608686aDoor.Parts Go.Proofs.Qxb6608686aDoor.Main

theorem own : ownKnob Tryd.prog.godebug = none := by kernel_rfl
theorem laidOut : laidOutB Tryd.prog = true := by kernel_rfl
/-- The name of the table of keywords, off the given row. -/
def kwName : String := Rows.fnUnclosedReportsOutermostSpec.vars.headD ""
theorem gKw : Tryd.prog.globalNamed kwName = some 0 := by kernel_rfl
theorem tKw : (Tryd.prog.globals[0]?).map (·.type) = some 80 := by kernel_rfl
theorem c24 : Tryd.prog.cellsOf 24 = 6 := by kernel_rfl
theorem c79 : Tryd.prog.cellsOf 79 = 4 := by kernel_rfl
theorem c9 : Tryd.prog.cellsOf 9 = 1 := by kernel_rfl

section
variable {H : Type} {enc : TypeId × Value → H} {P : Program} {w : World} {base : Nat} {spare : Nat → Bool} {held : Bool}

theorem list6 {α : Type} {l : List α} (h : l.length = 6) : ∃ a b c d e f, l = [a, b, c, d, e, f] := by
  match l, h with
  | [a, b, c, d, e, f], _ => exact ⟨a, b, c, d, e, f, rfl⟩

theorem trod_bool1 {t : TypeId} {fuel : Nat} {v : Value} {x : DataW H × List MemPlace} (ht : P.underlying t = some .bool) (h : DataW.trod enc P w base spare held fuel t [v] = some x) : ∃ b, v = .bool b := by
  cases fuel with
  | zero => simp [DataW.trod] at h
  | succ n =>
    unfold DataW.trod at h
    rw [ht] at h
    split at h <;> simp_all
theorem trod_int1 {t : TypeId} {k : IntKind} {fuel : Nat} {v : Value} {x : DataW H × List MemPlace} (ht : P.underlying t = some (.int k)) (h : DataW.trod enc P w base spare held fuel t [v] = some x) : ∃ b, v = .int k b := by
  obtain ⟨i, e, _⟩ := DataW.trod_int ht h
  exact ⟨i, by simpa using e⟩

/-- A struct of six one-cell fields: its cells, each with a reading of its own. -/
theorem trod_six {t : TypeId} {fs : Array Field} {fuel : Nat} {cs : List Value} {x : DataW H × List MemPlace} (hs : P.underlying t = some (.struct fs)) (hone : oneCellFields P fs = true) (hC : P.cellsOf t = 6) (h6 : fs.size = 6)
    (h : DataW.trod enc P w base spare held fuel t cs = some x) :
    ∃ (a0 a1 a2 a3 a4 a5 : Value) (n : Nat), cs = [a0, a1, a2, a3, a4, a5] ∧ ∀ (i : Nat) (f : Field) (v : Value), fs[i]? = some f → [a0, a1, a2, a3, a4, a5][i]? = some v → ∃ y, DataW.trod enc P w base spare held n f.type [v] = some y := by
  obtain ⟨xs, n, _, _, hl, hxl, hf⟩ := DataW.trod_struct hs h
  rw [hC] at hl
  obtain ⟨a0, a1, a2, a3, a4, a5, rfl⟩ := list6 hl
  refine ⟨a0, a1, a2, a3, a4, a5, n, rfl, fun i f v hi hv => ?_⟩
  obtain ⟨ho, hc1⟩ := hone_of hone i f hi
  have hlt : i < fs.size := (Array.getElem?_eq_some_iff.1 hi).1
  have g := hf i f hi
  rw [ho, hc1, take1_drop _ i v (by simp; omega)] at g
  have hv' : [a0, a1, a2, a3, a4, a5].getD i v = v := by simp [List.getD, hv]
  rw [hv'] at g
  exact ⟨xs[i]'(by omega), by rw [g]; exact List.getElem?_eq_getElem _⟩

/-- Six cells that read as a block are a block's cells. -/
theorem trod_blk {fuel : Nat} {cs : List Value} {x : DataW H × List MemPlace} (h : DataW.trod enc Tryd.prog w base spare held fuel 24 cs = some x) : ∃ b : Blk, cs = b.cells := by
  obtain ⟨a0, a1, a2, a3, a4, a5, n, rfl, hf⟩ := trod_six Tryd.underlying24 (by kernel_rfl) c24 rfl h
  obtain ⟨_, f0⟩ := hf 0 _ _ rfl rfl
  obtain ⟨_, f1⟩ := hf 1 _ _ rfl rfl
  obtain ⟨_, f2⟩ := hf 2 _ _ rfl rfl
  obtain ⟨_, f3⟩ := hf 3 _ _ rfl rfl
  obtain ⟨_, f4⟩ := hf 4 _ _ rfl rfl
  obtain ⟨_, f5⟩ := hf 5 _ _ rfl rfl
  obtain ⟨i0, rfl⟩ := trod_int1 Tryd.underlying3 f0
  obtain ⟨i1, rfl⟩ := trod_int1 Tryd.underlying3 f1
  obtain ⟨i2, rfl⟩ := trod_int1 Tryd.underlying5 f2
  obtain ⟨b3, rfl⟩ := trod_bool1 Tryd.underlying4 f3
  obtain ⟨b4, rfl⟩ := trod_bool1 Tryd.underlying4 f4
  obtain ⟨b5, rfl⟩ := trod_bool1 Tryd.underlying4 f5
  exact ⟨⟨i0, i1, i2, b3, b4, b5⟩, rfl⟩

/-- One row of the table: its text's cell. -/
theorem kw_cell {m : Nat} {cs : List Value} {x : DataW H × List MemPlace} {bs : List UInt8} {rest : List (DataW H)} (h : DataW.trod enc Tryd.prog w base spare held m 79 cs = some x) (hx : x.1 = .agg (.lit (.string bs) :: rest)) :
    cs[0]? = some (.string ⟨bs.toArray⟩) := by
  obtain ⟨y0, y1, y2, y3, n, rfl, hl, f0, f1, f2, f3⟩ := trod_struct4 Tryd.underlying79 h
  simp only [c9, List.drop_zero] at f0
  obtain ⟨s, e0, rfl, _⟩ := DataW.trod_string Tryd.underlying9 f0
  simp only [DataW.agg.injEq, List.cons.injEq, DataW.lit.injEq, Lit.string.injEq] at hx
  have hs : s = ⟨bs.toArray⟩ := by
    cases s with
    | mk d => simp only at hx; rw [← hx.1]
  subst hs
  cases cs with
  | nil => simp at e0
  | cons c r => simp at e0; simp [e0]
end

/-- WHAT THE CONDITION GIVES THE WALKS. -/
theorem of_laid {W : World} (h : laidMetH Tryd.prog Rows.fnUnclosedReportsOutermostRow.laid W) : KwLaid W := by
  have h' : laidMetH Tryd.prog [(kwName, Rows.laid_example_com_korvaus_korvaus_keywords)] W := h
  rw [MakeChecks.laidMetH_plain _ _ _ (by kernel_rfl)] at h'
  obtain ⟨ps, ⟨g0, t0, cs0, f0, p0, q0, hg0, ht0, hv0, hd0, _, _⟩, _, _⟩ := h'
  obtain rfl := Option.some.inj (gKw.symm.trans hg0)
  obtain rfl := Option.some.inj (tKw.symm.trans ht0)
  obtain ⟨xs, m, rfl, hx, hlen, hn9, hel⟩ := DataW.trod_array Tryd.underlying80 hd0
  simp only [Prod.mk.injEq] at hx
  have hD := hx.1
  have get : ∀ k, k < 9 → ∀ bs rest, (xs.map (·.1))[k]? = some (.agg (.lit (.string bs) :: rest)) → W.cell? ⟨0, k * 4, none⟩ = some (.string ⟨bs.toArray⟩) := by
    intro k hk bs rest hb
    rw [World.var?_cell hg0 hv0]
    have e := hel k hk
    rw [List.getElem?_map] at hb
    obtain ⟨x, hxk, hx1⟩ := Option.map_eq_some_iff.1 hb
    rw [hxk] at e
    have := kw_cell e hx1
    rw [c79] at this
    simpa using this
  have hlist : xs.map (·.1) = _ := (DataW.agg.inj hD).symm
  rw [hlist] at get
  intro k h1 h2
  rcases (show k = 1 ∨ k = 2 ∨ k = 3 ∨ k = 4 ∨ k = 5 ∨ k = 6 by omega) with rfl | rfl | rfl | rfl | rfl | rfl
  · exact get 1 (by omega) _ _ rfl
  · exact get 2 (by omega) _ _ rfl
  · exact get 3 (by omega) _ _ rfl
  · exact get 4 (by omega) _ _ rfl
  · exact get 5 (by omega) _ _ rfl
  · exact get 6 (by omega) _ _ rfl

/-- The door's own heap meets the condition. -/
theorem door_met (os : Os) (args : Array Value) : laidMetH Tryd.prog Rows.fnUnclosedReportsOutermostRow.laid ((World.doorLaid Tryd.prog 400 os).forCall (fun _ _ => 0) ⟨#[], args, []⟩).memory :=
  laidMetH_of_parts3 (fuel := 8) (laidMet_of_run' 8 (by kernel_rfl) (by kernel_rfl)) (by kernel_rfl) (by kernel_rfl)

end Go.Proofs.Qxb6608686aDoor.Open
