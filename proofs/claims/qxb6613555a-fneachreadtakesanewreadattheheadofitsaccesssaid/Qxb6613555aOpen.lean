import Derived.Test.Qxb6613555aEach
import Derived.OpenShut
namespace Go.Proofs.Qxb6613555a.Open
open Go.RowKit Go.Proofs.Qxb6613555a.Kit Go.Proofs.Qxb6613555a.Build

/-- What the walk is told of a slice of integers that came in. -/
def IsRow (k : IntKind) (w : World) (a : Option Addr) (len cap : Nat) (zs : List Int) : Prop :=
  (a = none ∧ len = 0 ∧ cap = 0 ∧ zs = []) ∨
  ∃ x, a = some x ∧ len ≤ cap ∧ cap ≤ maxLen ∧ zs.length = cap ∧ (∀ i, i < zs.length → w.cell? (x.add i) = some (.int k (zs.getD i 0))) ∧ ∀ n ∈ zs, (Lit.int k n).wf = true

theorem arg_of {k : IntKind} {w : World} {a : Option Addr} {len cap : Nat} {zs : List Int} {top : Int} (h : IsRow k w a len cap zs) (hk : ∀ n : Int, (Lit.int k n).wf = true → 0 ≤ n ∧ n < top) :
    ∃ b off f, Arg w k a b off len f ∧ ∀ i, i < len → ((f i : Nat) : Int) < top := by
  rcases h with ⟨rfl, rfl, rfl, rfl⟩ | ⟨x, rfl, hl, hm, hz, hcell, hwf⟩
  · exact ⟨0, 0, fun _ => 0, ⟨fun h => by omega, fun i hi => by omega⟩, fun i hi => by omega⟩
  · obtain ⟨b, off, spot⟩ := x
    have hb : ∀ i, i < len → 0 ≤ zs.getD i 0 ∧ zs.getD i 0 < top := fun i hi => by
      rw [List.getD_eq_getElem?_getD, List.getElem?_eq_getElem (by omega)]
      exact hk _ (hwf _ (List.getElem_mem _))
    refine ⟨b, off, fun i => (zs.getD i 0).toNat, ⟨fun h => ?_, fun i hi => ?_⟩, fun i hi => ?_⟩
    · have hspot : spot = none := by simpa [Addr.add] using World.cell?_spot (hcell 0 (by omega))
      rw [hspot]
    · have hspot : spot = none := by simpa [Addr.add] using World.cell?_spot (hcell 0 (by omega))
      subst hspot
      have := hcell i (by omega)
      rw [Addr.add_mid] at this
      rw [this, Int.toNat_of_nonneg (hb i hi).1]
    · show ((zs.getD i 0).toNat : Int) < top
      rw [Int.toNat_of_nonneg (hb i hi).1]
      exact (hb i hi).2
theorem wf_u8 (n : Int) (h : (Lit.int .u8 n).wf = true) : 0 ≤ n ∧ n < 256 := by
  have := bounds_u8 h
  omega
theorem wf_u32 (n : Int) (h : (Lit.int .u32 n).wf = true) : 0 ≤ n ∧ n < 4294967296 := by
  have := bounds_u32 h
  omega
end Go.Proofs.Qxb6613555a.Open
