import Derived.Test.Qxb6613555aPlain
import Derived.Test.Qxb6613555aGraphA
namespace Go.Proofs.Qxb6613555a.PlainB
open Go.Proofs.Qxb6613555a.Plain Go.Proofs.Qxb6613555a.GraphA

/-- How many reads the counting sort has to do with. -/
def cl (acc : Nat → Nat) (K lo d : Nat) : Nat := (cat acc K lo d).length
theorem cl_zero (acc : Nat → Nat) (K lo : Nat) : cl acc K lo 0 = 0 := rfl
theorem cl_succ (acc : Nat → Nat) (K lo d : Nat) : cl acc K lo (d + 1) = cl acc K lo d + (rd acc K (lo + d)).length := by simp [cl, cat]
theorem cl_mono (acc : Nat → Nat) (K lo : Nat) {d e : Nat} (h : d ≤ e) : cl acc K lo d ≤ cl acc K lo e := by
  obtain ⟨Y, hY, _⟩ := cat_add acc K lo d (e - d)
  rw [show d + (e - d) = e by omega] at hY
  simp only [cl]
  rw [hY, List.length_append]
  omega
theorem rd_hit {acc : Nat → Nat} {k a : Nat} (h : acc k = a) : (rd acc (k + 1) a).length = (rd acc k a).length + 1 := by simp [rd, h]
theorem rd_miss {acc : Nat → Nat} {k a : Nat} (h : acc k ≠ a) : (rd acc (k + 1) a).length = (rd acc k a).length := by simp [rd, h]

structure Srt (acc : Nat → Nat) (K lo D k : Nat) (f g : Nat → Int) : Prop where
  cnt : ∀ j, j < D → f j + ((rd acc k (lo + j)).length : Nat) = (cl acc K lo (j + 1) : Nat)
  out : ∀ j, j < D → ∀ q : Nat, cl acc K lo j ≤ q → (q : Int) < f j → ∀ v, (cat acc K lo D)[q]? = some v → g q = (v : Nat)

theorem good_start {acc : Nat → Nat} {K lo D : Nat} {f g : Nat → Int} (h : ∀ j, j < D → f j = (cl acc K lo j : Nat)) : Srt acc K lo D K f g := by
  refine ⟨fun j hj => ?_, fun j hj q h1 h2 => ?_⟩
  · rw [h j hj, cl_succ]; omega
  · rw [h j hj] at h2; omega
theorem good_miss {acc : Nat → Nat} {K lo D k : Nat} {f g : Nat → Int} (h : Srt acc K lo D (k + 1) f g) (ha : acc k < lo ∨ lo + D ≤ acc k) : Srt acc K lo D k f g := by
  refine ⟨fun j hj => ?_, h.out⟩
  have := h.cnt j hj
  rwa [rd_miss (by omega)] at this
theorem good_hit {acc : Nat → Nat} {K lo D k : Nat} {f g : Nat → Int} (h : Srt acc K lo D (k + 1) f g) (hk : k < K) {j : Nat} (hj : j < D) (ha : acc k = lo + j) :
    ∃ q : Nat, f j = q ∧ q < cl acc K lo D ∧ Srt acc K lo D k (upd f j (q + 1)) (upd g q k) := by
  obtain ⟨c, hc⟩ := rd_split acc (lo + j) (show k + 1 ≤ K from hk)
  have hcnt := h.cnt j hj
  have hcl := cl_succ acc K lo j
  have hm := cl_mono acc K lo (show j + 1 ≤ D from hj)
  have hrd : rd acc (k + 1) (lo + j) = k :: rd acc k (lo + j) := by simp [rd, ha]
  have hq : f j = ((cl acc K lo j + c.length : Nat) : Int) := by
    rw [hcl, hc, List.length_append] at hcnt
    omega
  have hle : cl acc K lo j + c.length + (rd acc k (lo + j)).length + 1 = cl acc K lo (j + 1) := by
    rw [hcl, hc, List.length_append, hrd, List.length_cons]; omega
  have hget : (cat acc K lo D)[cl acc K lo j + c.length]? = some k := by
    obtain ⟨Y, hY, _⟩ := cat_add acc K lo (j + 1) (D - (j + 1))
    rw [show j + 1 + (D - (j + 1)) = D by omega] at hY
    rw [hY, cat, hc, hrd, List.append_assoc, List.append_assoc]
    rw [List.getElem?_append_right (by simp [cl]), List.getElem?_append_right (by simp [cl])]
    simp [cl]
  refine ⟨_, hq, by omega, fun i hi => ?_, fun i hi q h1 h2 v hv => ?_⟩
  · by_cases e : i = j
    · subst e
      rw [upd_same]
      omega
    · rw [upd_ne _ _ e]
      have := h.cnt i hi
      rwa [rd_miss (by omega)] at this
  · by_cases eq : q = cl acc K lo j + c.length
    · subst eq
      rw [upd_same]
      rw [hget] at hv
      rw [Option.some.inj hv]
    · rw [upd_ne _ _ eq]
      refine h.out i hi q h1 ?_ v hv
      by_cases e : i = j
      · subst e
        rw [upd_same] at h2
        omega
      · rwa [upd_ne _ _ e] at h2
theorem cl_find (acc : Nat → Nat) (K lo q : Nat) : ∀ D : Nat, q < cl acc K lo D → ∃ j, j < D ∧ cl acc K lo j ≤ q ∧ q < cl acc K lo (j + 1)
  | 0, h => by rw [cl_zero] at h; omega
  | D + 1, h => by
    by_cases h' : q < cl acc K lo D
    · obtain ⟨j, h1, h2⟩ := cl_find acc K lo q D h'
      exact ⟨j, by omega, h2⟩
    · exact ⟨D, by omega, by omega, h⟩
theorem good_end {acc : Nat → Nat} {K lo D : Nat} {f g : Nat → Int} (h : Srt acc K lo D 0 f g) (q v : Nat) (hv : (cat acc K lo D)[q]? = some v) : g q = (v : Nat) := by
  obtain ⟨j, hj, h1, h2⟩ := cl_find acc K lo q D (List.getElem?_eq_some_iff.1 hv).1
  refine h.out j hj q h1 ?_ v hv
  have := h.cnt j hj
  simp only [rd, List.length_nil] at this
  omega
end Go.Proofs.Qxb6613555a.PlainB
