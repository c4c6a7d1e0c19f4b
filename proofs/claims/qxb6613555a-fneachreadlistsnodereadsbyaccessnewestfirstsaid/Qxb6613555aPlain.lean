import Derived.Test.Qxb6613555aRows
namespace Go.Proofs.Qxb6613555a.Plain

/-- The reads below k of access a, the newest first. -/
def rd (acc : Nat → Nat) : Nat → Nat → List Nat
  | 0, _ => []
  | k + 1, a => if acc k = a then k :: rd acc k a else rd acc k a
/-- The newest read below k of access a, or -1. -/
def lat (acc : Nat → Nat) (k a : Nat) : Int := match rd acc k a with
  | [] => -1
  | r :: _ => r
def pre (p : Nat → Nat) : Nat → Nat
  | 0 => 0
  | n + 1 => pre p n + p n
/-- The reads of the accesses lo .. lo + d - 1. -/
def cat (acc : Nat → Nat) (K lo : Nat) : Nat → List Nat
  | 0 => []
  | d + 1 => cat acc K lo d ++ rd acc K (lo + d)

theorem pre_mono (p : Nat → Nat) {i j : Nat} (h : i ≤ j) : pre p i ≤ pre p j := by
  induction j with
  | zero => rw [Nat.le_zero.1 h]; exact Nat.le_refl _
  | succ j ih =>
    rcases Nat.lt_or_ge i (j + 1) with h' | h'
    · have := ih (by omega); simp only [pre]; omega
    · rw [show i = j + 1 by omega]; exact Nat.le_refl _

theorem lat_zero (acc : Nat → Nat) (a : Nat) : lat acc 0 a = -1 := rfl
theorem lat_same (acc : Nat → Nat) (k : Nat) : lat acc (k + 1) (acc k) = k := by simp [lat, rd]
theorem lat_ne (acc : Nat → Nat) {k a : Nat} (h : acc k ≠ a) : lat acc (k + 1) a = lat acc k a := by simp [lat, rd, h]

theorem rd_cons {acc : Nat → Nat} : ∀ {k a r : Nat} {t : List Nat}, rd acc k a = r :: t → acc r = a ∧ r < k ∧ t = rd acc r a
  | 0, _, _, _, h => by simp [rd] at h
  | k + 1, a, r, t, h => by
    simp only [rd] at h
    split at h
    · rename_i e
      obtain ⟨rfl, rfl⟩ : k = r ∧ rd acc k a = t := by simpa using h
      exact ⟨e, by omega, rfl⟩
    · obtain ⟨h1, h2, h3⟩ := rd_cons h
      exact ⟨h1, by omega, h3⟩
theorem lat_lt (acc : Nat → Nat) (k a : Nat) : lat acc k a < k ∧ -1 ≤ lat acc k a := by
  unfold lat
  split
  · omega
  · rename_i r t h
    have := (rd_cons h).2.1
    omega
theorem lat_neg {acc : Nat → Nat} {k a : Nat} (h : lat acc k a < 0) : rd acc k a = [] := by
  unfold lat at h
  split at h
  · assumption
  · omega
theorem lat_pos {acc : Nat → Nat} {k a : Nat} (h : 0 ≤ lat acc k a) : ∃ r, lat acc k a = (r : Nat) ∧ r < k ∧ acc r = a ∧ rd acc k a = r :: rd acc r a := by
  unfold lat at h ⊢
  split at h
  · omega
  · rename_i r t h'
    obtain ⟨h1, h2, h3⟩ := rd_cons h'
    exact ⟨r, rfl, h2, h1, by rw [h', h3]⟩
theorem rd_mem {acc : Nat → Nat} : ∀ {k a r : Nat}, r ∈ rd acc k a → acc r = a ∧ r < k
  | 0, _, _, h => by simp [rd] at h
  | k + 1, a, r, h => by
    simp only [rd] at h
    split at h
    · rename_i e
      rcases List.mem_cons.1 h with rfl | h
      · exact ⟨e, by omega⟩
      · have := rd_mem h; exact ⟨this.1, by omega⟩
    · have := rd_mem h; exact ⟨this.1, by omega⟩
theorem rd_len {acc : Nat → Nat} : ∀ (k a : Nat), (rd acc k a).length ≤ k
  | 0, _ => by simp [rd]
  | k + 1, a => by
    have := rd_len (acc := acc) k a
    simp only [rd]
    split
    · simp only [List.length_cons]; omega
    · omega
theorem rd_split (acc : Nat → Nat) (a : Nat) : ∀ {k j : Nat}, j ≤ k → ∃ c, rd acc k a = c ++ rd acc j a
  | 0, j, h => by rw [Nat.le_zero.1 h]; exact ⟨[], rfl⟩
  | k + 1, j, h => by
    rcases Nat.lt_or_ge j (k + 1) with h' | h'
    · obtain ⟨c, hc⟩ := rd_split acc a (k := k) (j := j) (by omega)
      simp only [rd]
      split
      · exact ⟨k :: c, by rw [hc]; rfl⟩
      · exact ⟨c, hc⟩
    · rw [show j = k + 1 by omega]; exact ⟨[], rfl⟩
theorem rd_agree {acc acc' : Nat → Nat} (a : Nat) : ∀ (k : Nat), (∀ r, r < k → acc' r = acc r) → rd acc' k a = rd acc k a
  | 0, _ => rfl
  | k + 1, h => by
    simp only [rd]
    rw [h k (by omega), rd_agree a k (fun r hr => h r (by omega))]

theorem cat_mem {acc : Nat → Nat} {K lo r : Nat} : ∀ {d : Nat}, r ∈ cat acc K lo d → r < K ∧ lo ≤ acc r ∧ acc r < lo + d
  | 0, h => by simp [cat] at h
  | d + 1, h => by
    rcases List.mem_append.1 h with h | h
    · have := cat_mem h; omega
    · have := rd_mem h; omega
theorem cat_add (acc : Nat → Nat) (K lo d : Nat) : ∀ e : Nat, ∃ Y, cat acc K lo (d + e) = cat acc K lo d ++ Y ∧ ∀ r ∈ Y, r < K ∧ lo + d ≤ acc r
  | 0 => ⟨[], by simp, by simp⟩
  | e + 1 => by
    obtain ⟨Y, h1, h2⟩ := cat_add acc K lo d e
    refine ⟨Y ++ rd acc K (lo + (d + e)), by rw [← Nat.add_assoc, cat, h1, List.append_assoc], fun r hr => ?_⟩
    rcases List.mem_append.1 hr with hr | hr
    · exact h2 r hr
    · have := rd_mem hr; omega
/-- One more read, of access a0: the newest of them all. -/
theorem cat_ext {acc acc' : Nat → Nat} {K lo : Nat} (hag : ∀ r, r < K → acc' r = acc r) : ∀ (d : Nat), (acc' K < lo ∨ lo + d ≤ acc' K) → cat acc' (K + 1) lo d = cat acc K lo d
  | 0, _ => rfl
  | d + 1, h => by
    have h1 : rd acc' (K + 1) (lo + d) = rd acc K (lo + d) := by
      simp only [rd]
      rw [if_neg (by omega)]
      exact rd_agree _ _ hag
    simp only [cat]
    rw [h1, cat_ext hag d (by omega)]
theorem cat_new {acc acc' : Nat → Nat} {K lo D : Nat} (hag : ∀ r, r < K → acc' r = acc r) (h1 : lo ≤ acc' K) (h2 : acc' K < lo + D) :
    ∃ X Y, cat acc K lo D = X ++ Y ∧ cat acc' (K + 1) lo D = X ++ K :: Y ∧ (∀ r ∈ X, r < K ∧ acc r < acc' K) ∧ (∀ r ∈ Y, r < K ∧ acc' K ≤ acc r) := by
  obtain ⟨d, hd⟩ : ∃ d, acc' K = lo + d := ⟨acc' K - lo, by omega⟩
  have key : ∀ e : Nat, ∃ Y, cat acc K lo (d + e + 1) = cat acc K lo d ++ Y ∧ cat acc' (K + 1) lo (d + e + 1) = cat acc K lo d ++ K :: Y ∧ (∀ r ∈ Y, r < K ∧ acc' K ≤ acc r) := by
    intro e
    induction e with
    | zero =>
      refine ⟨rd acc K (lo + d), rfl, ?_, fun r hr => by have := rd_mem hr; omega⟩
      show cat acc' (K + 1) lo d ++ rd acc' (K + 1) (lo + d) = _
      rw [cat_ext hag d (by omega)]
      simp only [rd]
      rw [if_pos hd, rd_agree _ _ hag]
    | succ e ih =>
      obtain ⟨Y, i1, i2, i3⟩ := ih
      have h1 : rd acc' (K + 1) (lo + (d + e + 1)) = rd acc K (lo + (d + e + 1)) := by
        simp only [rd]
        rw [if_neg (by omega)]
        exact rd_agree _ _ hag
      refine ⟨Y ++ rd acc K (lo + (d + e + 1)), ?_, ?_, fun r hr => ?_⟩
      · show cat acc K lo (d + e + 1) ++ rd acc K (lo + (d + e + 1)) = _
        rw [i1, List.append_assoc]
      · show cat acc' (K + 1) lo (d + e + 1) ++ rd acc' (K + 1) (lo + (d + e + 1)) = _
        rw [i2, h1]; simp
      · rcases List.mem_append.1 hr with hr | hr
        · exact i3 r hr
        · have := rd_mem hr; omega
  obtain ⟨Y, k1, k2, k3⟩ := key (D - d - 1)
  rw [show d + (D - d - 1) + 1 = D by omega] at k1 k2
  exact ⟨cat acc K lo d, Y, k1, k2, fun r hr => by have := cat_mem hr; omega, k3⟩

theorem cat_len (acc : Nat → Nat) (K lo : Nat) : ∀ (d : Nat), (cat acc K lo d).length ≤ K
  | d => by
    have hb : ∀ (K d : Nat), (cat acc K lo d).length ≤ K := by
      intro K
      induction K with
      | zero =>
        intro d
        induction d with
        | zero => simp [cat]
        | succ d ih => simp only [cat, rd, List.append_nil]; exact ih
      | succ K ih =>
        intro d
        by_cases h : acc K < lo ∨ lo + d ≤ acc K
        · rw [cat_ext (acc' := acc) (fun _ _ => rfl) d h]; have := ih d; omega
        · obtain ⟨X, Y, h1, h2, _⟩ := cat_new (acc := acc) (acc' := acc) (K := K) (lo := lo) (D := d) (fun _ _ => rfl) (by omega) (by omega)
          have := ih d
          rw [h1] at this
          rw [h2]
          simp only [List.length_append, List.length_cons] at this ⊢
          omega
    exact hb K d
end Go.Proofs.Qxb6613555a.Plain
