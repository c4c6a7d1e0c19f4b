import Derived.Test.Qxb6608686aKeepMain
namespace Go.Proofs.Qxb6608686a.ScriptA
open Go.RowKit Go.Proofs.Qxb6608686a.Kit Go.Proofs.Qxb6608686a.MapKit Go.Proofs.Qxb6608686a.KeepA Go.Proofs.Qxb6608686a.KeepB Go.Proofs.Qxb6608686a.KeepC Go.Proofs.Qxb6608686a.KeepD

set_option linter.unusedVariables false

/-- What the script's own books hold of a kept matcher: text, direction, size, where it lies. -/
structure Ent where
  t : ByteArray
  b : Bool
  z : Int
  p : Nat

abbrev Assoc := List (ByteArray × Nat)

theorem look_none {s : ByteArray} : ∀ {l : Assoc} {i : Nat}, (∀ x ∈ l, x.1 ≠ s) → MapKit.look s l i = none
  | [], _, _ => rfl
  | x :: r, i, h => by
    have h1 := h x (by simp)
    simp only [MapKit.look]
    rw [if_neg (fun e => h1 e.symm)]
    exact look_none fun y hy => h y (by simp [hy])
theorem look_mem {s : ByteArray} {p : Nat} : ∀ {l : Assoc} (i : Nat), (l.map (·.1)).Nodup → (s, p) ∈ l → ∃ j, MapKit.look s l i = some (i + j, p) ∧ l[j]? = some (s, p)
  | [], _, _, h => by cases h
  | x :: r, i, nd, h => by
    rw [List.map_cons, List.nodup_cons] at nd
    by_cases hx : s = x.1
    · have e : x = (s, p) := by
        rcases List.mem_cons.1 h with h | h
        · exact h.symm
        · exact absurd (List.mem_map.2 ⟨_, h, hx⟩) nd.1
      exact ⟨0, by subst e; simp [MapKit.look], by subst e; rfl⟩
    · have h' : (s, p) ∈ r := by
        rcases List.mem_cons.1 h with h | h
        · exact absurd (by rw [← h]) hx
        · exact h
      obtain ⟨j, hj, hg⟩ := look_mem (i + 1) nd.2 h'
      exact ⟨j + 1, by simp only [MapKit.look]; rw [if_neg hx, hj]; congr 2; omega, by simpa using hg⟩
theorem ans_none {s : ByteArray} {l : Assoc} (h : ∀ x ∈ l, x.1 ≠ s) : ans s l = .pointer none := by
  simp [ans, look_none h]
theorem ans_mem {s : ByteArray} {p : Nat} {l : Assoc} (nd : (l.map (·.1)).Nodup) (h : (s, p) ∈ l) : ans s l = .pointer (some ⟨p, 0, none⟩) := by
  obtain ⟨j, hj, _⟩ := look_mem 0 nd h
  simp [ans, hj]
theorem nodup_erase {l : Assoc} (nd : (l.map (·.1)).Nodup) (j : Nat) : ((l.eraseIdx j).map (·.1)).Nodup :=
  nd.sublist ((List.eraseIdx_sublist l j).map _)
theorem idx_of_key {l : Assoc} (nd : (l.map (·.1)).Nodup) {i j : Nat} {s : ByteArray} {p q : Nat} (hi : l[i]? = some (s, p)) (hj : l[j]? = some (s, q)) : i = j := by
  have h1 : (l.map (·.1))[i]? = some s := by simp [hi]
  have h2 : (l.map (·.1))[j]? = some s := by simp [hj]
  have li := (List.getElem?_eq_some_iff.1 h1).1
  exact (List.getElem?_inj li nd).1 (h1.trans h2.symm)
theorem mem_erase {l : Assoc} (nd : (l.map (·.1)).Nodup) {j : Nat} {s : ByteArray} {p : Nat} (hj : l[j]? = some (s, p)) (x : ByteArray × Nat) : x ∈ l.eraseIdx j ↔ x ∈ l ∧ x.1 ≠ s := by
  rw [List.mem_eraseIdx_iff_getElem?]
  constructor
  · rintro ⟨i, hne, hi⟩
    refine ⟨List.mem_of_getElem? hi, fun e => hne ?_⟩
    obtain ⟨a, b⟩ := x
    subst e
    exact idx_of_key nd hi hj
  · rintro ⟨hx, hne⟩
    obtain ⟨i, hi⟩ := List.getElem?_of_mem hx
    refine ⟨i, fun e => hne ?_, hi⟩
    subst e
    rw [hi] at hj
    cases hj
    rfl

/-- The books against the maps. -/
structure Book (E : List Ent) (L : Bool → Assoc) (S : Int) : Prop where
  nd : ∀ d, ((L d).map (·.1)).Nodup
  mem : ∀ e ∈ E, (e.t, e.p) ∈ L e.b
  back : ∀ d s p, (s, p) ∈ L d → ∃ e ∈ E, e.t = s ∧ e.b = d ∧ e.p = p
  key : ∀ (i j : Nat) (x y : Ent), E[i]? = some x → E[j]? = some y → x.t = y.t → x.b = y.b → i = j
  ptr : ∀ (i j : Nat) (x y : Ent), E[i]? = some x → E[j]? = some y → x.p = y.p → i = j
  sum : (E.map (·.z)).sum = S
  pos : ∀ e ∈ E, 0 < e.z

theorem sum_nonneg : ∀ {l : List Int}, (∀ x ∈ l, 0 ≤ x) → 0 ≤ l.sum
  | [], _ => by simp
  | x :: r, h => by
    have := sum_nonneg (l := r) fun y hy => h y (by simp [hy])
    have := h x (by simp)
    simp only [List.sum_cons]; omega
theorem le_sum : ∀ {l : List Int}, (∀ x ∈ l, 0 ≤ x) → ∀ x ∈ l, x ≤ l.sum
  | [], _, x, h => by cases h
  | y :: r, h, x, hx => by
    have h0 := sum_nonneg (l := r) fun y hy => h y (by simp [hy])
    have h1 := h y (by simp)
    simp only [List.sum_cons]
    rcases List.mem_cons.1 hx with rfl | hx
    · omega
    · have := le_sum (l := r) (fun y hy => h y (by simp [hy])) x hx
      omega
theorem sum_set : ∀ (l : List Int) (i : Nat) (x y : Int), l[i]? = some y → (l.set i x).sum = l.sum - y + x
  | [], _, _, _, h => by simp at h
  | z :: r, 0, x, y, h => by simp at h; subst h; simp; omega
  | z :: r, i + 1, x, y, h => by
    have := sum_set r i x y (by simpa using h)
    simp only [List.set_cons_succ, List.sum_cons, this]; omega

section
variable {E : List Ent} {L : Bool → Assoc} {S : Int}
theorem Book.nonneg (h : Book E L S) : 0 ≤ S := by
  rw [← h.sum]
  refine sum_nonneg fun x hx => ?_
  obtain ⟨e, he, rfl⟩ := List.mem_map.1 hx
  exact Int.le_of_lt (h.pos e he)
theorem Book.le (h : Book E L S) {e : Ent} (he : e ∈ E) : e.z ≤ S := by
  rw [← h.sum]
  refine le_sum (fun x hx => ?_) e.z (List.mem_map.2 ⟨e, he, rfl⟩)
  obtain ⟨e', he', rfl⟩ := List.mem_map.1 hx
  exact Int.le_of_lt (h.pos e' he')
theorem book_nil : Book [] (fun _ => []) 0 where
  nd := fun _ => by simp
  mem := fun _ h => by cases h
  back := fun _ _ _ h => by cases h
  key := fun _ _ _ _ h => by simp at h
  ptr := fun _ _ _ _ h => by simp at h
  sum := rfl
  pos := fun _ h => by cases h
theorem Book.none_of (h : Book E L S) {s : ByteArray} {d : Bool} (hno : ∀ e ∈ E, ¬ (e.b = d ∧ e.t = s)) : ∀ x ∈ L d, x.1 ≠ s := by
  rintro ⟨a, p⟩ hx rfl
  obtain ⟨e, he, h1, h2, _⟩ := h.back d _ _ hx
  exact hno e he ⟨h2, h1⟩
/-- A new one is kept. -/
theorem Book.add (h : Book E L S) {s : ByteArray} {d : Bool} {c : Int} {p : Nat} (hno : ∀ e ∈ E, ¬ (e.b = d ∧ e.t = s)) (hc : 0 < c) (hp : ∀ e ∈ E, e.p ≠ p) :
    Book (E ++ [⟨s, d, c, p⟩]) (fun x => if x = d then L d ++ [(s, p)] else L x) (S + c) := by
  have hn := h.none_of hno
  refine ⟨fun x => ?_, fun e he => ?_, fun x s' p' hx => ?_, fun i j x y hi hj e1 e2 => ?_, fun i j x y hi hj e1 => ?_, by simp [h.sum], fun e he => ?_⟩
  · by_cases hx : x = d
    · simp only [hx, if_true, List.map_append, List.map_cons, List.map_nil]
      rw [List.nodup_append]
      refine ⟨h.nd d, by simp, fun a ha b hb => ?_⟩
      obtain ⟨y, hy, rfl⟩ := List.mem_map.1 ha
      rw [List.mem_singleton] at hb
      rw [hb]
      exact hn y hy
    · simp only [hx, if_false]; exact h.nd x
  · rcases List.mem_append.1 he with he | he
    · have := h.mem e he
      by_cases hx : e.b = d
      · simp only [hx, if_true]; rw [hx] at this; exact List.mem_append.2 (.inl this)
      · simp only [hx, if_false]; exact this
    · rw [List.mem_singleton] at he
      subst he
      simp
  · by_cases hd : x = d
    · simp only [hd, if_true] at hx
      rcases List.mem_append.1 hx with hx | hx
      · obtain ⟨e, he, h1, h2, h3⟩ := h.back d _ _ hx
        exact ⟨e, by simp [he], h1, h2.trans hd.symm, h3⟩
      · rw [List.mem_singleton] at hx
        cases hx
        exact ⟨⟨s, d, c, p⟩, by simp, rfl, hd.symm, rfl⟩
    · simp only [hd, if_false] at hx
      obtain ⟨e, he, h1, h2, h3⟩ := h.back x _ _ hx
      exact ⟨e, by simp [he], h1, h2, h3⟩
  · rw [List.getElem?_append] at hi hj
    split at hi <;> split at hj
    · exact h.key i j x y hi hj e1 e2
    · obtain ⟨k, rfl⟩ : ∃ k, j = E.length + k := ⟨j - E.length, by omega⟩
      cases k with
      | zero => simp at hj; subst hj; exact absurd ⟨e2, e1⟩ (hno x (List.mem_of_getElem? hi))
      | succ k => simp at hj
    · obtain ⟨k, rfl⟩ : ∃ k, i = E.length + k := ⟨i - E.length, by omega⟩
      cases k with
      | zero => simp at hi; subst hi; exact absurd ⟨e2.symm, e1.symm⟩ (hno y (List.mem_of_getElem? hj))
      | succ k => simp at hi
    · have := (List.getElem?_eq_some_iff.1 hi).1
      have := (List.getElem?_eq_some_iff.1 hj).1
      simp only [List.length_cons, List.length_nil] at *
      omega
  · rw [List.getElem?_append] at hi hj
    split at hi <;> split at hj
    · exact h.ptr i j x y hi hj e1
    · obtain ⟨k, rfl⟩ : ∃ k, j = E.length + k := ⟨j - E.length, by omega⟩
      cases k with
      | zero => simp at hj; subst hj; exact absurd e1 (hp x (List.mem_of_getElem? hi))
      | succ k => simp at hj
    · obtain ⟨k, rfl⟩ : ∃ k, i = E.length + k := ⟨i - E.length, by omega⟩
      cases k with
      | zero => simp at hi; subst hi; exact absurd e1.symm (hp y (List.mem_of_getElem? hj))
      | succ k => simp at hi
    · have := (List.getElem?_eq_some_iff.1 hi).1
      have := (List.getElem?_eq_some_iff.1 hj).1
      simp only [List.length_cons, List.length_nil] at *
      omega
  · rcases List.mem_append.1 he with he | he
    · exact h.pos e he
    · rw [List.mem_singleton] at he
      subst he
      exact hc
/-- A kept one grows. -/
theorem Book.more (h : Book E L S) {i : Nat} {e : Ent} (hi : E[i]? = some e) {c : Int} (hc : 0 ≤ c) : Book (E.set i ⟨e.t, e.b, e.z + c, e.p⟩) L (S + c) := by
  have li := (List.getElem?_eq_some_iff.1 hi).1
  have get : ∀ (k : Nat) (x : Ent), (E.set i ⟨e.t, e.b, e.z + c, e.p⟩)[k]? = some x → ∃ y, E[k]? = some y ∧ y.t = x.t ∧ y.b = x.b ∧ y.p = x.p ∧ 0 < x.z := by
    intro k x hk
    rw [List.getElem?_set] at hk
    split at hk
    · rename_i hik
      subst hik
      simp only [Option.some.injEq] at hk
      subst hk
      exact ⟨e, hi, rfl, rfl, rfl, by have := h.pos e (List.mem_of_getElem? hi); show 0 < e.z + c; omega⟩
    · exact ⟨x, hk, rfl, rfl, rfl, h.pos x (List.mem_of_getElem? hk)⟩
  refine ⟨h.nd, fun x hx => ?_, fun d s p hx => ?_, fun a b x y ha hb e1 e2 => ?_, fun a b x y ha hb e1 => ?_, ?_, fun x hx => ?_⟩
  · obtain ⟨k, hk⟩ := List.getElem?_of_mem hx
    obtain ⟨y, hy, h1, h2, h3, _⟩ := get k x hk
    have := h.mem y (List.mem_of_getElem? hy)
    rwa [h1, h2, h3] at this
  · obtain ⟨y, hy, h1, h2, h3⟩ := h.back d s p hx
    obtain ⟨k, hk⟩ := List.getElem?_of_mem hy
    by_cases hik : i = k
    · subst hik
      rw [hi] at hk
      cases hk
      exact ⟨⟨e.t, e.b, e.z + c, e.p⟩, List.mem_of_getElem? (i := i) (by simp [li]), h1, h2, h3⟩
    · exact ⟨y, List.mem_of_getElem? (i := k) (by rw [List.getElem?_set, if_neg hik]; exact hk), h1, h2, h3⟩
  · obtain ⟨x', hx', a1, a2, a3, _⟩ := get a x ha
    obtain ⟨y', hy', b1, b2, b3, _⟩ := get b y hb
    exact h.key a b x' y' hx' hy' (a1.trans (e1.trans b1.symm)) (a2.trans (e2.trans b2.symm))
  · obtain ⟨x', hx', a1, a2, a3, _⟩ := get a x ha
    obtain ⟨y', hy', b1, b2, b3, _⟩ := get b y hb
    exact h.ptr a b x' y' hx' hy' (a3.trans (e1.trans b3.symm))
  · rw [List.map_set, sum_set _ _ _ e.z (by simp [hi]), h.sum]
    show S - e.z + (e.z + c) = S + c
    omega
  · obtain ⟨k, hk⟩ := List.getElem?_of_mem hx
    obtain ⟨y, hy, h1, h2, h3, h4⟩ := get k x hk
    exact h4

/-- The i-th goes, the last takes its place. -/
def swap {α : Type} (l : List α) (i : Nat) (x : α) : List α := (l.set i x).take (l.length - 1)
theorem swap_get {α : Type} {l : List α} {i : Nat} {x : α} (k : Nat) : (swap l i x)[k]? = if k < l.length - 1 then (if i = k then some x else l[k]?) else none := by
  unfold swap
  rw [List.getElem?_take]
  split
  · rw [List.getElem?_set]
    split
    · rename_i h1 h2
      subst h2
      rw [if_pos (by omega)]
    · rfl
  · rfl
theorem swap_length {α : Type} {l : List α} {i : Nat} {x : α} : (swap l i x).length = l.length - 1 := by
  unfold swap
  simp only [List.length_take, List.length_set]
  omega
theorem swap_map {α β : Type} (f : α → β) (l : List α) (i : Nat) (x : α) : (swap l i x).map f = ((l.map f).set i (f x)).take (l.length - 1) := by
  unfold swap
  rw [List.map_take, List.map_set]
theorem sum_swap (l : List Int) (i : Nat) (x y : Int) (hx : l[l.length - 1]? = some x) (hy : l[i]? = some y) : (swap l i x).sum = l.sum - y := by
  have li := (List.getElem?_eq_some_iff.1 hy).1
  rcases List.eq_nil_or_concat l with rfl | ⟨r, z, rfl⟩
  · simp at hy
  · simp only [List.concat_eq_append] at *
    have e : (r ++ [z]).length - 1 = r.length := by simp
    rw [e] at hx
    have hz : z = x := by simpa using hx
    subst hz
    unfold swap
    rw [e]
    by_cases hi : i = r.length
    · subst hi
      have : z = y := by simpa using hy
      subst this
      simp
    · have li' : i < r.length := by simp at li; omega
      rw [List.set_append_left _ _ li', List.take_left' (by simp), sum_set _ _ _ y (by rw [List.getElem?_append_left li'] at hy; exact hy)]
      simp
      omega
/-- One is let go. -/
theorem Book.drop (h : Book E L S) {i j : Nat} {e g : Ent} (hi : E[i]? = some e) (hg : E[E.length - 1]? = some g) (hj : (L e.b)[j]? = some (e.t, e.p)) :
    Book (swap E i g) (fun x => if x = e.b then (L e.b).eraseIdx j else L x) (S - e.z) := by
  have li := (List.getElem?_eq_some_iff.1 hi).1
  have get : ∀ (k : Nat) (x : Ent), (swap E i g)[k]? = some x → ∃ m, E[m]? = some x ∧ m ≠ i ∧ m = (if i = k then E.length - 1 else k) ∧ k < E.length - 1 := by
    intro k x hk
    rw [swap_get] at hk
    split at hk
    · rename_i hkl
      split at hk
      · rename_i hik
        cases hk
        exact ⟨E.length - 1, hg, by omega, by simp [hik], hkl⟩
      · rename_i hik
        exact ⟨k, hk, fun e => hik e.symm, by simp [hik], hkl⟩
    · cases hk
  have put : ∀ (m : Nat) (x : Ent), E[m]? = some x → m ≠ i → x ∈ swap E i g := by
    intro m x hm hne
    have lm := (List.getElem?_eq_some_iff.1 hm).1
    by_cases hml : m = E.length - 1
    · subst hml
      rw [hg] at hm
      cases hm
      exact List.mem_of_getElem? (i := i) (by rw [swap_get, if_pos (by omega), if_pos rfl])
    · exact List.mem_of_getElem? (i := m) (by rw [swap_get, if_pos (by omega), if_neg (fun e => hne e.symm)]; exact hm)
  refine ⟨fun x => ?_, fun x hx => ?_, fun d s p hx => ?_, fun a b x y ha hb e1 e2 => ?_, fun a b x y ha hb e1 => ?_, ?_, fun x hx => ?_⟩
  · by_cases hx : x = e.b
    · simp only [hx, if_true]; exact nodup_erase (h.nd _) _
    · simp only [hx, if_false]; exact h.nd x
  · obtain ⟨k, hk⟩ := List.getElem?_of_mem hx
    obtain ⟨m, hm, hne, _⟩ := get k x hk
    have := h.mem x (List.mem_of_getElem? hm)
    by_cases hb : x.b = e.b
    · simp only [hb, if_true]
      rw [hb] at this
      exact (mem_erase (h.nd _) hj _).2 ⟨this, fun ht => hne (h.key m i x e hm hi ht hb)⟩
    · simp only [hb, if_false]; exact this
  · by_cases hb : d = e.b
    · simp only [hb, if_true] at hx
      obtain ⟨hx, hne⟩ := (mem_erase (h.nd _) hj _).1 hx
      obtain ⟨y, hy, h1, h2, h3⟩ := h.back _ s p hx
      obtain ⟨m, hm⟩ := List.getElem?_of_mem hy
      refine ⟨y, put m y hm (fun e' => hne ?_), h1, h2.trans hb.symm, h3⟩
      subst e'
      rw [hi] at hm
      cases hm
      exact h1.symm
    · simp only [hb, if_false] at hx
      obtain ⟨y, hy, h1, h2, h3⟩ := h.back _ s p hx
      obtain ⟨m, hm⟩ := List.getElem?_of_mem hy
      refine ⟨y, put m y hm (fun e' => hb ?_), h1, h2, h3⟩
      subst e'
      rw [hi] at hm
      cases hm
      exact h2.symm
  · obtain ⟨m, hm, _, m1, m2⟩ := get a x ha
    obtain ⟨m', hm', _, m3, m4⟩ := get b y hb
    have := h.key m m' x y hm hm' e1 e2
    split at m1 <;> split at m3 <;> omega
  · obtain ⟨m, hm, _, m1, m2⟩ := get a x ha
    obtain ⟨m', hm', _, m3, m4⟩ := get b y hb
    have := h.ptr m m' x y hm hm' e1
    split at m1 <;> split at m3 <;> omega
  · have e1 : (swap E i g).map (·.z) = swap (E.map (·.z)) i g.z := by
      rw [swap_map]; unfold swap; simp
    rw [e1, sum_swap _ _ _ e.z (by simp [hg]) (by simp [hi]), h.sum]
  · obtain ⟨k, hk⟩ := List.getElem?_of_mem hx
    obtain ⟨m, hm, _⟩ := get k x hk
    exact h.pos x (List.mem_of_getElem? hm)
end
end Go.Proofs.Qxb6608686a.ScriptA
