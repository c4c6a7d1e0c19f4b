import Derived.Test.Qxb6608686aScriptA
import Derived.OwnWalk
namespace Go.Proofs.Qxb6608686a.ScriptB
open Go.RowKit Go.Proofs.Qxb6608686a.Kit Go.Proofs.Qxb6608686a.MapKit Go.Proofs.Qxb6608686a.KeepA Go.Proofs.Qxb6608686a.KeepB Go.Proofs.Qxb6608686a.KeepC Go.Proofs.Qxb6608686a.KeepD Go.Proofs.Qxb6608686a.ScriptA

set_option linter.unusedVariables false

/-- Block g is a row of n cells whose first ones hold xs. -/
def Row (w : World) (g n : Nat) (e : TypeId) (xs : List Value) : Prop :=
  ∃ cur : Array Value, w.heap[g]? = some (.cells cur e (0, 0)) ∧ cur.size = n ∧ xs.length ≤ n ∧ cur.toList.take xs.length = xs

section
variable {w w' : World} {g n : Nat} {e : TypeId} {xs : List Value}
theorem Row.get (h : Row w g n e xs) {i : Nat} {v : Value} (hi : xs[i]? = some v) : w.cell? ⟨g, i, none⟩ = some v := by
  obtain ⟨cur, h1, h2, h3, h4⟩ := h
  have li := (List.getElem?_eq_some_iff.1 hi).1
  simp only [World.cell?, h1]
  rw [← h4, List.getElem?_take, if_pos li] at hi
  simpa using hi
theorem Row.fz (h : Row w g n e xs) (i : Nat) : w.frozen? ⟨g, i, none⟩ = false := by
  obtain ⟨cur, h1, _⟩ := h
  simp [World.frozen?, h1]
theorem Row.lt (h : Row w g n e xs) : g < w.heap.size := by
  obtain ⟨cur, h1, _⟩ := h
  exact (Array.getElem?_eq_some_iff.1 h1).1
theorem Row.same (h : Row w g n e xs) (hb : w'.heap[g]? = w.heap[g]?) : Row w' g n e xs := by
  obtain ⟨cur, h1, h2⟩ := h
  exact ⟨cur, hb.trans h1, h2⟩
theorem Row.set (h : Row w g n e xs) {i : Nat} (hi : i < xs.length) (v : Value) : Row (w.setCell ⟨g, i, none⟩ v) g n e (xs.set i v) := by
  obtain ⟨cur, h1, h2, h3, h4⟩ := h
  refine ⟨cur.setIfInBounds i v, heap_setCell_same w g i cur e v h1, by simpa using h2, by simpa using h3, ?_⟩
  rw [List.length_set, Array.toList_setIfInBounds, List.take_set, h4]
theorem Row.cut (h : Row w g n e xs) (k : Nat) : Row w g n e (xs.take k) := by
  obtain ⟨cur, h1, h2, h3, h4⟩ := h
  refine ⟨cur, h1, h2, by simp only [List.length_take]; omega, ?_⟩
  rw [List.length_take]
  conv => rhs; rw [← h4]
  rw [List.take_take]
theorem Row.own (h : Row w g n e xs) (hn : n ≤ maxLen) : w.ownsRow 0 e 1 (.slice (some ⟨g, 0, none⟩) xs.length n) xs.length xs := by
  obtain ⟨cur, h1, h2, h3, h4⟩ := h
  exact ⟨by simp, .inr ⟨g, n, cur, rfl, Nat.zero_le _, h1, h3, hn, by simpa using h2, by simpa using h4⟩⟩
theorem Row.of_own {k : Nat} (h : w.ownsRow 0 e 1 (.slice (some ⟨g, 0, none⟩) k n) k xs) : Row w g n e xs := by
  obtain ⟨h0, h | ⟨g', cap', cur, h, _, hg, hk, _, hs, ht⟩⟩ := h
  · simp at h
  · simp only [Value.slice.injEq, Option.some.injEq, Addr.mk.injEq, and_true, true_and] at h
    obtain ⟨rfl, rfl⟩ := h
    rw [Nat.mul_one] at h0 ht hs
    exact ⟨cur, hg, hs, by omega, by rw [h0]; exact ht⟩
theorem Row.made (w : World) (z : Value) (n : Nat) (e : TypeId) : Row (w.alloc (.cells (madeCells #[z] n) e)) w.heap.size n e [] :=
  ⟨_, heap_alloc_new w _, size_madeCells _ _, by simp, by simp⟩
end

theorem ks_same {w w' : World} {gm : Nat} {vm : Bool → Option Nat} {L : Bool → Assoc} {S : Int} (h : KS w gm vm L S) (h0 : w'.heap[gm]? = w.heap[gm]?) (h1 : ∀ d r, vm d = some r → w'.heap[r]? = w.heap[r]?) : KS w' gm vm L S := by
  refine ⟨(World.cell?_of_block h0).trans h.f, (World.cell?_of_block h0).trans h.b, (World.cell?_of_block h0).trans h.s, fun i => (World.frozen?_of_block h0).trans (h.fz i), fun d => ?_, h.ne⟩
  rcases h.m d with h | ⟨r, hv, es, clock, hr, he⟩
  · exact .inl h
  · exact .inr ⟨r, hv, es, clock, (h1 d r hv).trans hr, he⟩
theorem ks_vlt {w : World} {gm : Nat} {vm : Bool → Option Nat} {L : Bool → Assoc} {S : Int} (h : KS w gm vm L S) {d : Bool} {r : Nat} (hv : vm d = some r) : r < w.heap.size ∧ ∀ p z, SZ w p z → p ≠ r := by
  rcases h.m d with ⟨h, _⟩ | ⟨r', h, es, clock, hr, he⟩
  · rw [hv] at h; cases h
  · rw [hv] at h
    cases h
    refine ⟨(Array.getElem?_eq_some_iff.1 hr).1, fun p z hz e => ?_⟩
    subst e
    have := hz.1
    simp [World.cell?, hr] at this
theorem sz_same {w w' : World} {p : Nat} {z : Int} (h : SZ w p z) (hb : w'.heap[p]? = w.heap[p]?) : SZ w' p z := ⟨(World.cell?_of_block hb).trans h.1, (World.frozen?_of_block hb).trans h.2⟩

/-- The script's world: the matchers at G, its four rows behind them, the matchers of the books. -/
structure Pk (w : World) (G n : Nat) (T D Z P : List Value) (Q : List (Nat × Int)) (vm : Bool → Option Nat) (L : Bool → Assoc) (S : Int) : Prop where
  ks : KS w G vm L S
  rt : Row w (G + 1) n 9 T
  rb : Row w (G + 2) n 4 D
  rs : Row w (G + 3) n 3 Z
  rp : Row w (G + 4) n 38 P
  sz : ∀ x ∈ Q, SZ w x.1 x.2
  ge : ∀ x ∈ Q, G + 5 ≤ x.1
  vge : ∀ d r, vm d = some r → G + 5 ≤ r

section
variable {w w' : World} {G n : Nat} {T D Z P : List Value} {Q : List (Nat × Int)} {vm : Bool → Option Nat} {L : Bool → Assoc} {S : Int}
theorem sz_lt {p : Nat} {z : Int} (h : SZ w p z) : p < w.heap.size := World.block_lt_of_cell? w _ h.1
theorem Pk.g_lt (h : Pk w G n T D Z P Q vm L S) : G + 5 ≤ w.heap.size := h.rp.lt
theorem Pk.below (h : Pk w G n T D Z P Q vm L S) (hb : Below w.heap.size w w') : Pk w' G n T D Z P Q vm L S := by
  have hg := h.g_lt
  exact ⟨h.ks.below hb, h.rt.same (hb.block _ (by omega)), h.rb.same (hb.block _ (by omega)), h.rs.same (hb.block _ (by omega)), h.rp.same (hb.block _ (by omega)), fun x hx => (h.sz x hx).below hb, h.ge, h.vge⟩
/-- A row of the four is written. -/
theorem Pk.rowT (h : Pk w G n T D Z P Q vm L S) (hb : ∀ k, k < w.heap.size → k ≠ G + 1 → w'.heap[k]? = w.heap[k]?) {T' : List Value} (hr : Row w' (G + 1) n 9 T') : Pk w' G n T' D Z P Q vm L S := by
  have hg := h.g_lt
  exact ⟨ks_same h.ks (hb _ (by omega) (by omega)) (fun d r hv => hb r (ks_vlt h.ks hv).1 (by have := h.vge d r hv; omega)), hr, h.rb.same (hb _ (by omega) (by omega)), h.rs.same (hb _ (by omega) (by omega)), h.rp.same (hb _ (by omega) (by omega)), fun x hx => sz_same (h.sz x hx) (hb _ (sz_lt (h.sz x hx)) (by have := h.ge x hx; omega)), h.ge, h.vge⟩
theorem Pk.rowD (h : Pk w G n T D Z P Q vm L S) (hb : ∀ k, k < w.heap.size → k ≠ G + 2 → w'.heap[k]? = w.heap[k]?) {T' : List Value} (hr : Row w' (G + 2) n 4 T') : Pk w' G n T T' Z P Q vm L S := by
  have hg := h.g_lt
  exact ⟨ks_same h.ks (hb _ (by omega) (by omega)) (fun d r hv => hb r (ks_vlt h.ks hv).1 (by have := h.vge d r hv; omega)), h.rt.same (hb _ (by omega) (by omega)), hr, h.rs.same (hb _ (by omega) (by omega)), h.rp.same (hb _ (by omega) (by omega)), fun x hx => sz_same (h.sz x hx) (hb _ (sz_lt (h.sz x hx)) (by have := h.ge x hx; omega)), h.ge, h.vge⟩
theorem Pk.rowZ (h : Pk w G n T D Z P Q vm L S) (hb : ∀ k, k < w.heap.size → k ≠ G + 3 → w'.heap[k]? = w.heap[k]?) {T' : List Value} (hr : Row w' (G + 3) n 3 T') : Pk w' G n T D T' P Q vm L S := by
  have hg := h.g_lt
  exact ⟨ks_same h.ks (hb _ (by omega) (by omega)) (fun d r hv => hb r (ks_vlt h.ks hv).1 (by have := h.vge d r hv; omega)), h.rt.same (hb _ (by omega) (by omega)), h.rb.same (hb _ (by omega) (by omega)), hr, h.rp.same (hb _ (by omega) (by omega)), fun x hx => sz_same (h.sz x hx) (hb _ (sz_lt (h.sz x hx)) (by have := h.ge x hx; omega)), h.ge, h.vge⟩
theorem Pk.rowP (h : Pk w G n T D Z P Q vm L S) (hb : ∀ k, k < w.heap.size → k ≠ G + 4 → w'.heap[k]? = w.heap[k]?) {T' : List Value} (hr : Row w' (G + 4) n 38 T') : Pk w' G n T D Z T' Q vm L S := by
  have hg := h.g_lt
  exact ⟨ks_same h.ks (hb _ (by omega) (by omega)) (fun d r hv => hb r (ks_vlt h.ks hv).1 (by have := h.vge d r hv; omega)), h.rt.same (hb _ (by omega) (by omega)), h.rb.same (hb _ (by omega) (by omega)), h.rs.same (hb _ (by omega) (by omega)), hr, fun x hx => sz_same (h.sz x hx) (hb _ (sz_lt (h.sz x hx)) (by have := h.ge x hx; omega)), h.ge, h.vge⟩
/-- Behind a 'keep' of the matcher at p: Q' those of the books that are not p. -/
theorem Pk.kept (h : Pk w G n T D Z P Q vm L S) {p : Nat} (hf : Fr w w' G p vm) (hp : G + 5 ≤ p) {vm' : Bool → Option Nat} {L' : Bool → Assoc} {S' : Int} (k : KS w' G vm' L' S') (hv' : ∀ d r, vm' d = some r → vm d = some r ∨ w.heap.size ≤ r)
    {Q' : List (Nat × Int)} (hQ : ∀ x ∈ Q', x.1 ≠ p ∧ x ∈ Q ∨ x.1 = p ∧ SZ w' x.1 x.2) : Pk w' G n T D Z P Q' vm' L' S' := by
  have hg := h.g_lt
  have hr : ∀ j, 0 < j → j < 5 → w'.heap[G + j]? = w.heap[G + j]? := fun j h0 h5 => hf.block _ (by omega) (by omega) (by omega) (fun d e => by have := h.vge d _ e; omega)
  refine ⟨k, h.rt.same (hr 1 (by omega) (by omega)), h.rb.same (hr 2 (by omega) (by omega)), h.rs.same (hr 3 (by omega) (by omega)), h.rp.same (hr 4 (by omega) (by omega)), fun x hx => ?_, fun x hx => ?_, fun d r hr => ?_⟩
  · rcases hQ x hx with ⟨h1, h2⟩ | ⟨_, h2⟩
    · have hz := h.sz x h2
      exact sz_same hz (hf.block _ (sz_lt hz) (by have := h.ge x h2; omega) h1 (fun d e => (ks_vlt h.ks e).2 _ _ hz rfl))
    · exact h2
  · rcases hQ x hx with ⟨_, h2⟩ | ⟨h1, _⟩
    · exact h.ge x h2
    · omega
  · rcases hv' d r hr with h1 | h1
    · exact h.vge d r h1
    · omega
theorem Pk.drop (h : Pk w G n T D Z P Q vm L S) {Q' : List (Nat × Int)} (hQ : ∀ x ∈ Q', x ∈ Q) : Pk w G n T D Z P Q' vm L S :=
  ⟨h.ks, h.rt, h.rb, h.rs, h.rp, fun x hx => h.sz x (hQ x hx), fun x hx => h.ge x (hQ x hx), h.vge⟩
theorem Pk.cut (h : Pk w G n T D Z P Q vm L S) (k : Nat) : Pk w G n (T.take k) (D.take k) (Z.take k) (P.take k) Q vm L S :=
  ⟨h.ks, h.rt.cut k, h.rb.cut k, h.rs.cut k, h.rp.cut k, h.sz, h.ge, h.vge⟩
theorem Pk.below_of (h : Pk w G n T D Z P Q vm L S) {p : Nat} (hf : Fr w w' G p vm) (hp : G ≤ p) : Below G w w' :=
  ⟨hf.os, hf.tape, hf.output, hf.size, fun k hk => hf.block k (by have := h.g_lt; omega) (by omega) (by omega) (fun d e => by have := h.vge d _ e; omega)⟩
end
end Go.Proofs.Qxb6608686a.ScriptB
