import Derived.Test.Qxb6608686aScriptC
namespace Go.Proofs.Qxb6608686a.ScriptD
open Go.RowKit Go.Proofs.Qxb6608686a.Kit Go.Proofs.Qxb6608686a.MapKit Go.Proofs.Qxb6608686a.KeepA Go.Proofs.Qxb6608686a.KeepB Go.Proofs.Qxb6608686a.KeepC Go.Proofs.Qxb6608686a.KeepD Go.Proofs.Qxb6608686a.KeepMain Go.Proofs.Qxb6608686a.ScriptA Go.Proofs.Qxb6608686a.ScriptB Go.Proofs.Qxb6608686a.ScriptC

set_option linter.unusedVariables false

def tx (E : List Ent) : List Value := E.map fun e => .string e.t
def bk (E : List Ent) : List Value := E.map fun e => .bool e.b
def zs (E : List Ent) : List Value := E.map fun e => .int .i64 e.z
def ps (E : List Ent) : List Value := E.map fun e => .pointer (some ⟨e.p, 0, none⟩)
def pz (E : List Ent) : List (Nat × Int) := E.map fun e => (e.p, e.z)

/-- The loop's state, k steps behind it. -/
structure Inv (w wr : World) (n m cf cb : Nat) (S : Int) (E : List Ent) (vm : Bool → Option Nat) (L : Bool → Assoc) : Prop where
  bel : Below w.heap.size w wr
  pk : Pk wr w.heap.size n (tx E) (bk E) (zs E) (ps E) (pz E) vm L S
  book : Book E L S
  m : E.length = m
  cf : (L false).length = cf
  cb : (L true).length = cb

def OkStep (x : Stp) : Prop := 0 ≤ x.f ∧ x.f ≤ 65536 ∧ 0 ≤ x.k ∧ x.k ≤ 65536 - x.f

/-- Inside a round: the box of 'st' besides. -/
structure RSt (w wi : World) (g n m cf cb : Nat) (S : Int) (E : List Ent) (vm : Bool → Option Nat) (L : Bool → Assoc) (t : ByteArray) (d : Bool) (f k : Int) : Prop where
  inv : Inv w wi n m cf cb S E vm L
  bx : Bx wi g t d f k
  gl : w.heap.size + 5 ≤ g
  old : ∀ e ∈ E, e.p < g
theorem Inv.below {w wi wj : World} {n m cf cb : Nat} {S : Int} {E : List Ent} {vm : Bool → Option Nat} {L : Bool → Assoc} (h : Inv w wi n m cf cb S E vm L) (hb : Below wi.heap.size wi wj) : Inv w wj n m cf cb S E vm L :=
  ⟨h.bel.trans (hb.mono h.bel.size), h.pk.below hb, h.book, h.m, h.cf, h.cb⟩
theorem RSt.below {w wi wj : World} {g n m cf cb : Nat} {S : Int} {E : List Ent} {vm : Bool → Option Nat} {L : Bool → Assoc} {t : ByteArray} {d : Bool} {f k : Int} (h : RSt w wi g n m cf cb S E vm L t d f k) (hb : Below wi.heap.size wi wj) : RSt w wj g n m cf cb S E vm L t d f k :=
  ⟨h.inv.below hb, h.bx.same (hb.block _ h.bx.lt), h.gl, h.old⟩
theorem RSt.new {w wr : World} {n m cf cb : Nat} {S : Int} {E : List Ent} {vm : Bool → Option Nat} {L : Bool → Assoc} (h : Inv w wr n m cf cb S E vm L) (t : ByteArray) (d : Bool) (f k : Int) :
    RSt w (wr.alloc (.cells #[.string t, .bool d, .int .i64 f, .int .i64 k] 48)) wr.heap.size n m cf cb S E vm L t d f k :=
  ⟨h.below ((Below.refl _ _).alloc (Nat.le_refl _) _), by refine ⟨?_, ?_, ?_, ?_⟩ <;> simp, h.pk.g_lt, fun e he => sz_lt (h.pk.sz (e.p, e.z) (List.mem_map.2 ⟨e, he, rfl⟩))⟩
theorem drewN_below (w : World) (q : Nat) : Below w.heap.size w (w.drewN q) := below_drewN (Below.refl _ _) q

theorem count_int {w : World} {gm : Nat} {vm : Bool → Option Nat} {L : Bool → Assoc} {S : Int} (d : Bool) (c : Int) (H : Hid (KS w gm vm L S)) (hn : Hid (((L d).length : Int) = c)) :
    Calls Try.prog 28 #[.pointer (some ⟨gm, 0, none⟩), .bool d] w fun e w' => e = .returned (.int .i64 c) ∧ Below w.heap.size w w' := by
  have := count d H
  rw [hn.out] at this
  exact this
theorem RSt.ks {w wi : World} {g n m cf cb : Nat} {S : Int} {E : List Ent} {vm : Bool → Option Nat} {L : Bool → Assoc} {t : ByteArray} {d : Bool} {f k : Int} (h : RSt w wi g n m cf cb S E vm L t d f k) : Hid (KS wi w.heap.size vm L S) := h.inv.pk.ks
theorem RSt.no {w wi : World} {g n m cf cb : Nat} {S : Int} {E : List Ent} {vm : Bool → Option Nat} {L : Bool → Assoc} {t : ByteArray} {d : Bool} {f k : Int} (h : RSt w wi g n m cf cb S E vm L t d f k) (hno : ¬ ∃ (i : Nat) (x : Ent), E[i]? = some x ∧ x.b = d ∧ x.t = t) : ∀ e ∈ E, ¬ (e.b = d ∧ e.t = t) := fun e he hh => by
  obtain ⟨i, hi⟩ := List.getElem?_of_mem he
  exact hno ⟨i, e, hi, hh⟩


/-- Inside a round, the rows on their way. -/
structure PSt (w wi : World) (g n : Nat) (T D Z P : List Value) (Q : List (Nat × Int)) (vm : Bool → Option Nat) (L : Bool → Assoc) (S : Int) (t : ByteArray) (d : Bool) (f k : Int) : Prop where
  bel : Below w.heap.size w wi
  pk : Pk wi w.heap.size n T D Z P Q vm L S
  bx : Bx wi g t d f k
  gl : w.heap.size + 5 ≤ g

section
variable {w wi wj : World} {g n : Nat} {T D Z P : List Value} {Q : List (Nat × Int)} {vm : Bool → Option Nat} {L : Bool → Assoc} {S : Int} {t : ByteArray} {d : Bool} {f k : Int}
theorem PSt.below (h : PSt w wi g n T D Z P Q vm L S t d f k) (hb : Below wi.heap.size wi wj) : PSt w wj g n T D Z P Q vm L S t d f k :=
  ⟨h.bel.trans (hb.mono h.bel.size), h.pk.below hb, h.bx.same (hb.block _ h.bx.lt), h.gl⟩
theorem PSt.ks (h : PSt w wi g n T D Z P Q vm L S t d f k) : Hid (KS wi w.heap.size vm L S) := h.pk.ks
theorem grown_bel {B row : Nat} {a w w' : World} (h : Below B a w) (hs : B ≤ a.heap.size) (hg : w.grownBy w' (some row)) (hr : B ≤ row) : Below B a w' :=
  h.grown hg (Nat.le_trans hs h.size) (fun k e => by cases e; exact hr)
theorem PSt.grow1 (h : PSt w wi g n T D Z P Q vm L S t d f k) (hg : wi.grownBy wj (some (w.heap.size + 1))) {m : Nat} {T' : List Value} (hr : wj.ownsRow 0 9 1 (.slice (some ⟨w.heap.size + 1, 0, none⟩) m n) m T') : PSt w wj g n T' D Z P Q vm L S t d f k :=
  ⟨grown_bel h.bel (Nat.le_refl _) hg (by omega), h.pk.rowT (fun k hk hne => hg.block k hk (by simpa using hne)) (Row.of_own hr), h.bx.same (hg.block _ h.bx.lt (by have := h.gl; simp; omega)), h.gl⟩
theorem PSt.grow2 (h : PSt w wi g n T D Z P Q vm L S t d f k) (hg : wi.grownBy wj (some (w.heap.size + 2))) {m : Nat} {T' : List Value} (hr : wj.ownsRow 0 4 1 (.slice (some ⟨w.heap.size + 2, 0, none⟩) m n) m T') : PSt w wj g n T T' Z P Q vm L S t d f k :=
  ⟨grown_bel h.bel (Nat.le_refl _) hg (by omega), h.pk.rowD (fun k hk hne => hg.block k hk (by simpa using hne)) (Row.of_own hr), h.bx.same (hg.block _ h.bx.lt (by have := h.gl; simp; omega)), h.gl⟩
theorem PSt.grow3 (h : PSt w wi g n T D Z P Q vm L S t d f k) (hg : wi.grownBy wj (some (w.heap.size + 3))) {m : Nat} {T' : List Value} (hr : wj.ownsRow 0 3 1 (.slice (some ⟨w.heap.size + 3, 0, none⟩) m n) m T') : PSt w wj g n T D T' P Q vm L S t d f k :=
  ⟨grown_bel h.bel (Nat.le_refl _) hg (by omega), h.pk.rowZ (fun k hk hne => hg.block k hk (by simpa using hne)) (Row.of_own hr), h.bx.same (hg.block _ h.bx.lt (by have := h.gl; simp; omega)), h.gl⟩
theorem PSt.grow4 (h : PSt w wi g n T D Z P Q vm L S t d f k) (hg : wi.grownBy wj (some (w.heap.size + 4))) {m : Nat} {T' : List Value} (hr : wj.ownsRow 0 38 1 (.slice (some ⟨w.heap.size + 4, 0, none⟩) m n) m T') : PSt w wj g n T D Z T' Q vm L S t d f k :=
  ⟨grown_bel h.bel (Nat.le_refl _) hg (by omega), h.pk.rowP (fun k hk hne => hg.block k hk (by simpa using hne)) (Row.of_own hr), h.bx.same (hg.block _ h.bx.lt (by have := h.gl; simp; omega)), h.gl⟩
theorem PSt.set1 (h : PSt w wi g n T D Z P Q vm L S t d f k) {i : Nat} (hi : i < T.length) (v : Value) : PSt w (wi.setCell ⟨w.heap.size + 1, i, none⟩ v) g n (T.set i v) D Z P Q vm L S t d f k :=
  ⟨h.bel.setCell (by show w.heap.size ≤ w.heap.size + 1; omega) v, h.pk.rowT (fun k hk hne => Below.heap_setCell _ _ _ _ hne) (h.pk.rt.set hi v), h.bx.same (Below.heap_setCell _ _ _ _ (by have := h.gl; show g ≠ w.heap.size + 1; omega)), h.gl⟩
theorem PSt.set2 (h : PSt w wi g n T D Z P Q vm L S t d f k) {i : Nat} (hi : i < D.length) (v : Value) : PSt w (wi.setCell ⟨w.heap.size + 2, i, none⟩ v) g n T (D.set i v) Z P Q vm L S t d f k :=
  ⟨h.bel.setCell (by show w.heap.size ≤ w.heap.size + 2; omega) v, h.pk.rowD (fun k hk hne => Below.heap_setCell _ _ _ _ hne) (h.pk.rb.set hi v), h.bx.same (Below.heap_setCell _ _ _ _ (by have := h.gl; show g ≠ w.heap.size + 2; omega)), h.gl⟩
theorem PSt.set3 (h : PSt w wi g n T D Z P Q vm L S t d f k) {i : Nat} (hi : i < Z.length) (v : Value) : PSt w (wi.setCell ⟨w.heap.size + 3, i, none⟩ v) g n T D (Z.set i v) P Q vm L S t d f k :=
  ⟨h.bel.setCell (by show w.heap.size ≤ w.heap.size + 3; omega) v, h.pk.rowZ (fun k hk hne => Below.heap_setCell _ _ _ _ hne) (h.pk.rs.set hi v), h.bx.same (Below.heap_setCell _ _ _ _ (by have := h.gl; show g ≠ w.heap.size + 3; omega)), h.gl⟩
theorem PSt.set4 (h : PSt w wi g n T D Z P Q vm L S t d f k) {i : Nat} (hi : i < P.length) (v : Value) : PSt w (wi.setCell ⟨w.heap.size + 4, i, none⟩ v) g n T D Z (P.set i v) Q vm L S t d f k :=
  ⟨h.bel.setCell (by show w.heap.size ≤ w.heap.size + 4; omega) v, h.pk.rowP (fun k hk hne => Below.heap_setCell _ _ _ _ hne) (h.pk.rp.set hi v), h.bx.same (Below.heap_setCell _ _ _ _ (by have := h.gl; show g ≠ w.heap.size + 4; omega)), h.gl⟩
theorem PSt.cut (h : PSt w wi g n T D Z P Q vm L S t d f k) (c : Nat) : PSt w wi g n (T.take c) (D.take c) (Z.take c) (P.take c) Q vm L S t d f k := ⟨h.bel, h.pk.cut c, h.bx, h.gl⟩
theorem own_at {w : World} {g n m : Nat} {e : TypeId} {xs : List Value} (h : Row w g n e xs) (hm : xs.length = m) (hn : n ≤ 4096) : w.ownsRow 0 e 1 (.slice (some ⟨g, 0, none⟩) m n) m xs := by
  subst hm
  exact h.own (Nat.le_trans hn (by decide))
theorem one_new (w : World) (v : Value) (e : TypeId) : ∀ j u, [v][j]? = some u → (w.alloc (.cells #[v] e)).cell? ((⟨w.heap.size, 0, none⟩ : Addr).add j) = some u := by
  intro j u hj
  cases j with
  | zero => simp at hj; subst hj; simp [Addr.add]
  | succ j => simp at hj
end

section
variable {w wi wj : World} {g n m cf cb : Nat} {S : Int} {E : List Ent} {vm : Bool → Option Nat} {L : Bool → Assoc} {t : ByteArray} {d : Bool} {f k : Int}
theorem ks_vcell {w : World} {gm : Nat} (h : KS w gm vm L S) {x : Bool} {r : Nat} (hv : vm x = some r) (o : Nat) : w.cell? ⟨r, o, none⟩ = none := by
  rcases h.m x with ⟨h, _⟩ | ⟨r', h, es, clock, hr, he⟩
  · rw [hv] at h; cases h
  · rw [hv] at h
    cases h
    simp [World.cell?, hr]
theorem RSt.kept (h : RSt w wi g n m cf cb S E vm L t d f k) {p : Nat} (hf : Fr wi wj w.heap.size p vm) (hp : w.heap.size + 5 ≤ p) (hpg : g ≠ p) {vm' : Bool → Option Nat} {L' : Bool → Assoc} {S' : Int} (hk : KS wj w.heap.size vm' L' S') (hv' : ∀ d r, vm' d = some r → vm d = some r ∨ wi.heap.size ≤ r)
    {Q' : List (Nat × Int)} (hQ : ∀ x ∈ Q', x.1 ≠ p ∧ x ∈ pz E ∨ x.1 = p ∧ SZ wj x.1 x.2) : PSt w wj g n (tx E) (bk E) (zs E) (ps E) Q' vm' L' S' t d f k := by
  refine ⟨h.inv.bel.trans (h.inv.pk.below_of hf (by omega)), h.inv.pk.kept hf hp hk hv' hQ, h.bx.same (hf.block _ h.bx.lt (by have := h.gl; omega) hpg (fun x e => ?_)), h.gl⟩
  have := ks_vcell h.inv.pk.ks e 0
  rw [h.bx.1] at this
  cases this
theorem RSt.fresh (h : RSt w wi g n m cf cb S E vm L t d f k) : ∀ e ∈ E, e.p ≠ wi.heap.size := fun e he hh => by
  have := sz_lt (h.inv.pk.sz (e.p, e.z) (List.mem_map.2 ⟨e, he, rfl⟩))
  simp only at this
  omega
theorem RSt.keptNew (h : RSt w wi g n m cf cb S E vm L t d f k) {p : Nat} {c : Int} (hf : Fr wi wj w.heap.size p vm) (hp : w.heap.size + 5 ≤ p) (hpg : g ≠ p) (hpn : ∀ e ∈ E, e.p ≠ p) {vm' : Bool → Option Nat} {L' : Bool → Assoc} {S' : Int} (hk : KS wj w.heap.size vm' L' S') (hz : SZ wj p c) (hv' : ∀ d r, vm' d = some r → vm d = some r ∨ wi.heap.size ≤ r) :
    PSt w wj g n (tx E) (bk E) (zs E) (ps E) (pz (E ++ [⟨t, d, c, p⟩])) vm' L' S' t d f k := by
  refine h.kept hf hp hpg hk hv' fun x hx => ?_
  obtain ⟨e, he, rfl⟩ := List.mem_map.1 hx
  rcases List.mem_append.1 he with he | he
  · exact .inl ⟨hpn e he, List.mem_map.2 ⟨e, he, rfl⟩⟩
  · rw [List.mem_singleton] at he
    subst he
    exact .inr ⟨rfl, hz⟩
theorem RSt.keptMore (h : RSt w wi g n m cf cb S E vm L t d f k) {i p : Nat} {z c : Int} (hi : E[i]? = some ⟨t, d, z, p⟩) (hf : Fr wi wj w.heap.size p vm) (hpg : g ≠ p) {S' : Int} (hk : KS wj w.heap.size vm L S') (hz : SZ wj p (z + c)) :
    PSt w wj g n (tx E) (bk E) (zs E) (ps E) (pz (E.set i ⟨t, d, z + c, p⟩)) vm L S' t d f k := by
  have hmem := List.mem_of_getElem? hi
  refine h.kept hf (h.inv.pk.ge (p, z) (List.mem_map.2 ⟨_, hmem, rfl⟩)) hpg hk (fun _ _ h => .inl h) fun x hx => ?_
  obtain ⟨e, he, rfl⟩ := List.mem_map.1 hx
  obtain ⟨j, hj⟩ := List.getElem?_of_mem he
  rw [List.getElem?_set] at hj
  split at hj
  · split at hj
    · cases hj; exact .inr ⟨rfl, hz⟩
    · cases hj
  · rename_i hne
    exact .inl ⟨fun e1 => hne (h.inv.book.ptr i j _ _ hi hj e1.symm), List.mem_map.2 ⟨e, List.mem_of_getElem? hj, rfl⟩⟩
theorem RSt.keptDrop (h : RSt w wi g n m cf cb S E vm L t d f k) {i p : Nat} {z : Int} {x : Ent} (hi : E[i]? = some ⟨t, d, z, p⟩) (hx : E[E.length - 1]? = some x) (hf : Fr wi wj w.heap.size p vm) (hpg : g ≠ p) {L' : Bool → Assoc} {S' : Int} (hk : KS wj w.heap.size vm L' S') :
    PSt w wj g n (tx E) (bk E) (zs E) (ps E) (pz (swap E i x)) vm L' S' t d f k := by
  have hmem := List.mem_of_getElem? hi
  refine h.kept hf (h.inv.pk.ge (p, z) (List.mem_map.2 ⟨_, hmem, rfl⟩)) hpg hk (fun _ _ h => .inl h) fun y hy => ?_
  obtain ⟨e, he, rfl⟩ := List.mem_map.1 hy
  obtain ⟨j, hj⟩ := List.getElem?_of_mem he
  rw [swap_get] at hj
  split at hj
  · split at hj
    · rename_i h1 h2
      cases hj
      exact .inl ⟨fun e1 => by have := h.inv.book.ptr _ _ _ _ hx hi e1; omega, List.mem_map.2 ⟨x, List.mem_of_getElem? hx, rfl⟩⟩
    · rename_i hne
      exact .inl ⟨fun e1 => hne (h.inv.book.ptr i j _ _ hi hj e1.symm), List.mem_map.2 ⟨e, List.mem_of_getElem? hj, rfl⟩⟩
  · cases hj
end
end Go.Proofs.Qxb6608686a.ScriptD
