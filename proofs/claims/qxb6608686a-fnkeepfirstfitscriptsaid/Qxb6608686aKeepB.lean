import Derived.Test.Qxb6608686aKeepA
namespace Go.Proofs.Qxb6608686a.KeepB
open Go.RowKit Go.Proofs.Qxb6608686a.Kit Go.Proofs.Qxb6608686a.MapKit Go.Proofs.Qxb6608686a.KeepA
open Go.ChangeMaps (setBlock)

set_option linter.unusedVariables false
attribute [local go_sem ↓] Go.wp_at_zero Go.wp_at_succ

/-- A map variable: nil, or a block of entries. -/
def MM (w : World) (v : Option Nat) (L : List (ByteArray × Nat)) : Prop := (v = none ∧ L = []) ∨ ∃ r, v = some r ∧ KMap w r L

/-- The matchers' state at block gm: two map variables and the size. -/
structure KS (w : World) (gm : Nat) (vm : Bool → Option Nat) (L : Bool → List (ByteArray × Nat)) (S : Int) : Prop where
  f : w.cell? ⟨gm, 0, none⟩ = some (.map (vm false))
  b : w.cell? ⟨gm, 1, none⟩ = some (.map (vm true))
  s : w.cell? ⟨gm, 2, none⟩ = some (.int .i64 S)
  fz : ∀ i, w.frozen? ⟨gm, i, none⟩ = false
  m : ∀ d, MM w (vm d) (L d)
  ne : ∀ r, vm false = some r → vm true ≠ some r

/-- The size of the matcher at block p. -/
def SZ (w : World) (p : Nat) (s : Int) : Prop := w.cell? ⟨p, 7, none⟩ = some (.int .i64 s) ∧ w.frozen? ⟨p, 7, none⟩ = false

/-- What the call leaves alone: every block but gm, p and the maps. -/
structure Fr (w w' : World) (gm p : Nat) (vm : Bool → Option Nat) : Prop where
  os : w'.os = w.os
  tape : w'.tape = w.tape
  output : w'.output = w.output
  size : w.heap.size ≤ w'.heap.size
  block : ∀ k, k < w.heap.size → k ≠ gm → k ≠ p → (∀ d, vm d ≠ some k) → w'.heap[k]? = w.heap[k]?

theorem cell_below {w w' : World} (hb : Below w.heap.size w w') {a : Addr} {v : Value} (h : w.cell? a = some v) : w'.cell? a = some v := by
  rw [hb.cell (World.block_lt_of_cell? w a h)]; exact h
theorem MM.below {w w' : World} {v : Option Nat} {L : List (ByteArray × Nat)} (h : MM w v L) (hb : Below w.heap.size w w') : MM w' v L := by
  rcases h with h | ⟨r, rfl, es, clock, hr, he⟩
  · exact .inl h
  · exact .inr ⟨r, rfl, es, clock, (hb.block r (Array.getElem?_eq_some_iff.1 hr).1).trans hr, he⟩
theorem KS.below {w w' : World} {gm : Nat} {vm : Bool → Option Nat} {L : Bool → List (ByteArray × Nat)} {S : Int} (h : KS w gm vm L S) (hb : Below w.heap.size w w') : KS w' gm vm L S := by
  have hlt := World.block_lt_of_cell? w _ h.f
  exact ⟨cell_below hb h.f, cell_below hb h.b, cell_below hb h.s, fun i => by rw [hb.frozen (p := ⟨gm, i, none⟩) hlt]; exact h.fz i, fun d => (h.m d).below hb, h.ne⟩
theorem SZ.below {w w' : World} {p : Nat} {s : Int} (h : SZ w p s) (hb : Below w.heap.size w w') : SZ w' p s :=
  ⟨cell_below hb h.1, by rw [hb.frozen (World.block_lt_of_cell? w _ h.1)]; exact h.2⟩
theorem Fr.of_below {w w' : World} {gm p : Nat} {vm : Bool → Option Nat} (hb : Below w.heap.size w w') : Fr w w' gm p vm := ⟨hb.os, hb.tape, hb.output, hb.size, fun k hk _ _ _ => hb.block k hk⟩

theorem kmap_setCell {w : World} {r : Nat} {L : List (ByteArray × Nat)} (h : KMap w r L) (a : Addr) (v : Value) : KMap (w.setCell a v) r L := by
  obtain ⟨es, clock, hb, he⟩ := h
  refine ⟨es, clock, ?_, he⟩
  simp only [World.setCell, Array.getElem?_modify, hb]
  split <;> simp
theorem MM.setCell {w : World} {v : Option Nat} {L : List (ByteArray × Nat)} (h : MM w v L) (a : Addr) (x : Value) : MM (w.setCell a x) v L := by
  rcases h with h | ⟨r, rfl, hr⟩
  · exact .inl h
  · exact .inr ⟨r, rfl, kmap_setCell hr a x⟩
theorem set_same {w : World} {g i : Nat} {v u : Value} (h : w.cell? ⟨g, i, none⟩ = some u) : (w.setCell ⟨g, i, none⟩ v).cell? ⟨g, i, none⟩ = some v := World.cell?_setCell_same _ _ _ h
theorem set_other {w : World} {g i g' j : Nat} {v : Value} (h : g ≠ g' ∨ i ≠ j) : (w.setCell ⟨g, i, none⟩ v).cell? ⟨g', j, none⟩ = w.cell? ⟨g', j, none⟩ :=
  World.cell?_setCell_other _ _ _ _ (by intro e; simp only [Addr.mk.injEq] at e; omega)
section
variable {w w' w2 : World} {gm p : Nat} {vm : Bool → Option Nat} {L : Bool → List (ByteArray × Nat)} {S : Int}
theorem KS.setSize (h : KS w gm vm L S) (S' : Int) : KS (w.setCell ⟨gm, 2, none⟩ (.int .i64 S')) gm vm L S' :=
  ⟨by rw [set_other (by right; omega)]; exact h.f, by rw [set_other (by right; omega)]; exact h.b, set_same h.s, fun i => by rw [World.frozen?_setCell]; exact h.fz i, fun d => (h.m d).setCell _ _, h.ne⟩
theorem KS.setOther (h : KS w gm vm L S) (o : Nat) (v : Value) (hne : gm ≠ p) : KS (w.setCell ⟨p, o, none⟩ v) gm vm L S :=
  ⟨by rw [set_other (by left; omega)]; exact h.f, by rw [set_other (by left; omega)]; exact h.b, by rw [set_other (by left; omega)]; exact h.s, fun i => by rw [World.frozen?_setCell]; exact h.fz i, fun d => (h.m d).setCell _ _, h.ne⟩
theorem SZ.setSame {s : Int} (h : SZ w p s) (s' : Int) : SZ (w.setCell ⟨p, 7, none⟩ (.int .i64 s')) p s' := ⟨set_same h.1, by rw [World.frozen?_setCell]; exact h.2⟩
theorem SZ.setOther {s : Int} (h : SZ w p s) (g o : Nat) (v : Value) (hne : g ≠ p) : SZ (w.setCell ⟨g, o, none⟩ v) p s := ⟨by rw [set_other (by left; omega)]; exact h.1, by rw [World.frozen?_setCell]; exact h.2⟩
theorem Fr.setCell (h : Fr w w' gm p vm) (g o : Nat) (v : Value) (hg : g = gm ∨ g = p) : Fr w (w'.setCell ⟨g, o, none⟩ v) gm p vm :=
  ⟨h.os, h.tape, h.output, by rw [World.size_setCell]; exact h.size, fun k hk h1 h2 h3 => by
    rw [Below.heap_setCell _ _ _ _ (by show k ≠ g; omega)]; exact h.block k hk h1 h2 h3⟩
theorem Fr.below (h : Fr w w' gm p vm) (hb : Below w'.heap.size w' w2) : Fr w w2 gm p vm :=
  ⟨hb.os.trans h.os, hb.tape.trans h.tape, hb.output.trans h.output, Nat.le_trans h.size hb.size, fun k hk h1 h2 h3 => (hb.block k (Nat.lt_of_lt_of_le hk h.size)).trans (h.block k hk h1 h2 h3)⟩
end

/-- What is asked ahead of a 'keep'. -/
structure Pre (w : World) (gm p gb : Nat) (vm : Bool → Option Nat) (L : Bool → List (ByteArray × Nat)) (S sz f tk : Int) (s : ByteArray) : Prop where
  ks : KS w gm vm L S
  szp : SZ w p sz
  hf : w.cell? ⟨gb, 4, none⟩ = some (.int .i64 f)
  ne : gm ≠ p

theorem sizes {w W : World} {gm p gb : Nat} {vm : Bool → Option Nat} {L : Bool → List (ByteArray × Nat)} {S sz f tk : Int} {s : ByteArray} (h : Pre w gm p gb vm L S sz f tk s) (hb : Below w.heap.size w W) (S' sz' : Int) :
    KS ((W.setCell ⟨p, 7, none⟩ (.int .i64 sz')).setCell ⟨gm, 2, none⟩ (.int .i64 S')) gm vm L S' ∧ SZ ((W.setCell ⟨p, 7, none⟩ (.int .i64 sz')).setCell ⟨gm, 2, none⟩ (.int .i64 S')) p sz' ∧ Fr w ((W.setCell ⟨p, 7, none⟩ (.int .i64 sz')).setCell ⟨gm, 2, none⟩ (.int .i64 S')) gm p vm :=
  ⟨((h.ks.below hb).setOther 7 _ h.ne).setSize S', ((h.szp.below hb).setSame sz').setOther gm 2 _ h.ne, (((Fr.of_below hb).setCell p 7 _ (.inr rfl)).setCell gm 2 _ (.inl rfl))⟩

set_option maxRecDepth 4000 in
set_option maxHeartbeats 1000000 in
theorem keep_none (gm p gb : Nat) (vm : Bool → Option Nat) (L : Bool → List (ByteArray × Nat)) (S f tk : Int) (s : ByteArray) (d : Bool) (w : World) (hs : s.size ≤ 1048576) (H : Hid (Pre w gm p gb vm L S 0 f tk s))
    (f0 : 0 ≤ f) (f1 : f ≤ 65536) (t0 : 0 ≤ tk) (t1 : tk ≤ 65536 - f) (S0 : 0 ≤ S) (S1 : S ≤ 65536) (hfit : f ≤ 0 ∨ (0 < f ∧ 65536 < S + (65536 - f - tk + (s.size + 256)))) :
    Calls Try.prog 33 #[.pointer (some ⟨gm, 0, none⟩), .agg #[.string s, .bool d], .pointer (some ⟨p, 0, none⟩), .pointer (some ⟨gb, 0, none⟩), .int .i64 tk] w fun e w' => e = .returned (.tuple #[]) ∧ Below w.heap.size w w' := by
  have c1 := H.out.ks.s
  have c2 := H.out.szp.1
  have c3 := H.out.hf
  have lt1 := World.block_lt_of_cell? w _ c1
  have lt2 := World.block_lt_of_cell? w _ c2
  have lt3 := World.block_lt_of_cell? w _ c3
  rcases hfit with hfit | ⟨hf, hfit⟩
  · go_enter Try.func33, Try.ntmps33
    go_wp2_with (first | (go_at_call 39; refine (held_any gb f _ f0 f1 (by simp [go_sem, *])).mono ?_; rintro e w' ⟨rfl, q, rfl⟩) | (go_at_call 34; refine (of_any _ _ _ _).mono ?_; rintro e w' ⟨rfl, rfl⟩))
    go_end0
    exact ⟨rfl, (below_drewN ((Below.refl _ _).alloc (Nat.le_refl _) _) _).alloc (by simp) _⟩
  · go_enter Try.func33, Try.ntmps33
    go_wp2_with (first | (go_at_call 39; refine (held_any gb f _ f0 f1 (by simp [go_sem, *])).mono ?_; rintro e w' ⟨rfl, q, rfl⟩) | (go_at_call 34; refine (of_any _ _ _ _).mono ?_; rintro e w' ⟨rfl, rfl⟩))
    go_end0
    exact ⟨rfl, (below_drewN ((Below.refl _ _).alloc (Nat.le_refl _) _) _).alloc (by simp) _⟩

set_option maxRecDepth 4000 in
set_option maxHeartbeats 1000000 in
theorem keep_more (gm p gb : Nat) (vm : Bool → Option Nat) (L : Bool → List (ByteArray × Nat)) (S sz f tk : Int) (s : ByteArray) (d : Bool) (w : World) (hs : s.size ≤ 1048576) (H : Hid (Pre w gm p gb vm L S sz f tk s))
    (f0 : 0 < f) (f1 : f ≤ 65536) (t0 : 0 ≤ tk) (t1 : tk ≤ 65536 - f) (S0 : 0 ≤ S) (S1 : S ≤ 65536) (z0 : 0 < sz) (z1 : sz ≤ 65536) (hfit : S + (65536 - f - tk) ≤ 65536) :
    Calls Try.prog 33 #[.pointer (some ⟨gm, 0, none⟩), .agg #[.string s, .bool d], .pointer (some ⟨p, 0, none⟩), .pointer (some ⟨gb, 0, none⟩), .int .i64 tk] w fun e w' => e = .returned (.tuple #[]) ∧ KS w' gm vm L (S + (65536 - f - tk)) ∧ SZ w' p (sz + (65536 - f - tk)) ∧ Fr w w' gm p vm := by
  have c1 := H.out.ks.s
  have c2 := H.out.szp.1
  have c3 := H.out.hf
  have e1 := H.out.ks.fz 2
  have e2 := H.out.szp.2
  have e3 := H.out.ne
  have lt1 := World.block_lt_of_cell? w _ c1
  have lt2 := World.block_lt_of_cell? w _ c2
  have lt3 := World.block_lt_of_cell? w _ c3
  go_enter Try.func33, Try.ntmps33
  go_wp2_with (first | (go_at_call 39; refine (held_any gb f _ (by omega) f1 (by simp [go_sem, *])).mono ?_; rintro e w' ⟨rfl, q, rfl⟩) | (go_at_call 34; refine (of_any _ _ _ _).mono ?_; rintro e w' ⟨rfl, rfl⟩))
  go_end0
  have hb : Below w.heap.size w ((w.alloc (.cells #[.string s, .bool d] 83)).drewN q) := below_drewN ((Below.refl _ _).alloc (Nat.le_refl _) _) _
  obtain ⟨k1, k2, k3⟩ := sizes H.out hb (S + (65536 - f - tk)) (sz + (65536 - f - tk))
  have hb2 := (Below.refl ((((w.alloc (.cells #[.string s, .bool d] 83)).drewN q).setCell ⟨p, 7, none⟩ (.int .i64 (sz + (65536 - f - tk)))).setCell ⟨gm, 2, none⟩ (.int .i64 (S + (65536 - f - tk)))).heap.size _).alloc (Nat.le_refl _) (.cells #[.string s, .bool d] 83)
  exact ⟨rfl, k1.below hb2, k2.below hb2, k3.below hb2⟩

theorem heap_setBlock_ne {w : World} {r k : Nat} (o : Obj) (h : k ≠ r) : (setBlock w r o).heap[k]? = w.heap[k]? := by
  simp only [setBlock, Array.getElem?_setIfInBounds]
  rw [if_neg (Ne.symm h)]
theorem ne_map {w : World} {g o r : Nat} {v : Value} {es : Array MapEntry} {clock : Nat} (h : w.cell? ⟨g, o, none⟩ = some v) (hr : w.heap[r]? = some (.map es clock)) : g ≠ r := by
  intro e
  subst e
  simp [World.cell?, hr] at h

/-- The state behind a store into, or a delete from, one map. -/
theorem map_world {w W : World} {gm p r : Nat} {vm : Bool → Option Nat} {L : Bool → List (ByteArray × Nat)} {S sz : Int} {d : Bool} {es : Array MapEntry} {clock : Nat} {L' : List (ByteArray × Nat)} (o : Obj) (hks : KS w gm vm L S) (hsz : SZ w p sz)
    (hr : w.heap[r]? = some (.map es clock)) (hv : vm d = some r) (hb : Below w.heap.size w W) (hK : KMap (setBlock W r o) r L') :
    KS (setBlock W r o) gm vm (fun x => if x = d then L' else L x) S ∧ SZ (setBlock W r o) p sz ∧ Fr w (setBlock W r o) gm p vm := by
  have hk := hks.below hb
  have hz := hsz.below hb
  have n1 := ne_map hks.f hr
  have n2 := ne_map hsz.1 hr
  have cell : ∀ g o', g ≠ r → (setBlock W r o).cell? ⟨g, o', none⟩ = W.cell? ⟨g, o', none⟩ := fun g o' hg => World.cell?_of_block (a := ⟨g, o', none⟩) (heap_setBlock_ne o hg)
  have froz : ∀ g o', g ≠ r → (setBlock W r o).frozen? ⟨g, o', none⟩ = W.frozen? ⟨g, o', none⟩ := fun g o' hg => World.frozen?_of_block (a := ⟨g, o', none⟩) (heap_setBlock_ne o hg)
  refine ⟨⟨by rw [cell _ _ n1]; exact hk.f, by rw [cell _ _ n1]; exact hk.b, by rw [cell _ _ n1]; exact hk.s, fun i => by rw [froz _ _ n1]; exact hk.fz i, fun x => ?_, hk.ne⟩, ⟨by rw [cell _ _ n2]; exact hz.1, by rw [froz _ _ n2]; exact hz.2⟩, ?_⟩
  · by_cases hx : x = d
    · subst hx
      rw [if_pos rfl]
      exact .inr ⟨r, hv, hK⟩
    · rw [if_neg hx]
      rcases hk.m x with hn | ⟨r', hr', es', clock', hb', he'⟩
      · exact .inl hn
      · have hne : r' ≠ r := by
          intro e
          subst e
          cases x <;> cases d <;> first | exact absurd rfl hx | exact hk.ne _ hr' hv | exact hk.ne _ hv hr'
        exact .inr ⟨r', hr', es', clock', (heap_setBlock_ne o hne).trans hb', he'⟩
  · refine ⟨hb.os, hb.tape, hb.output, by simpa [setBlock] using hb.size, fun k hk' h1 h2 h3 => ?_⟩
    rw [heap_setBlock_ne o (fun e => h3 d (by rw [hv, e]))]
    exact hb.block k hk'
theorem del_world {w W : World} {gm p gb r i : Nat} {vm : Bool → Option Nat} {L : Bool → List (ByteArray × Nat)} {S sz f tk : Int} {s : ByteArray} {d : Bool} {es : Array MapEntry} {clock : Nat} (h : Pre w gm p gb vm L S sz f tk s)
    (HE : es.toList.map (fun e => (e.key, e.val)) = (L d).map (fun x => (Value.string x.1, Value.pointer (some ⟨x.2, 0, none⟩)))) (hr : w.heap[r]? = some (.map es clock)) (hv : vm d = some r) (hb : Below w.heap.size w W) :
    KS (setBlock W r (erased es clock i)) gm vm (fun x => if x = d then (L d).eraseIdx i else L x) S ∧ SZ (setBlock W r (erased es clock i)) p sz ∧ Fr w (setBlock W r (erased es clock i)) gm p vm :=
  map_world _ h.ks h.szp hr hv hb (kmap_erased HE i ((hb.block r (Array.getElem?_eq_some_iff.1 hr).1).trans hr))

set_option maxRecDepth 4000 in
set_option maxHeartbeats 1000000 in
theorem keep_drop (gm p gb r : Nat) (vm : Bool → Option Nat) (L : Bool → List (ByteArray × Nat)) (S sz f tk : Int) (s : ByteArray) (d : Bool) (i p' : Nat) (w : World) (hs : s.size ≤ 1048576) (H : Hid (Pre w gm p gb vm L S sz f tk s))
    (f0 : 0 ≤ f) (f1 : f ≤ 65536) (t0 : 0 ≤ tk) (t1 : tk ≤ 65536 - f) (S0 : 0 ≤ S) (S1 : S ≤ 65536) (z0 : 0 < sz) (z1 : sz ≤ 65536) (hfit : f ≤ 0 ∨ (0 < f ∧ 65536 < S + (65536 - f - tk)))
    (hv : Hid (vm d = some r)) (hold : Hid (MapKit.look s (L d) 0 = some (i, p'))) :
    Calls Try.prog 33 #[.pointer (some ⟨gm, 0, none⟩), .agg #[.string s, .bool d], .pointer (some ⟨p, 0, none⟩), .pointer (some ⟨gb, 0, none⟩), .int .i64 tk] w fun e w' => e = .returned (.tuple #[]) ∧ KS w' gm vm (fun x => if x = d then (L d).eraseIdx i else L x) (S - sz) ∧ SZ w' p sz ∧ Fr w w' gm p vm := by
  have c1 := H.out.ks.s
  have c2 := H.out.szp.1
  have c3 := H.out.hf
  have e1 := H.out.ks.fz 2
  have e3 := H.out.ne
  have lt1 := World.block_lt_of_cell? w _ c1
  have lt2 := World.block_lt_of_cell? w _ c2
  have lt3 := World.block_lt_of_cell? w _ c3
  have c4 : w.cell? ⟨gm, d.toNat, none⟩ = some (.map (some r)) := by
    have := H.out.ks
    have h := hv.out
    cases d
    · rw [← h]; exact this.f
    · rw [← h]; exact this.b
  obtain ⟨es, clock, hr, HE⟩ : ∃ es clock, w.heap[r]? = some (.map es clock) ∧ Hid (es.toList.map (fun e => (e.key, e.val)) = (L d).map (fun x => (Value.string x.1, Value.pointer (some ⟨x.2, 0, none⟩)))) := by
    rcases H.out.ks.m d with ⟨h, _⟩ | ⟨r', h, es, clock, hb, he⟩
    · rw [hv.out] at h; cases h
    · rw [hv.out] at h; cases h; exact ⟨es, clock, hb, he⟩
  have ltr : r < w.heap.size := (Array.getElem?_eq_some_iff.1 hr).1
  have hdel : ∀ q, (Builtin.delete_ #[70, 9] 0 #[.map (some r), .string s]).run Try.prog (((w.alloc (.cells #[.string s, .bool d] 83)).drewN q).alloc (.cells #[.string s, .bool d] 83)).drew = .ok (.tuple #[]) (setBlock (((w.alloc (.cells #[.string s, .bool d] 83)).drewN q).alloc (.cells #[.string s, .bool d] 83)).drew r (erased es clock i)) := fun q =>
    run_del_at (P := Try.prog) (L := L d) (r := r) Try.underlying70 Try.underlying9 es clock HE.out s i p' hold.out 0 _ (by
      show (((w.alloc (.cells #[.string s, .bool d] 83)).drewN q).alloc (.cells #[.string s, .bool d] 83)).heap[r]? = _
      rw [Below.heap_alloc _ _ _ (by simp; omega), World.heap_drewN, Below.heap_alloc _ _ _ ltr]; exact hr)
  have hr := hid hr
  have hdt : d.toNat < 2 := by cases d <;> decide
  rcases hfit with hfit | ⟨hf, hfit⟩
  · go_enter Try.func33, Try.ntmps33
    go_wp2_with (first | (go_at_call 39; refine (held_any gb f _ (by omega) f1 (by simp [go_sem, *])).mono ?_; rintro e w' ⟨rfl, q, rfl⟩) | (go_at_call 34; refine (of_any _ _ _ _).mono ?_; rintro e w' ⟨rfl, rfl⟩))
    go_region
    have hW := del_world H.out (d := d) (r := r) (i := i) (HE := HE.out) (hr := hr.out) (hv := hv.out) (Below.trans (below_drewN ((Below.refl w.heap.size w).alloc (Nat.le_refl _) (.cells #[.string s, .bool d] 83)) q) ((Below.refl w.heap.size _).alloc (by simp) (.cells #[.string s, .bool d] 83))).drew
    obtain ⟨W2, HW2⟩ : ∃ W2, setBlock (((w.alloc (.cells #[.string s, .bool d] 83)).drewN q).alloc (.cells #[.string s, .bool d] 83)).drew r (erased es clock i) = W2 := ⟨_, rfl⟩
    rw [HW2] at hW ⊢
    clear hdel c1 c2 c3 c4 HW2
    obtain ⟨k1, k2, k3⟩ := hW
    have K1 := hid k1
    have K2 := hid k2
    have K3 := hid k3
    have c1 := k1.s
    have c2 := k2.1
    have e1 := k1.fz 2
    clear k1 k2 k3
    go_wp2
    go_region
    go_wp2
    go_end0
    have hd := (Below.refl (W2.setCell ⟨gm, 2, none⟩ (.int .i64 (S - sz))).heap.size (W2.setCell ⟨gm, 2, none⟩ (.int .i64 (S - sz)))).drew
    exact ⟨rfl, (K1.out.setSize (S - sz)).below hd, (K2.out.setOther gm 2 _ e3).below hd, (K3.out.setCell gm 2 _ (.inl rfl)).below hd⟩
  · go_enter Try.func33, Try.ntmps33
    go_wp2_with (first | (go_at_call 39; refine (held_any gb f _ (by omega) f1 (by simp [go_sem, *])).mono ?_; rintro e w' ⟨rfl, q, rfl⟩) | (go_at_call 34; refine (of_any _ _ _ _).mono ?_; rintro e w' ⟨rfl, rfl⟩))
    go_region
    have hW := del_world H.out (d := d) (r := r) (i := i) (HE := HE.out) (hr := hr.out) (hv := hv.out) (Below.trans (below_drewN ((Below.refl w.heap.size w).alloc (Nat.le_refl _) (.cells #[.string s, .bool d] 83)) q) ((Below.refl w.heap.size _).alloc (by simp) (.cells #[.string s, .bool d] 83))).drew
    obtain ⟨W2, HW2⟩ : ∃ W2, setBlock (((w.alloc (.cells #[.string s, .bool d] 83)).drewN q).alloc (.cells #[.string s, .bool d] 83)).drew r (erased es clock i) = W2 := ⟨_, rfl⟩
    rw [HW2] at hW ⊢
    clear hdel c1 c2 c3 c4 HW2
    obtain ⟨k1, k2, k3⟩ := hW
    have K1 := hid k1
    have K2 := hid k2
    have K3 := hid k3
    have c1 := k1.s
    have c2 := k2.1
    have e1 := k1.fz 2
    clear k1 k2 k3
    go_wp2
    go_region
    go_wp2
    go_end0
    have hd := (Below.refl (W2.setCell ⟨gm, 2, none⟩ (.int .i64 (S - sz))).heap.size (W2.setCell ⟨gm, 2, none⟩ (.int .i64 (S - sz)))).drew
    exact ⟨rfl, (K1.out.setSize (S - sz)).below hd, (K2.out.setOther gm 2 _ e3).below hd, (K3.out.setCell gm 2 _ (.inl rfl)).below hd⟩

theorem fin_new {w W : World} {gm p : Nat} {vm : Bool → Option Nat} {L : Bool → List (ByteArray × Nat)} {S sz : Int} (k1 : KS W gm vm L S) (k2 : SZ W p sz) (k3 : Fr w W gm p vm) (hne : gm ≠ p) (S' sz' : Int) :
    KS ((W.setCell ⟨p, 7, none⟩ (.int .i64 sz')).setCell ⟨gm, 2, none⟩ (.int .i64 S')) gm vm L S' ∧ SZ ((W.setCell ⟨p, 7, none⟩ (.int .i64 sz')).setCell ⟨gm, 2, none⟩ (.int .i64 S')) p sz' ∧ Fr w ((W.setCell ⟨p, 7, none⟩ (.int .i64 sz')).setCell ⟨gm, 2, none⟩ (.int .i64 S')) gm p vm :=
  ⟨(k1.setOther 7 _ hne).setSize S', (k2.setSame sz').setOther gm 2 _ hne, (k3.setCell p 7 _ (.inr rfl)).setCell gm 2 _ (.inl rfl)⟩

theorem put_eq {w W1 w' : World} {r : Nat} {es : Array MapEntry} {clock : Nat} {L : List (ByteArray × Nat)} {s : ByteArray} (hb1 : Below w.heap.size w W1) (hr : w.heap[r]? = some (.map es clock)) (HE : es.toList.map (fun e => (e.key, e.val)) = L.map (fun x => (Value.string x.1, Value.pointer (some ⟨x.2, 0, none⟩)))) (hnew : MapKit.look s L 0 = none) (p : Nat)
    (hb : Below W1.drew.heap.size W1.drew w') : (Instr.mapUpdate 70 (.map (some r)) (.string s) (.pointer (some ⟨p, 0, none⟩))).run Try.prog w' = .ok () (setBlock w' r (pushed es clock s p)) := by
  have ltr : r < w.heap.size := (Array.getElem?_eq_some_iff.1 hr).1
  refine run_put_at Try.underlying70 Try.underlying9 es clock HE s p hnew w' ?_
  rw [hb.block r (Nat.lt_of_lt_of_le ltr hb1.size)]
  exact (hb1.block r ltr).trans hr

theorem eql_nil (v : Option Nat) (w : World) : (binOp .eql 70 (.map v) (.map none)).run Try.prog w = .ok (.bool v.isNone) w := run_eql_map_nil w 70 9 38 v Try.underlying70

set_option maxRecDepth 4000 in
set_option maxHeartbeats 1000000 in
theorem keep_new_some (gm p gb r : Nat) (vm : Bool → Option Nat) (L : Bool → List (ByteArray × Nat)) (S f tk : Int) (s : ByteArray) (d : Bool) (w : World) (hs : s.size ≤ 1048576) (H : Hid (Pre w gm p gb vm L S 0 f tk s))
    (f0 : 0 < f) (f1 : f ≤ 65536) (t0 : 0 ≤ tk) (t1 : tk ≤ 65536 - f) (S0 : 0 ≤ S) (S1 : S ≤ 65536) (hfit : S + (65536 - f - tk + (s.size + 256)) ≤ 65536)
    (hv : Hid (vm d = some r)) (hnew : Hid (MapKit.look s (L d) 0 = none)) :
    Calls Try.prog 33 #[.pointer (some ⟨gm, 0, none⟩), .agg #[.string s, .bool d], .pointer (some ⟨p, 0, none⟩), .pointer (some ⟨gb, 0, none⟩), .int .i64 tk] w fun e w' => e = .returned (.tuple #[]) ∧ KS w' gm vm (fun x => if x = d then L d ++ [(s, p)] else L x) (S + (65536 - f - tk + (s.size + 256))) ∧ SZ w' p (65536 - f - tk + (s.size + 256)) ∧ Fr w w' gm p vm := by
  have c1 := H.out.ks.s
  have c2 := H.out.szp.1
  have c3 := H.out.hf
  have e1 := H.out.ks.fz 2
  have e2 := H.out.szp.2
  have e3 := H.out.ne
  have lt1 := World.block_lt_of_cell? w _ c1
  have lt2 := World.block_lt_of_cell? w _ c2
  have lt3 := World.block_lt_of_cell? w _ c3
  have c4 : w.cell? ⟨gm, d.toNat, none⟩ = some (.map (some r)) := by
    have := H.out.ks
    have h := hv.out
    cases d
    · rw [← h]; exact this.f
    · rw [← h]; exact this.b
  obtain ⟨es, clock, hr, HE⟩ : ∃ es clock, w.heap[r]? = some (.map es clock) ∧ Hid (es.toList.map (fun e => (e.key, e.val)) = (L d).map (fun x => (Value.string x.1, Value.pointer (some ⟨x.2, 0, none⟩)))) := by
    rcases H.out.ks.m d with ⟨h, _⟩ | ⟨r', h, es, clock, hb, he⟩
    · rw [hv.out] at h; cases h
    · rw [hv.out] at h; cases h; exact ⟨es, clock, hb, he⟩
  have ltr : r < w.heap.size := (Array.getElem?_eq_some_iff.1 hr).1
  have hdt : d.toNat < 2 := by cases d <;> decide
  have hnil := eql_nil
  have HR := hid hr
  clear hr
  go_enter Try.func33, Try.ntmps33
  go_wp2_with (first | (go_at_call 39; refine (held_any gb f _ (by omega) f1 (by simp [go_sem, *])).mono ?_; rintro e w' ⟨rfl, q, rfl⟩) | (go_at_call 34; refine (of_any _ _ _ _).mono ?_; rintro e w' ⟨rfl, rfl⟩))
  have hb1 : Below w.heap.size w (((w.alloc (.cells #[.string s, .bool d] 83)).drewN q).alloc (.cells #[.string s, .bool d] 83)) := (below_drewN ((Below.refl w.heap.size w).alloc (Nat.le_refl _) _) q).alloc (by simp) _
  have r1 : (((w.alloc (.cells #[.string s, .bool d] 83)).drewN q).alloc (.cells #[.string s, .bool d] 83)).cell? ⟨w.heap.size, 0, none⟩ = some (.string s) := by simp [go_sem]
  obtain ⟨W1, HW1⟩ : ∃ W1, ((w.alloc (.cells #[.string s, .bool d] 83)).drewN q).alloc (.cells #[.string s, .bool d] 83) = W1 := ⟨_, rfl⟩
  rw [HW1] at hb1 r1 ⊢
  have c4' := cell_below hb1 c4
  have HB1 := hid hb1
  clear HW1 c1 c2 c3 c4 hb1
  go_region_with (go_at_call 40; refine (clone_any _ _ hs).mono ?_; rintro e w' ⟨rfl, hb'⟩; have hp := put_eq HB1.out HR.out HE.out hnew.out p hb'; have c5 := cell_below hb' (show W1.drew.cell? ⟨gm, d.toNat, none⟩ = some (.map (some r)) from c4'); have HB' := hid hb'; clear hb')
  all_goals
    have hbw : Below w.heap.size w w' := HB1.out.trans ((Below.refl w.heap.size W1).drew.trans (HB'.out.mono HB1.out.size))
    have hW := map_world (pushed es clock s p) H.out.ks H.out.szp HR.out hv.out hbw (kmap_pushed HE.out s p ((hbw.block r ltr).trans HR.out))
    obtain ⟨W2, HW2⟩ : ∃ W2, setBlock w' r (pushed es clock s p) = W2 := ⟨_, rfl⟩
    rw [HW2] at hW ⊢
    obtain ⟨k1, k2, k3⟩ := hW
    have K1 := hid k1
    have K2 := hid k2
    have K3 := hid k3
    have c1 := k1.s
    have c2 := k2.1
    have e1' := k1.fz 2
    have e2' := k2.2
    clear k1 k2 k3 HW2 c4' c5 hp r1
    go_wp2
    go_end0
    exact ⟨rfl, fin_new K1.out K2.out K3.out e3 _ _⟩
end Go.Proofs.Qxb6608686a.KeepB
