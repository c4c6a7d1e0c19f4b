import Derived.Test.Qxb6608686aKeepB
import Derived.WideLaws
namespace Go.Proofs.Qxb6608686a.KeepC
open Go.RowKit Go.Proofs.Qxb6608686a.Kit Go.Proofs.Qxb6608686a.MapKit Go.Proofs.Qxb6608686a.KeepA Go.Proofs.Qxb6608686a.KeepB
open Go.ChangeMaps (setBlock)

set_option linter.unusedVariables false
attribute [local go_sem ↓] Go.wp_at_zero Go.wp_at_succ

/-- The map variables, that of d turned to block r. -/
def vset (vm : Bool → Option Nat) (d : Bool) (r : Nat) (x : Bool) : Option Nat := if x = d then some r else vm x

/-- The state behind 'make': the new map's block lies in the variable. -/
theorem made_ks {w W : World} {gm p gb : Nat} {vm : Bool → Option Nat} {L : Bool → List (ByteArray × Nat)} {S sz f tk : Int} {s : ByteArray} {d : Bool} (h : Pre w gm p gb vm L S sz f tk s) (hb : Below w.heap.size w W) (hv : vm d = none) (r : Nat) (hr : W.heap.size = r) :
    KS ((W.alloc (.map #[] 0)).setCell ⟨gm, d.toNat, none⟩ (.map (some r))) gm (vset vm d r) L S ∧ SZ ((W.alloc (.map #[] 0)).setCell ⟨gm, d.toNat, none⟩ (.map (some r))) p sz ∧ Fr w ((W.alloc (.map #[] 0)).setCell ⟨gm, d.toNat, none⟩ (.map (some r))) gm p vm ∧
      ((W.alloc (.map #[] 0)).setCell ⟨gm, d.toNat, none⟩ (.map (some r))).heap[r]? = some (.map #[] 0) ∧ L d = [] := by
  subst hr
  have ha : Below W.heap.size W (W.alloc (.map #[] 0)) := (Below.refl _ _).alloc (Nat.le_refl _) _
  have hba : Below w.heap.size w (W.alloc (.map #[] 0)) := hb.trans (ha.mono hb.size)
  have hk := h.ks.below hba
  have hz := h.szp.below hba
  have hLd : L d = [] := by
    rcases h.ks.m d with ⟨_, h'⟩ | ⟨r, h', _⟩
    · exact h'
    · rw [hv] at h'; cases h'
  have hlt : gm < W.heap.size := Nat.lt_of_lt_of_le (World.block_lt_of_cell? w _ h.ks.f) hb.size
  have hnew : ((W.alloc (.map #[] 0)).setCell ⟨gm, d.toNat, none⟩ (.map (some W.heap.size))).heap[W.heap.size]? = some (.map #[] 0) := by
    rw [Below.heap_setCell _ _ _ _ (by show W.heap.size ≠ gm; omega)]; exact (MapKept.heap_alloc W _).1
  refine ⟨⟨?_, ?_, ?_, fun i => by rw [World.frozen?_setCell]; exact hk.fz i, fun x => ?_, fun r hr => ?_⟩, hz.setOther gm _ _ h.ne, (Fr.of_below hba).setCell gm _ _ (.inl rfl), hnew, hLd⟩
  · cases d
    · exact set_same hk.f
    · rw [set_other (by right; decide)]; exact hk.f
  · cases d
    · rw [set_other (by right; decide)]; exact hk.b
    · exact set_same hk.b
  · rw [set_other (by right; cases d <;> decide)]; exact hk.s
  · unfold vset
    by_cases hx : x = d
    · subst hx
      rw [if_pos rfl, hLd]
      exact .inr ⟨_, rfl, #[], 0, hnew, rfl⟩
    · rw [if_neg hx]
      exact (hk.m x).setCell _ _
  · unfold vset at hr ⊢
    have hold : ∀ x r', vm x = some r' → r' < W.heap.size := fun x r' hx => by
      rcases h.ks.m x with ⟨h', _⟩ | ⟨r'', h', hm⟩
      · rw [hx] at h'; cases h'
      · rw [hx] at h'; cases h'; exact Nat.lt_of_lt_of_le hm.lt hb.size
    cases d
    · simp at hr ⊢
      intro h'
      have := hold true r h'
      omega
    · simp at hr ⊢
      have := hold false r hr
      omega
theorem fr_trans {w W w' : World} {gm p r : Nat} {vm : Bool → Option Nat} {d : Bool} (h1 : Fr w W gm p vm) (h2 : Fr W w' gm p (vset vm d r)) (hr : w.heap.size ≤ r) : Fr w w' gm p vm :=
  ⟨h2.os.trans h1.os, h2.tape.trans h1.tape, h2.output.trans h1.output, Nat.le_trans h1.size h2.size, fun k hk a b c => (h2.block k (Nat.lt_of_lt_of_le hk h1.size) a b (fun x => by
    unfold vset
    split
    · intro e; cases e; omega
    · exact c x)).trans (h1.block k hk a b c)⟩

theorem world_eq {X : World} {g o : Nat} {v : Value} (h : g < X.heap.size) (A B : Obj) : ((X.setCell ⟨g, o, none⟩ v).alloc A).alloc B = ((X.alloc A).alloc B).setCell ⟨g, o, none⟩ v := by
  rw [World.setCell_alloc_past _ _ _ _ (by simp; omega), World.setCell_alloc_past _ _ _ _ h]
set_option maxRecDepth 4000 in
set_option maxHeartbeats 1000000 in
theorem keep_new_none (gm p gb : Nat) (vm : Bool → Option Nat) (L : Bool → List (ByteArray × Nat)) (S f tk : Int) (s : ByteArray) (d : Bool) (w : World) (hs : s.size ≤ 1048576) (H : Hid (Pre w gm p gb vm L S 0 f tk s))
    (f0 : 0 < f) (f1 : f ≤ 65536) (t0 : 0 ≤ tk) (t1 : tk ≤ 65536 - f) (S0 : 0 ≤ S) (S1 : S ≤ 65536) (hfit : S + (65536 - f - tk + (s.size + 256)) ≤ 65536)
    (hv : Hid (vm d = none)) :
    Calls Try.prog 33 #[.pointer (some ⟨gm, 0, none⟩), .agg #[.string s, .bool d], .pointer (some ⟨p, 0, none⟩), .pointer (some ⟨gb, 0, none⟩), .int .i64 tk] w fun e w' => e = .returned (.tuple #[]) ∧ ∃ r, w.heap.size ≤ r ∧ KS w' gm (vset vm d r) (fun x => if x = d then L d ++ [(s, p)] else L x) (S + (65536 - f - tk + (s.size + 256))) ∧ SZ w' p (65536 - f - tk + (s.size + 256)) ∧ Fr w w' gm p vm := by
  have c1 := H.out.ks.s
  have c2 := H.out.szp.1
  have c3 := H.out.hf
  have e1 := H.out.ks.fz 2
  have e2 := H.out.szp.2
  have e3 := H.out.ne
  have e4 := H.out.ks.fz d.toNat
  have lt1 : gm < w.heap.size := World.block_lt_of_cell? w _ c1
  have lt2 : p < w.heap.size := World.block_lt_of_cell? w _ c2
  have lt3 : gb < w.heap.size := World.block_lt_of_cell? w _ c3
  have c4 : w.cell? ⟨gm, d.toNat, none⟩ = some (.map none) := by
    have := H.out.ks
    have h := hv.out
    cases d
    · have t := this.f; rw [h] at t; exact t
    · have t := this.b; rw [h] at t; exact t
  have hdt : d.toNat < 2 := by cases d <;> decide
  have hnil := eql_nil
  have lt1a : gm < w.heap.size + 1 := by omega
  have lt1b : gm < w.heap.size + 1 + 1 := by omega
  have hmm := @run_makeMap Try.prog
  go_enter Try.func33, Try.ntmps33
  go_wp2_with (first | (go_at_call 39; refine (held_any gb f _ (by omega) f1 (by simp [go_sem, *])).mono ?_; rintro e w' ⟨rfl, q, rfl⟩) | (go_at_call 34; refine (of_any _ _ _ _).mono ?_; rintro e w' ⟨rfl, rfl⟩))
  have hb1 : Below w.heap.size w (((w.alloc (.cells #[.string s, .bool d] 83)).drewN q).alloc (.cells #[.string s, .bool d] 83)) := (below_drewN ((Below.refl w.heap.size w).alloc (Nat.le_refl _) _) q).alloc (by simp) _
  have hm1 := made_ks H.out hb1 hv.out (w.heap.size + 1 + 1) (by simp)
  have r1 : ((((w.alloc (.cells #[.string s, .bool d] 83)).drewN q).alloc (.cells #[.string s, .bool d] 83)).alloc (.map #[] 0)).cell? ⟨w.heap.size, 0, none⟩ = some (.string s) := by simp [go_sem]
  have weq := world_eq (X := (w.alloc (.cells #[.string s, .bool d] 83)).drewN q) (g := gm) (o := d.toNat) (v := .map (some (w.heap.size + 1 + 1))) (by simp; omega) (.cells #[.string s, .bool d] 83) (.map #[] 0)
  obtain ⟨W1, HW1⟩ : ∃ W1, ((((w.alloc (.cells #[.string s, .bool d] 83)).drewN q).alloc (.cells #[.string s, .bool d] 83)).alloc (.map #[] 0)).setCell ⟨gm, d.toNat, none⟩ (.map (some (w.heap.size + 1 + 1))) = W1 := ⟨_, rfl⟩
  have r1' : W1.cell? ⟨w.heap.size, 0, none⟩ = some (.string s) := by rw [← HW1, set_other (by left; omega)]; exact r1
  rw [weq, HW1]
  rw [HW1] at hm1
  obtain ⟨k1, k2, k3, hr, hL⟩ := hm1
  obtain ⟨R, HRR⟩ : ∃ R, w.heap.size + 1 + 1 = R := ⟨_, rfl⟩
  rw [HRR] at k1 hr ⊢
  have hRle : w.heap.size ≤ R := by omega
  have c4' : W1.cell? ⟨gm, d.toNat, none⟩ = some (.map (some R)) := by
    cases d
    · exact k1.f
    · exact k1.b
  have KP := hid k1
  have SP := hid k2
  have HR := hid hr
  have HL := hid hL
  have HK3 := hid k3
  clear HW1 weq r1 c1 c2 c3 c4 hb1 e1 e2 e4 hr hL k1 k2 k3 lt1a lt1b hnil hmm HRR
  go_region_with (go_at_call 40; refine (clone_any _ _ hs).mono ?_; rintro e w' ⟨rfl, hb'⟩; have hp := put_eq (L := []) (s := s) (Below.refl _ W1) HR.out rfl rfl p hb'; have c5 := cell_below hb' (show W1.drew.cell? ⟨gm, d.toNat, none⟩ = some (.map (some R)) from c4'); have HB' := hid hb'; clear hb')
  all_goals
    have hbw : Below W1.heap.size W1 w' := (Below.refl W1.heap.size W1).drew.trans (HB'.out)
    have hW := map_world (d := d) (pushed #[] 0 s p) KP.out SP.out HR.out (by simp [vset]) hbw (kmap_pushed (L := L d) (by rw [HL.out]; rfl) s p ((hbw.block R (Array.getElem?_eq_some_iff.1 HR.out).1).trans HR.out))
    obtain ⟨W2, HW2⟩ : ∃ W2, setBlock w' R (pushed #[] 0 s p) = W2 := ⟨_, rfl⟩
    rw [HW2] at hW ⊢
    obtain ⟨k1, k2, k3⟩ := hW
    have K1 := hid k1
    have K2 := hid k2
    have K3 := hid k3
    have c1 := k1.s
    have c2 := k2.1
    have e1' := k1.fz 2
    have e2' := k2.2
    clear k1 k2 k3 HW2 c4' c5 hp r1'
    go_wp2
    go_end0
    have hfin := fin_new K1.out K2.out K3.out e3 (S + (65536 - f - tk + (↑s.size + 256))) (65536 - f - tk + (↑s.size + 256))
    exact ⟨rfl, R, hRle, hfin.1, hfin.2.1, fr_trans HK3.out hfin.2.2 hRle⟩
end Go.Proofs.Qxb6608686a.KeepC
