import Derived.Test.Qxb6608686aDoorOpen
import Derived.Test.Qxb6608686aDoorCards
import Derived.Test.Qxb6608686aDoorTie
import Derived.SevenTiedAt
namespace Go.Proofs.Qxb6608686aDoor.Proof
open Go.ChangeShapes Go.WideShapes Go.ChangeAt Go.WideMaps Go.WideElems Go.RowKit Go.Deep Go.Joins
open Go.Proofs.Qxb6608686aDoor.Kit Go.Proofs.Qxb6608686aDoor.Parts Go.Proofs.Qxb6608686aDoor.Main Go.Proofs.Qxb6608686aDoor.Open

/-- WHAT THE WALK IS TOLD OF THE SLICE OF BLOCKS: it is empty; or it leads to a row of blocks. -/
def IsBlks (w : World) (a : Option Addr) (n : Nat) : Prop := n ≤ 9223372036854775807 ∧ (n = 0 ∨ ∃ (b off : Nat) (B : Nat → Blk), a = some ⟨b, off, none⟩ ∧ ∀ i, i < n → w.rangeAt b (off + i * 6) (B i).cells)

theorem walk_any (hs : Bool) (a : Option Addr) (n cap : Nat) (p : Int) (nb : Blk) (w : World) (hb : IsBlks w a n) (hkw : KwLaid w) :
    Calls Tryd.prog 3 #[.bool hs, .slice a n cap, .int .i64 p, .agg nb.cells.toArray] w fun e w' => e = .returned (.bool true) ∧ Below w.heap.size w w' := by
  obtain ⟨hl, hb⟩ := hb
  obtain ⟨nl, nc, nk, m1, m2, m3⟩ := nb
  by_cases hc : n ≤ 4096 ∧ 0 ≤ p ∧ p ≤ n ∧ Blk.okB ⟨nl, nc, nk, m1, m2, m3⟩ = true
  · obtain ⟨h1, h2, h3, h4⟩ := hc
    obtain ⟨q, rfl⟩ : ∃ q : Nat, p = (q : Int) := ⟨p.toNat, by omega⟩
    rcases hb with rfl | ⟨b, off, B, rfl, hc⟩
    · obtain rfl : q = 0 := by omega
      exact walk_zero hs a cap nl nc nk m1 m2 m3 w h4 hkw
    · rcases Nat.eq_zero_or_pos n with rfl | hn
      · obtain rfl : q = 0 := by omega
        exact walk_zero hs _ cap nl nc nk m1 m2 m3 w h4 hkw
      · exact walk_pos hs b off n cap q B nl nc nk m1 m2 m3 w hn h1 (by omega) h4 hc hkw
  · refine walk_out hs a n cap p nl nc nk m1 m2 m3 w hl ?_
    by_cases h1 : n ≤ 4096
    · right
      refine ⟨h1, ?_⟩
      by_cases h2 : 0 ≤ p
      · right
        by_cases h3 : p ≤ n
        · right
          refine ⟨h2, h3, ?_⟩
          cases h4 : Blk.okB ⟨nl, nc, nk, m1, m2, m3⟩ with
          | false => rfl
          | true => exact absurd ⟨h1, h2, h3, h4⟩ hc
        · left; exact ⟨h2, by omega⟩
      · left; omega
    · left; omega

theorem isBlks_of {H : Type} {enc : TypeId × Value → H} {w : World} {base : Nat} {spare : Nat → Bool} {held : Bool} {fuel : Nat} {a : Option Addr} {n cap : Nat} {x : DataW H × List MemPlace} (h : DataW.trod enc Tryd.prog w base spare held fuel 22 [.slice a n cap] = some x) : IsBlks w a n := by
  rcases open_slice Tryd.underlying22 h with ⟨hcs, _⟩ | ⟨ad, len, cap', m, k, D, Pl, hcs, hb, hl, hm, hmm, _, hx⟩
  · simp at hcs
    obtain ⟨_, rfl, _⟩ := hcs
    exact ⟨by omega, .inl rfl⟩
  · simp only [List.cons.injEq, Value.slice.injEq, and_true] at hcs
    obtain ⟨rfl, rfl, rfl⟩ := hcs
    unfold maxLen at hm
    refine ⟨by omega, ?_⟩
    rcases Nat.eq_zero_or_pos n with rfl | hn
    · exact .inl rfl
    right
    have hlm : n ≤ m := by rw [hmm]; split <;> omega
    rw [c24] at hx
    haveI : Inhabited Blk := ⟨⟨0, 0, 0, false, false, false⟩⟩
    obtain ⟨B, hB⟩ := choose_lt (α := Blk) (p := fun i b => ∀ j v, b.cells[j]? = some v → w.cell? (ad.add (i * 6 + j)) = some v) (n := n) (fun i hi => by
      obtain ⟨cs', h1, h2⟩ := hx i (by omega)
      obtain ⟨b, rfl⟩ := trod_blk h2
      obtain ⟨_, hlen, hcell⟩ := World.cells?_some h1
      exact ⟨b, fun j v hv => by
        have hj : j < 6 := by have := (List.getElem?_eq_some_iff.1 hv).1; rw [Blk.len] at this; exact this
        rw [← add_add, hcell j hj]; exact hv⟩)
    obtain ⟨b, off, spot⟩ := ad
    have h0 := hB 0 hn 0 _ rfl
    have hspot : spot = none := by simpa [Addr.add] using World.cell?_spot h0
    subst hspot
    refine ⟨b, off, B, rfl, fun i hi j v hv => ?_⟩
    have := hB i hi j v hv
    rw [Addr.add_lit] at this
    rw [Nat.add_assoc]; exact this

set_option maxRecDepth 100000 in
theorem lifted (os : Os) (started : os.Started) (H : Type) (enc : TypeId × Value → H) :
    ReturnsInHanded {} Tryd.checked os 3 .any (fun w args => (Rows.fnUnclosedReportsOutermostSpec.pre enc Tryd.prog Tryd.f3 [] false w args ∧ laidMetH Tryd.prog Rows.fnUnclosedReportsOutermostRow.laid w) ∧ sizedMet enc Tryd.prog Tryd.f3 (OpenSpec.ofChange Rows.fnUnclosedReportsOutermostSpec) false w args)
      (Rows.fnUnclosedReportsOutermostSpec.post enc Tryd.prog Tryd.f3 false true false false) := by
  refine returnsInHanded_of_change_and (C := Tryd.checked) (X := fun w _ => laidMetH Tryd.prog Rows.fnUnclosedReportsOutermostRow.laid w) (fun _ _ _ hh h => h.of_heap hh) own started (by kernel_rfl) Tryd.func3
    (ChangeSpec.witness_shaped (enc := enc) (C := Tryd.checked) (os := os) (X := fun w _ => laidMetH Tryd.prog Rows.fnUnclosedReportsOutermostRow.laid w) false (World.doorLaid Tryd.prog 400 os) #[.bool false, .slice none 0 0, .int .i64 0, .agg #[.int .i64 0, .int .i64 0, .int .u8 0, .bool false, .bool false, .bool false]] 8 rfl (World.shaped_of_RefB (by kernel_rfl) (by kernel_rfl)) (by kernel_rfl) (by kernel_rfl) (by kernel_rfl) (door_met os _)) ?_
  intro W base args ds gs before hval0 hW _ _ hL _
  have hval : ∀ (j : Nat) t v, Tryd.f3.params[j]? = some t → args[j]? = some v → Value.okWide Tryd.prog W .any base t v := hval0
  have hW' := hW
  obtain ⟨p, q, hA0, hV0, rfl, hfz, hnd⟩ := hW
  have hA : DataW.TrodAll enc Tryd.prog W 0 (fun _ => true) true Tryd.f3.params.toList args.toList ds p := hA0
  have hV : DataW.TrodVars enc Tryd.prog W (fun _ => true) [kwName] gs q := hV0
  rw [Tryd.params3] at hA hval
  obtain ⟨v0, v1, v2, v3, d0, d1, d2, d3, p0, p1, p2, p3, rfl, rfl, rfl, h0, h1, h2, h3⟩ := trodAll_four hA
  obtain ⟨g, t, cs, fuel, d, p', rfl, hg, ht, hvar, hd, rfl⟩ := trodVars_one hV
  obtain rfl := Option.some.inj (gKw.symm.trans hg)
  obtain rfl := Option.some.inj (tKw.symm.trans ht)
  obtain ⟨b0, rfl, rfl, rfl⟩ := open_bool Tryd.underlying4 (hval 0 4 v0 rfl rfl) h0
  obtain ⟨a1, len1, cap1, rfl⟩ := okWide_slice Tryd.underlying22 (hval 1 22 v1 rfl rfl)
  obtain ⟨i2, rfl, rfl, rfl, w2⟩ := open_int Tryd.underlying3 (hval 2 3 v2 rfl rfl) h2
  obtain ⟨c3, rfl, hsz3⟩ := okWide_struct Tryd.underlying24 (hval 3 24 v3 rfl rfl)
  have hbl : IsBlks W a1 len1 := by
    obtain ⟨f, hf⟩ := h1
    exact isBlks_of (by simpa [Value.cells] using hf)
  obtain ⟨nb, hnb⟩ : ∃ nb : Blk, c3 = nb.cells.toArray := by
    obtain ⟨f, hf⟩ := h3
    obtain ⟨nb, hnb⟩ := trod_blk (by simpa [Value.cells] using hf)
    exact ⟨nb, by rw [← hnb]⟩
  subst hnb
  have lt1 : ∀ x ∈ p1, x.block < W.heap.size := by obtain ⟨m, hm⟩ := h1; exact DataW.trod_lt m _ _ _ hm
  have lt3 : ∀ x ∈ p3, x.block < W.heap.size := by obtain ⟨m, hm⟩ := h3; exact DataW.trod_lt m _ _ _ hm
  have ltv : ∀ x ∈ p', x.block < W.heap.size := DataW.trod_lt _ _ _ _ hd
  have hkw := of_laid hL
  have h0lt : 0 < W.heap.size := World.block_lt_of_cell? W _ (hkw 1 (by omega) (by omega))
  clear hA0 hV0 hval0
  refine (walk_any b0 a1 len1 cap1 i2 nb W hbl hkw).mono fun e W' ⟨he, bel⟩ => ?_
  subst he
  obtain ⟨fuel', hd'⟩ := Below.trod laidOut (by kernel_rfl) (of_decide_eq_true (by kernel_rfl)) (v := .agg cs) (⟨fuel, by simpa [Value.cells] using hd⟩ : DataW.Trod enc Tryd.prog W 0 (fun _ => true) true 80 (.agg cs) d p') bel ltv
  have hv' := trodVars_mk1 (enc := enc) (spare := fun b => decide (b < W.heap.size)) hg ht (var?_below bel hg h0lt hvar) (by simpa [Value.cells] using hd')
  have hargs := trodAll_mk4 (shut_bool Tryd.underlying4 b0) (Below.trod laidOut (by kernel_rfl) (of_decide_eq_true (by kernel_rfl)) h1 bel lt1) (shut_int Tryd.underlying3 w2) (Below.trod laidOut (by kernel_rfl) (of_decide_eq_true (by kernel_rfl)) h3 bel lt3)
  exact ⟨_, rfl, _, _, _, [], _, (MemPlace.row ⟨0, 0, none⟩ cs.size ++ p'), hW', trodAll_mk1 (shut_bool Tryd.underlying4 _), hargs, hv', bel.frame _, fun h => by cases h⟩

theorem row_holds : Rows.FnUnclosedReportsOutermostSaid :=
  OpenClaim.holds_of_wide 3 Tryd.f3 rfl rfl rfl rfl rfl rfl rfl ⟨rfl, rfl, rfl, rfl, rfl⟩ rfl rfl rfl rfl rfl (by kernel_rfl) Tryd.func3 (by kernel_rfl)
    (of_decide_eq_true (by kernel_rfl)) (by unfold Func.isWrapper; first | (rw [if_pos (by decide +kernel)]; kernel_rfl) | (rw [if_neg (by decide +kernel)]; exact ⟨rfl, rfl⟩))
    (fun os started H enc _ => lifted os started H enc)

/-- ████ THE STATEMENT: the tied card ████ -/
theorem proved : Rows.FnUnclosedReportsOutermostCardSaid :=
  Claim7.holds_tied_plain_at .later [] [.widerDeep] true (true, "1988a5afedbecf03dc1a587858fc48ed04adfc5def149f9119bf92c88f4ac0d9") true
    row_holds (fun _ h => by cases h) (by kernel_rfl) (fun _ h => by cases h) fnUnclosedReportsOutermost_row_tie rfl ⟨rfl, rfl⟩ (by kernel_rfl) rfl
    (fun f fn hf hfn => by
      obtain rfl : f = 3 := Option.some.inj ((show Tryd.prog.funcNamed Rows.fnUnclosedReportsOutermostRow.func = some 3 by kernel_rfl).symm.trans hf) |>.symm
      obtain rfl : fn = Tryd.f3 := (Option.some.inj (Tryd.func3.symm.trans hfn)).symm
      exact ⟨by kernel_rfl, fun j t ht => by
        rw [Tryd.params3] at ht
        have h3 : t = 4 ∨ t = 22 ∨ t = 3 ∨ t = 24 := by
          rcases j with _ | _ | _ | _ | j
          · left; simpa using ht.symm
          · right; left; simpa using ht.symm
          · right; right; left; simpa using ht.symm
          · right; right; right; simpa using ht.symm
          · simp at ht
        rcases h3 with rfl | rfl | rfl | rfl
        · exact (show Tryd.prog.wantsStandIn 4 = false by kernel_rfl)
        · exact (show Tryd.prog.wantsStandIn 22 = false by kernel_rfl)
        · exact (show Tryd.prog.wantsStandIn 3 = false by kernel_rfl)
        · exact (show Tryd.prog.wantsStandIn 24 = false by kernel_rfl)⟩)
    (by kernel_rfl)
#print axioms proved
end Go.Proofs.Qxb6608686aDoor.Proof
