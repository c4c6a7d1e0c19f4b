import Derived.Test.Qxb6608686aKeepC
namespace Go.Proofs.Qxb6608686a.KeepD
open Go.RowKit Go.Proofs.Qxb6608686a.Kit Go.Proofs.Qxb6608686a.MapKit Go.Proofs.Qxb6608686a.KeepA Go.Proofs.Qxb6608686a.KeepB Go.Proofs.Qxb6608686a.KeepC

set_option linter.unusedVariables false

set_option maxHeartbeats 400000 in
theorem newMatchers (w : World) : Calls Try.prog 22 #[] w fun e w' => e = .returned (.pointer (some ⟨w.heap.size, 0, none⟩)) ∧ w.alloc (.cells #[.map none, .map none, .int .i64 0] 72) = w' := by
  go_enter Try.func22, Try.ntmps22
  go_wp2
  go_ret
  exact ⟨rfl, rfl⟩
theorem ks_new (w : World) : KS (w.alloc (.cells #[.map none, .map none, .int .i64 0] 72)) w.heap.size (fun _ => none) (fun _ => []) 0 :=
  ⟨by simp, by simp, by simp, fun i => by simp, fun d => .inl ⟨rfl, rfl⟩, fun r h => by cases h⟩
set_option maxHeartbeats 400000 in
theorem newKept (w : World) : Calls Try.prog 23 #[] w fun e w' => e = .returned (.pointer (some ⟨w.heap.size, 0, none⟩)) ∧ Below w.heap.size w w' ∧ SZ w' w.heap.size 0 ∧ w'.heap.size = w.heap.size + 1 := by
  go_enter Try.func23, Try.ntmps23
  go_wp2
  go_ret
  exact ⟨rfl, (Below.refl _ _).alloc (Nat.le_refl _) _, ⟨by simp, by simp⟩, by simp⟩

section
variable {w : World} {gm p : Nat} {vm : Bool → Option Nat} {L : Bool → List (ByteArray × Nat)} {S sz : Int}

theorem zero38 (w : World) : (zeroValue 38).run Try.prog w = .ok (.pointer none) w := by kernel_rfl

/-- What a look-up in the map variable answers. -/
theorem look_mm {v : Option Nat} {l : List (ByteArray × Nat)} (h : MM w v l) (s : ByteArray) : (Instr.lookup 70 (.map v) (.string s) false).run Try.prog w = .ok (ans s l) w := by
  rcases h with ⟨rfl, rfl⟩ | ⟨r, rfl, hk⟩
  · exact run_look_nil Try.underlying70 Try.underlying9 (zero38 w) s
  · exact run_look Try.underlying70 Try.underlying9 hk (zero38 w) s
theorem len_mm {v : Option Nat} {l : List (ByteArray × Nat)} (h : MM w v l) (ty : TypeId) : (Builtin.len_ #[70] ty #[.map v]).run Try.prog w = .ok (goInt l.length) w := by
  rcases h with ⟨rfl, rfl⟩ | ⟨r, rfl, hk⟩
  · exact run_len_nil Try.underlying70 ty
  · exact run_len Try.underlying70 hk ty
theorem KS.at (h : KS w gm vm L S) (d : Bool) : w.cell? ⟨gm, d.toNat, none⟩ = some (.map (vm d)) := by
  cases d
  · exact h.f
  · exact h.b

set_option maxHeartbeats 400000 in
theorem keptAt (s : ByteArray) (d : Bool) (H : Hid (KS w gm vm L S)) :
    Calls Try.prog 25 #[.pointer (some ⟨gm, 0, none⟩), .string s, .bool d] w fun e w' => e = .returned (ans s (L d)) ∧ Below w.heap.size w w' := by
  have c1 := KS.at H.out d
  have lt1 : gm < w.heap.size := World.block_lt_of_cell? w _ c1
  have hb : Below w.heap.size w (w.alloc (.cells #[.string s, .bool d] 83)) := (Below.refl _ _).alloc (Nat.le_refl _) _
  have hl := look_mm ((H.out.m d).below hb) s
  obtain ⟨v, HV⟩ : ∃ v, Hid (ans s (L d) = v) := ⟨_, hid rfl⟩
  rw [HV.out] at hl
  clear hb
  go_enter Try.func25, Try.ntmps25
  go_wp2_with (go_at_call 34; refine (of_any _ _ _ _).mono ?_; rintro e w' ⟨rfl, rfl⟩)
  go_ret
  exact ⟨by rw [HV.out]; rfl, (Below.refl _ _).alloc (Nat.le_refl _) _⟩

set_option maxHeartbeats 400000 in
theorem keptSize (sz : Int) (H : Hid (SZ w p sz)) : Calls Try.prog 26 #[.pointer (some ⟨p, 0, none⟩)] w fun e w' => e = .returned (.int .i64 sz) ∧ w = w' := by
  have c1 := H.out.1
  go_enter Try.func26, Try.ntmps26
  go_wp2
  go_ret
  exact ⟨rfl, rfl⟩

set_option maxHeartbeats 400000 in
theorem msSize (H : Hid (KS w gm vm L S)) : Calls Try.prog 27 #[.pointer (some ⟨gm, 0, none⟩)] w fun e w' => e = .returned (.int .i64 S) ∧ w = w' := by
  have c1 := H.out.s
  go_enter Try.func27, Try.ntmps27
  go_wp2
  go_ret
  exact ⟨rfl, rfl⟩

set_option maxHeartbeats 400000 in
theorem count (d : Bool) (H : Hid (KS w gm vm L S)) :
    Calls Try.prog 28 #[.pointer (some ⟨gm, 0, none⟩), .bool d] w fun e w' => e = .returned (.int .i64 (L d).length) ∧ Below w.heap.size w w' := by
  have c1 := KS.at H.out d
  have lt1 : gm < w.heap.size := World.block_lt_of_cell? w _ c1
  have hb : Below w.heap.size w (w.alloc (.cells #[.string ⟨#[]⟩, .bool d] 83)) := (Below.refl _ _).alloc (Nat.le_refl _) _
  have hl := fun ty => len_mm ((H.out.m d).below hb) ty
  clear hb
  go_enter Try.func28, Try.ntmps28
  go_wp2_with (go_at_call 34; refine (of_any _ _ _ _).mono ?_; rintro e w' ⟨rfl, rfl⟩)
  go_ret
  exact ⟨rfl, (Below.refl _ _).alloc (Nat.le_refl _) _⟩
end

/-- The world in which 'keep' is called: the bound's box laid. -/
theorem pre_at {w : World} {gm p : Nat} {vm : Bool → Option Nat} {L : Bool → List (ByteArray × Nat)} {S sz : Int} (h1 : KS w gm vm L S) (h2 : SZ w p sz) (hne : gm ≠ p) (C : Array Value) (f tk : Int) (s : ByteArray) (hC : C[4]? = some (.int .i64 f)) :
    Pre (w.alloc (.cells C 85)) gm p w.heap.size vm L S sz f tk s := by
  have hb : Below w.heap.size w (w.alloc (.cells C 85)) := (Below.refl _ _).alloc (Nat.le_refl _) _
  exact ⟨h1.below hb, h2.below hb, by rw [World.cell?_alloc_new]; exact hC, hne⟩
theorem fr_at {w w' : World} {o : Obj} {gm p : Nat} {vm : Bool → Option Nat} (h : Fr (w.alloc o) w' gm p vm) : Fr w w' gm p vm :=
  ⟨h.os, h.tape, h.output, Nat.le_trans (by simp) h.size, fun k hk a b c => (h.block k (by simp; omega) a b c).trans (Below.heap_alloc _ _ _ hk)⟩

set_option maxHeartbeats 400000 in
theorem zz_none (gm p : Nat) (vm : Bool → Option Nat) (L : Bool → List (ByteArray × Nat)) (S f tk : Int) (s : ByteArray) (d : Bool) (w : World) (hs : s.size ≤ 1048576) (H1 : Hid (KS w gm vm L S)) (H2 : Hid (SZ w p 0)) (hne : Hid (gm ≠ p))
    (f0 : 0 ≤ f) (f1 : f ≤ 65536) (t0 : 0 ≤ tk) (t1 : tk ≤ 65536 - f) (S0 : 0 ≤ S) (S1 : S ≤ 65536) (hfit : f ≤ 0 ∨ (0 < f ∧ 65536 < S + (65536 - f - tk + (s.size + 256)))) :
    Calls Try.prog 24 #[.pointer (some ⟨gm, 0, none⟩), .string s, .bool d, .pointer (some ⟨p, 0, none⟩), .int .i64 f, .int .i64 tk] w fun e w' => e = .returned (.tuple #[]) ∧ Below w.heap.size w w' := by
  have HP := hid (pre_at H1.out H2.out hne.out #[.int .i64 0, .int .i64 0, .bool false, .int .i64 0, .int .i64 f, .bool false] f tk s rfl)
  go_enter Try.func24, Try.ntmps24
  go_wp2_with fail
  refine (keep_none gm p _ vm L S f tk s d _ hs HP f0 f1 t0 t1 S0 S1 hfit).mono ?_
  rintro e w' ⟨rfl, hb⟩
  have hb' := ((Below.refl w.heap.size w).alloc (Nat.le_refl _) _).trans (hb.mono (by simp))
  clear hb
  go_wp2
  go_end0
  exact ⟨rfl, hb'⟩

set_option maxHeartbeats 400000 in
theorem zz_more (gm p : Nat) (vm : Bool → Option Nat) (L : Bool → List (ByteArray × Nat)) (S sz f tk : Int) (s : ByteArray) (d : Bool) (w : World) (hs : s.size ≤ 1048576) (H1 : Hid (KS w gm vm L S)) (H2 : Hid (SZ w p sz)) (hne : Hid (gm ≠ p))
    (f0 : 0 < f) (f1 : f ≤ 65536) (t0 : 0 ≤ tk) (t1 : tk ≤ 65536 - f) (S0 : 0 ≤ S) (S1 : S ≤ 65536) (z0 : 0 < sz) (z1 : sz ≤ 65536) (hfit : S + (65536 - f - tk) ≤ 65536) :
    Calls Try.prog 24 #[.pointer (some ⟨gm, 0, none⟩), .string s, .bool d, .pointer (some ⟨p, 0, none⟩), .int .i64 f, .int .i64 tk] w fun e w' => e = .returned (.tuple #[]) ∧ KS w' gm vm L (S + (65536 - f - tk)) ∧ SZ w' p (sz + (65536 - f - tk)) ∧ Fr w w' gm p vm := by
  have HP := hid (pre_at H1.out H2.out hne.out #[.int .i64 0, .int .i64 0, .bool false, .int .i64 0, .int .i64 f, .bool false] f tk s rfl)
  go_enter Try.func24, Try.ntmps24
  go_wp2_with fail
  refine (keep_more gm p _ vm L S sz f tk s d _ hs HP f0 f1 t0 t1 S0 S1 z0 z1 hfit).mono ?_
  rintro e w' ⟨rfl, k1, k2, k3⟩
  have K := hid (And.intro k1 (And.intro k2 (fr_at k3)))
  clear k1 k2 k3
  go_wp2
  go_end0
  exact ⟨rfl, K.out⟩

set_option maxHeartbeats 400000 in
theorem zz_drop (gm p r : Nat) (vm : Bool → Option Nat) (L : Bool → List (ByteArray × Nat)) (S sz f tk : Int) (s : ByteArray) (d : Bool) (i p' : Nat) (w : World) (hs : s.size ≤ 1048576) (H1 : Hid (KS w gm vm L S)) (H2 : Hid (SZ w p sz)) (hne : Hid (gm ≠ p))
    (f0 : 0 ≤ f) (f1 : f ≤ 65536) (t0 : 0 ≤ tk) (t1 : tk ≤ 65536 - f) (S0 : 0 ≤ S) (S1 : S ≤ 65536) (z0 : 0 < sz) (z1 : sz ≤ 65536) (hfit : f ≤ 0 ∨ (0 < f ∧ 65536 < S + (65536 - f - tk)))
    (hv : Hid (vm d = some r)) (hold : Hid (MapKit.look s (L d) 0 = some (i, p'))) :
    Calls Try.prog 24 #[.pointer (some ⟨gm, 0, none⟩), .string s, .bool d, .pointer (some ⟨p, 0, none⟩), .int .i64 f, .int .i64 tk] w fun e w' => e = .returned (.tuple #[]) ∧ KS w' gm vm (fun x => if x = d then (L d).eraseIdx i else L x) (S - sz) ∧ SZ w' p sz ∧ Fr w w' gm p vm := by
  have HP := hid (pre_at H1.out H2.out hne.out #[.int .i64 0, .int .i64 0, .bool false, .int .i64 0, .int .i64 f, .bool false] f tk s rfl)
  go_enter Try.func24, Try.ntmps24
  go_wp2_with fail
  refine (keep_drop gm p _ r vm L S sz f tk s d i p' _ hs HP f0 f1 t0 t1 S0 S1 z0 z1 hfit hv hold).mono ?_
  rintro e w' ⟨rfl, k1, k2, k3⟩
  have K := hid (And.intro k1 (And.intro k2 (fr_at k3)))
  clear k1 k2 k3
  go_wp2
  go_end0
  exact ⟨rfl, K.out⟩

set_option maxHeartbeats 400000 in
theorem zz_new (gm p : Nat) (vm : Bool → Option Nat) (L : Bool → List (ByteArray × Nat)) (S f tk : Int) (s : ByteArray) (d : Bool) (w : World) (hs : s.size ≤ 1048576) (H1 : Hid (KS w gm vm L S)) (H2 : Hid (SZ w p 0)) (hne : Hid (gm ≠ p))
    (f0 : 0 < f) (f1 : f ≤ 65536) (t0 : 0 ≤ tk) (t1 : tk ≤ 65536 - f) (S0 : 0 ≤ S) (S1 : S ≤ 65536) (hfit : S + (65536 - f - tk + (s.size + 256)) ≤ 65536) (hnew : Hid (MapKit.look s (L d) 0 = none)) :
    Calls Try.prog 24 #[.pointer (some ⟨gm, 0, none⟩), .string s, .bool d, .pointer (some ⟨p, 0, none⟩), .int .i64 f, .int .i64 tk] w fun e w' => e = .returned (.tuple #[]) ∧ ∃ vm', KS w' gm vm' (fun x => if x = d then L d ++ [(s, p)] else L x) (S + (65536 - f - tk + (s.size + 256))) ∧ SZ w' p (65536 - f - tk + (s.size + 256)) ∧ Fr w w' gm p vm ∧ ∀ x r, vm' x = some r → vm x = some r ∨ w.heap.size ≤ r := by
  have HP := hid (pre_at H1.out H2.out hne.out #[.int .i64 0, .int .i64 0, .bool false, .int .i64 0, .int .i64 f, .bool false] f tk s rfl)
  cases hv : vm d with
  | none =>
    have HV := hid hv
    clear hv
    go_enter Try.func24, Try.ntmps24
    go_wp2_with fail
    refine (keep_new_none gm p _ vm L S f tk s d _ hs HP f0 f1 t0 t1 S0 S1 hfit HV).mono ?_
    rintro e w' ⟨rfl, r, hr, k1, k2, k3⟩
    have K := hid (And.intro k1 (And.intro k2 (fr_at k3)))
    have hr' : w.heap.size ≤ r := by simp at hr; omega
    clear k1 k2 k3 hr
    go_wp2
    go_end0
    refine ⟨rfl, vset vm d r, K.out.1, K.out.2.1, K.out.2.2, fun x r' hx => ?_⟩
    unfold vset at hx
    split at hx
    · cases hx; exact .inr hr'
    · exact .inl hx
  | some r =>
    have HV := hid hv
    clear hv
    go_enter Try.func24, Try.ntmps24
    go_wp2_with fail
    refine (keep_new_some gm p _ r vm L S f tk s d _ hs HP f0 f1 t0 t1 S0 S1 hfit HV hnew).mono ?_
    rintro e w' ⟨rfl, k1, k2, k3⟩
    have K := hid (And.intro k1 (And.intro k2 (fr_at k3)))
    clear k1 k2 k3
    go_wp2
    go_end0
    exact ⟨rfl, vm, K.out.1, K.out.2.1, K.out.2.2, fun x r hx => .inl hx⟩
end Go.Proofs.Qxb6608686a.KeepD
