import Derived.Test.Qxb6608686aKeepD
import Derived.LaidEqlPtr
namespace Go.Proofs.Qxb6608686a.KeepMain
open Go.RowKit Go.Proofs.Qxb6608686a.Kit Go.Proofs.Qxb6608686a.MapKit Go.Proofs.Qxb6608686a.KeepA Go.Proofs.Qxb6608686a.KeepB Go.Proofs.Qxb6608686a.KeepC Go.Proofs.Qxb6608686a.KeepD

set_option linter.unusedVariables false

section
variable {w w' : World} {gm p : Nat} {vm : Bool → Option Nat} {L : Bool → List (ByteArray × Nat)} {S sz : Int}
theorem keptAt_to (s : ByteArray) (d : Bool) (v : Value) (H : Hid (KS w gm vm L S)) (hv : Hid (ans s (L d) = v)) :
    Calls Try.prog 25 #[.pointer (some ⟨gm, 0, none⟩), .string s, .bool d] w fun e w' => e = .returned v ∧ Below w.heap.size w w' := by
  have := keptAt s d H
  rw [hv.out] at this
  exact this
theorem count_to (d : Bool) (n : Nat) (H : Hid (KS w gm vm L S)) (hn : Hid ((L d).length = n)) :
    Calls Try.prog 28 #[.pointer (some ⟨gm, 0, none⟩), .bool d] w fun e w' => e = .returned (.int .i64 n) ∧ Below w.heap.size w w' := by
  have := count d H
  rw [hn.out] at this
  exact this
theorem ks_next (h : Hid (KS w gm vm L S)) (hb : Below w.heap.size w w') : Hid (KS w' gm vm L S) := KS.below h hb
theorem sz_next (h : Hid (SZ w p sz)) (hb : Below w.heap.size w w') : Hid (SZ w' p sz) := SZ.below h hb
theorem bl_next {W : World} {B : Nat} (h : Hid (Below B W w)) (hb : Below w.heap.size w w') (hB : B ≤ W.heap.size) : Hid (Below B W w') := Below.trans h (hb.mono (Nat.le_trans hB (Below.size h)))
theorem bl_fr {W : World} {B : Nat} (h : Hid (Below B W w)) (hf : Fr w w' gm p vm) (hB : B ≤ W.heap.size) (h1 : B ≤ gm) (h2 : B ≤ p) (h3 : ∀ x r, vm x = some r → B ≤ r) : Hid (Below B W w') :=
  Below.trans h ⟨hf.os, hf.tape, hf.output, hf.size, fun k hk => hf.block k (Nat.lt_of_lt_of_le hk (Nat.le_trans hB (Below.size h))) (by omega) (by omega) (fun x e => by have := h3 x k e; omega)⟩
end

set_option maxHeartbeats 400000 in
theorem bytes21 (s : ByteArray) (d : Bool) (f tk : Int) (w : World) (hn : s.size ≤ 65536) : Calls Try.prog 21 #[.string s, .bool d, .int .i64 f, .int .i64 tk] w fun e w' => e = .returned (.bool true) ∧ w = w' := by
  go_enter Try.func21, Try.ntmps21
  go_wp2
  go_ret
  exact ⟨rfl, rfl⟩

set_option maxRecDepth 4000 in
set_option maxHeartbeats 2000000 in
theorem walk_not (s : ByteArray) (d : Bool) (f tk : Int) (w : World) (hs : s.size ≤ 65536) (f0 : 0 ≤ f) (f1 : f ≤ 65536) (t0 : 0 ≤ tk) (t1 : tk ≤ 65536 - f) (hfit : f ≤ 0 ∨ (0 < f ∧ 65536 < 0 + (65536 - f - tk + (s.size + 256)))) :
    Calls Try.prog 7 #[.string s, .bool d, .int .i64 f, .int .i64 tk] w fun e w' => e = .returned (.bool true) ∧ Below w.heap.size w w' := by
  have HA : Hid (ans s ((fun _ => [] : Bool → List (ByteArray × Nat)) d) = .pointer none) := hid rfl
  have HC : Hid (((fun _ => [] : Bool → List (ByteArray × Nat)) false).length = 0) := hid rfl
  have HD : Hid (((fun _ => [] : Bool → List (ByteArray × Nat)) true).length = 0) := hid rfl
  have HF := hid hfit
  clear hfit
  go_enter Try.func7, Try.ntmps7
  go_wp2_with (first
      | (go_at_call 21; refine (bytes21 _ _ _ _ _ hs).mono ?_; rintro e w' ⟨rfl, rfl⟩)
      | (go_at_call 22; refine (newMatchers _).mono ?_; rintro e w' ⟨rfl, rfl⟩; have HK := hid (ks_new w)))
  refine (newKept _).mono ?_
  rintro e w1 ⟨rfl, hb1, hz1, hs1⟩
  have HK1 := ks_next HK hb1
  have HZ1 : Hid (SZ w1 (w.heap.size + 1) 0) := hid (by simpa using hz1)
  have HB1 : Hid (Below w.heap.size w w1) := hid (((Below.refl w.heap.size w).alloc (Nat.le_refl _) _).trans (hb1.mono (by simp)))
  clear HK hb1 hz1 hs1
  go_wp2_with fail
  refine (zz_none w.heap.size (w.heap.size + 1) _ _ 0 f tk s d w1 (by omega) HK1 HZ1 (hid (by simp)) f0 f1 t0 t1 (by omega) (by omega) HF.out).mono ?_
  rintro e w2 ⟨rfl, hb2⟩
  have HK2 := ks_next HK1 hb2
  have HZ2 := sz_next HZ1 hb2
  have HB2 := bl_next HB1 hb2 (Nat.le_refl _)
  clear HK1 HZ1 HB1 hb2
  rcases HF.out with hfit | ⟨hf, hfit⟩
  · go_wp2_with fail
    refine (keptAt_to s d _ HK2 HA).mono ?_
    rintro e w3 ⟨rfl, hb⟩
    have HK3 := ks_next HK2 hb
    have HZ3 := sz_next HZ2 hb
    have HB3 := bl_next HB2 hb (Nat.le_refl _)
    clear hb
    go_wp2_with (first
      | (go_at_call 26; refine (keptSize 0 HZ3).mono ?_; rintro e w' ⟨rfl, rfl⟩)
      | (go_at_call 27; refine (msSize HK3).mono ?_; rintro e w' ⟨rfl, rfl⟩))
    refine (count_to false 0 HK3 HC).mono ?_
    rintro e w4 ⟨rfl, hb⟩
    have HK4 := ks_next HK3 hb
    have HB4 := bl_next HB3 hb (Nat.le_refl _)
    clear hb
    go_wp2_with fail
    refine (count_to true 0 HK4 HD).mono ?_
    rintro e w5 ⟨rfl, hb⟩
    have HB5 := bl_next HB4 hb (Nat.le_refl _)
    clear hb
    go_wp2
    go_ret
    exact ⟨rfl, HB5.out⟩
  · have ht : ¬ (65536 - f - tk + (s.size : Int) + 256 ≤ 65536) := by omega
    go_wp2_with fail
    rotate_left 1
    · exfalso; simp only [Bool.not_eq_false', decide_eq_true_eq] at *; omega
    refine (keptAt_to s d _ HK2 HA).mono ?_
    rintro e w3 ⟨rfl, hb⟩
    have HK3 := ks_next HK2 hb
    have HZ3 := sz_next HZ2 hb
    have HB3 := bl_next HB2 hb (Nat.le_refl _)
    clear hb
    go_wp2_with (first
      | (go_at_call 26; refine (keptSize 0 HZ3).mono ?_; rintro e w' ⟨rfl, rfl⟩)
      | (go_at_call 27; refine (msSize HK3).mono ?_; rintro e w' ⟨rfl, rfl⟩))
    refine (count_to false 0 HK3 HC).mono ?_
    rintro e w4 ⟨rfl, hb⟩
    have HK4 := ks_next HK3 hb
    have HB4 := bl_next HB3 hb (Nat.le_refl _)
    clear hb
    go_wp2_with fail
    refine (count_to true 0 HK4 HD).mono ?_
    rintro e w5 ⟨rfl, hb⟩
    have HB5 := bl_next HB4 hb (Nat.le_refl _)
    clear hb
    go_wp2
    go_ret
    exact ⟨rfl, HB5.out⟩

theorem look_one (s : ByteArray) (p : Nat) : MapKit.look s [(s, p)] 0 = some (0, p) := by simp [MapKit.look]
theorem ans_one (s : ByteArray) (p : Nat) : ans s [(s, p)] = .pointer (some ⟨p, 0, none⟩) := by simp [ans, look_one]
theorem info80 : ∃ j, Try.prog.info? 80 = some j := Option.isSome_iff_exists.1 (by kernel_rfl)
theorem neq38 (w : World) (a : Addr) : (binOp .neq 38 (.pointer (some a)) (.pointer (some a))).run Try.prog w = .ok (.bool false) w := by
  obtain ⟨j, hj⟩ := info80
  have h : ∀ d : Nat, (Op.equalIn (d + 1) 38 (.pointer (some a)) (.pointer (some a))).run Try.prog w = .ok true w := fun d => by
    simp [Op.equalIn, run_underlying Try.underlying38, sizeOf, typeInfo, hj, run_sameAddr_same]
  simp only [binOp]
  simp [Op.equal, Op.maxDepth, h 9999]
theorem mm_some {w : World} {v : Option Nat} {l : List (ByteArray × Nat)} (h : MM w v l) (hl : l ≠ []) : ∃ r, v = some r := by
  rcases h with ⟨_, e⟩ | ⟨r, e, _⟩
  · exact absurd e hl
  · exact ⟨r, e⟩
theorem ans_nil (s : ByteArray) : ans s [] = .pointer none := rfl

set_option maxRecDepth 4000 in
set_option maxHeartbeats 2000000 in
theorem walk_fit (s : ByteArray) (d : Bool) (f tk : Int) (w : World) (hs : s.size ≤ 65536) (f0 : 0 < f) (f1 : f ≤ 65536) (t0 : 0 ≤ tk) (t1 : tk ≤ 65536 - f) (hfit : 65536 - f - tk + (s.size : Int) + 256 ≤ 65536) :
    Calls Try.prog 7 #[.string s, .bool d, .int .i64 f, .int .i64 tk] w fun e w' => e = .returned (.bool true) ∧ Below w.heap.size w w' := by
  have q38 := neq38
  go_enter Try.func7, Try.ntmps7
  go_wp2_with (first
      | (go_at_call 21; refine (bytes21 _ _ _ _ _ hs).mono ?_; rintro e w' ⟨rfl, rfl⟩)
      | (go_at_call 22; refine (newMatchers _).mono ?_; rintro e w' ⟨rfl, rfl⟩; have HK := hid (ks_new w)))
  refine (newKept _).mono ?_
  rintro e w1 ⟨rfl, hb1, hz1, hs1⟩
  have HK1 := ks_next HK hb1
  have HZ1 : Hid (SZ w1 (w.heap.size + 1) 0) := hid (by simpa using hz1)
  have HB1 : Hid (Below w.heap.size w w1) := hid (((Below.refl w.heap.size w).alloc (Nat.le_refl _) _).trans (hb1.mono (by simp)))
  clear HK hb1 hz1 hs1
  go_wp2_with fail
  refine (zz_new w.heap.size (w.heap.size + 1) (fun _ => none) (fun _ => []) 0 f tk s d w1 (by omega) HK1 HZ1 (hid (by simp)) f0 f1 t0 t1 (by omega) (by omega) (by omega) (hid rfl)).mono ?_
  rintro e w2 ⟨rfl, vm, k2, z2, fr2, hvm⟩
  have ez : (0 : Int) + (65536 - f - tk + (s.size + 256)) = 65536 - f - tk + s.size + 256 := by omega
  have ez' : (65536 - f - tk + (s.size + 256) : Int) = 65536 - f - tk + s.size + 256 := by omega
  rw [ez] at k2
  rw [ez'] at z2
  have HV : Hid (∀ x r, vm x = some r → w.heap.size ≤ r) := hid fun x r hx => by
    rcases hvm x r hx with h | h
    · cases h
    · exact Nat.le_trans (Below.size HB1) h
  have HB2 := bl_fr HB1 fr2 (Nat.le_refl _) (Nat.le_refl _) (Nat.le_succ _) (fun x r h => by cases h)
  obtain ⟨L, HL⟩ : ∃ L : Bool → List (ByteArray × Nat), (fun x => if x = d then ([] : List (ByteArray × Nat)) ++ [(s, w.heap.size + 1)] else []) = L := ⟨_, rfl⟩
  rw [HL] at k2
  have HLd : Hid (L d = [(s, w.heap.size + 1)]) := hid (by rw [← HL]; simp)
  have HLn : Hid (L (!d) = []) := hid (by rw [← HL]; simp)
  have HA : Hid (ans s (L d) = .pointer (some ⟨w.heap.size + 1, 0, none⟩)) := hid (by rw [HLd.out]; exact ans_one _ _)
  have HC : Hid ((L d).length = 1) := hid (by rw [HLd.out]; rfl)
  have HD : Hid ((L (!d)).length = 0) := hid (by rw [HLn.out]; rfl)
  have HK2 := hid k2
  have HZ2 := hid z2
  clear HL hvm fr2 k2 z2 ez ez' HK1 HZ1 HB1
  go_wp2_with fail
  refine (keptAt_to s d _ HK2 HA).mono ?_
  rintro e w3 ⟨rfl, hb⟩
  have HK3 := ks_next HK2 hb
  have HZ3 := sz_next HZ2 hb
  have HB3 := bl_next HB2 hb (Nat.le_refl _)
  clear hb HK2 HZ2 HB2
  go_wp2_with (first
      | (go_at_call 26; refine (keptSize _ HZ3).mono ?_; rintro e w' ⟨rfl, rfl⟩)
      | (go_at_call 27; refine (msSize HK3).mono ?_; rintro e w' ⟨rfl, rfl⟩))
  refine (count_to d 1 HK3 HC).mono ?_
  rintro e w4 ⟨rfl, hb⟩
  have HK4 := ks_next HK3 hb
  have HZ4 := sz_next HZ3 hb
  have HB4 := bl_next HB3 hb (Nat.le_refl _)
  clear hb HK3 HZ3 HB3
  go_wp2_with fail
  refine (count_to (!d) 0 HK4 HD).mono ?_
  rintro e w5 ⟨rfl, hb⟩
  have HK5 := ks_next HK4 hb
  have HZ5 := sz_next HZ4 hb
  have HB5 := bl_next HB4 hb (Nat.le_refl _)
  clear hb HK4 HZ4 HB4
  go_wp2_with fail
  obtain ⟨r, hr⟩ := mm_some (HK5.out.m d) (by rw [HLd.out]; simp)
  refine (zz_drop w.heap.size (w.heap.size + 1) r vm L (65536 - f - tk + s.size + 256) (65536 - f - tk + s.size + 256) 0 0 s d 0 (w.heap.size + 1) w5 (by omega) HK5 HZ5 (hid (by simp)) (by omega) (by omega) (by omega) (by omega) (by omega) (by omega) (by omega) (by omega) (.inl (by omega)) (hid hr) (hid (by rw [HLd.out]; exact look_one _ _))).mono ?_
  rintro e w6 ⟨rfl, k6, z6, fr6⟩
  have HB6 := bl_fr HB5 fr6 (Nat.le_refl _) (Nat.le_refl _) (Nat.le_succ _) HV.out
  rw [show (65536 - f - tk + (s.size : Int) + 256) - (65536 - f - tk + s.size + 256) = 0 by omega] at k6
  obtain ⟨M, HM⟩ : ∃ M : Bool → List (ByteArray × Nat), (fun x => if x = d then (L d).eraseIdx 0 else L x) = M := ⟨_, rfl⟩
  rw [HM] at k6
  have hM : ∀ x, M x = [] := fun x => by
    rw [← HM]
    by_cases hx : x = d
    · simp [hx, HLd.out]
    · have : x = !d := by cases x <;> cases d <;> simp_all
      simp [this, HLn.out]
  have HA' : Hid (ans s (M d) = .pointer none) := hid (by rw [hM]; rfl)
  have HC' : Hid ((M false).length = 0) := hid (by rw [hM]; rfl)
  have HD' : Hid ((M true).length = 0) := hid (by rw [hM]; rfl)
  have HK6 := hid k6
  have HZ6 := hid z6
  clear HM hM k6 z6 fr6 HB5 HZ5 HK5 HA HC HD HLd HLn hr
  go_wp2_with fail
  refine (keptAt_to s d _ HK6 HA').mono ?_
  rintro e w7 ⟨rfl, hb⟩
  have HK7 := ks_next HK6 hb
  have HZ7 := sz_next HZ6 hb
  have HB7 := bl_next HB6 hb (Nat.le_refl _)
  clear hb HK6 HZ6 HB6
  go_wp2_with (go_at_call 27; refine (msSize HK7).mono ?_; rintro e w' ⟨rfl, rfl⟩)
  refine (count_to false 0 HK7 HC').mono ?_
  rintro e w8 ⟨rfl, hb⟩
  have HK8 := ks_next HK7 hb
  have HZ8 := sz_next HZ7 hb
  have HB8 := bl_next HB7 hb (Nat.le_refl _)
  clear hb HK7 HZ7 HB7
  go_wp2_with fail
  refine (count_to true 0 HK8 HD').mono ?_
  rintro e w9 ⟨rfl, hb⟩
  have HZ9 := sz_next HZ8 hb
  have HB9 := bl_next HB8 hb (Nat.le_refl _)
  clear hb HK8 HZ8 HB8
  go_wp2_with (go_at_call 26; refine (keptSize _ HZ9).mono ?_; rintro e w' ⟨rfl, rfl⟩)
  go_ret
  exact ⟨rfl, HB9.out⟩

set_option maxHeartbeats 400000 in
theorem bytes21_no (s : ByteArray) (d : Bool) (f tk : Int) (w : World) (hn : 1048576 < s.size) (hl : (s.size : Int) ≤ 9223372036854775807) : Calls Try.prog 21 #[.string s, .bool d, .int .i64 f, .int .i64 tk] w fun e w' => e = .returned (.bool false) ∧ w = w' := by
  go_enter Try.func21, Try.ntmps21
  go_wp2
  go_ret
  exact ⟨rfl, rfl⟩
set_option maxHeartbeats 400000 in
theorem bytes21_yes (s : ByteArray) (d : Bool) (f tk : Int) (w : World) (hn : s.size ≤ 1048576) : Calls Try.prog 21 #[.string s, .bool d, .int .i64 f, .int .i64 tk] w fun e w' => e = .returned (.bool true) ∧ w = w' := by
  go_enter Try.func21, Try.ntmps21
  go_wp2
  go_ret
  exact ⟨rfl, rfl⟩
set_option maxRecDepth 4000 in
set_option maxHeartbeats 800000 in
theorem out_bytes (s : ByteArray) (d : Bool) (f tk : Int) (w : World) (hn : 1048576 < s.size) (hl : (s.size : Int) ≤ 9223372036854775807) : Calls Try.prog 7 #[.string s, .bool d, .int .i64 f, .int .i64 tk] w fun e w' => e = .returned (.bool true) ∧ Below w.heap.size w w' := by
  go_enter Try.func7, Try.ntmps7
  go_wp2_with (go_at_call 21; refine (bytes21_no _ _ _ _ _ hn hl).mono ?_; rintro e w' ⟨rfl, rfl⟩)
  go_ret
  exact ⟨rfl, Below.refl _ _⟩
set_option maxRecDepth 4000 in
set_option maxHeartbeats 800000 in
theorem out_long (s : ByteArray) (d : Bool) (f tk : Int) (w : World) (hn : s.size ≤ 1048576) (hl : 65536 < s.size) : Calls Try.prog 7 #[.string s, .bool d, .int .i64 f, .int .i64 tk] w fun e w' => e = .returned (.bool true) ∧ Below w.heap.size w w' := by
  go_enter Try.func7, Try.ntmps7
  go_wp2_with (go_at_call 21; refine (bytes21_yes _ _ _ _ _ hn).mono ?_; rintro e w' ⟨rfl, rfl⟩)
  go_ret
  exact ⟨rfl, Below.refl _ _⟩
set_option maxRecDepth 4000 in
set_option maxHeartbeats 800000 in
theorem out_free (s : ByteArray) (d : Bool) (f tk : Int) (w : World) (hn : s.size ≤ 65536) (hf : f < 0 ∨ 65536 < f) : Calls Try.prog 7 #[.string s, .bool d, .int .i64 f, .int .i64 tk] w fun e w' => e = .returned (.bool true) ∧ Below w.heap.size w w' := by
  rcases hf with hf | hf
  · go_enter Try.func7, Try.ntmps7
    go_wp2_with (go_at_call 21; refine (bytes21 _ _ _ _ _ hn).mono ?_; rintro e w' ⟨rfl, rfl⟩)
    go_ret
    exact ⟨rfl, Below.refl _ _⟩
  · have hf' : ¬ f < 0 := by omega
    go_enter Try.func7, Try.ntmps7
    go_wp2_with (go_at_call 21; refine (bytes21 _ _ _ _ _ hn).mono ?_; rintro e w' ⟨rfl, rfl⟩)
    go_ret
    exact ⟨rfl, Below.refl _ _⟩
set_option maxRecDepth 4000 in
set_option maxHeartbeats 800000 in
theorem out_taken (s : ByteArray) (d : Bool) (f tk : Int) (w : World) (hn : s.size ≤ 65536) (f0 : 0 ≤ f) (f1 : f ≤ 65536) (ht : tk < 0 ∨ 65536 - f < tk) : Calls Try.prog 7 #[.string s, .bool d, .int .i64 f, .int .i64 tk] w fun e w' => e = .returned (.bool true) ∧ Below w.heap.size w w' := by
  rcases ht with ht | ht
  · go_enter Try.func7, Try.ntmps7
    go_wp2_with (go_at_call 21; refine (bytes21 _ _ _ _ _ hn).mono ?_; rintro e w' ⟨rfl, rfl⟩)
    go_ret
    exact ⟨rfl, Below.refl _ _⟩
  · have ht' : ¬ tk < 0 := by omega
    go_enter Try.func7, Try.ntmps7
    go_wp2_with (go_at_call 21; refine (bytes21 _ _ _ _ _ hn).mono ?_; rintro e w' ⟨rfl, rfl⟩)
    go_ret
    exact ⟨rfl, Below.refl _ _⟩

theorem walk (s : ByteArray) (d : Bool) (f tk : Int) (w0 : s.size ≤ maxLen) (w2 : (Lit.int .i64 f).wf = true) (w3 : (Lit.int .i64 tk).wf = true) (w : World) :
    Calls Try.prog 7 #[.string s, .bool d, .int .i64 f, .int .i64 tk] w fun e w' => e = .returned (.bool true) ∧ Below w.heap.size w w' := by
  have hm : s.size ≤ 9223372036854775807 := Nat.le_trans w0 (by decide)
  by_cases h1 : s.size ≤ 1048576
  · by_cases h2 : s.size ≤ 65536
    · by_cases h3 : 0 ≤ f ∧ f ≤ 65536
      · by_cases h4 : 0 ≤ tk ∧ tk ≤ 65536 - f
        · by_cases h5 : 0 < f ∧ 65536 - f - tk + (s.size : Int) + 256 ≤ 65536
          · exact walk_fit s d f tk w h2 h5.1 h3.2 h4.1 h4.2 h5.2
          · exact walk_not s d f tk w h2 h3.1 h3.2 h4.1 h4.2 (by omega)
        · exact out_taken s d f tk w h2 h3.1 h3.2 (by omega)
      · exact out_free s d f tk w h2 (by omega)
    · exact out_long s d f tk w h1 (by omega)
  · exact out_bytes s d f tk w (by omega) (by omega)
end Go.Proofs.Qxb6608686a.KeepMain
