import Derived.Test.Qxb6608686aScriptB
import Derived.Deep.MidRow
namespace Go.Proofs.Qxb6608686a.ScriptC
open Go.RowKit Go.Proofs.Qxb6608686a.Kit Go.Proofs.Qxb6608686a.MapKit Go.Proofs.Qxb6608686a.KeepA Go.Proofs.Qxb6608686a.KeepB Go.Proofs.Qxb6608686a.KeepC Go.Proofs.Qxb6608686a.KeepD Go.Proofs.Qxb6608686a.ScriptA Go.Proofs.Qxb6608686a.ScriptB

set_option linter.unusedVariables false

/-- A step of the script. -/
structure Stp where
  t : ByteArray
  d : Bool
  f : Int
  k : Int
def Stp.cells (x : Stp) : List Value := [.string x.t, .bool x.d, .int .i64 x.f, .int .i64 x.k]

theorem rangeAt_below {w w' : World} (hb : Below w.heap.size w w') {b o : Nat} {cs : List Value} (h : w.rangeAt b o cs) : w'.rangeAt b o cs := fun j v hv => cell_below hb (h j v hv)
theorem stp_at {w wr : World} {b o : Nat} {x : Stp} {t : ByteArray} {d : Bool} {f k : Int} (h : w.rangeAt b o x.cells) (hx : x = ⟨t, d, f, k⟩) (hb : Below w.heap.size w wr) :
    wr.cell? ⟨b, o, none⟩ = some (.string t) ∧ wr.cell? ⟨b, o + 1, none⟩ = some (.bool d) ∧ wr.cell? ⟨b, o + 2, none⟩ = some (.int .i64 f) ∧ wr.cell? ⟨b, o + 3, none⟩ = some (.int .i64 k) := by
  subst hx
  have h := rangeAt_below hb h
  exact ⟨h 0 _ rfl, h 1 _ rfl, h 2 _ rfl, h 3 _ rfl⟩

/-- WHAT THE WALK IS TOLD OF THE STEPS. -/
structure Steps (w : World) (a0 : Option Addr) (b off n : Nat) (St : Nat → Stp) : Prop where
  ad : 0 < n → a0 = some ⟨b, off, none⟩
  at_ : ∀ i, i < n → w.rangeAt b (off + i * 4) (St i).cells
  len : ∀ i, i < n → ((St i).t.size : Int) ≤ 9223372036854775807

set_option maxHeartbeats 400000 in
theorem bytes29_out (a0 : Option Addr) (n cap : Nat) (w : World) (hn : 1048576 < n) (hl : n ≤ 9223372036854775807) :
    Calls Try.prog 29 #[.slice a0 n cap] w fun e w' => e = .returned (.bool false) ∧ w = w' := by
  go_enter Try.func29, Try.ntmps29
  go_wp2
  go_ret
  exact ⟨rfl, rfl⟩

set_option maxHeartbeats 400000 in
theorem bytes29_in (a0 : Option Addr) (b off n cap : Nat) (St : Nat → Stp) (w : World) (hn : n ≤ 1048576) (H : Hid (Steps w a0 b off n St)) :
    Calls Try.prog 29 #[.slice a0 n cap] w fun e w' => w = w' ∧ ((e = .returned (.bool true) ∧ ∀ i, i < n → (St i).t.size ≤ 1048576) ∨ e = .returned (.bool false)) := by
  go_enter Try.func29, Try.ntmps29
  go_wp2_with fail
  go_loopw [3, 4] (fun s i wr => ∃ (k : Nat) (sm : Int), k ≤ n ∧ i = .int .i64 k ∧ s = .int .i64 sm ∧ 0 ≤ sm ∧ sm ≤ 1048576 ∧ w = wr ∧ Hid (∀ j, j < k → (St j).t.size ≤ 1048576)) (fun s i _ => n - (intOf i).toNat)
  case atStart => exact ⟨0, n, Nat.zero_le _, rfl, by simp, by omega, by omega, rfl, hid (fun j hj => absurd hj (Nat.not_lt_zero j))⟩
  case round =>
    obtain ⟨k, sm, hk, rfl, rfl, h0, h1, rfl, HS⟩ := hrel
    by_cases hlt : k < n
    · obtain rfl := H.out.ad (by omega)
      have hlen := H.out.len k hlt
      obtain ⟨⟨t, d, f, tk⟩, HB⟩ : ∃ x, Hid (St k = x) := ⟨_, rfl⟩
      obtain ⟨r0, _, _, _⟩ := stp_at (H.out.at_ k hlt) HB.out (Below.refl _ _)
      rw [HB.out] at hlen
      have hlen' : (t.size : Int) ≤ 9223372036854775807 := hlen
      clear hlen
      by_cases hb : t.size ≤ 1048576
      · by_cases hs : sm + t.size ≤ 1048576
        · go_wp2_with fail
          go_roundw
          case rel => exact ⟨k + 1, sm + t.size, by omega, by go_num, by go_num, by omega, by omega, by simp, hid (fun j hj => by
            rcases Nat.lt_succ_iff_lt_or_eq.1 hj with h | rfl
            · exact HS.out j h
            · rw [HB.out]; exact hb)⟩
          case measure => simp [intOf]; omega
        · go_wp2_with fail
          go_ret
          exact ⟨rfl, .inr rfl⟩
      · go_wp2_with fail
        go_ret
        exact ⟨rfl, .inr rfl⟩
    · obtain rfl : n = k := by omega
      go_wp2_with fail
      go_ret
      exact ⟨rfl, .inl ⟨rfl, HS.out⟩⟩

/-- The box of 'st'. -/
def Bx (w : World) (g : Nat) (t : ByteArray) (d : Bool) (f k : Int) : Prop :=
  w.cell? ⟨g, 0, none⟩ = some (.string t) ∧ w.cell? ⟨g, 1, none⟩ = some (.bool d) ∧ w.cell? ⟨g, 2, none⟩ = some (.int .i64 f) ∧ w.cell? ⟨g, 3, none⟩ = some (.int .i64 k)
theorem Bx.same {w w' : World} {g : Nat} {t : ByteArray} {d : Bool} {f k : Int} (h : Bx w g t d f k) (hb : w'.heap[g]? = w.heap[g]?) : Bx w' g t d f k := by
  obtain ⟨h0, h1, h2, h3⟩ := h
  exact ⟨(World.cell?_of_block hb).trans h0, (World.cell?_of_block hb).trans h1, (World.cell?_of_block hb).trans h2, (World.cell?_of_block hb).trans h3⟩
theorem Bx.lt {w : World} {g : Nat} {t : ByteArray} {d : Bool} {f k : Int} (h : Bx w g t d f k) : g < w.heap.size := World.block_lt_of_cell? w _ h.1

theorem info9 : (Try.prog.info? 9).map (fun i => (i.zero, i.size, i.bytes)) = some (some (.string ⟨#[]⟩), 1, 16) := by kernel_rfl
theorem info4 : (Try.prog.info? 4).map (fun i => (i.zero, i.size, i.bytes)) = some (some (.bool false), 1, 1) := by kernel_rfl
theorem info3 : (Try.prog.info? 3).map (fun i => (i.zero, i.size, i.bytes)) = some (some (.int .i64 0), 1, 8) := by kernel_rfl
theorem info38 : (Try.prog.info? 38).map (fun i => (i.zero, i.size, i.bytes)) = some (some (.pointer none), 1, 8) := by kernel_rfl
theorem pk_start (w : World) (n : Nat) : Pk (((((w.alloc (.cells #[.map none, .map none, .int .i64 0] 72)).alloc (.cells (madeCells #[.string ⟨#[]⟩] n) 9)).alloc (.cells (madeCells #[.bool false] n) 4)).alloc (.cells (madeCells #[.int .i64 0] n) 3)).alloc (.cells (madeCells #[.pointer none] n) 38))
    w.heap.size n [] [] [] [] [] (fun _ => none) (fun _ => []) 0 := by
  have k0 := ks_new w
  obtain ⟨w1, e1⟩ : ∃ w1, w.alloc (.cells #[.map none, .map none, .int .i64 0] 72) = w1 := ⟨_, rfl⟩
  have s1 : w1.heap.size = w.heap.size + 1 := by rw [← e1]; simp
  rw [e1] at k0 ⊢
  have b1 : Below w1.heap.size w1 (w1.alloc (.cells (madeCells #[.string ⟨#[]⟩] n) 9)) := (Below.refl _ _).alloc (Nat.le_refl _) _
  have r1 := Row.made w1 (.string ⟨#[]⟩) n 9
  have k1 := k0.below b1
  obtain ⟨w2, e2⟩ : ∃ w2, w1.alloc (.cells (madeCells #[.string ⟨#[]⟩] n) 9) = w2 := ⟨_, rfl⟩
  have s2 : w2.heap.size = w.heap.size + 2 := by rw [← e2]; simp [s1]
  rw [e2] at k1 r1 ⊢
  have b2 : Below w2.heap.size w2 (w2.alloc (.cells (madeCells #[.bool false] n) 4)) := (Below.refl _ _).alloc (Nat.le_refl _) _
  have r2 := Row.made w2 (.bool false) n 4
  have k2 := k1.below b2
  have r12 := r1.same (b2.block _ r1.lt)
  obtain ⟨w3, e3⟩ : ∃ w3, w2.alloc (.cells (madeCells #[.bool false] n) 4) = w3 := ⟨_, rfl⟩
  have s3 : w3.heap.size = w.heap.size + 3 := by rw [← e3]; simp [s2]
  rw [e3] at k2 r2 r12 ⊢
  have b3 : Below w3.heap.size w3 (w3.alloc (.cells (madeCells #[.int .i64 0] n) 3)) := (Below.refl _ _).alloc (Nat.le_refl _) _
  have r3 := Row.made w3 (.int .i64 0) n 3
  have k3 := k2.below b3
  have r13 := r12.same (b3.block _ r12.lt)
  have r23 := r2.same (b3.block _ r2.lt)
  obtain ⟨w4, e4⟩ : ∃ w4, w3.alloc (.cells (madeCells #[.int .i64 0] n) 3) = w4 := ⟨_, rfl⟩
  have s4 : w4.heap.size = w.heap.size + 4 := by rw [← e4]; simp [s3]
  rw [e4] at k3 r3 r13 r23 ⊢
  have b4 : Below w4.heap.size w4 (w4.alloc (.cells (madeCells #[.pointer none] n) 38)) := (Below.refl _ _).alloc (Nat.le_refl _) _
  have r4 := Row.made w4 (.pointer none) n 38
  have k4 := k3.below b4
  have r14 := r13.same (b4.block _ r13.lt)
  have r24 := r23.same (b4.block _ r23.lt)
  have r34 := r3.same (b4.block _ r3.lt)
  rw [s1] at r14
  rw [s2] at r24
  rw [s3] at r34
  rw [s4] at r4
  exact ⟨k4, r14, r24, r34, r4, fun x hx => by (cases hx), fun x hx => by (cases hx), fun d r hr => by (cases hr)⟩
end Go.Proofs.Qxb6608686a.ScriptC
