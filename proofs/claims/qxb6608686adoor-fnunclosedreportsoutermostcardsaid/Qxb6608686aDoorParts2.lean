import Derived.Test.Qxb6608686aDoorParts
namespace Go.Proofs.Qxb6608686aDoor.Parts
open Go.RowKit Go.Proofs.Qxb6608686aDoor.Kit

theorem kwT_size (k : Int) : (kwT k).size ≤ 10 := by
  unfold kwT
  repeat' split
  all_goals decide

/-- The zero value of the great struct 67, and how it is built and boxed. -/
theorem big67 : ∃ C : Array Value, C[39]? = some (.pointer none) ∧ 39 < C.size ∧ (∀ w, (Instr.build 67 #[]).run Tryd.prog w = .ok (.agg C) w) ∧
    (∀ w, (Instr.box 67 (.agg C)).run Tryd.prog w = .ok (.pointer (some ⟨w.heap.size, 0, none⟩)) (w.alloc (.cells C 67))) :=
  ⟨((Tryd.prog.info? 67).bind (·.zero)).elim #[] (·.cells), by kernel_rfl, of_decide_eq_true (by kernel_rfl), fun _ => by kernel_rfl, fun _ => by kernel_rfl⟩

theorem wpList_build67 {C : Array Value} {w : World} {ops : Array Oper} {rest : List Oper} {o : Oper} {a : Act} {Q : Exit → Act → World → Prop} (hC : ∀ w, (Instr.build 67 #[]).run Tryd.prog w = .ok (.agg C) w) (hg : o.guard = none) (hop : o.op = Op.build 67 #[])
    (hK : wpList Tryd.prog ops Q rest (a.put o.dst (.agg C)) w) : wpList Tryd.prog ops Q (o :: rest) a w := by
  refine wpList_known hg _ ?_ hK
  have he : execOp a.eval o = (do pure (.value (← Instr.build 67 #[]))) := by unfold execOp; rw [hop]; simp
  rw [he, Sem.run_bind, hC]
  rfl

theorem wpList_box67 {C : Array Value} {w : World} {ops : Array Oper} {rest : List Oper} {o : Oper} {a : Act} {Q : Exit → Act → World → Prop} (hC : ∀ w, (Instr.box 67 (.agg C)).run Tryd.prog w = .ok (.pointer (some ⟨w.heap.size, 0, none⟩)) (w.alloc (.cells C 67))) (hg : o.guard = none) (x : Operand) (hop : o.op = Op.box 67 x)
    (hx : a.eval x = .agg C) (hK : wpList Tryd.prog ops Q rest (a.put o.dst (.pointer (some ⟨w.heap.size, 0, none⟩))) (w.alloc (.cells C 67))) : wpList Tryd.prog ops Q (o :: rest) a w := by
  refine wpList_known hg _ ?_ hK
  have he : execOp a.eval o = (do pure (.value (← Instr.box 67 (a.eval x)))) := by unfold execOp; rw [hop]
  rw [he, hx, Sem.run_bind, hC]
  rfl

theorem at_build67 {w : World} {ops : Array Oper} {rest : List Oper} {a : Act} {Q : Exit → Act → World → Prop} {dst : Option Tmp} {ty : TypeId} {pos : String} {after : Array Edge} {guard : Option (Nat × Bool)}
    (h : wpList Tryd.prog ops Q ({ dst, op := .build 67 #[], type := ty, pos, after, guard } :: rest) a w) : wpList Tryd.prog ops Q ({ dst, op := .build 67 #[], type := ty, pos, after, guard } :: rest) a w := h
theorem at_box67 {w : World} {ops : Array Oper} {rest : List Oper} {a : Act} {Q : Exit → Act → World → Prop} {dst : Option Tmp} {x : Operand} {ty : TypeId} {pos : String} {after : Array Edge} {guard : Option (Nat × Bool)}
    (h : wpList Tryd.prog ops Q ({ dst, op := .box 67 x, type := ty, pos, after, guard } :: rest) a w) : wpList Tryd.prog ops Q ({ dst, op := .box 67 x, type := ty, pos, after, guard } :: rest) a w := h

set_option maxHeartbeats 400000 in
theorem zz_none (ao : Option Addr) (n cap : Nat) (w : World) :
    Calls Tryd.prog 7 #[.bool false, .slice ao n cap] w fun e w' => e = .returned (.tuple #[.bool false, .int .i64 0, .int .i64 0, .string ⟨#[]⟩]) ∧ Below w.heap.size w w' := by
  obtain ⟨C, hC39, hCs, hbuild, hbox⟩ := big67
  go_enter Tryd.func7, Tryd.ntmps7
  go_wp2_with (first
    | (refine at_build67 ?_; refine wpList_build67 hbuild rfl rfl ?_)
    | (refine at_box67 ?_; refine wpList_box67 hbox rfl _ rfl rfl ?_)
    | (go_at_call 10; refine (unclosed_none _ _ (by simp [hC39])).mono ?_; rintro e w' ⟨rfl, hb⟩))
  exact bodyPost_ret (v := .tuple #[.bool false, .int .i64 0, .int .i64 0, .string ⟨#[]⟩]) (by simp [results, Tryd.results7, go_sem]) rfl ⟨rfl, ((Below.refl _ _).alloc (Nat.le_refl _) _).trans (hb.mono (by simp))⟩

set_option maxHeartbeats 400000 in
theorem zz_empty (ao : Option Addr) (cap : Nat) (w : World) :
    Calls Tryd.prog 7 #[.bool true, .slice ao 0 cap] w fun e w' => e = .returned (.tuple #[.bool false, .int .i64 0, .int .i64 0, .string ⟨#[]⟩]) ∧ Below w.heap.size w w' := by
  obtain ⟨C, hC39, hCs, hbuild, hbox⟩ := big67
  go_enter Tryd.func7, Tryd.ntmps7
  go_wp2_with (first
    | (refine at_build67 ?_; refine wpList_build67 hbuild rfl rfl ?_)
    | (refine at_box67 ?_; refine wpList_box67 hbox rfl _ rfl rfl ?_)
    | (go_at_call 10; refine (unclosed_empty _ (w.heap.size + 1) ao cap _ (by simp [go_sem, hCs]) (by simp [go_sem])).mono ?_; rintro e w' ⟨rfl, hb⟩))
  exact bodyPost_ret (v := .tuple #[.bool false, .int .i64 0, .int .i64 0, .string ⟨#[]⟩]) (by simp [results, Tryd.results7, go_sem]) rfl ⟨rfl, (((Below.refl _ _).alloc (Nat.le_refl _) _).alloc (by simp) _).trans (hb.mono (by simp; omega))⟩

theorem ty68 : ∀ (v : Value) (w : World), (Instr.typeAssert (.iface 68 v) 51 68 true).run Tryd.prog w = .ok (.tuple #[v, .bool true]) w := fun _ _ => by kernel_rfl

set_option maxRecDepth 20000 in
set_option maxHeartbeats 400000 in
theorem zz_some (g o n cap : Nat) (b : Blk) (w : World) (hn : 0 < n) (hr : w.rangeAt g o b.cells) (hok : b.okB = true) (hkw : KwLaid w) :
    Calls Tryd.prog 7 #[.bool true, .slice (some ⟨g, o, none⟩) n cap] w fun e w' => e = .returned (.tuple #[.bool true, .int .i64 b.line, .int .i64 b.col, .string (msg b.kw)]) ∧ Below w.heap.size w w' := by
  obtain ⟨C, hC39, hCs, hbuild, hbox⟩ := big67
  obtain ⟨l, c, k0, f1, f2, f3⟩ := b
  have hk : 1 ≤ l ∧ 1 ≤ c ∧ 1 ≤ k0 ∧ k0 ≤ 6 := by simpa [Blk.okB] using hok
  obtain ⟨k, rfl⟩ : ∃ k : Nat, k0 = (k : Int) := ⟨k0.toNat, by omega⟩
  obtain ⟨_, _, hk1, hk2⟩ := hk
  have hk3 := hkw k (by omega) (by omega)
  have hsz := kwT_size k
  have hrange : ∀ A B : Obj, ((w.alloc A).alloc B).rangeAt g o [.int .i64 l, .int .i64 c, .int .u8 k, .bool f1, .bool f2, .bool f3] := fun A B => World.rangeAt_alloc (World.rangeAt_alloc hr _) _
  have hkc : ∀ A B : Obj, ((w.alloc A).alloc B).cell? ⟨0, k * 4, none⟩ = some (.string (kwT k)) := fun A B => by
    have h0 : 0 < w.heap.size := World.block_lt_of_cell? w _ hk3
    rw [World.cell?_alloc_past _ _ _ (by simp), World.cell?_alloc_past _ _ _ h0]; exact hk3
  have HR := hid hrange
  have HK := hid hkc
  clear hok hkw hk3 hrange hkc hr
  go_enter Tryd.func7, Tryd.ntmps7
  go_wp2_with (first
    | (refine at_build67 ?_; refine wpList_build67 hbuild rfl rfl ?_)
    | (refine at_box67 ?_; refine wpList_box67 hbox rfl _ rfl rfl ?_))
  refine (unclosed_some _ (w.heap.size + 1) g o n cap l c k f1 f2 f3 _ (by simp [go_sem, hCs]) (by simp [go_sem]) hn (HR.out _ _) (by omega) (by omega) (HK.out _ _) hsz).mono ?_
  rintro e w' ⟨p, rfl, hp0, hp1, hp2, hb⟩
  have hb' : Below w.heap.size w w' := (((Below.refl _ _).alloc (Nat.le_refl _) _).alloc (by simp) _).trans (hb.mono (by simp; omega))
  clear hb HR HK
  have hty := ty68
  go_wp2
  go_quiet (fail)
  go_wp2
  exact bodyPost_ret (v := .tuple #[.bool true, .int .i64 l, .int .i64 c, .string (msg k)]) (by simp [results, Tryd.results7, go_sem]) rfl ⟨rfl, below_drewN hb' _⟩

end Go.Proofs.Qxb6608686aDoor.Parts
