import Derived.Test.Qxb6613555aRows
import Derived.WalkKit
import Derived.WalkSpells
import Derived.WalkLawsBesides
import Derived.Deep.RegionWith
import Derived.Deep.QuietTactic
import Derived.BigQuiet
import Derived.Laws.CopyOwn
import Derived.OwnWalk
import Derived.Deep.MidRow
import Derived.Laws.AppendOwn
namespace Go.Proofs.Qxb6613555a.Kit
open Go.RowKit

theorem hid {p : Prop} (h : p) : Hid p := h

theorem ret_int {k : IntKind} {a b : Int} (h : a = b) : Ending.returned (.int k a) = .returned (.int k b) := by rw [h]
theorem ret_bool {a b : Bool} (h : a = b) : Ending.returned (.bool a) = .returned (.bool b) := by rw [h]

theorem below_drewN {B : Nat} {w w1 : World} (h : Below B w w1) (q : Nat) : Below B w (w1.drewN q) := h.trans ⟨rfl, rfl, rfl, Nat.le_refl _, fun _ _ => rfl⟩

/-- An operation whose run is known is carried out. -/
theorem wpList_known {P : Program} {w w' : World} {ops : Array Oper} {rest : List Oper} {o : Oper} {a : Act} {Q : Exit → Act → World → Prop} (hg : o.guard = none) (v : Value)
    (hrun : (execOp a.eval o).run P w = .ok (.value v) w') (hK : wpList P ops Q rest (a.put o.dst v) w') : wpList P ops Q (o :: rest) a w := by
  refine wpList_plain hg fun K hK' => ?_
  unfold Oper.wp
  rw [hrun, Oper.upon_value]
  exact hK' _ _ hK

/-- 'make([]T, n)' at a variable n: the world behind it written out. -/
theorem wpList_make_at {P : Program} {w : World} {ops : Array Oper} {rest : List Oper} {o : Oper} {a : Act} {Q : Exit → Act → World → Prop}
    (hg : o.guard = none) (l c : Operand) (t : TypeId) (hop : o.op = Op.makeSlice t l c)
    (e : TypeId) (z : Value) (size bytes : Nat) (h1 : P.underlying t = some (.slice e)) (h2 : (P.info? e).map (fun i => (i.zero, i.size, i.bytes)) = some (some z, size, bytes))
    (kl kc : IntKind) (L C : Int) (m n : Nat) (hl : a.eval l = .int kl L) (hc : a.eval c = .int kc C) (hL : L = (m : Int)) (hC : C = (n : Int)) (hmn : m ≤ n) (b2 : bytes * n ≤ 281474976710656) (b3 : n ≤ 9223372036854775807)
    (hK : wpList P ops Q rest (a.put o.dst (.slice (some ⟨w.heap.size, 0, none⟩) m n)) (w.alloc (.cells (madeCells z.cells (n * size)) e))) :
    wpList P ops Q (o :: rest) a w := by
  obtain ⟨i, hi, hz0, hz1, hz2⟩ := info_parts h2
  subst hL; subst hC; subst hz1; subst hz2
  have hb' : (i.bytes : Int) * (n : Int) ≤ 281474976710656 := by
    have h : ((i.bytes * n : Nat) : Int) ≤ 281474976710656 := by omega
    rwa [Int.natCast_mul] at h
  have hr := run_make (P := P) w t e i z h1 hi hz0 kl kc m n (by omega) (by omega) hb' (by omega)
  simp only [Int.toNat_natCast] at hr
  refine wpList_known hg _ ?_ hK
  have he : execOp a.eval o = (do pure (.value (← Instr.makeSlice t (a.eval l) (a.eval c)))) := by unfold execOp; rw [hop]
  rw [he, hl, hc, Sem.run_bind, hr]
  rfl

/-- A GUARD: the next operation is a call of the builtin copy. -/
theorem at_copy {P : Program} {w : World} {ops : Array Oper} {rest : List Oper} {a : Act} {Q : Exit → Act → World → Prop} {dst : Option Tmp} {args : Array Operand} {ats : Array TypeId} {ty : TypeId} {pos : String} {after : Array Edge} {guard : Option (Nat × Bool)}
    (h : wpList P ops Q ({ dst, op := .call { callee := .builtin .copy, args := args, argTypes := ats }, type := ty, pos, after, guard } :: rest) a w) :
    wpList P ops Q ({ dst, op := .call { callee := .builtin .copy, args := args, argTypes := ats }, type := ty, pos, after, guard } :: rest) a w := h

/-- 'copy(out, xs)', out just made as long as xs. -/
theorem wpList_copy_fresh {P : Program} {w : World} {ops : Array Oper} {rest : List Oper} {o : Oper} {a : Act} {Q : Exit → Act → World → Prop} (hgd : o.guard = none) (d s : Operand) (dT sT : TypeId)
    (ho : o.op = .call { callee := .builtin .copy, args := #[d, s], argTypes := #[dT, sT] }) (elem : TypeId) (hu : P.underlying dT = some (.slice elem)) (hsz : (P.info? elem).map (·.size) = some 1)
    (len cap : Nat) (ad : Addr) (hd : a.eval d = .slice (some ⟨w.heap.size, 0, none⟩) len len) (hs : a.eval s = .slice (some ad) len cap)
    (cur : Array Value) (t : TypeId) (cs : List Value) (hcs : cs.length = len) (hcur : cur.size = len)
    (hsrc : ∀ j v, cs[j]? = some v → w.cell? (ad.add j) = some v) (h1 : ∀ v ∈ cs, v.oneCell' = true)
    (h : ∀ w', Below w.heap.size w w' → w'.heap[w.heap.size]? = some (.cells cs.toArray t (0, 0)) → w'.heap.size = w.heap.size + 1 → wpList P ops Q rest (a.put o.dst (goInt len)) w') :
    wpList P ops Q (o :: rest) a (w.alloc (.cells cur t)) := by
  have hcur' : cur.toList.length = len := by simpa using hcur
  refine wpList_copy_own hgd d s dT sT ho elem hu hsz w.heap.size 0 len len ad len cap hd hs cur t (heap_alloc_new w _) cs (by rw [hcs]; exact (Nat.min_self len).symm) ?_ (by omega) h1 ?_
  · intro j v hv
    have := hsrc j v hv
    rw [World.cell?_alloc_lt _ _ _ (World.block_lt_of_cell? _ _ this)]
    exact this
  · have e : cur.toList.take 0 ++ (cs ++ cur.toList.drop (0 + cs.length)) = cs := by
      rw [List.drop_eq_nil_of_le (by omega)]; simp
    rw [e, hcs]
    refine h _ (below_setRow ((Below.refl _ _).alloc (Nat.le_refl _) _) (Nat.le_refl _) _) (setRow_heap _ _ _ _ _ _ (heap_alloc_new w _)) (by simp [World.setRow])

end Go.Proofs.Qxb6613555a.Kit
