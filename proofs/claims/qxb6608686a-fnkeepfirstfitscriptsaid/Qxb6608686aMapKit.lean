import Derived.Test.Qxb6608686aKit
import Derived.Carry
import Derived.ChangeMaps5
namespace Go.Proofs.Qxb6608686a.MapKit
open Go.RowKit Go.Proofs.Qxb6608686a.Kit

theorem bytes_beq (a b : ByteArray) : (a == b) = decide (a = b) := by
  obtain ⟨a⟩ := a
  obtain ⟨b⟩ := b
  have e : ((⟨a⟩ : ByteArray) == ⟨b⟩) = (a == b) := rfl
  rw [e]
  by_cases h : a = b
  · subst h; simp
  · simp [h]

/-- Block r is a map from strings to pointers at the heads of blocks: its entries, in the order in which they came. -/
def KMap (w : World) (r : Nat) (L : List (ByteArray × Nat)) : Prop :=
  ∃ es clock, w.heap[r]? = some (.map es clock) ∧ es.toList.map (fun e => (e.key, e.val)) = L.map (fun x => (Value.string x.1, Value.pointer (some ⟨x.2, 0, none⟩)))

/-- Where the first entry of key k lies, and what it holds. -/
def look (k : ByteArray) : List (ByteArray × Nat) → Nat → Option (Nat × Nat)
  | [], _ => none
  | x :: r, i => if k = x.1 then some (i, x.2) else look k r (i + 1)

theorem findNow_look (k : ByteArray) : ∀ (es : List MapEntry) (L : List (ByteArray × Nat)) (i : Nat), es.map (fun e => (e.key, e.val)) = L.map (fun x => (Value.string x.1, Value.pointer (some ⟨x.2, 0, none⟩))) →
    Instr.findNow .string (.string k) es i = some ((look k L i).map fun x => (x.1, Value.pointer (some ⟨x.2, 0, none⟩)))
  | [], [], i, _ => rfl
  | [], _ :: _, _, h => by simp at h
  | _ :: _, [], _, h => by simp at h
  | e :: es, x :: L, i, h => by
    simp only [List.map_cons, List.cons.injEq, Prod.mk.injEq] at h
    obtain ⟨⟨h1, h2⟩, h3⟩ := h
    unfold Instr.findNow look
    rw [h1]
    simp only [Instr.sameNow, bytes_beq]
    by_cases hk : k = x.1
    · simp [hk, h2]
    · simp only [hk, decide_false, if_neg, not_false_eq_true]
      exact findNow_look k es L (i + 1) h3

/-- What a look-up answers. -/
def ans (k : ByteArray) (L : List (ByteArray × Nat)) : Value := .pointer ((look k L 0).map fun x => ⟨x.2, 0, none⟩)

section
variable {P : Program} {t kt et pt : TypeId} {w : World} {r : Nat} {L : List (ByteArray × Nat)}

theorem run_findKey (hk : P.underlying kt = some .string) (k : ByteArray) (es : List MapEntry) (h : es.map (fun e => (e.key, e.val)) = L.map (fun x => (Value.string x.1, Value.pointer (some ⟨x.2, 0, none⟩)))) :
    (Instr.findKey kt (.string k) es).run P w = .ok ((look k L 0).map fun x => (x.1, Value.pointer (some ⟨x.2, 0, none⟩))) w := by
  unfold Instr.findKey
  rw [Sem.run_bind, run_underlying hk, Result.andThen_ok, findNow_look k es L 0 h]
  rfl
theorem run_checkKey (hk : P.underlying kt = some .string) (b : Bool) (k : ByteArray) : (Instr.checkKey b 10000 kt (.string k)).run P w = .ok () w := by
  unfold Instr.checkKey
  rw [Sem.run_bind, run_underlying hk, Result.andThen_ok]
  rfl
theorem run_look (ht : P.underlying t = some (.map kt et)) (hk : P.underlying kt = some .string) (h : KMap w r L) (hz : (zeroValue et).run P w = .ok (.pointer none) w) (k : ByteArray) :
    (Instr.lookup t (.map (some r)) (.string k) false).run P w = .ok (ans k L) w := by
  obtain ⟨es, clock, hb, he⟩ := h
  unfold Instr.lookup ans
  simp only [Sem.run_bind, run_underlying ht, Result.andThen_ok, MapKept.run_getObj_map hb, Sem.run_pure, run_checkKey hk, run_findKey hk k es.toList he]
  cases look k L 0 with
  | none => simp [hz]
  | some x => simp

/-- A nil map holds nothing. -/
theorem run_look_nil (ht : P.underlying t = some (.map kt et)) (hk : P.underlying kt = some .string) (hz : (zeroValue et).run P w = .ok (.pointer none) w) (k : ByteArray) :
    (Instr.lookup t (.map none) (.string k) false).run P w = .ok (.pointer none) w := by
  unfold Instr.lookup
  simp only [Sem.run_bind, run_underlying ht, Result.andThen_ok, Sem.run_pure, run_checkKey hk]
  simp [Instr.findKey, run_underlying hk, Instr.findNow, hz]

theorem look_ge (k : ByteArray) : ∀ (L : List (ByteArray × Nat)) (i j p : Nat), look k L i = some (j, p) → i ≤ j ∧ j < i + L.length ∧ L[j - i]? = some (k, p)
  | [], _, _, _, h => by simp [look] at h
  | x :: L, i, j, p, h => by
    unfold look at h
    split at h
    · rename_i hk
      simp only [Option.some.injEq, Prod.mk.injEq] at h
      obtain ⟨rfl, rfl⟩ := h
      refine ⟨Nat.le_refl _, by simp, ?_⟩
      rw [Nat.sub_self, hk]; rfl
    · have := look_ge k L (i + 1) j p h
      refine ⟨by omega, by simp; omega, ?_⟩
      rw [show j - i = (j - (i + 1)) + 1 by omega, List.getElem?_cons_succ]
      exact this.2.2
theorem look_none_iff (k : ByteArray) : ∀ (L : List (ByteArray × Nat)) (i : Nat), look k L i = none ↔ ∀ x ∈ L, x.1 ≠ k
  | [], _ => by simp [look]
  | x :: L, i => by
    unfold look
    by_cases hk : k = x.1
    · simp [hk]
    · rw [if_neg hk, look_none_iff k L (i + 1)]
      simp only [List.mem_cons, forall_eq_or_imp]
      exact ⟨fun h => ⟨fun e => hk e.symm, h⟩, fun h => h.2⟩

/-- The entries behind a store of a new key. -/
def pushed (es : Array MapEntry) (clock : Nat) (k : ByteArray) (p : Nat) : Obj := .map (es.push { key := .string k, val := .pointer (some ⟨p, 0, none⟩), born := clock }) (clock + 1)
theorem run_put_at (ht : P.underlying t = some (.map kt et)) (hk : P.underlying kt = some .string) (es : Array MapEntry) (clock : Nat) (he : es.toList.map (fun e => (e.key, e.val)) = L.map (fun x => (Value.string x.1, Value.pointer (some ⟨x.2, 0, none⟩)))) (k : ByteArray) (p : Nat) (hnew : look k L 0 = none)
    (W : World) (hb : W.heap[r]? = some (.map es clock)) : (Instr.mapUpdate t (.map (some r)) (.string k) (.pointer (some ⟨p, 0, none⟩))).run P W = .ok () (ChangeMaps.setBlock W r (pushed es clock k p)) := by
  unfold Instr.mapUpdate
  simp only [Sem.run_bind, run_underlying ht, Result.andThen_ok, MapKept.run_getObj_map hb, run_checkKey hk, run_findKey hk k es.toList he, hnew, Option.map_none]
  simp [MapKept.run_setObj_map _ hb, ChangeMaps.setBlock, pushed]
theorem kmap_pushed {es : Array MapEntry} {clock : Nat} (he : es.toList.map (fun e => (e.key, e.val)) = L.map (fun x => (Value.string x.1, Value.pointer (some ⟨x.2, 0, none⟩)))) (k : ByteArray) (p : Nat) {W : World} (hb : W.heap[r]? = some (.map es clock)) :
    KMap (ChangeMaps.setBlock W r (pushed es clock k p)) r (L ++ [(k, p)]) := ⟨_, _, ChangeMaps.heap_setBlock_same hb _, by simp [he]⟩

/-- 'm[k] = p', k not yet there. -/
theorem run_put (ht : P.underlying t = some (.map kt et)) (hk : P.underlying kt = some .string) (h : KMap w r L) (k : ByteArray) (p : Nat) (hnew : look k L 0 = none) :
    ∃ w', (Instr.mapUpdate t (.map (some r)) (.string k) (.pointer (some ⟨p, 0, none⟩))).run P w = .ok () w' ∧ KMap w' r (L ++ [(k, p)]) ∧ w.grownBy w' (some r) := by
  obtain ⟨es, clock, hb, he⟩ := h
  refine ⟨ChangeMaps.setBlock w r (.map (es.push { key := .string k, val := .pointer (some ⟨p, 0, none⟩), born := clock }) (clock + 1)), ?_, ⟨_, _, ChangeMaps.heap_setBlock_same hb _, by simp [he]⟩, ⟨rfl, rfl, rfl, by simp [ChangeMaps.setBlock], fun i _ hne => ChangeMaps.heap_setBlock_other hb _ (fun e => hne (by rw [e]))⟩⟩
  unfold Instr.mapUpdate
  simp only [Sem.run_bind, run_underlying ht, Result.andThen_ok, MapKept.run_getObj_map hb, run_checkKey hk, run_findKey hk k es.toList he, hnew, Option.map_none]
  simp [MapKept.run_setObj_map _ hb, ChangeMaps.setBlock]

theorem eraseIdx_map {α β : Type} (f : α → β) : ∀ (l : List α) (i : Nat), (l.eraseIdx i).map f = (l.map f).eraseIdx i
  | [], _ => by simp
  | _ :: _, 0 => by simp
  | a :: l, i + 1 => by simp [eraseIdx_map f l i]

/-- The entries behind a delete. -/
def erased (es : Array MapEntry) (clock i : Nat) : Obj := .map (es.eraseIdxIfInBounds i) clock
theorem run_del_at (ht : P.underlying t = some (.map kt et)) (hk : P.underlying kt = some .string) (es : Array MapEntry) (clock : Nat) (he : es.toList.map (fun e => (e.key, e.val)) = L.map (fun x => (Value.string x.1, Value.pointer (some ⟨x.2, 0, none⟩)))) (k : ByteArray) (i p : Nat) (hold : look k L 0 = some (i, p)) (ty : TypeId)
    (W : World) (hb : W.heap[r]? = some (.map es clock)) : (Builtin.delete_ #[t, kt] ty #[.map (some r), .string k]).run P W = .ok (.tuple #[]) (ChangeMaps.setBlock W r (erased es clock i)) := by
  unfold Builtin.delete_
  simp [Sem.run_bind, run_underlying ht, Result.andThen_ok, MapKept.run_getObj_map hb, run_checkKey hk, run_findKey hk k es.toList he, hold, MapKept.run_setObj_map _ hb, ChangeMaps.setBlock, erased]
theorem kmap_erased {es : Array MapEntry} {clock : Nat} (he : es.toList.map (fun e => (e.key, e.val)) = L.map (fun x => (Value.string x.1, Value.pointer (some ⟨x.2, 0, none⟩)))) (i : Nat) {W : World} (hb : W.heap[r]? = some (.map es clock)) :
    KMap (ChangeMaps.setBlock W r (erased es clock i)) r (L.eraseIdx i) := by
  refine ⟨_, _, ChangeMaps.heap_setBlock_same hb _, ?_⟩
  rw [eraseIdx_map, ← he, ← eraseIdx_map]
  congr 1
  simp

/-- 'delete(m, k)', k there. -/
theorem run_del (ht : P.underlying t = some (.map kt et)) (hk : P.underlying kt = some .string) (h : KMap w r L) (k : ByteArray) (i p : Nat) (hold : look k L 0 = some (i, p)) (ty : TypeId) :
    ∃ w', (Builtin.delete_ #[t, kt] ty #[.map (some r), .string k]).run P w = .ok (.tuple #[]) w' ∧ KMap w' r (L.eraseIdx i) ∧ w.grownBy w' (some r) := by
  obtain ⟨es, clock, hb, he⟩ := h
  have hi := look_ge k L 0 i p hold
  refine ⟨ChangeMaps.setBlock w r (.map (es.eraseIdxIfInBounds i) clock), ?_, ⟨_, _, ChangeMaps.heap_setBlock_same hb _, ?_⟩, ⟨rfl, rfl, rfl, by simp [ChangeMaps.setBlock], fun i _ hne => ChangeMaps.heap_setBlock_other hb _ (fun e => hne (by rw [e]))⟩⟩
  · unfold Builtin.delete_
    simp [Sem.run_bind, run_underlying ht, Result.andThen_ok, MapKept.run_getObj_map hb, run_checkKey hk, run_findKey hk k es.toList he, hold, MapKept.run_setObj_map _ hb, ChangeMaps.setBlock]
  · rw [eraseIdx_map, ← he, ← eraseIdx_map]
    congr 1
    simp

/-- 'len(m)'. -/
theorem run_len (ht : P.underlying t = some (.map kt et)) (h : KMap w r L) (ty : TypeId) : (Builtin.len_ #[t] ty #[.map (some r)]).run P w = .ok (goInt L.length) w := by
  obtain ⟨es, clock, hb, he⟩ := h
  have hl : es.size = L.length := by
    have := congrArg List.length he
    simpa using this
  unfold Builtin.len_
  simp [Sem.run_bind, run_underlying ht, MapKept.run_getObj_map hb, hl]
theorem run_len_nil (ht : P.underlying t = some (.map kt et)) (ty : TypeId) : (Builtin.len_ #[t] ty #[.map none]).run P w = .ok (goInt 0) w := by
  unfold Builtin.len_
  simp [Sem.run_bind, run_underlying ht]

theorem KMap.made (w : World) : KMap (w.alloc (.map #[] 0)) w.heap.size [] := ⟨#[], 0, (MapKept.heap_alloc w _).1, rfl⟩
theorem KMap.kept {w' : World} {row : Option Nat} (h : KMap w r L) (hg : w.grownBy w' row) (hne : some r ≠ row) : KMap w' r L := by
  obtain ⟨es, clock, hb, he⟩ := h
  exact ⟨es, clock, (hg.block r (Array.getElem?_eq_some_iff.1 hb).1 hne).trans hb, he⟩
theorem KMap.lt (h : KMap w r L) : r < w.heap.size := by
  obtain ⟨es, clock, hb, he⟩ := h
  exact (Array.getElem?_eq_some_iff.1 hb).1
end
end Go.Proofs.Qxb6608686a.MapKit
