import Derived.Test.Qxb6608686aScriptD
namespace Go.Proofs.Qxb6608686a.ScriptMain
open Go.RowKit Go.Proofs.Qxb6608686a.Kit Go.Proofs.Qxb6608686a.MapKit Go.Proofs.Qxb6608686a.KeepA Go.Proofs.Qxb6608686a.KeepB Go.Proofs.Qxb6608686a.KeepC Go.Proofs.Qxb6608686a.KeepD Go.Proofs.Qxb6608686a.KeepMain Go.Proofs.Qxb6608686a.ScriptA Go.Proofs.Qxb6608686a.ScriptB Go.Proofs.Qxb6608686a.ScriptC Go.Proofs.Qxb6608686a.ScriptD

set_option linter.unusedVariables false

/-- Worlds in which nothing old has turned. -/
def Cls (w w' : World) : Prop := Below w.heap.size w w'
theorem Cls.out {w w' : World} (h : Cls w w') : Below w.heap.size w w' := h
theorem Cls.next {w w' w2 : World} (h : Cls w w') (h2 : Below w'.heap.size w' w2) : Cls w w2 := Below.trans h (h2.mono (Below.size h))
theorem region_cls {P : Program} {id : Nat} {Q : Exit → Act → World → Prop} {a : Act} {w : World} {l : List Oper} (hm : P.follows .mixedOrders = true) (hB : Region.lexB .any l.toArray = true)
    (h : wpQuiet P l.toArray (Cls w) (fun a' => ∀ w', Cls w w' → Q .normal a' w') l a) : (Code.region id l.toArray true).wp P Q a w :=
  wp_region_quiet (C := Cls w) hm hB (show Below w.heap.size w _ from ⟨rfl, rfl, rfl, Nat.le_refl _, fun _ _ => rfl⟩) (by simpa using h)
theorem drew_below (w : World) : Below w.heap.size w w.drew := (Below.refl _ _).drew
theorem drew_next {w w' : World} (h : Below w.drew.heap.size w.drew w') : Below w.heap.size w w' := ⟨h.os, h.tape, h.output, h.size, h.block⟩
theorem set_self {α : Type} {l : List α} {i : Nat} {x : α} (h : l[i]? = some x) : l.set i x = l := by
  obtain ⟨hi, rfl⟩ := List.getElem?_eq_some_iff.1 h
  exact List.set_getElem_self hi
theorem pk_more {wi : World} {G n i p : Nat} {E : List Ent} {t : ByteArray} {d : Bool} {z z' : Int} {Q : List (Nat × Int)} {vm : Bool → Option Nat} {L : Bool → Assoc} {S : Int} (hi : E[i]? = some ⟨t, d, z, p⟩) (h : Pk wi G n (tx E) (bk E) ((zs E).set i (.int .i64 z')) (ps E) Q vm L S) :
    Pk wi G n (tx (E.set i ⟨t, d, z', p⟩)) (bk (E.set i ⟨t, d, z', p⟩)) (zs (E.set i ⟨t, d, z', p⟩)) (ps (E.set i ⟨t, d, z', p⟩)) Q vm L S := by
  have e1 : tx (E.set i ⟨t, d, z', p⟩) = tx E := by unfold tx; rw [List.map_set]; exact set_self (by simp [hi])
  have e2 : bk (E.set i ⟨t, d, z', p⟩) = bk E := by unfold bk; rw [List.map_set]; exact set_self (by simp [hi])
  have e3 : zs (E.set i ⟨t, d, z', p⟩) = (zs E).set i (.int .i64 z') := by unfold zs; rw [List.map_set]
  have e4 : ps (E.set i ⟨t, d, z', p⟩) = ps E := by unfold ps; rw [List.map_set]; exact set_self (by simp [hi])
  rw [e1, e2, e3, e4]
  exact h

set_option maxRecDepth 20000 in
set_option maxHeartbeats 40000000 in
theorem walk_main (a0 : Option Addr) (b off n cap : Nat) (St : Nat → Stp) (w : World) (hn : n ≤ 4096) (H : Hid (ScriptC.Steps w a0 b off n St)) :
    Calls Try.prog 8 #[.slice a0 n cap] w fun e w' => e = .returned (.bool true) ∧ Below w.heap.size w w' := by
  go_enter Try.func8, Try.ntmps8
  go_wp2_with fail
  refine (bytes29_in a0 b off n cap St w (by omega) H).mono ?_
  rintro e w' ⟨rfl, ⟨rfl, hs⟩ | rfl⟩
  rotate_left 1
  · go_wp2_with fail
    go_ret
    exact ⟨rfl, Below.refl _ _⟩
  have HS := hid hs
  clear hs
  go_wp2_with fail
  go_loopw [3, 4] (fun s i wr => ∃ (k : Nat) (sm : Int), k ≤ n ∧ i = .int .i64 k ∧ s = .int .i64 sm ∧ 0 ≤ sm ∧ sm ≤ 1048576 ∧ w = wr) (fun s i _ => n - (intOf i).toNat)
  case atStart => exact ⟨0, 0, Nat.zero_le _, rfl, rfl, by omega, by omega, rfl⟩
  case round =>
    obtain ⟨k, sm, hk, rfl, rfl, h0, h1, rfl⟩ := hrel
    by_cases hlt : k < n
    · obtain rfl := H.out.ad (by omega)
      have hlen := HS.out k hlt
      obtain ⟨⟨t, d, f, tk⟩, HB⟩ : ∃ x, Hid (St k = x) := ⟨_, rfl⟩
      obtain ⟨r0, _, _, _⟩ := stp_at (H.out.at_ k hlt) HB.out (Below.refl _ _)
      rw [HB.out] at hlen
      have hlen' : (t.size : Int) ≤ 1048576 := by have h : t.size ≤ 1048576 := hlen; omega
      clear hlen
      by_cases hs : sm + (40 + t.size) ≤ 1048576
      · go_wp2_with fail
        go_roundw
        case rel => exact ⟨k + 1, sm + (40 + t.size), by omega, by go_num, by go_num, by omega, by omega, by simp⟩
        case measure => simp [intOf]; omega
      · go_wp2_with fail
        go_ret
        exact ⟨rfl, Below.refl _ _⟩
    · obtain rfl : n = k := by omega
      clear hlt hk h0 h1
      go_wp2_with fail
      go_loopw [5] (fun i wr => ∃ (k : Nat), k ≤ n ∧ i = .int .i64 k ∧ w = wr ∧ Hid (∀ j, j < k → OkStep (St j))) (fun i _ => n - (intOf i).toNat)
      case atStart => exact ⟨0, Nat.zero_le _, rfl, rfl, hid (fun j hj => absurd hj (Nat.not_lt_zero j))⟩
      case round =>
        obtain ⟨k, hk, rfl, rfl, HO⟩ := hrel
        by_cases hlt : k < n
        · obtain rfl := H.out.ad (by omega)
          obtain ⟨⟨t, d, f, tk⟩, HB⟩ : ∃ x, Hid (St k = x) := ⟨_, rfl⟩
          obtain ⟨_, _, r2, r3⟩ := stp_at (H.out.at_ k hlt) HB.out (Below.refl _ _)
          by_cases hok : (0 ≤ f ∧ f ≤ 65536) ∧ 0 ≤ tk ∧ tk ≤ 65536 - f
          · obtain ⟨⟨f0, f1⟩, t0, t1⟩ := hok
            go_wp2_with fail
            go_roundw
            case rel => exact ⟨k + 1, by omega, by go_num, by simp, hid (fun j hj => by
              rcases Nat.lt_succ_iff_lt_or_eq.1 hj with h | rfl
              · exact HO.out j h
              · rw [HB.out]; exact ⟨f0, f1, t0, t1⟩)⟩
            case measure => simp [intOf]; omega
          · go_wp2_with fail
            all_goals go_ret
            all_goals exact ⟨rfl, Below.refl _ _⟩
        · obtain rfl : n = k := by omega
          clear hlt hk
          go_wp2_with (first
            | (go_at_call 22; refine (newMatchers _).mono ?_; rintro e w' ⟨rfl, rfl⟩)
            | (at_make; refine wpList_make_at rfl _ _ 49 rfl 9 _ 1 16 Try.underlying49 info9 _ _ _ _ 0 n rfl rfl rfl rfl (Nat.zero_le _) (by omega) (by omega) ?_)
            | (at_make; refine wpList_make_at rfl _ _ 50 rfl 4 _ 1 1 Try.underlying50 info4 _ _ _ _ 0 n rfl rfl rfl rfl (Nat.zero_le _) (by omega) (by omega) ?_)
            | (at_make; refine wpList_make_at rfl _ _ 51 rfl 3 _ 1 8 Try.underlying51 info3 _ _ _ _ 0 n rfl rfl rfl rfl (Nat.zero_le _) (by omega) (by omega) ?_)
            | (at_make; refine wpList_make_at rfl _ _ 52 rfl 38 _ 1 8 Try.underlying52 info38 _ _ _ _ 0 n rfl rfl rfl rfl (Nat.zero_le _) (by omega) (by omega) ?_))
          go_loopw [9, 10, 11, 12, 13, 14, 15, 16] (fun v9 v10 v11 v12 v13 v14 v15 v16 wr => ∃ (k m cf cb : Nat) (S : Int) (E : List Ent) (vm : Bool → Option Nat) (L : Bool → Assoc), k ≤ n ∧ m ≤ k ∧ cf ≤ k ∧ cb ≤ k ∧ 0 ≤ S ∧ S ≤ 65536 ∧ v9 = .slice (some ⟨w.heap.size + 1, 0, none⟩) m n ∧ v10 = .slice (some ⟨w.heap.size + 2, 0, none⟩) m n ∧ v11 = .slice (some ⟨w.heap.size + 3, 0, none⟩) m n ∧ v12 = .slice (some ⟨w.heap.size + 4, 0, none⟩) m n ∧ v13 = .int .i64 S ∧ v14 = .int .i64 cf ∧ v15 = .int .i64 cb ∧ v16 = .int .i64 k ∧ Hid (Inv w wr n m cf cb S E vm L)) (fun v9 v10 v11 v12 v13 v14 v15 v16 _ => n - (intOf v16).toNat)
          case atStart =>
            refine ⟨0, 0, 0, 0, 0, [], fun _ => none, fun _ => [], Nat.zero_le _, Nat.le_refl _, Nat.le_refl _, Nat.le_refl _, by omega, by omega, rfl, rfl, rfl, rfl, rfl, rfl, rfl, rfl, hid ?_⟩
            have h := pk_start w n
            refine ⟨?_, by simpa [tx, bk, zs, ps, pz] using h, book_nil, rfl, rfl, rfl⟩
            exact ((((((Below.refl _ _).alloc (by simp) _).alloc (by simp) _).alloc (by simp; omega) _).alloc (by simp; omega) _).alloc (by simp; omega) _)
          case round =>
            obtain ⟨k, m, cf, cb, S, E, vm, L, hk, hm, hcf, hcb, S0, S1, rfl, rfl, rfl, rfl, rfl, rfl, rfl, rfl, HI⟩ := hrel
            by_cases hlt : k < n
            · obtain rfl := H.out.ad (by omega)
              obtain ⟨⟨t, d, f, tk⟩, HB⟩ : ∃ x, Hid (St k = x) := ⟨_, rfl⟩
              have hlen' : t.size ≤ 1048576 := by have h := HS.out k hlt; rw [HB.out] at h; exact h
              obtain ⟨f0, f1, t0, t1⟩ : 0 ≤ f ∧ f ≤ 65536 ∧ 0 ≤ tk ∧ tk ≤ 65536 - f := by have h := HO.out k hlt; rw [HB.out] at h; exact h
              obtain ⟨r0, r1, r2, r3⟩ := stp_at (H.out.at_ k hlt) HB.out HI.out.bel
              go_wp2_with fail
              clear r0 r1 r2 r3
              have HR := hid (RSt.new HI.out t d f tk)
              clear HI
              obtain ⟨wo, rfl⟩ : ∃ wo : World, wo = wr := ⟨_, rfl⟩
              by_cases hfound : ∃ (i : Nat) (x : Ent), E[i]? = some x ∧ x.b = d ∧ x.t = t
              · obtain ⟨i, x, hxi, hxb, hxt⟩ := hfound
                obtain ⟨xt0, xb0, xz, xp⟩ := x
                have HX : Hid (E[i]? = some ⟨t, d, xz, xp⟩) := hid (by cases hxb; cases hxt; exact hxi)
                have him : i < m := by rw [← HR.out.inv.m]; exact (List.getElem?_eq_some_iff.1 hxi).1
                clear hxi hxb hxt xt0 xb0
                go_loopw [18, 19] (fun v18 v19 wi => ∃ e : Nat, e ≤ i ∧ v18 = .int .i64 (-1) ∧ v19 = .int .i64 e ∧ Hid (RSt w wi wo.heap.size n m cf cb S E vm L t d f tk)) (fun _ v19 _ => m - (intOf v19).toNat)
                case atStart => exact ⟨0, Nat.zero_le _, rfl, rfl, HR⟩
                case round =>
                  clear HR
                  obtain ⟨e, he, rfl, rfl, HR⟩ := hrel
                  have hem : e < m := by omega
                  by_cases hei : e < i
                  · obtain ⟨⟨xt, xb, yz, yp⟩, hx⟩ : ∃ x, E[e]? = some x := ⟨_, List.getElem?_eq_getElem (by rw [HR.out.inv.m]; exact hem)⟩
                    have c0 : wr.cell? ⟨w.heap.size + 1, e, none⟩ = some (.string xt) := HR.out.inv.pk.rt.get (by simp [tx, hx])
                    have c1 : wr.cell? ⟨w.heap.size + 2, e, none⟩ = some (.bool xb) := HR.out.inv.pk.rb.get (by simp [bk, hx])
                    obtain ⟨q0, q1, _, _⟩ := HR.out.bx
                    by_cases hb : xb = d
                    · subst hb
                      have hbt : (xt.toList == t.toList) = false := by
                        rw [← beq_toListBytes, bytes_beq]
                        simp only [decide_eq_false_iff_not]
                        intro ht
                        have := HR.out.inv.book.key e i _ _ hx HX.out ht rfl
                        omega
                      clear hx
                      go_wp2_with fail
                      go_quiet (fail)
                      go_wp2_with fail
                      go_roundw
                      case rel => exact ⟨e + 1, by omega, rfl, by go_num, hid (HR.out.below (drewN_below _ _))⟩
                      case measure => simp [intOf]; omega
                    · have hbd : (xb == d) = false := by simpa using hb
                      clear hx hb
                      go_wp2_with fail
                      go_quiet (fail)
                      go_wp2_with fail
                      go_roundw
                      case rel => exact ⟨e + 1, by omega, rfl, by go_num, hid (HR.out.below (drewN_below _ _))⟩
                      case measure => simp [intOf]; omega
                  · obtain rfl : e = i := by omega
                    clear hei he
                    have c0 : wr.cell? ⟨w.heap.size + 1, e, none⟩ = some (.string t) := HR.out.inv.pk.rt.get (by simp [tx, HX.out])
                    have c1 : wr.cell? ⟨w.heap.size + 2, e, none⟩ = some (.bool d) := HR.out.inv.pk.rb.get (by simp [bk, HX.out])
                    have c3 : wr.cell? ⟨w.heap.size + 4, e, none⟩ = some (.pointer (some ⟨xp, 0, none⟩)) := HR.out.inv.pk.rp.get (by simp [ps, HX.out])
                    obtain ⟨q0, q1, q2, q3⟩ := HR.out.bx
                    have HZ : Hid (SZ wr xp xz) := hid (HR.out.inv.pk.sz (xp, xz) (List.mem_map.2 ⟨_, List.mem_of_getElem? HX.out, rfl⟩))
                    have z0 : 0 < xz := HR.out.inv.book.pos _ (List.mem_of_getElem? HX.out)
                    have z1 : xz ≤ S := HR.out.inv.book.le (List.mem_of_getElem? HX.out)
                    have hpg : wo.heap.size ≠ xp := by have := HR.out.old _ (List.mem_of_getElem? HX.out); simp only at this; omega
                    have hp5 : w.heap.size + 5 ≤ xp := HR.out.inv.pk.ge (xp, xz) (List.mem_map.2 ⟨_, List.mem_of_getElem? HX.out, rfl⟩)
                    have hbt : (t.toList == t.toList) = true := by simp
                    go_wp2_with fail
                    go_quiet (fail)
                    go_wp2_with fail
                    clear c0 c1 c3 q0 q1 q2 q3 hbt
                    by_cases hfit : 0 < f ∧ S + (65536 - f - tk) ≤ 65536
                    · as_aux_lemma =>
                      refine (zz_more w.heap.size xp vm L S xz f tk t d _ hlen' (HR.out.below (drewN_below _ _)).ks (sz_next HZ (drewN_below _ _)) (hid (by omega)) hfit.1 f1 t0 t1 S0 S1 z0 (by omega) hfit.2).mono ?_
                      rintro e w3 ⟨rfl, k3, z3, fr3⟩
                      have HP3 := hid ((HR.out.below (drewN_below _ _)).keptMore (c := 65536 - f - tk) HX.out fr3 hpg k3 z3)
                      have HBK := hid (HR.out.inv.book.more HX.out (c := 65536 - f - tk) (by omega))
                      have HA : Hid (ans t (L d) = .pointer (some ⟨xp, 0, none⟩)) := hid (ans_mem (HR.out.inv.book.nd d) (HR.out.inv.book.mem _ (List.mem_of_getElem? HX.out)))
                      have HCF : Hid (((L false).length : Int) = cf) := hid (by rw [HR.out.inv.cf])
                      have HCB : Hid (((L true).length : Int) = cb) := hid (by rw [HR.out.inv.cb])
                      have HIC := hid (And.intro HR.out.inv.m (And.intro HR.out.inv.cf HR.out.inv.cb))
                      have c2 : w3.cell? ⟨w.heap.size + 3, e, none⟩ = some (.int .i64 xz) := HP3.out.pk.rs.get (by simp [zs, HX.out])
                      have fz2 : w3.frozen? ⟨w.heap.size + 3, e, none⟩ = false := HP3.out.pk.rs.fz e
                      obtain ⟨q0, q1, q2, q3⟩ := HP3.out.bx
                      have q38 := neq38
                      clear k3 z3 fr3 HR HZ
                      obtain ⟨f0', hfit⟩ := hfit
                      go_wp2_with fail
                      clear q0 q1 q2 q3 c2 fz2
                      have hset := HP3.out.set3 (i := e) (by simp [zs]; rw [HIC.out.1]; exact hem) (.int .i64 (xz + (65536 - f - tk)))
                      obtain ⟨w4, hw4⟩ : ∃ w4, w3.setCell ⟨w.heap.size + 3, e, none⟩ (.int .i64 (xz + (65536 - f - tk))) = w4 := ⟨_, rfl⟩
                      rw [hw4] at hset
                      rw [hw4]
                      have HPT := hid hset
                      have HKT := HPT.out.ks
                      have HZT : Hid (SZ w4 xp (xz + (65536 - f - tk))) := hid (HPT.out.pk.sz (xp, _) (List.mem_map.2 ⟨⟨t, d, xz + (65536 - f - tk), xp⟩, List.mem_of_getElem? (i := e) (by rw [List.getElem?_set, if_pos rfl, if_pos (by rw [HIC.out.1]; exact hem)]), rfl⟩))
                      clear hset hw4 HP3
                      obtain ⟨q0, q1, q2, q3⟩ := HPT.out.bx
                      go_wp2_with (first
                        | (go_at_call 27; refine (msSize HKT).mono ?_; rintro e w' ⟨rfl, rfl⟩)
                        | (go_at_call 26; refine (keptSize _ HZT).mono ?_; rintro e w' ⟨rfl, rfl⟩))
                      refine (keptAt_to t d _ HKT HA).mono ?_
                      rintro e w8 ⟨rfl, hb⟩
                      have HP8 := hid (HPT.out.below hb)
                      have HK8 := HP8.out.ks
                      clear hb q0 q1 q2 q3 HKT HZT HPT
                      go_wp2_with fail
                      refine (count_int false _ HK8 HCF).mono ?_
                      rintro e w9 ⟨rfl, hb⟩
                      have HP9 := hid (HP8.out.below hb)
                      have HK9 := HP9.out.ks
                      clear hb HK8 HP8
                      go_wp2_with fail
                      refine (count_int true _ HK9 HCB).mono ?_
                      rintro e w10 ⟨rfl, hb⟩
                      have HP10 := hid (HP9.out.below hb)
                      clear hb HK9 HP9
                      go_wp2_with fail
                      go_roundw
                      case rel => exact ⟨k + 1, m, cf, cb, S + (65536 - f - tk), E.set e ⟨t, d, xz + (65536 - f - tk), xp⟩, vm, L, by omega, by omega, by omega, by omega, by omega, by omega, rfl, rfl, rfl, rfl, by go_num, by go_num, by go_num, by go_num, hid ⟨HP10.out.bel, pk_more HX.out HP10.out.pk, HBK.out, by simp [HIC.out.1], HIC.out.2.1, HIC.out.2.2⟩⟩
                      case measure => simp [intOf]; omega
                    · obtain ⟨j, hj, hjg⟩ := look_mem 0 (HR.out.inv.book.nd d) (HR.out.inv.book.mem _ (List.mem_of_getElem? HX.out))
                      obtain ⟨r, hr⟩ := mm_some (HR.out.ks.out.m d) (fun e0 => by rw [e0] at hjg; simp at hjg)
                      refine (zz_drop w.heap.size xp r vm L S xz f tk t d j xp _ hlen' (HR.out.below (drewN_below _ _)).ks (sz_next HZ (drewN_below _ _)) (hid (by omega)) f0 f1 t0 t1 S0 S1 z0 (by omega) (by omega) (hid hr) (hid (by simpa using hj))).mono ?_
                      rintro e' w3 ⟨rfl, k3, z3, fr3⟩
                      obtain ⟨m', rfl⟩ : ∃ m', m = m' + 1 := ⟨m - 1, by omega⟩
                      have hEl := HR.out.inv.m
                      obtain ⟨⟨lt, lb, lz, lp⟩, hg⟩ : ∃ x, E[m']? = some x := ⟨_, List.getElem?_eq_getElem (by omega)⟩
                      have hg' : E[E.length - 1]? = some ⟨lt, lb, lz, lp⟩ := by rw [hEl]; exact hg
                      have hp3 := (HR.out.below (drewN_below _ _)).keptDrop HX.out hg' fr3 hpg k3
                      have hbook := HR.out.inv.book.drop HX.out hg' hjg
                      have hjl : j < (L d).length := (List.getElem?_eq_some_iff.1 hjg).1
                      have hmem := mem_erase (HR.out.inv.book.nd d) hjg
                      obtain ⟨L', hL'⟩ : ∃ L' : Bool → Assoc, (fun x => if x = d then (L d).eraseIdx j else L x) = L' := ⟨_, rfl⟩
                      rw [hL'] at hp3
                      have hbook' : Book (swap E e ⟨lt, lb, lz, lp⟩) L' (S - xz) := by rw [← hL']; exact hbook
                      have HP3 := hid hp3
                      have HBK := hid hbook'
                      have HA : Hid (ans t (L' d) = .pointer none) := hid (ans_none (fun x hx => by rw [← hL'] at hx; simp only [if_true] at hx; exact ((hmem x).1 hx).2))
                      have HLD : Hid (((L' d).length : Int) = (L d).length - 1) := hid (by rw [← hL']; simp only [if_true]; rw [List.length_eraseIdx, if_pos hjl]; omega)
                      have HLN : Hid (((L' (!d)).length : Int) = (L (!d)).length) := hid (by rw [← hL']; simp)
                      have HIC := hid (And.intro HR.out.inv.m (And.intro HR.out.inv.cf HR.out.inv.cb))
                      have HTX : Hid (tx (swap E e ⟨lt, lb, lz, lp⟩) = ((tx E).set e (.string lt)).take m' ∧ bk (swap E e ⟨lt, lb, lz, lp⟩) = ((bk E).set e (.bool lb)).take m' ∧ zs (swap E e ⟨lt, lb, lz, lp⟩) = ((zs E).set e (.int .i64 lz)).take m' ∧ ps (swap E e ⟨lt, lb, lz, lp⟩) = ((ps E).set e (.pointer (some ⟨lp, 0, none⟩))).take m') := hid (by
                        have em : m' = E.length - 1 := by omega
                        subst em
                        exact ⟨swap_map _ _ _ _, swap_map _ _ _ _, swap_map _ _ _ _, swap_map _ _ _ _⟩)
                      have hpos : 0 < (L d).length := by omega
                      have HZ3 := hid z3
                      have c0 : w3.cell? ⟨w.heap.size + 1, e, none⟩ = some (.string t) := hp3.pk.rt.get (by simp [tx, HX.out])
                      have c1 : w3.cell? ⟨w.heap.size + 2, e, none⟩ = some (.bool d) := hp3.pk.rb.get (by simp [bk, HX.out])
                      have c2 : w3.cell? ⟨w.heap.size + 3, e, none⟩ = some (.int .i64 xz) := hp3.pk.rs.get (by simp [zs, HX.out])
                      have c3 : w3.cell? ⟨w.heap.size + 4, e, none⟩ = some (.pointer (some ⟨xp, 0, none⟩)) := hp3.pk.rp.get (by simp [ps, HX.out])
                      have l0 : w3.cell? ⟨w.heap.size + 1, m', none⟩ = some (.string lt) := hp3.pk.rt.get (by simp [tx, hg])
                      have l1 : w3.cell? ⟨w.heap.size + 2, m', none⟩ = some (.bool lb) := hp3.pk.rb.get (by simp [bk, hg])
                      have l2 : w3.cell? ⟨w.heap.size + 3, m', none⟩ = some (.int .i64 lz) := hp3.pk.rs.get (by simp [zs, hg])
                      have l3 : w3.cell? ⟨w.heap.size + 4, m', none⟩ = some (.pointer (some ⟨lp, 0, none⟩)) := hp3.pk.rp.get (by simp [ps, hg])
                      have y0 : w3.frozen? ⟨w.heap.size + 1, e, none⟩ = false := hp3.pk.rt.fz e
                      have y1 : w3.frozen? ⟨w.heap.size + 2, e, none⟩ = false := hp3.pk.rb.fz e
                      have y2 : w3.frozen? ⟨w.heap.size + 3, e, none⟩ = false := hp3.pk.rs.fz e
                      have y3 : w3.frozen? ⟨w.heap.size + 4, e, none⟩ = false := hp3.pk.rp.fz e
                      obtain ⟨q0, q1, q2, q3⟩ := HP3.out.bx
                      have HHIT := hid hfit
                      clear hfit hp3 hbook hbook' hmem hL' k3 z3 fr3 hj hjg hr hg hg' HZ hEl hjl
                      have HSET := hid (((((HP3.out.set1 (i := e) (by simp [tx]; rw [HIC.out.1]; exact hem) (.string lt)).set2 (i := e) (by simp [bk]; rw [HIC.out.1]; exact hem) (.bool lb)).set3 (i := e) (by simp [zs]; rw [HIC.out.1]; exact hem) (.int .i64 lz)).set4 (i := e) (by simp [ps]; rw [HIC.out.1]; exact hem) (.pointer (some ⟨lp, 0, none⟩))).cut m')
                      have HZS := hid ((((HZ3.out.setOther (w.heap.size + 1) e (.string lt) (by omega)).setOther (w.heap.size + 2) e (.bool lb) (by omega)).setOther (w.heap.size + 3) e (.int .i64 lz) (by omega)).setOther (w.heap.size + 4) e (.pointer (some ⟨lp, 0, none⟩)) (by omega))
                      clear HR
                      rcases (show f ≤ 0 ∨ (0 < f ∧ ¬ (S + (65536 - f - tk) ≤ 65536)) by have := HHIT.out; omega) with hf | ⟨hf, hf2⟩
                      · cases d
                        · as_aux_lemma =>
                          obtain ⟨c', rfl⟩ : ∃ c', cf = c' + 1 := ⟨cf - 1, by have := HIC.out.2.1; omega⟩
                          have HCF : Hid (((L' false).length : Int) = c') := hid (by have h1 := HLD.out; have h2 := HIC.out.2.1; omega)
                          have HCB : Hid (((L' true).length : Int) = cb) := hid (by have h1 := HLN.out; have h2 := HIC.out.2.2; simp only [Bool.not_false] at h1; omega)
                          clear HLD HLN hpos
                          go_wp2_with fail
                          clear q0 q1 q2 q3 c0 c1 c2 c3 l0 l1 l2 l3 y0 y1 y2 y3
                          obtain ⟨w4, hw4⟩ : ∃ w4, (((w3.setCell ⟨w.heap.size + 1, e, none⟩ (.string lt)).setCell ⟨w.heap.size + 2, e, none⟩ (.bool lb)).setCell ⟨w.heap.size + 3, e, none⟩ (.int .i64 lz)).setCell ⟨w.heap.size + 4, e, none⟩ (.pointer (some ⟨lp, 0, none⟩)) = w4 := ⟨_, rfl⟩
                          rw [hw4] at HSET HZS
                          rw [hw4]
                          have HPT := HSET
                          have HKT := HPT.out.ks
                          have HZT := HZS
                          clear hw4 HSET HZS HP3 HZ3
                          obtain ⟨q0, q1, q2, q3⟩ := HPT.out.bx
                          go_wp2_with (first
                            | (go_at_call 27; refine (msSize HKT).mono ?_; rintro e w' ⟨rfl, rfl⟩)
                            | (go_at_call 26; refine (keptSize _ HZT).mono ?_; rintro e w' ⟨rfl, rfl⟩))
                          refine (keptAt_to t false _ HKT HA).mono ?_
                          rintro e w8 ⟨rfl, hb⟩
                          have HP8 := hid (HPT.out.below hb)
                          have HK8 := HP8.out.ks
                          clear hb q0 q1 q2 q3 HKT HZT HPT
                          go_wp2_with fail
                          refine (count_int false _ HK8 HCF).mono ?_
                          rintro e w9 ⟨rfl, hb⟩
                          have HP9 := hid (HP8.out.below hb)
                          have HK9 := HP9.out.ks
                          clear hb HK8 HP8
                          go_wp2_with fail
                          refine (count_int true _ HK9 HCB).mono ?_
                          rintro e w10 ⟨rfl, hb⟩
                          have HP10 := hid (HP9.out.below hb)
                          clear hb HK9 HP9
                          go_wp2_with fail
                          go_roundw
                          case rel => exact ⟨k + 1, m', c', cb, S - xz, swap E e ⟨lt, lb, lz, lp⟩, vm, L', by omega, by omega, by omega, by omega, by omega, by omega, rfl, rfl, rfl, rfl, by go_num, by go_num, by go_num, by go_num, hid ⟨HP10.out.bel, by rw [HTX.out.1, HTX.out.2.1, HTX.out.2.2.1, HTX.out.2.2.2]; exact HP10.out.pk, HBK.out, by rw [swap_length, HIC.out.1]; rfl, by have := HCF.out; omega, by have := HCB.out; omega⟩⟩
                          case measure => simp [intOf]; omega
                        · as_aux_lemma =>
                          obtain ⟨c', rfl⟩ : ∃ c', cb = c' + 1 := ⟨cb - 1, by have := HIC.out.2.2; omega⟩
                          have HCF : Hid (((L' false).length : Int) = cf) := hid (by have h1 := HLN.out; have h2 := HIC.out.2.1; simp only [Bool.not_true] at h1; omega)
                          have HCB : Hid (((L' true).length : Int) = c') := hid (by have h1 := HLD.out; have h2 := HIC.out.2.2; omega)
                          clear HLD HLN hpos
                          go_wp2_with fail
                          clear q0 q1 q2 q3 c0 c1 c2 c3 l0 l1 l2 l3 y0 y1 y2 y3
                          obtain ⟨w4, hw4⟩ : ∃ w4, (((w3.setCell ⟨w.heap.size + 1, e, none⟩ (.string lt)).setCell ⟨w.heap.size + 2, e, none⟩ (.bool lb)).setCell ⟨w.heap.size + 3, e, none⟩ (.int .i64 lz)).setCell ⟨w.heap.size + 4, e, none⟩ (.pointer (some ⟨lp, 0, none⟩)) = w4 := ⟨_, rfl⟩
                          rw [hw4] at HSET HZS
                          rw [hw4]
                          have HPT := HSET
                          have HKT := HPT.out.ks
                          have HZT := HZS
                          clear hw4 HSET HZS HP3 HZ3
                          obtain ⟨q0, q1, q2, q3⟩ := HPT.out.bx
                          go_wp2_with (first
                            | (go_at_call 27; refine (msSize HKT).mono ?_; rintro e w' ⟨rfl, rfl⟩)
                            | (go_at_call 26; refine (keptSize _ HZT).mono ?_; rintro e w' ⟨rfl, rfl⟩))
                          refine (keptAt_to t true _ HKT HA).mono ?_
                          rintro e w8 ⟨rfl, hb⟩
                          have HP8 := hid (HPT.out.below hb)
                          have HK8 := HP8.out.ks
                          clear hb q0 q1 q2 q3 HKT HZT HPT
                          go_wp2_with fail
                          refine (count_int false _ HK8 HCF).mono ?_
                          rintro e w9 ⟨rfl, hb⟩
                          have HP9 := hid (HP8.out.below hb)
                          have HK9 := HP9.out.ks
                          clear hb HK8 HP8
                          go_wp2_with fail
                          refine (count_int true _ HK9 HCB).mono ?_
                          rintro e w10 ⟨rfl, hb⟩
                          have HP10 := hid (HP9.out.below hb)
                          clear hb HK9 HP9
                          go_wp2_with fail
                          go_roundw
                          case rel => exact ⟨k + 1, m', cf, c', S - xz, swap E e ⟨lt, lb, lz, lp⟩, vm, L', by omega, by omega, by omega, by omega, by omega, by omega, rfl, rfl, rfl, rfl, by go_num, by go_num, by go_num, by go_num, hid ⟨HP10.out.bel, by rw [HTX.out.1, HTX.out.2.1, HTX.out.2.2.1, HTX.out.2.2.2]; exact HP10.out.pk, HBK.out, by rw [swap_length, HIC.out.1]; rfl, by have := HCF.out; omega, by have := HCB.out; omega⟩⟩
                          case measure => simp [intOf]; omega
                      · cases d
                        · as_aux_lemma =>
                          obtain ⟨c', rfl⟩ : ∃ c', cf = c' + 1 := ⟨cf - 1, by have := HIC.out.2.1; omega⟩
                          have HCF : Hid (((L' false).length : Int) = c') := hid (by have h1 := HLD.out; have h2 := HIC.out.2.1; omega)
                          have HCB : Hid (((L' true).length : Int) = cb) := hid (by have h1 := HLN.out; have h2 := HIC.out.2.2; simp only [Bool.not_false] at h1; omega)
                          clear HLD HLN hpos
                          go_wp2_with fail
                          clear q0 q1 q2 q3 c0 c1 c2 c3 l0 l1 l2 l3 y0 y1 y2 y3
                          obtain ⟨w4, hw4⟩ : ∃ w4, (((w3.setCell ⟨w.heap.size + 1, e, none⟩ (.string lt)).setCell ⟨w.heap.size + 2, e, none⟩ (.bool lb)).setCell ⟨w.heap.size + 3, e, none⟩ (.int .i64 lz)).setCell ⟨w.heap.size + 4, e, none⟩ (.pointer (some ⟨lp, 0, none⟩)) = w4 := ⟨_, rfl⟩
                          rw [hw4] at HSET HZS
                          rw [hw4]
                          have HPT := HSET
                          have HKT := HPT.out.ks
                          have HZT := HZS
                          clear hw4 HSET HZS HP3 HZ3
                          obtain ⟨q0, q1, q2, q3⟩ := HPT.out.bx
                          go_wp2_with (first
                            | (go_at_call 27; refine (msSize HKT).mono ?_; rintro e w' ⟨rfl, rfl⟩)
                            | (go_at_call 26; refine (keptSize _ HZT).mono ?_; rintro e w' ⟨rfl, rfl⟩))
                          refine (keptAt_to t false _ HKT HA).mono ?_
                          rintro e w8 ⟨rfl, hb⟩
                          have HP8 := hid (HPT.out.below hb)
                          have HK8 := HP8.out.ks
                          clear hb q0 q1 q2 q3 HKT HZT HPT
                          go_wp2_with fail
                          refine (count_int false _ HK8 HCF).mono ?_
                          rintro e w9 ⟨rfl, hb⟩
                          have HP9 := hid (HP8.out.below hb)
                          have HK9 := HP9.out.ks
                          clear hb HK8 HP8
                          go_wp2_with fail
                          refine (count_int true _ HK9 HCB).mono ?_
                          rintro e w10 ⟨rfl, hb⟩
                          have HP10 := hid (HP9.out.below hb)
                          clear hb HK9 HP9
                          go_wp2_with fail
                          go_roundw
                          case rel => exact ⟨k + 1, m', c', cb, S - xz, swap E e ⟨lt, lb, lz, lp⟩, vm, L', by omega, by omega, by omega, by omega, by omega, by omega, rfl, rfl, rfl, rfl, by go_num, by go_num, by go_num, by go_num, hid ⟨HP10.out.bel, by rw [HTX.out.1, HTX.out.2.1, HTX.out.2.2.1, HTX.out.2.2.2]; exact HP10.out.pk, HBK.out, by rw [swap_length, HIC.out.1]; rfl, by have := HCF.out; omega, by have := HCB.out; omega⟩⟩
                          case measure => simp [intOf]; omega
                        · as_aux_lemma =>
                          obtain ⟨c', rfl⟩ : ∃ c', cb = c' + 1 := ⟨cb - 1, by have := HIC.out.2.2; omega⟩
                          have HCF : Hid (((L' false).length : Int) = cf) := hid (by have h1 := HLN.out; have h2 := HIC.out.2.1; simp only [Bool.not_true] at h1; omega)
                          have HCB : Hid (((L' true).length : Int) = c') := hid (by have h1 := HLD.out; have h2 := HIC.out.2.2; omega)
                          clear HLD HLN hpos
                          go_wp2_with fail
                          clear q0 q1 q2 q3 c0 c1 c2 c3 l0 l1 l2 l3 y0 y1 y2 y3
                          obtain ⟨w4, hw4⟩ : ∃ w4, (((w3.setCell ⟨w.heap.size + 1, e, none⟩ (.string lt)).setCell ⟨w.heap.size + 2, e, none⟩ (.bool lb)).setCell ⟨w.heap.size + 3, e, none⟩ (.int .i64 lz)).setCell ⟨w.heap.size + 4, e, none⟩ (.pointer (some ⟨lp, 0, none⟩)) = w4 := ⟨_, rfl⟩
                          rw [hw4] at HSET HZS
                          rw [hw4]
                          have HPT := HSET
                          have HKT := HPT.out.ks
                          have HZT := HZS
                          clear hw4 HSET HZS HP3 HZ3
                          obtain ⟨q0, q1, q2, q3⟩ := HPT.out.bx
                          go_wp2_with (first
                            | (go_at_call 27; refine (msSize HKT).mono ?_; rintro e w' ⟨rfl, rfl⟩)
                            | (go_at_call 26; refine (keptSize _ HZT).mono ?_; rintro e w' ⟨rfl, rfl⟩))
                          refine (keptAt_to t true _ HKT HA).mono ?_
                          rintro e w8 ⟨rfl, hb⟩
                          have HP8 := hid (HPT.out.below hb)
                          have HK8 := HP8.out.ks
                          clear hb q0 q1 q2 q3 HKT HZT HPT
                          go_wp2_with fail
                          refine (count_int false _ HK8 HCF).mono ?_
                          rintro e w9 ⟨rfl, hb⟩
                          have HP9 := hid (HP8.out.below hb)
                          have HK9 := HP9.out.ks
                          clear hb HK8 HP8
                          go_wp2_with fail
                          refine (count_int true _ HK9 HCB).mono ?_
                          rintro e w10 ⟨rfl, hb⟩
                          have HP10 := hid (HP9.out.below hb)
                          clear hb HK9 HP9
                          go_wp2_with fail
                          go_roundw
                          case rel => exact ⟨k + 1, m', cf, c', S - xz, swap E e ⟨lt, lb, lz, lp⟩, vm, L', by omega, by omega, by omega, by omega, by omega, by omega, rfl, rfl, rfl, rfl, by go_num, by go_num, by go_num, by go_num, hid ⟨HP10.out.bel, by rw [HTX.out.1, HTX.out.2.1, HTX.out.2.2.1, HTX.out.2.2.2]; exact HP10.out.pk, HBK.out, by rw [swap_length, HIC.out.1]; rfl, by have := HCF.out; omega, by have := HCB.out; omega⟩⟩
                          case measure => simp [intOf]; omega
              · have HN := hid hfound
                clear hfound
                go_loopw [18, 19] (fun v18 v19 wi => ∃ e : Nat, e ≤ m ∧ v18 = .int .i64 (-1) ∧ v19 = .int .i64 e ∧ Hid (RSt w wi wo.heap.size n m cf cb S E vm L t d f tk)) (fun _ v19 _ => m - (intOf v19).toNat)
                case atStart => exact ⟨0, Nat.zero_le _, rfl, rfl, HR⟩
                case round =>
                  clear HR
                  obtain ⟨e, he, rfl, rfl, HR⟩ := hrel
                  by_cases hem : e < m
                  · obtain ⟨⟨xt, xb, xz, xp⟩, hx⟩ : ∃ x, E[e]? = some x := ⟨_, List.getElem?_eq_getElem (by rw [HR.out.inv.m]; exact hem)⟩
                    have c0 : wr.cell? ⟨w.heap.size + 1, e, none⟩ = some (.string xt) := HR.out.inv.pk.rt.get (by simp [tx, hx])
                    have c1 : wr.cell? ⟨w.heap.size + 2, e, none⟩ = some (.bool xb) := HR.out.inv.pk.rb.get (by simp [bk, hx])
                    obtain ⟨q0, q1, _, _⟩ := HR.out.bx
                    by_cases hb : xb = d
                    · subst hb
                      have hbt : (xt.toList == t.toList) = false := by rw [← beq_toListBytes, bytes_beq]; simp; intro ht; exact HN.out ⟨e, _, hx, rfl, ht⟩
                      clear hx
                      go_wp2_with fail
                      go_quiet (fail)
                      go_wp2_with fail
                      go_roundw
                      case rel => exact ⟨e + 1, by omega, rfl, by go_num, hid (HR.out.below (drewN_below _ _))⟩
                      case measure => simp [intOf]; omega
                    · have hbd : (xb == d) = false := by simpa using hb
                      clear hx hb
                      go_wp2_with fail
                      go_quiet (fail)
                      go_wp2_with fail
                      go_roundw
                      case rel => exact ⟨e + 1, by omega, rfl, by go_num, hid (HR.out.below (drewN_below _ _))⟩
                      case measure => simp [intOf]; omega
                  · obtain rfl : m = e := by omega
                    clear hem he
                    go_wp2_with fail
                    refine (newKept _).mono ?_
                    rintro e w2 ⟨rfl, hb2, hz2, _⟩
                    have HR2 := hid (HR.out.below hb2)
                    have HZ2 := hid hz2
                    have hp : w.heap.size ≠ wr.heap.size := by have := HR.out.inv.pk.g_lt; omega
                    obtain ⟨p, hpe⟩ : ∃ p, wr.heap.size = p := ⟨_, rfl⟩
                    rw [hpe] at HZ2 hp
                    rw [hpe]
                    clear hb2 hz2
                    have HPN : Hid (∀ e ∈ E, e.p ≠ p) := hid (by rw [← hpe]; exact HR.out.fresh)
                    have HP5 : Hid (w.heap.size + 5 ≤ p) := hid (by rw [← hpe]; exact HR.out.inv.pk.g_lt)
                    have HPG : Hid (wo.heap.size ≠ p) := hid (by rw [← hpe]; have := HR.out.bx.lt; omega)
                    clear hpe HR
                    have HA0 : Hid (ans t (L d) = .pointer none) := hid (ans_none (HR2.out.inv.book.none_of (HR2.out.no HN.out)))
                    obtain ⟨q0, q1, q2, q3⟩ := HR2.out.bx
                    go_wp2_with fail
                    clear q0 q1 q2 q3
                    by_cases hfit : 0 < f ∧ S + (65536 - f - tk + (t.size + 256)) ≤ 65536
                    · refine (zz_new w.heap.size p vm L S f tk t d w2 hlen' HR2.out.ks HZ2 (hid hp) hfit.1 f1 t0 t1 S0 S1 hfit.2 (hid (look_none (HR2.out.inv.book.none_of (HR2.out.no HN.out))))).mono ?_
                      rintro e w3 ⟨rfl, vm', k3, z3, fr3, hv3⟩
                      obtain ⟨f0', hfit⟩ := hfit
                      have hbook := HR2.out.inv.book.add (d := d) (s := t) (p := p) (c := 65536 - f - tk + (t.size + 256)) (HR2.out.no HN.out) (by omega) HPN.out
                      have hp3 := HR2.out.keptNew fr3 HP5.out HPG.out HPN.out k3 z3 hv3
                      obtain ⟨L', hL'⟩ : ∃ L' : Bool → Assoc, (fun x => if x = d then L d ++ [(t, p)] else L x) = L' := ⟨_, rfl⟩
                      rw [hL'] at hbook hp3
                      have HBK := hid hbook
                      have HP3 := hid hp3
                      have HA : Hid (ans t (L' d) = .pointer (some ⟨p, 0, none⟩)) := hid (ans_mem (hbook.nd d) (by rw [← hL']; simp))
                      have HLD : Hid (((L' d).length : Int) = (L d).length + 1) := hid (by rw [← hL']; simp)
                      have HLN : Hid (((L' (!d)).length : Int) = (L (!d)).length) := hid (by rw [← hL']; simp)
                      have HIC := hid (And.intro HR2.out.inv.m (And.intro HR2.out.inv.cf HR2.out.inv.cb))
                      have HLT : Hid ((tx E).length = m ∧ (bk E).length = m ∧ (zs E).length = m ∧ (ps E).length = m) := hid (by simp [tx, bk, zs, ps, HR2.out.inv.m])
                      clear hbook hp3 hL' k3 z3 fr3 hv3 HR2 HZ2 HN HA0 HPN
                      obtain ⟨i9, hi9, _, hz9, _⟩ := info_parts info9
                      obtain ⟨i4, hi4, _, hz4, _⟩ := info_parts info4
                      obtain ⟨i3, hi3, _, hz3, _⟩ := info_parts info3
                      obtain ⟨i38, hi38, _, hz38, _⟩ := info_parts info38
                      have hi9 := hid hi9
                      have hi4 := hid hi4
                      have hi3 := hid hi3
                      have hi38 := hid hi38
                      have hz9 := hid hz9
                      have hz4 := hid hz4
                      have hz3 := hid hz3
                      have hz38 := hid hz38
                      obtain ⟨q0, q1, q2, q3⟩ := HP3.out.bx
                      have q38 := neq38
                      cases d
                      · as_aux_lemma =>
                          have HCF : Hid (((L' false).length : Int) = (cf : Int) + 1) := hid (by rw [HLD.out, HIC.out.2.1])
                          have HCB : Hid (((L' true).length : Int) = cb) := hid (by have h := HLN.out; simp only [Bool.not_false] at h; rw [h, HIC.out.2.2])
                          go_wp2_with (first
                            | (at_builtin; refine wpList_append_fits _ rfl (.tmp 175) (.tmp 178) 49 rfl 0 9 i9 1 Try.underlying49 hi9 hz9 (w.heap.size + 1) m n (tx E) rfl (own_at (HP3.out.below ((Below.refl _ _).alloc (Nat.le_refl _) _)).pk.rt HLT.out.1 hn) ⟨w3.heap.size, 0, none⟩ 1 1 [.string t] rfl rfl (one_new _ _ _) (by simp [Value.oneCell']) (by omega) ?_; intro w4 ho4 hg4; have HP4 := hid ((HP3.out.below ((Below.refl _ _).alloc (Nat.le_refl _) _)).grow1 hg4 ho4); clear ho4 hg4 q0 q1 q2 q3; obtain ⟨q0, q1, q2, q3⟩ := HP4.out.bx)
                            | (at_builtin; refine wpList_append_fits _ rfl (.tmp 180) (.tmp 183) 50 rfl 0 4 i4 1 Try.underlying50 hi4 hz4 (w.heap.size + 2) m n (bk E) rfl (own_at (HP4.out.below ((Below.refl _ _).alloc (Nat.le_refl _) _)).pk.rb HLT.out.2.1 hn) ⟨w4.heap.size, 0, none⟩ 1 1 [.bool false] rfl rfl (one_new _ _ _) (by simp [Value.oneCell']) (by omega) ?_; intro w5 ho5 hg5; have HPB := hid ((HP4.out.below ((Below.refl _ _).alloc (Nat.le_refl _) _)).grow2 hg5 ho5); clear ho5 hg5 q0 q1 q2 q3; obtain ⟨q0, q1, q2, q3⟩ := HPB.out.bx)
                            | (at_builtin; refine wpList_append_fits _ rfl (.tmp 185) (.tmp 187) 51 rfl 0 3 i3 1 Try.underlying51 hi3 hz3 (w.heap.size + 3) m n (zs E) rfl (own_at (HPB.out.below ((Below.refl _ _).alloc (Nat.le_refl _) _)).pk.rs HLT.out.2.2.1 hn) ⟨w5.heap.size, 0, none⟩ 1 1 [.int .i64 (65536 - f - tk + (t.size + 256))] rfl rfl (one_new _ _ _) (by simp [Value.oneCell']) (by omega) ?_; intro w6 ho6 hg6; have HP6 := hid ((HPB.out.below ((Below.refl _ _).alloc (Nat.le_refl _) _)).grow3 hg6 ho6); clear ho6 hg6 q0 q1 q2 q3; obtain ⟨q0, q1, q2, q3⟩ := HP6.out.bx)
                            | (at_builtin; refine wpList_append_fits _ rfl (.tmp 189) (.tmp 191) 52 rfl 0 38 i38 1 Try.underlying52 hi38 hz38 (w.heap.size + 4) m n (ps E) rfl (own_at (HP6.out.below ((Below.refl _ _).alloc (Nat.le_refl _) _)).pk.rp HLT.out.2.2.2 hn) ⟨w6.heap.size, 0, none⟩ 1 1 [.pointer (some ⟨p, 0, none⟩)] rfl rfl (one_new _ _ _) (by simp [Value.oneCell']) (by omega) ?_; intro w7 ho7 hg7; have HPT := hid ((HP6.out.below ((Below.refl _ _).alloc (Nat.le_refl _) _)).grow4 hg7 ho7); have HKT := HPT.out.ks; have HZT : Hid (SZ w7 p (65536 - f - tk + (t.size + 256))) := hid (HPT.out.pk.sz (p, _) (by simp [pz])); clear ho7 hg7 q0 q1 q2 q3; obtain ⟨q0, q1, q2, q3⟩ := HPT.out.bx)
                            | (go_at_call 27; refine (msSize HKT).mono ?_; rintro e w' ⟨rfl, rfl⟩)
                            | (go_at_call 26; refine (keptSize _ HZT).mono ?_; rintro e w' ⟨rfl, rfl⟩))
                          refine (keptAt_to t false _ HKT HA).mono ?_
                          rintro e w8 ⟨rfl, hb⟩
                          have HP8 := hid (HPT.out.below hb)
                          have HK8 := HP8.out.ks
                          clear hb q0 q1 q2 q3 HKT HZT HPT
                          go_wp2_with fail
                          refine (count_int false _ HK8 HCF).mono ?_
                          rintro e w9 ⟨rfl, hb⟩
                          have HP9 := hid (HP8.out.below hb)
                          have HK9 := HP9.out.ks
                          clear hb HK8 HP8
                          go_wp2_with fail
                          refine (count_int true _ HK9 HCB).mono ?_
                          rintro e w10 ⟨rfl, hb⟩
                          have HP10 := hid (HP9.out.below hb)
                          clear hb HK9 HP9
                          go_wp2_with fail
                          go_roundw
                          case rel => exact ⟨k + 1, m + 1, cf + 1, cb, S + (65536 - f - tk + (t.size + 256)), E ++ [⟨t, false, 65536 - f - tk + (t.size + 256), p⟩], vm', L', by omega, by omega, by omega, by omega, by omega, by omega, rfl, rfl, rfl, rfl, by go_num, by go_num, by go_num, by go_num, hid ⟨HP10.out.bel, by simpa [tx, bk, zs, ps] using HP10.out.pk, HBK.out, by simp [HIC.out.1], by have := HCF.out; omega, by have := HCB.out; omega⟩⟩
                          case measure => simp [intOf]; omega
                      · as_aux_lemma =>
                          have HCF : Hid (((L' false).length : Int) = cf) := hid (by have h := HLN.out; simp only [Bool.not_true] at h; rw [h, HIC.out.2.1])
                          have HCB : Hid (((L' true).length : Int) = (cb : Int) + 1) := hid (by rw [HLD.out, HIC.out.2.2])
                          go_wp2_with (first
                            | (at_builtin; refine wpList_append_fits _ rfl (.tmp 175) (.tmp 178) 49 rfl 0 9 i9 1 Try.underlying49 hi9 hz9 (w.heap.size + 1) m n (tx E) rfl (own_at (HP3.out.below ((Below.refl _ _).alloc (Nat.le_refl _) _)).pk.rt HLT.out.1 hn) ⟨w3.heap.size, 0, none⟩ 1 1 [.string t] rfl rfl (one_new _ _ _) (by simp [Value.oneCell']) (by omega) ?_; intro w4 ho4 hg4; have HP4 := hid ((HP3.out.below ((Below.refl _ _).alloc (Nat.le_refl _) _)).grow1 hg4 ho4); clear ho4 hg4 q0 q1 q2 q3; obtain ⟨q0, q1, q2, q3⟩ := HP4.out.bx)
                            | (at_builtin; refine wpList_append_fits _ rfl (.tmp 180) (.tmp 183) 50 rfl 0 4 i4 1 Try.underlying50 hi4 hz4 (w.heap.size + 2) m n (bk E) rfl (own_at (HP4.out.below ((Below.refl _ _).alloc (Nat.le_refl _) _)).pk.rb HLT.out.2.1 hn) ⟨w4.heap.size, 0, none⟩ 1 1 [.bool true] rfl rfl (one_new _ _ _) (by simp [Value.oneCell']) (by omega) ?_; intro w5 ho5 hg5; have HPB := hid ((HP4.out.below ((Below.refl _ _).alloc (Nat.le_refl _) _)).grow2 hg5 ho5); clear ho5 hg5 q0 q1 q2 q3; obtain ⟨q0, q1, q2, q3⟩ := HPB.out.bx)
                            | (at_builtin; refine wpList_append_fits _ rfl (.tmp 185) (.tmp 187) 51 rfl 0 3 i3 1 Try.underlying51 hi3 hz3 (w.heap.size + 3) m n (zs E) rfl (own_at (HPB.out.below ((Below.refl _ _).alloc (Nat.le_refl _) _)).pk.rs HLT.out.2.2.1 hn) ⟨w5.heap.size, 0, none⟩ 1 1 [.int .i64 (65536 - f - tk + (t.size + 256))] rfl rfl (one_new _ _ _) (by simp [Value.oneCell']) (by omega) ?_; intro w6 ho6 hg6; have HP6 := hid ((HPB.out.below ((Below.refl _ _).alloc (Nat.le_refl _) _)).grow3 hg6 ho6); clear ho6 hg6 q0 q1 q2 q3; obtain ⟨q0, q1, q2, q3⟩ := HP6.out.bx)
                            | (at_builtin; refine wpList_append_fits _ rfl (.tmp 189) (.tmp 191) 52 rfl 0 38 i38 1 Try.underlying52 hi38 hz38 (w.heap.size + 4) m n (ps E) rfl (own_at (HP6.out.below ((Below.refl _ _).alloc (Nat.le_refl _) _)).pk.rp HLT.out.2.2.2 hn) ⟨w6.heap.size, 0, none⟩ 1 1 [.pointer (some ⟨p, 0, none⟩)] rfl rfl (one_new _ _ _) (by simp [Value.oneCell']) (by omega) ?_; intro w7 ho7 hg7; have HPT := hid ((HP6.out.below ((Below.refl _ _).alloc (Nat.le_refl _) _)).grow4 hg7 ho7); have HKT := HPT.out.ks; have HZT : Hid (SZ w7 p (65536 - f - tk + (t.size + 256))) := hid (HPT.out.pk.sz (p, _) (by simp [pz])); clear ho7 hg7 q0 q1 q2 q3; obtain ⟨q0, q1, q2, q3⟩ := HPT.out.bx)
                            | (go_at_call 27; refine (msSize HKT).mono ?_; rintro e w' ⟨rfl, rfl⟩)
                            | (go_at_call 26; refine (keptSize _ HZT).mono ?_; rintro e w' ⟨rfl, rfl⟩))
                          refine (keptAt_to t true _ HKT HA).mono ?_
                          rintro e w8 ⟨rfl, hb⟩
                          have HP8 := hid (HPT.out.below hb)
                          have HK8 := HP8.out.ks
                          clear hb q0 q1 q2 q3 HKT HZT HPT
                          go_wp2_with fail
                          refine (count_int false _ HK8 HCF).mono ?_
                          rintro e w9 ⟨rfl, hb⟩
                          have HP9 := hid (HP8.out.below hb)
                          have HK9 := HP9.out.ks
                          clear hb HK8 HP8
                          go_wp2_with fail
                          refine (count_int true _ HK9 HCB).mono ?_
                          rintro e w10 ⟨rfl, hb⟩
                          have HP10 := hid (HP9.out.below hb)
                          clear hb HK9 HP9
                          go_wp2_with fail
                          go_roundw
                          case rel => exact ⟨k + 1, m + 1, cf, cb + 1, S + (65536 - f - tk + (t.size + 256)), E ++ [⟨t, true, 65536 - f - tk + (t.size + 256), p⟩], vm', L', by omega, by omega, by omega, by omega, by omega, by omega, rfl, rfl, rfl, rfl, by go_num, by go_num, by go_num, by go_num, hid ⟨HP10.out.bel, by simpa [tx, bk, zs, ps] using HP10.out.pk, HBK.out, by simp [HIC.out.1], by have := HCF.out; omega, by have := HCB.out; omega⟩⟩
                          case measure => simp [intOf]; omega
                    · refine (zz_none w.heap.size p vm L S f tk t d w2 hlen' HR2.out.ks HZ2 (hid hp) f0 f1 t0 t1 S0 S1 (by omega)).mono ?_
                      rintro e w3 ⟨rfl, hb3⟩
                      have HR3 := hid (HR2.out.below hb3)
                      have HZ3 := sz_next HZ2 hb3
                      have HK3 := HR3.out.ks
                      clear hb3 HR2 HZ2
                      obtain ⟨q0, q1, q2, q3⟩ := HR3.out.bx
                      rcases (show f ≤ 0 ∨ (0 < f ∧ ¬ (S + (65536 - f - tk + (t.size + 256)) ≤ 65536)) by omega) with hf | ⟨hf, hf2⟩
                      · as_aux_lemma =>
                          clear hfit
                          have HKT := HK3
                          have HZT := HZ3
                          have HPT := HR3
                          have HA := HA0
                          have HCF : Hid (((L false).length : Int) = cf) := hid (by rw [HR3.out.inv.cf])
                          have HCB : Hid (((L true).length : Int) = cb) := hid (by rw [HR3.out.inv.cb])
                          clear HK3 HZ3 HR3 HA0

                          go_wp2_with (first
                            | (go_at_call 27; refine (msSize HKT).mono ?_; rintro e w' ⟨rfl, rfl⟩)
                            | (go_at_call 26; refine (keptSize _ HZT).mono ?_; rintro e w' ⟨rfl, rfl⟩))
                          refine (keptAt_to t d _ HKT HA).mono ?_
                          rintro e w8 ⟨rfl, hb⟩
                          have HP8 := hid (HPT.out.below hb)
                          have HK8 := HP8.out.ks
                          clear hb q0 q1 q2 q3 HKT HZT HPT
                          go_wp2_with fail
                          refine (count_int false _ HK8 HCF).mono ?_
                          rintro e w9 ⟨rfl, hb⟩
                          have HP9 := hid (HP8.out.below hb)
                          have HK9 := HP9.out.ks
                          clear hb HK8 HP8
                          go_wp2_with fail
                          refine (count_int true _ HK9 HCB).mono ?_
                          rintro e w10 ⟨rfl, hb⟩
                          have HP10 := hid (HP9.out.below hb)
                          clear hb HK9 HP9
                          go_wp2_with fail
                          go_roundw
                          case rel => exact ⟨k + 1, m, cf, cb, S, E, vm, L, by omega, by omega, by omega, by omega, S0, S1, rfl, rfl, rfl, rfl, by go_num, by go_num, by go_num, by go_num, hid HP10.out.inv⟩
                          case measure => simp [intOf]; omega
                      · as_aux_lemma =>
                          clear hfit
                          have HKT := HK3
                          have HZT := HZ3
                          have HPT := HR3
                          have HA := HA0
                          have HCF : Hid (((L false).length : Int) = cf) := hid (by rw [HR3.out.inv.cf])
                          have HCB : Hid (((L true).length : Int) = cb) := hid (by rw [HR3.out.inv.cb])
                          clear HK3 HZ3 HR3 HA0

                          go_wp2_with (first
                            | (go_at_call 27; refine (msSize HKT).mono ?_; rintro e w' ⟨rfl, rfl⟩)
                            | (go_at_call 26; refine (keptSize _ HZT).mono ?_; rintro e w' ⟨rfl, rfl⟩))
                          refine (keptAt_to t d _ HKT HA).mono ?_
                          rintro e w8 ⟨rfl, hb⟩
                          have HP8 := hid (HPT.out.below hb)
                          have HK8 := HP8.out.ks
                          clear hb q0 q1 q2 q3 HKT HZT HPT
                          go_wp2_with fail
                          refine (count_int false _ HK8 HCF).mono ?_
                          rintro e w9 ⟨rfl, hb⟩
                          have HP9 := hid (HP8.out.below hb)
                          have HK9 := HP9.out.ks
                          clear hb HK8 HP8
                          go_wp2_with fail
                          refine (count_int true _ HK9 HCB).mono ?_
                          rintro e w10 ⟨rfl, hb⟩
                          have HP10 := hid (HP9.out.below hb)
                          clear hb HK9 HP9
                          go_wp2_with fail
                          go_roundw
                          case rel => exact ⟨k + 1, m, cf, cb, S, E, vm, L, by omega, by omega, by omega, by omega, S0, S1, rfl, rfl, rfl, rfl, by go_num, by go_num, by go_num, by go_num, hid HP10.out.inv⟩
                          case measure => simp [intOf]; omega
            · obtain rfl : n = k := by omega
              clear hlt hk
              obtain ⟨wo, rfl⟩ : ∃ wo : World, wo = wr := ⟨_, rfl⟩
              have q38 := neq38
              go_wp2_with fail
              go_loopw [27] (fun v27 wi => ∃ e : Nat, e ≤ m ∧ v27 = .int .i64 e ∧ Hid (Inv w wi n m cf cb S E vm L)) (fun v27 _ => m - (intOf v27).toNat)
              case atStart => exact ⟨0, Nat.zero_le _, rfl, HI⟩
              case round =>
                clear HI
                obtain ⟨e, he, rfl, HI⟩ := hrel
                by_cases hem : e < m
                · as_aux_lemma =>
                  obtain ⟨⟨xt, xb, xz, xp⟩, hx⟩ : ∃ x, E[e]? = some x := ⟨_, List.getElem?_eq_getElem (by rw [HI.out.m]; exact hem)⟩
                  have c0 : wr.cell? ⟨w.heap.size + 1, e, none⟩ = some (.string xt) := HI.out.pk.rt.get (by simp [tx, hx])
                  have c1 : wr.cell? ⟨w.heap.size + 2, e, none⟩ = some (.bool xb) := HI.out.pk.rb.get (by simp [bk, hx])
                  have c2 : wr.cell? ⟨w.heap.size + 3, e, none⟩ = some (.int .i64 xz) := HI.out.pk.rs.get (by simp [zs, hx])
                  have c3 : wr.cell? ⟨w.heap.size + 4, e, none⟩ = some (.pointer (some ⟨xp, 0, none⟩)) := HI.out.pk.rp.get (by simp [ps, hx])
                  have HA : Hid (ans xt (L xb) = .pointer (some ⟨xp, 0, none⟩)) := hid (ans_mem (HI.out.book.nd xb) (HI.out.book.mem _ (List.mem_of_getElem? hx)))
                  have HZ : Hid (SZ wr xp xz) := hid (HI.out.pk.sz (xp, xz) (List.mem_map.2 ⟨_, List.mem_of_getElem? hx, rfl⟩))
                  have HX := hid hx
                  have HK : Hid (KS wr w.heap.size vm L S) := HI.out.pk.ks
                  clear hx
                  go_wp2_with fail
                  have F0 : Hid (∀ w', Cls wr w' → w'.cell? ⟨w.heap.size + 1, e, none⟩ = some (.string xt) ∧ w'.cell? ⟨w.heap.size + 2, e, none⟩ = some (.bool xb) ∧ w'.cell? ⟨w.heap.size + 3, e, none⟩ = some (.int .i64 xz) ∧ w'.cell? ⟨w.heap.size + 4, e, none⟩ = some (.pointer (some ⟨xp, 0, none⟩))) := hid (fun w' h => ⟨cell_below h.out c0, cell_below h.out c1, cell_below h.out c2, cell_below h.out c3⟩)
                  clear c0 c1 c2 c3
                  refine region_cls (by kernel_rfl) (by kernel_rfl) ?_
                  repeat (refine wpQuiet_step (fun K hK => ?_); go_simp; first
                    | (refine hK _ ?_; clear hK K)
                    | (refine ⟨_, fun _ _ => rfl, hK _ ?_⟩; clear hK K)
                    | (apply Exists.intro; refine ⟨fun w' hw' => ?_, hK _ ?_⟩; (exact (keptAt_to xt xb _ (ks_next HK hw'.out) HA).mono fun e1 w1 h1 => ⟨h1.1, hw'.next h1.2⟩); clear hK K)
                    | (apply Exists.intro; refine ⟨fun w' hw' => ?_, hK _ ?_⟩; (exact (keptSize _ (sz_next HZ hw'.out)).mono fun e1 w1 h1 => ⟨h1.1, h1.2 ▸ hw'⟩); clear hK K)
                    | (apply Exists.intro; refine ⟨fun w' hw' => ?_, hK _ ?_⟩; (obtain ⟨d0, d1, d2, d3⟩ := F0.out w' hw'; simp only [d0, d1, d2, d3]; first | done | rfl | exact ⟨rfl, rfl⟩); clear hK K))
                  refine wpQuiet_nil ?_
                  intro w' hw'
                  have HI2 := hid (HI.out.below hw'.out)
                  clear F0 HI HA HZ HK
                  go_wp2_with fail
                  go_roundw
                  case rel => exact ⟨e + 1, by omega, by go_num, HI2⟩
                  case measure => simp [intOf]; omega
                · obtain rfl : m = e := by omega
                  go_wp2_with fail
                  go_ret
                  exact ⟨rfl, HI.out.bel⟩
end Go.Proofs.Qxb6608686a.ScriptMain
