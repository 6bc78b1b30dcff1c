/- text.Longest. -/
import Derived.Test.YtgjodmjegmilhaaDoorHas
import Derived.Shelf.RegionOpen
namespace Go.Proofs.YtgjodmjegmilhaaDoor
open Go.RowKit
attribute [local go_sem] Oper.semAt_some
attribute [local go_sem] sext
attribute [local go_sem] sgetr

abbrev LSt := Nat × List UInt8
def longStep (s : List UInt8) (st : LSt) (x : Ent) : LSt := if st.1 < x.1.length ∧ x.1.isPrefixOf s = true then (x.1.length, x.2) else st
def longF (es : List Ent) (s : List UInt8) : LSt := es.foldl (longStep s) (0, [])
def longV (st : LSt) : LSt := if st.1 = 0 then (0, []) else (st.1, valL st.2)
def longE (es : List Ent) (s : List UInt8) : LSt := longV (longF es s)
noncomputable def longL (s : List UInt8) : LSt := longE entL s
theorem longF_next {es : List Ent} {s : List UInt8} {i : Nat} {x : Ent} (h : es[i]? = some x) : longF (es.take (i + 1)) s = longStep s (longF (es.take i) s) x := by
  obtain ⟨hi, rfl⟩ := List.getElem?_eq_some_iff.1 h
  unfold longF
  rw [List.take_succ_eq_append_getElem hi, List.foldl_append]
  rfl
theorem longF_bd {es : List Ent} (hes : ∀ x ∈ es, x.1.length ≤ 64 ∧ x.2.length ≤ 64) (s : List UInt8) : (longF es s).1 ≤ 64 ∧ (longF es s).1 ≤ s.length ∧ (longF es s).2.length ≤ 64 := by
  unfold longF
  have key : ∀ (es : List Ent) (st : LSt), (∀ x ∈ es, x.1.length ≤ 64 ∧ x.2.length ≤ 64) → st.1 ≤ 64 → st.1 ≤ s.length → st.2.length ≤ 64 →
      (es.foldl (longStep s) st).1 ≤ 64 ∧ (es.foldl (longStep s) st).1 ≤ s.length ∧ (es.foldl (longStep s) st).2.length ≤ 64 := by
    intro es
    induction es with
    | nil => intro st _ h1 h2 h3; exact ⟨h1, h2, h3⟩
    | cons x es ih =>
      intro st hes h1 h2 h3
      obtain ⟨hx1, hx2⟩ := hes x (List.mem_cons_self ..)
      rw [List.foldl_cons]
      refine ih _ (fun y hy => hes y (List.mem_cons_of_mem _ hy)) ?_ ?_ ?_
      all_goals
        unfold longStep
        split
        · rename_i h
          have := (List.isPrefixOf_iff_prefix.1 h.2).length_le
          first | exact hx1 | exact this | exact hx2
        · assumption
  exact key es (0, []) hes (by simp) (by simp) (by simp)
theorem longStep_no {s : List UInt8} {st : LSt} {x : Ent} (h : x.1.length ≤ st.1 ∨ x.1.isPrefixOf s = false) : longStep s st x = st := by
  unfold longStep
  rw [if_neg]
  rintro ⟨h1, h2⟩
  rcases h with h | h
  · omega
  · rw [h] at h2; cases h2
theorem longStep_yes {s : List UInt8} {st : LSt} {x : Ent} (h1 : st.1 < x.1.length) (h2 : x.1.isPrefixOf s = true) : longStep s st x = (x.1.length, x.2) := by
  unfold longStep
  rw [if_pos ⟨h1, h2⟩]
structure LgJ (es : List Ent) (s : List UInt8) (w : World) (i : Nat) (W : World) : Prop where
  c0 : W.cell? ⟨w.heap.size, 0, none⟩ = some (.string ⟨s.toArray⟩)
  c1 : W.cell? ⟨w.heap.size + 1, 0, none⟩ = some (.int .i64 ((longF (es.take i) s).1 : Nat))
  c2 : W.cell? ⟨w.heap.size + 2, 0, none⟩ = some (.string ⟨(longF (es.take i) s).2.toArray⟩)
  f1 : W.frozen? ⟨w.heap.size + 1, 0, none⟩ = false
  f2 : W.frozen? ⟨w.heap.size + 2, 0, none⟩ = false
  bl : Below w.heap.size w W
theorem LgJ.kept {es : List Ent} {s : List UInt8} {w A B : World} {i : Nat} (h : LgJ es s w i A) (hm : Mod (fun k => w.heap.size + 3 ≤ k) A B) : LgJ es s w i B := by
  obtain ⟨h1, h2, h3, h4, h5, h6⟩ := h
  have l1 := World.block_lt_of_cell? _ _ h1
  have l2 := World.block_lt_of_cell? _ _ h2
  have l3 := World.block_lt_of_cell? _ _ h3
  exact ⟨(hm.cell (p := ⟨_, 0, none⟩) l1 (by dsimp only; omega)).trans h1, (hm.cell (p := ⟨_, 0, none⟩) l2 (by dsimp only; omega)).trans h2, (hm.cell (p := ⟨_, 0, none⟩) l3 (by dsimp only; omega)).trans h3,
    (hm.frozen (p := ⟨_, 0, none⟩) l2 (by dsimp only; omega)).trans h4, (hm.frozen (p := ⟨_, 0, none⟩) l3 (by dsimp only; omega)).trans h5, h6.trans (hm.below h6.size fun k hk => by omega)⟩
theorem LgJ.next {es : List Ent} {s : List UInt8} {w W : World} {i : Nat} {x : Ent} (h : LgJ es s w i W) (hx : es[i]? = some x) (hno : longStep s (longF (es.take i) s) x = longF (es.take i) s) : LgJ es s w (i + 1) W := by
  obtain ⟨h1, h2, h3, h4, h5, h6⟩ := h
  have e := (longF_next (s := s) hx).trans hno
  exact ⟨h1, by rw [e]; exact h2, by rw [e]; exact h3, h4, h5, h6⟩
theorem LgJ.step {es : List Ent} {s : List UInt8} {w W : World} {i : Nat} {x : Ent} (h : LgJ es s w i W) (hx : es[i]? = some x) (hy : longStep s (longF (es.take i) s) x = (x.1.length, x.2)) :
    LgJ es s w (i + 1) ((W.setCell ⟨w.heap.size + 1, 0, none⟩ (.int .i64 (x.1.length : Nat))).setCell ⟨w.heap.size + 2, 0, none⟩ (.string ⟨x.2.toArray⟩)) := by
  obtain ⟨h1, h2, h3, h4, h5, h6⟩ := h
  have e := (longF_next (s := s) hx).trans hy
  refine ⟨?_, ?_, ?_, ?_, ?_, (h6.setCell (by simp) _).setCell (by simp) _⟩
  · rw [World.cell?_setCell_other _ _ _ _ (by simp), World.cell?_setCell_other _ _ _ _ (by simp)]; exact h1
  · rw [e]; exact (World.cell?_setCell_other _ _ _ _ (by simp)).trans (World.cell?_setCell_same' _ _ _ (by rw [h2]; rfl))
  · rw [e]; exact World.cell?_setCell_same' _ _ _ (by rw [World.cell?_setCell_other _ _ _ _ (by simp), h3]; rfl)
  · rw [World.frozen?_setCell, World.frozen?_setCell]; exact h4
  · rw [World.frozen?_setCell, World.frozen?_setCell]; exact h5
theorem lon_start (es : List Ent) (l : List UInt8) (w W0 : World) (hW0 : ((w.alloc (.cells #[.string ⟨l.toArray⟩] 9)).alloc (.cells #[.int .i64 0] 3)).alloc (.cells #[.string ⟨#[]⟩] 9) = W0) :
    LgJ es l w 0 W0 ∧ W0.heap.size = w.heap.size + 3 := by
  subst hW0
  obtain ⟨e0, e1, e2, hs, hb⟩ := three_cells w (.cells #[.string ⟨l.toArray⟩] 9) (.cells #[.int .i64 0] 3) (.cells #[.string ⟨#[]⟩] 9)
  refine ⟨⟨?_, ?_, ?_, ?_, ?_, hb⟩, hs⟩
  · rw [Lib.cell_of_heap e0]; rfl
  · rw [Lib.cell_of_heap e1]; rfl
  · rw [Lib.cell_of_heap e2]; rfl
  · exact Lib.frozen_of_heap e1 0
  · exact Lib.frozen_of_heap e2 0

set_option maxRecDepth 100000 in
set_option maxHeartbeats 1000000 in
theorem Longest_big (l : List UInt8) (w : World) (hg : Good w) (hs : l.length ≤ 4611686018427387904) : Calls Tryd.prog 11 #[.string ⟨l.toArray⟩] w (Ret w (.tuple #[.int .i64 ((longL l).1 : Nat), .string ⟨(longL l).2.toArray⟩])) := by
  have hit := fun n hn w hg => entries_iter n hn w hg
  have hsm := ent_small
  show Calls _ _ _ _ (Ret w (.tuple #[.int .i64 ((longE entL l).1 : Nat), .string ⟨(longE entL l).2.toArray⟩]))
  obtain ⟨es, hes⟩ : ∃ es, entL = es := ⟨_, rfl⟩
  rw [hes] at hit hsm ⊢
  have HIT := Lib.hid hit; have HSM := Lib.hid hsm
  clear hit hsm hes
  obtain ⟨n, hn⟩ : ∃ n, 9 ≤ n := ⟨9, Nat.le_refl _⟩
  have hgs := hg.size
  refine (callsIn_wide (n := n)).1 ?_
  refine callsIn_of_wp_marks Tryd.func11 rfl trivial ?_ rfl
  simp only [Tryd.ntmps11, List.size_toArray, List.length_cons, List.length_nil, Nat.reduceAdd, Nat.reduceSub, Array.replicate_succ, Array.replicate_zero, List.push_toArray, List.append_toArray, List.nil_append, List.cons_append]
  gi_wp2_with fail
  refine wpIn_wide.2 (wp_scope_straight ((wpIn_wide (n := n)).1 ?_))
  refine wpIn_seq ?_
  gi_wp2_with fail
  refine wpIn_label ?_
  gi_wp2_with fail
  refine call_wide (entries_any _) ?_ (by omega)
  rintro e w1 ⟨rfl, rfl⟩
  obtain ⟨W0, hW0⟩ : ∃ W0, ((w.alloc (.cells #[.string ⟨l.toArray⟩] 9)).alloc (.cells #[.int .i64 0] 3)).alloc (.cells #[.string ⟨#[]⟩] 9) = W0 := ⟨_, rfl⟩
  obtain ⟨hJ0, hs0⟩ := lon_start es l w W0 hW0
  have hb0 := hJ0.bl
  have hg0 : Good W0 := hg.below hb0 hgs
  rw [show w.heap.size + 1 + 1 = w.heap.size + 2 from rfl]
  rw [hW0]
  clear hW0
  have HJ0 := Lib.hid hJ0
  clear hJ0
  have HS := Lib.hid (HIT.out (n - 1) (by omega) W0 hg0)
  have hgs0 := hg0.size
  have hs0a : W0.heap.size ≤ w.heap.size + 3 := by omega
  have hs0b : w.heap.size + 3 ≤ W0.heap.size := by omega
  clear hs0
  gi_wp2_with fail
  refine wpIn_rangeFunc_it rfl (by omega) (gf := 27) rfl trivial enter_entries1 HS.out (Nat.le_refl _) (fun k _ h => h) (fun k h => ?_) (fun x => rfl)
    (fun _ i W => LgJ es l w i W) (fun _ _ _ _ => False) ?keep (fun _ _ _ _ _ h _ => h) ?start ?round ?done (fun _ _ _ _ _ _ _ _ h => h.elim)
  · rcases h with h | rfl
    · exact h.elim
    · exact ⟨hgs0, rfl⟩
  case keep => exact fun n1 i A B h hm => h.kept (hm.mono fun k _ h => h.elim False.elim fun h => by omega)
  case start => exact fun _ _ => HJ0.out
  case round =>
    rintro lp ⟨nm, cd⟩ W
    gi_wp2_with fail
    refine ⟨trivial, ?_⟩
    rintro n1 i W' hx hj hn1 hn1' hR
    have hcs := (HSM.out (nm, cd) (List.mem_of_getElem? hx)).1
    dsimp only at hcs
    have hbd := longF_bd (fun x hx => HSM.out x (List.mem_of_mem_take hx) : ∀ x ∈ es.take i, _) l
    have HJ := Lib.hid hj; have HX := Lib.hid hx
    have hc0 := hj.c0
    have hc1 := hj.c1
    clear hj hx hR HJ0
    obtain ⟨st, hst⟩ : ∃ st, longF (es.take i) l = st := ⟨_, rfl⟩
    rw [hst] at hbd hc1
    have HST := Lib.hid hst; clear hst
    obtain ⟨hbd1, hbd2, -⟩ := hbd
    by_cases hle : nm.length ≤ st.1
    · gi_wp2_with fail
      exact ⟨HJ.out.next HX.out (longStep_no (.inl (by rw [HST.out]; exact hle))), Mod.refl _ _⟩
    · by_cases hlen : l.length < nm.length
      · gi_wp2_with fail
        exact ⟨HJ.out.next HX.out (longStep_no (.inr (no_prefix_len hlen))), Mod.refl _ _⟩
      · gi_wp2_with fail
        clear hc1
        gi_loopw [24] (fun s24 wr => ∃ k : Nat, k ≤ nm.length ∧ s24 = .int .i64 k ∧ LgJ es l w i wr ∧ (∀ S, Mod S W' wr) ∧ ∀ j (h1 : j < nm.length) (h2 : j < l.length), j < k → l[j] = nm[j]) (fun s24 _ => nm.length - (intOf s24).toNat)
        case atStart => exact ⟨0, Nat.zero_le _, rfl, HJ.out, fun S => Mod.refl _ _, fun _ _ _ h => absurd h (Nat.not_lt_zero _)⟩
        case round =>
          obtain ⟨k, hk, rfl, hj, hm, hall⟩ := hrel
          have HJ2 := Lib.hid hj; have HM := Lib.hid hm; have HALL := Lib.hid hall
          have hc2 := hj.c0
          have hn2 : ∃ v, wr.cell? ⟨w.heap.size + 1, 0, none⟩ = some v := ⟨_, hj.c1⟩
          have hf2 : ∃ v, wr.cell? ⟨w.heap.size + 2, 0, none⟩ = some v := ⟨_, hj.c2⟩
          have hz1 := hj.f1
          have hz2 := hj.f2
          clear hj hm hall hc0
          by_cases hkl : k < nm.length
          · gi_wp2_with fail
            have hkn : k < l.length := by omega
            by_cases hbe : l[k] = nm[k]
            · have hq : ((nm[k].toNat : Int) != (l[k].toNat : Int)) = false := by rw [bne, u8_eq]; simp [hbe]
              have HBE := Lib.hid hbe; clear hbe
              refine region_round_lit rfl (by kernel_rfl) (by kernel_rfl) ?_
              repeat (quiet_step_in (fail))
              refine wpQuietIn_nil ?_
              rintro _ ⟨q, rfl⟩
              gi_wp2_with fail
              go_roundw
              case rel =>
                refine ⟨k + 1, by omega, by go_num, HJ2.out.kept (Mod.drewN (Mod.refl _ _) _), fun S => (HM.out S).trans (Mod.drewN (Mod.refl _ _) _), fun j h1 h2 hjk => ?_⟩
                by_cases e : j = k
                · subst e; exact HBE.out
                · exact HALL.out j h1 h2 (by omega)
              case measure => simp [intOf]; omega
            · have hq : ((nm[k].toNat : Int) != (l[k].toNat : Int)) = true := by rw [bne, u8_eq]; simp; exact fun h => hbe h.symm
              have HBE := Lib.hid hbe; clear hbe
              refine region_round_lit rfl (by kernel_rfl) (by kernel_rfl) ?_
              repeat (quiet_step_in (fail))
              refine wpQuietIn_nil ?_
              rintro _ ⟨q, rfl⟩
              gi_wp2_with fail
              exact ⟨(HJ2.out.kept (Mod.drewN (Mod.refl _ _) _)).next HX.out (longStep_no (.inr (no_prefix_at hkl hkn HBE.out))), (HM.out _).trans (Mod.drewN (Mod.refl _ _) _)⟩
          · obtain ⟨vn, hn2⟩ := hn2
            obtain ⟨vf, hf2⟩ := hf2
            gi_wp2_with fail
            refine ⟨HJ2.out.step HX.out (longStep_yes (by rw [HST.out]; dsimp only; omega) (prefix_of_all (s := nm) (l := l) (by omega) fun j h1 h2 => HALL.out j h1 h2 (by omega))), ?_⟩
            exact ((HM.out _).trans (Mod.setCell _ _ ⟨fun h => h, by dsimp only; omega, by dsimp only; omega⟩)).trans (Mod.setCell _ _ ⟨fun h => h, by dsimp only; omega, by dsimp only; omega⟩)
  case done =>
    rintro D n1 W hn1 hn2 hj hD hK
    have hbd := longF_bd HSM.out l
    obtain ⟨h0, h1, h2, h3, h4, h5⟩ := hj
    rw [List.take_length] at h1 h2
    clear h0
    obtain ⟨st, hst⟩ : ∃ st, longF es l = st := ⟨_, rfl⟩
    have HV : Hid (longE es l = longV st) := Lib.hid (by rw [longE, hst])
    rw [hst] at hbd h1 h2
    clear hst
    obtain ⟨sn, sv⟩ := st
    dsimp only at hbd h1 h2
    obtain ⟨hb1, hb2, hb3⟩ := hbd
    by_cases hz : sn = 0
    · subst hz
      gi_wp2_with fail
      rw [Exit.noGoto_ret]
      have hr1 : (W.setCell ⟨w.heap.size + 1, 0, none⟩ (.int .i64 0)).cell? ⟨w.heap.size + 1, 0, none⟩ = some (.int .i64 0) := World.cell?_setCell_same' _ _ _ (by rw [h1]; rfl)
      have hbl : Below w.heap.size w (W.setCell ⟨w.heap.size + 1, 0, none⟩ (.int .i64 0)) := h5.setCell (by simp) _
      have hK' := (Below.heap_setCell W ⟨w.heap.size + 1, 0, none⟩ (.int .i64 0) D (by dsimp only; omega)).trans hK
      refine ⟨by simp, .inl ⟨_, _, rfl, run_takeDeferred hK', ?_⟩⟩
      have hq1 := putObj_cell (D := D) (x := .deferred none) hr1 (by omega)
      rw [HV.out]
      exact ⟨.tuple #[.int .i64 0, .string ⟨#[]⟩], by simp [results, Tryd.results11, go_sem, hq1], Ret.mk rfl (below_put hbl (by omega))⟩
    · have hnz : ((sn : Int) == 0) = false := by simp; omega
      have hgW : Good W := hg.below h5 hgs
      have H1 := Lib.hid (fun w => valueOf_any sv w)
      have l1 := World.block_lt_of_cell? _ _ h1
      gi_wp2_with fail
      have hmx : Tryd.prog.follows .mixedOrders = true := by kernel_rfl
      refine wpIn_mono (Q := Exit.then (fun a' w' => a'.tmps.getD 2 undef = .pointer (some ⟨w.heap.size + 1, 0, none⟩) ∧ a'.tmps.getD 3 undef = .string ⟨(valL sv).toArray⟩ ∧ a'.defers = [{ target := .collected D, args := #[] }] ∧
        w'.cell? ⟨w.heap.size + 1, 0, none⟩ = some (.int .i64 (sn : Nat)) ∧ Below w.heap.size w w' ∧ w'.heap[D]? = some (.deferred (some []))) (fun _ _ _ => False)) ?_ ?_
      · gi_region_with_o (refine call_wide (H1.out _ (by exact hgW) (by omega)) ?_ (by omega); rintro e w2 ⟨rfl, b2⟩; have h1b := ((bcell b2).1 (w.heap.size + 1) 0 l1).trans h1; have h3b := ((bcell b2).2 (w.heap.size + 1) 0 l1).trans h3)
        all_goals
          have b2' : Below w.heap.size w w2 := bthen h5 h5.size (by first | exact b2 | exact bdrew b2)
          refine ⟨rfl, rfl, rfl, ?_, ?_, ?_⟩
          · first | exact World.cell?_setCell_same' _ _ _ (by rw [h1b]; rfl)
          · exact b2'.setCell (by simp) _
          · exact (Below.heap_setCell _ _ _ _ (by dsimp only; omega)).trans ((b2.block D (by show D < W.heap.size; exact (Array.getElem?_eq_some_iff.1 hK).1)).trans hK)
      · rintro (_ | _ | _ | _ | _ | _) a' w' hq <;> first | exact hq.elim | skip
        obtain ⟨q2, q3, qd, qc, qb, qk⟩ := hq
        gi_wp2_with fail
        rw [Exit.noGoto_ret]
        have hr1 := putObj_cell (D := D) (x := .deferred none) qc (by omega)
        rw [Array.getD_eq_getD_getElem?] at q2 q3
        show LeavesInM _ _ _ _ a'.tmps _ a'.defers _ _
        rw [qd]
        refine ⟨by simp, .inl ⟨_, _, rfl, run_takeDeferred qk, ?_⟩⟩
        refine ⟨.tuple #[.int .i64 (sn : Nat), .string ⟨(valL sv).toArray⟩], by simp [results, Tryd.results11, go_sem, q2, q3, hr1], Ret.mk ?_ (below_put qb (by omega))⟩
        rw [HV.out, longV, if_neg (by exact hz)]
theorem Longest_any (l : List UInt8) (w : World) (hg : Good w) (hs : l.length ≤ 1000000000) : Calls Tryd.prog 11 #[.string ⟨l.toArray⟩] w (Ret w (.tuple #[.int .i64 ((longL l).1 : Nat), .string ⟨(longL l).2.toArray⟩])) :=
  Longest_big l w hg (by omega)
end Go.Proofs.YtgjodmjegmilhaaDoor
