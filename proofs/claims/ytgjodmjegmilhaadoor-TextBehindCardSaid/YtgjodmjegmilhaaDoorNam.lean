/- text.Named. -/
import Derived.Test.YtgjodmjegmilhaaDoorVal
namespace Go.Proofs.YtgjodmjegmilhaaDoor
open Go.RowKit
attribute [local go_sem] Oper.semAt_some
attribute [local go_sem] sext

def namedE (es : List Ent) (nm : List UInt8) : List UInt8 × Int := match es.find? fun x => x.1 == nm with
  | some x => (valL x.2, 0)
  | none => ([], 5)
noncomputable def namedL (nm : List UInt8) : List UInt8 × Int := namedE entL nm
theorem namedE_hit {es : List Ent} {nm : List UInt8} {i : Nat} {x : Ent} (hx : es[i]? = some x) (h : (x.1 == nm) = true) (hno : ∀ j y, j < i → es[j]? = some y → (y.1 == nm) = false) : namedE es nm = (valL x.2, 0) := by
  obtain ⟨hi, hxi⟩ := List.getElem?_eq_some_iff.1 hx
  have hf : es.find? (fun x => x.1 == nm) = some x := by
    rw [List.find?_eq_some_iff_getElem]
    refine ⟨h, i, hi, hxi, fun j hj => ?_⟩
    rw [hno j _ hj (List.getElem?_eq_getElem (by omega))]; rfl
  rw [namedE, hf]
theorem namedE_miss {es : List Ent} {nm : List UInt8} (hno : ∀ j y, j < es.length → es[j]? = some y → (y.1 == nm) = false) : namedE es nm = ([], 5) := by
  have hf : es.find? (fun x => x.1 == nm) = none := by
    rw [List.find?_eq_none]
    intro x hx
    obtain ⟨j, hj, rfl⟩ := List.getElem_of_mem hx
    rw [hno j _ hj (List.getElem?_eq_getElem hj)]; decide
  rw [namedE, hf]
structure NmJ (es : List Ent) (nm : List UInt8) (w : World) (i : Nat) (W : World) : Prop where
  no : ∀ j y, j < i → es[j]? = some y → (y.1 == nm) = false
  c0 : W.cell? ⟨w.heap.size, 0, none⟩ = some (.string ⟨nm.toArray⟩)
  c1 : W.cell? ⟨w.heap.size + 1, 0, none⟩ = some (.string ByteArray.empty)
  c2 : W.cell? ⟨w.heap.size + 2, 0, none⟩ = some (.int .i64 0)
  f1 : W.frozen? ⟨w.heap.size + 1, 0, none⟩ = false
  f2 : W.frozen? ⟨w.heap.size + 2, 0, none⟩ = false
  bl : Below w.heap.size w W
structure NmX (es : List Ent) (nm : List UInt8) (w : World) (c : Code) (W : World) : Prop where
  rt : c = .ret
  c1 : W.cell? ⟨w.heap.size + 1, 0, none⟩ = some (.string ⟨(namedE es nm).1.toArray⟩)
  c2 : W.cell? ⟨w.heap.size + 2, 0, none⟩ = some (.int .i64 (namedE es nm).2)
  bl : Below w.heap.size w W

theorem NmJ.kept {es : List Ent} {nm : List UInt8} {w A B : World} {i : Nat} (h : NmJ es nm w i A) (hm : Mod (fun k => w.heap.size + 3 ≤ k) A B) : NmJ es nm w i B := by
  obtain ⟨h0, h1, h2, h3, h4, h5, h6⟩ := h
  have l1 := World.block_lt_of_cell? _ _ h1
  have l2 := World.block_lt_of_cell? _ _ h2
  have l3 := World.block_lt_of_cell? _ _ h3
  exact ⟨h0, (hm.cell (p := ⟨_, 0, none⟩) l1 (by dsimp only; omega)).trans h1, (hm.cell (p := ⟨_, 0, none⟩) l2 (by dsimp only; omega)).trans h2, (hm.cell (p := ⟨_, 0, none⟩) l3 (by dsimp only; omega)).trans h3,
    (hm.frozen (p := ⟨_, 0, none⟩) l2 (by dsimp only; omega)).trans h4, (hm.frozen (p := ⟨_, 0, none⟩) l3 (by dsimp only; omega)).trans h5, h6.trans (hm.below h6.size fun k hk => by omega)⟩
theorem NmX.kept {es : List Ent} {nm : List UInt8} {w A B : World} {c : Code} (h : NmX es nm w c A) (hm : Mod (fun k => w.heap.size + 3 ≤ k) A B) : NmX es nm w c B := by
  obtain ⟨h0, h2, h3, h6⟩ := h
  have l2 := World.block_lt_of_cell? _ _ h2
  have l3 := World.block_lt_of_cell? _ _ h3
  exact ⟨h0, (hm.cell (p := ⟨_, 0, none⟩) l2 (by dsimp only; omega)).trans h2, (hm.cell (p := ⟨_, 0, none⟩) l3 (by dsimp only; omega)).trans h3, h6.trans (hm.below h6.size fun k hk => by omega)⟩
theorem three_cells (w : World) (o0 o1 o2 : Obj) :
    (((w.alloc o0).alloc o1).alloc o2).heap[w.heap.size]? = some o0 ∧ (((w.alloc o0).alloc o1).alloc o2).heap[w.heap.size + 1]? = some o1 ∧ (((w.alloc o0).alloc o1).alloc o2).heap[w.heap.size + 2]? = some o2 ∧ (((w.alloc o0).alloc o1).alloc o2).heap.size = w.heap.size + 3 ∧ Below w.heap.size w (((w.alloc o0).alloc o1).alloc o2) := by
  have e0 := World.alloc_heap_new w o0
  have e1 := World.alloc_heap_new (w.alloc o0) o1
  have e2 := World.alloc_heap_new ((w.alloc o0).alloc o1) o2
  rw [World.size_alloc] at e1
  rw [World.size_alloc, World.size_alloc] at e2
  refine ⟨?_, ?_, e2, by simp, ((balloc w _).alloc (by simp) _).alloc (by simp; omega) _⟩
  · rw [Below.heap_alloc _ _ _ (by simp; omega), Below.heap_alloc _ _ _ (by simp)]; exact e0
  · rw [Below.heap_alloc _ _ _ (by simp)]; exact e1
theorem nam_start (es : List Ent) (l : List UInt8) (w W0 : World) (hW0 : ((w.alloc (.cells #[.string ⟨l.toArray⟩] 9)).alloc (.cells #[.string ByteArray.empty] 9)).alloc (.cells #[.int .i64 0] 27) = W0) :
    NmJ es l w 0 W0 ∧ W0.heap.size = w.heap.size + 3 := by
  subst hW0
  obtain ⟨e0, e1, e2, hs, hb⟩ := three_cells w (.cells #[.string ⟨l.toArray⟩] 9) (.cells #[.string ByteArray.empty] 9) (.cells #[.int .i64 0] 27)
  refine ⟨⟨fun _ _ h => absurd h (Nat.not_lt_zero _), ?_, ?_, ?_, ?_, ?_, hb⟩, hs⟩
  · rw [Lib.cell_of_heap e0]; rfl
  · rw [Lib.cell_of_heap e1]; rfl
  · rw [Lib.cell_of_heap e2]; rfl
  · exact Lib.frozen_of_heap e1 0
  · exact Lib.frozen_of_heap e2 0

set_option maxRecDepth 100000 in
set_option maxHeartbeats 1000000 in
theorem Named_any (l : List UInt8) (w : World) (hg : Good w) : Calls Tryd.prog 7 #[.string ⟨l.toArray⟩] w (Ret w (.tuple #[.string ⟨(namedL l).1.toArray⟩, .int .i64 (namedL l).2])) := by
  have hit := fun n hn w hg => entries_iter n hn w hg
  have hsm := ent_small
  show Calls _ _ _ _ (Ret w (.tuple #[.string ⟨(namedE entL l).1.toArray⟩, .int .i64 (namedE entL l).2]))
  obtain ⟨es, hes⟩ : ∃ es, entL = es := ⟨_, rfl⟩
  rw [hes] at hit hsm ⊢
  have HIT := Lib.hid hit; have HSM := Lib.hid hsm
  clear hit hsm hes
  obtain ⟨n, hn⟩ : ∃ n, 9 ≤ n := ⟨9, Nat.le_refl _⟩
  have hgs := hg.size
  refine (callsIn_wide (n := n)).1 ?_
  refine callsIn_of_wp_marks Tryd.func7 rfl trivial ?_ rfl
  simp only [Tryd.ntmps7, List.size_toArray, List.length_cons, List.length_nil, Nat.reduceAdd, Nat.reduceSub, Array.replicate_succ, Array.replicate_zero, List.push_toArray, List.append_toArray, List.nil_append, List.cons_append]
  gi_wp2_with fail
  refine call_wide (entries_any _) ?_ (by omega)
  rintro e w1 ⟨rfl, rfl⟩
  obtain ⟨W0, hW0⟩ : ∃ W0, ((w.alloc (.cells #[.string ⟨l.toArray⟩] 9)).alloc (.cells #[.string ByteArray.empty] 9)).alloc (.cells #[.int .i64 0] 27) = W0 := ⟨_, rfl⟩
  obtain ⟨hJ0, hs0⟩ := nam_start es l w W0 hW0
  have hb0 := hJ0.bl
  have hg0 : Good W0 := hg.below hb0 hgs
  rw [show (⟨#[]⟩ : ByteArray) = ByteArray.empty from rfl, show w.heap.size + 1 + 1 = w.heap.size + 2 from rfl, hW0]
  clear hW0
  have HJ0 := Lib.hid hJ0
  have hc0 := hJ0.c0
  clear hJ0
  have HS := Lib.hid (HIT.out (n - 1) (by omega) W0 hg0)
  have hgs0 := hg0.size
  have hs0a : W0.heap.size ≤ w.heap.size + 3 := by omega
  have hs0b : w.heap.size + 3 ≤ W0.heap.size := by omega
  clear hs0
  gi_wp2_with fail
  refine wpIn_rangeFunc_it rfl (by omega) (gf := 27) rfl trivial enter_entries1 HS.out (Nat.le_refl _) (fun k _ h => h) (fun k h => ?_) (fun x => rfl)
    (fun _ i W => NmJ es l w i W) (fun _ c _ W => NmX es l w c W) ?keep ?keepx ?start ?round ?done ?stop
  · rcases h with h | rfl
    · exact h.elim
    · exact ⟨hgs0, rfl⟩
  case keep => exact fun n1 i A B h hm => h.kept (hm.mono fun k _ h => h.elim False.elim fun h => by omega)
  case keepx => exact fun n1 c i A B h hm => h.kept (hm.mono fun k _ h => h.elim False.elim fun h => by omega)
  case start => exact fun _ _ => HJ0.out
  case round =>
    rintro lp ⟨nm, cd⟩ W
    gi_wp2_with fail
    refine ⟨trivial, ?_⟩
    rintro n1 i W' hx hj hn1 hn1' hR
    have hcs := (HSM.out (nm, cd) (List.mem_of_getElem? hx)).2
    have hgW : Good W' := by
      obtain ⟨m, hm⟩ := hg0
      exact ⟨m, (World.cell?_of_block (w := W0) (hR _ rfl)).trans hm⟩
    have H1 := Lib.hid (value_any cd W' hgW (by simp at hcs; omega))
    have HJ := Lib.hid hj; have HX := Lib.hid hx
    have hc1 := hj.c0
    clear hj hx hR hc0 HJ0
    cases he : nm == l
    · have HE := Lib.hid he
      gi_wp2_with fail
      refine ⟨?_, Mod.refl _ _⟩
      obtain ⟨h0, h1, h2, h3, h4, h5, h6⟩ := HJ.out
      refine ⟨fun j y hj hy => ?_, h1, h2, h3, h4, h5, h6⟩
      by_cases e : j = i
      · subst e
        have := HX.out.symm.trans hy
        cases this; exact HE.out
      · exact h0 j y (by omega) hy
    · have HE := Lib.hid he
      have hv : Hid (namedE es l = (valL cd, 0)) := Lib.hid (namedE_hit HX.out he HJ.out.no)
      gi_wp2_with fail
      refine call_round H1.out ?_ (by omega)
      rintro e w2 ⟨rfl, b2⟩
      have hj2 : NmJ es l w i w2 := HJ.out.kept (Mod.of_below b2)
      obtain ⟨h0, h1, h2, h3, h4, h5, h6⟩ := hj2
      have H0 := Lib.hid h0; have HM := Lib.hid (Mod.of_below (S := BoS W0.heap.size n1 (fun _ => False) fun k => k = 0) b2)
      clear h0 hc1
      gi_wp2_with fail
      refine ⟨⟨rfl, ?_, ?_, ?_⟩, ?_⟩
      · rw [hv.out]
        exact (World.cell?_setCell_other _ _ _ _ (by simp)).trans (World.cell?_setCell_same' _ _ _ (by rw [h2]; rfl))
      · rw [hv.out]
        exact World.cell?_setCell_same' _ _ _ (by rw [World.cell?_setCell_other _ _ _ _ (by simp), h3]; rfl)
      · exact (h6.setCell (by simp) _).setCell (by simp) _
      · refine HM.out.trans ((Mod.setCell _ _ ?_).trans (Mod.setCell _ _ ?_))
        · exact ⟨fun h => h, by dsimp only; omega, by dsimp only; omega⟩
        · exact ⟨fun h => h, by dsimp only; omega, by dsimp only; omega⟩
  case done =>
    rintro D n1 W hn1 hn2 hj hD hK
    have HV := Lib.hid (namedE_miss hj.no)
    obtain ⟨h0, h1, h2, h3, h4, h5, h6⟩ := hj
    clear h0 hc0
    gi_wp2_with fail
    have hr1 : ((W.setCell ⟨w.heap.size + 1, 0, none⟩ (.string ⟨#[]⟩)).setCell ⟨w.heap.size + 2, 0, none⟩ (.int .i64 5)).cell? ⟨w.heap.size + 1, 0, none⟩ = some (.string ⟨#[]⟩) :=
      (World.cell?_setCell_other _ _ _ _ (by simp)).trans (World.cell?_setCell_same' _ _ _ (by rw [h2]; rfl))
    have hr2 : ((W.setCell ⟨w.heap.size + 1, 0, none⟩ (.string ⟨#[]⟩)).setCell ⟨w.heap.size + 2, 0, none⟩ (.int .i64 5)).cell? ⟨w.heap.size + 2, 0, none⟩ = some (.int .i64 5) :=
      World.cell?_setCell_same' _ _ _ (by rw [World.cell?_setCell_other _ _ _ _ (by simp), h3]; rfl)
    have hbl : Below w.heap.size w ((W.setCell ⟨w.heap.size + 1, 0, none⟩ (.string ⟨#[]⟩)).setCell ⟨w.heap.size + 2, 0, none⟩ (.int .i64 5)) := (h6.setCell (by simp) _).setCell (by simp) _
    have hK' := (Below.heap_setCell (W.setCell ⟨w.heap.size + 1, 0, none⟩ (.string ⟨#[]⟩)) ⟨w.heap.size + 2, 0, none⟩ (.int .i64 5) D (by dsimp only; omega)).trans ((Below.heap_setCell W ⟨w.heap.size + 1, 0, none⟩ (.string ⟨#[]⟩) D (by dsimp only; omega)).trans hK)
    refine ⟨by simp, .inl ⟨_, _, rfl, run_takeDeferred hK', ?_⟩⟩
    have hq1 := putObj_cell (D := D) (x := .deferred none) hr1 (by omega)
    have hq2 := putObj_cell (D := D) (x := .deferred none) hr2 (by omega)
    rw [HV.out]
    exact ⟨.tuple #[.string ⟨#[]⟩, .int .i64 5], by simp [results, Tryd.results7, go_sem, hq1, hq2], Ret.mk rfl (below_put hbl (by omega))⟩
  case stop =>
    rintro D n1 c i W hn1 hn2 hi ⟨rfl, h1, h2, h3⟩ hD hK
    gi_wp2_with fail
    refine ⟨by simp, .inl ⟨_, _, rfl, run_takeDeferred hK, ?_⟩⟩
    have hr1 := putObj_cell (D := D) (x := .deferred none) h1 (by omega)
    have hr2 := putObj_cell (D := D) (x := .deferred none) h2 (by omega)
    exact ⟨.tuple #[.string ⟨(namedE es l).1.toArray⟩, .int .i64 (namedE es l).2], by simp [results, Tryd.results7, go_sem, hr1, hr2], Ret.mk rfl (below_put h3 (by omega))⟩
end Go.Proofs.YtgjodmjegmilhaaDoor
