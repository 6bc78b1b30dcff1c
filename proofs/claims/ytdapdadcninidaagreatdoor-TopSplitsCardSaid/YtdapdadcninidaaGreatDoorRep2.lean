/- strings.Replacer: NewReplacer, buildOnce, Replace. No condition but the length. -/
import Derived.Test.YtdapdadcninidaaGreatDoorRep1
import Derived.Test.YtdapdadcninidaaGreatDoorOnce
import Derived.Test.YtdapdadcninidaaGreatDoorOwn
namespace Go.Proofs.YtdapdadcninidaaGreatDoor
open Go.RowKit
attribute [local go_sem ↓] Go.wp_at_zero Go.wp_at_succ

theorem OwnV.cellsA {R T : Nat} {w : World} {v : Value} {xs : List Value} (h : OwnV R T w v xs) (h0 : 0 < xs.length) : ∃ g c, v = .slice (some ⟨g, 0, none⟩) xs.length c ∧ R ≤ g ∧ g < w.heap.size ∧ ∀ j u, xs[j]? = some u → w.cell? ⟨g, j, none⟩ = some u := by
  obtain ⟨g, c, hv, hR, hc⟩ := h.cell h0
  refine ⟨g, c, hv, hR, World.block_lt_of_cell? _ _ hc, fun j u hj => ?_⟩
  obtain ⟨hl, rfl⟩ := List.getElem?_eq_some_iff.1 hj
  obtain ⟨g', c', hv', _, hc'⟩ := h.cell hl
  rw [hv] at hv'
  cases hv'
  exact hc'
theorem RepT.mod {S : Nat → Prop} {r q k : Nat} {A B : World} (h : RepT r q k A) (hm : Mod S A B) (hr : ¬ S r) (hq : ¬ S q) (hS : ∀ g, S g → g ≤ q) : RepT r q k B := by
  obtain ⟨⟨rc, h1, h2, h3⟩, ⟨cur, h4, h5⟩, h6, h7, h8⟩ := h
  have hql := (Array.getElem?_eq_some_iff.1 h4).1
  refine ⟨⟨rc, (hm.block r (Array.getElem?_eq_some_iff.1 h1).1 hr).trans h1, h2, h3⟩, ⟨cur, (hm.block q hql hq).trans h4, h5⟩, (hm.cell (p := ⟨q, _, none⟩) hql hq).trans h6, fun b hb hj => (hm.cell (p := ⟨q, _, none⟩) hql hq).trans (h7 b hb hj), fun j hj => ?_⟩
  obtain ⟨g, c, n, e1, e2, e3, e4⟩ := h8 j hj
  exact ⟨g, c, n, (hm.cell (p := ⟨q, _, none⟩) hql hq).trans e1, e2.mod hm (fun hg => by have := hS g hg; omega), e3, e4⟩
def onCells : List Value := oldNew.map fun s => .string ⟨s.toArray⟩
set_option maxRecDepth 100000 in
set_option maxHeartbeats 1000000 in
theorem NewReplacer_any (w : World) {S c : Nat} (hS : ∀ j s, oldNew[j]? = some s → w.cell? ⟨S, j, none⟩ = some (.string ⟨s.toArray⟩)) :
    Calls Tryz.prog 176 #[.slice (some ⟨S, 0, none⟩) 6 c] w fun e w' => ∃ R on cap, e = .returned (.pointer (some ⟨R, 0, none⟩)) ∧ w'.heap[R]? = some (.cells #[.int .u32 0, .int .i32 0, .int .u32 0, .nilIface, .slice (some ⟨on, 0, none⟩) 6 cap] 254 (0, 0)) ∧
      (∀ j s, oldNew[j]? = some s → w'.cell? ⟨on, j, none⟩ = some (.string ⟨s.toArray⟩)) ∧ w.heap.size ≤ R ∧ on ≠ R ∧ Below w.heap.size w w' := by
  obtain ⟨i0, hi, hz0, hz1, hz2⟩ := info_parts infoS
  go_enter Tryz.func176, Tryz.ntmps176
  go_wp2_with (at_builtin; refine wpList_append_ownF _ rfl _ _ 39 rfl w.heap.size 9 i0 (.string ⟨#[]⟩) 1 16 Tryz.underlying39 hi hz0 hz1 hz2 rfl (by decide) (.slice none 0 0) 0 [] rfl (World.ownsRowF_nil _ _ _ _) ⟨S, 0, none⟩ 6 c onCells rfl rfl ?cells ?one (by decide) (by decide) (Nat.le_refl _) ?_; rotate_left 2; intro v' w1 hown hg hnil; obtain ⟨g, cap, rfl, hgR, hgl, hgc⟩ := OwnV.cellsA (R := w.heap.size) (T := 9) (w := w1) (v := v') (xs := onCells) hown (by decide); clear hown hnil)
  case cells =>
    intro j u hj
    simp only [onCells, List.getElem?_map] at hj
    obtain ⟨s, hs, rfl⟩ := Option.map_eq_some_iff.1 hj
    have hadd : (⟨S, 0, none⟩ : Addr).add j = ⟨S, j, none⟩ := by unfold Addr.add; split <;> simp_all
    rw [hadd]
    exact hS j s hs
  case one =>
    intro u hu
    obtain ⟨s, _, rfl⟩ := List.mem_map.1 hu
    rfl
  go_ret
  have hb1 : Below w.heap.size w w1 := ⟨hg.os, hg.tape, hg.output, hg.size, fun k hk => hg.block k hk (by simp [Value.ownBlock])⟩
  refine ⟨w1.heap.size, g, cap, rfl, World.alloc_heap_new _ _, fun j s hj => ?_, hg.size, by omega, hb1.alloc hg.size _⟩
  rw [World.cell?_alloc_past _ _ _ hgl]
  exact hgc j _ (by simp [onCells, hj])
set_option maxRecDepth 100000 in
set_option maxHeartbeats 1000000 in
theorem buildOnce_any (w : World) {R on cap : Nat} {v0 v1 v2 : Value} (hR : w.heap[R]? = some (.cells #[v0, v1, v2, .nilIface, .slice (some ⟨on, 0, none⟩) 6 cap] 254 (0, 0))) (hon : ∀ j s, oldNew[j]? = some s → w.cell? ⟨on, j, none⟩ = some (.string ⟨s.toArray⟩)) :
    Calls Tryz.prog 200 #[.pointer (some ⟨R, 0, none⟩)] w fun e w' => e = .returned (.tuple #[]) ∧ RepT w.heap.size (w.heap.size + 1) 3 w' ∧
      w'.heap[R]? = some (.cells #[v0, v1, v2, .iface 285 (.pointer (some ⟨w.heap.size + 1, 0, none⟩)), .slice none 0 0] 254 (0, 0)) ∧ Mod (fun k => k = R) w w' := by
  have hRl := (Array.getElem?_eq_some_iff.1 hR).1
  have H1 := Lib.hid (build_any w (R := R) (on := on) (cap := cap) (by rw [cell_of_row _ _ _ _ _ _ hR]; rfl) hon)
  have HR := Lib.hid hR
  clear hR hon
  go_enter Tryz.func200, Tryz.ntmps200
  go_wp2_with fail
  refine H1.out.mono ?_
  rintro e w1 ⟨rfl, hT, b1⟩
  have hR1 := (b1.block R hRl).trans HR.out
  have k3 : w1.cell? ⟨R, 3, none⟩ = some .nilIface := by rw [cell_of_row _ _ _ _ _ _ hR1]; rfl
  have k4 : w1.cell? ⟨R, 4, none⟩ = some (.slice (some ⟨on, 0, none⟩) 6 cap) := by rw [cell_of_row _ _ _ _ _ _ hR1]; rfl
  have z3 : w1.frozen? ⟨R, 3, none⟩ = false := Lib.frozen_of_heap hR1 _
  have z4 : w1.frozen? ⟨R, 4, none⟩ = false := Lib.frozen_of_heap hR1 _
  have HT := Lib.hid hT; have HR1 := Lib.hid hR1; have HB := Lib.hid b1
  clear hT hR1 b1
  go_wp2
  go_end0
  have hm : ∀ v v', Mod (fun k => k = R) w1 ((w1.setCell ⟨R, 3, none⟩ v).setCell ⟨R, 4, none⟩ v') := fun v v' => Mod.trans (S := fun k => k = R) (Mod.setCell _ _ rfl) (Mod.setCell _ _ rfl)
  refine ⟨rfl, HT.out.mod (hm _ _) (by omega) (by omega) (fun g hg => by omega), ?_, (Mod.of_below HB.out).trans (hm _ _)⟩
  rw [Joins.block_setCell (i := 4) (Joins.block_setCell (i := 3) HR1.out _)]
  rfl
end Go.Proofs.YtdapdadcninidaaGreatDoor
