/- (*strings.Replacer).Replace, arena.quote. No condition but the length. -/
import Derived.Test.YtdapdadcninidaaGreatDoorRep3
namespace Go.Proofs.YtdapdadcninidaaGreatDoor
open Go.RowKit
attribute [local go_sem ↓] Go.wp_at_zero Go.wp_at_succ
attribute [local go_sem] sapp

set_option maxRecDepth 100000 in
set_option maxHeartbeats 1000000 in
/-- Replace, for the first time. -/
theorem rpReplace_any (l : List UInt8) (w : World) {R on cap : Nat} (hR : w.heap[R]? = some (.cells #[.int .u32 0, .int .i32 0, .int .u32 0, .nilIface, .slice (some ⟨on, 0, none⟩) 6 cap] 254 (0, 0))) (hon : ∀ j s, oldNew[j]? = some s → w.cell? ⟨on, j, none⟩ = some (.string ⟨s.toArray⟩))
    (hne : on ≠ R) (hl : l.length ≤ 1000000000) :
    Calls Tryz.prog 177 #[.pointer (some ⟨R, 0, none⟩), .string ⟨l.toArray⟩] w fun e w' => e = .returned (.string ⟨(escL l).toArray⟩) ∧ Mod (fun k => k = R) w w' := by
  have hRl := (Array.getElem?_eq_some_iff.1 hR).1
  obtain ⟨W1, hW1⟩ : ∃ W1, w.setCell ⟨R, 1, none⟩ (.int .i32 1) = W1 := ⟨_, rfl⟩
  have hR1 : W1.heap[R]? = some (.cells #[.int .u32 0, .int .i32 1, .int .u32 0, .nilIface, .slice (some ⟨on, 0, none⟩) 6 cap] 254 (0, 0)) := by rw [← hW1, Joins.block_setCell (i := 1) hR]; rfl
  have m1 : Mod (fun k => k = R) w W1 := by rw [← hW1]; exact Mod.setCell _ _ rfl
  have hB := buildOnce_any W1 hR1 (fun j s hj => by
    have h := hon j s hj
    exact (m1.cell (p := ⟨on, j, none⟩) (World.block_lt_of_cell? _ _ h) hne).trans h)
  have hD := do_any R 200 (.pointer (some ⟨R, 0, none⟩)) (fun w2 => ∃ r q, RepT r q 3 w2 ∧ R < r ∧ R < q ∧ w2.heap[R]? = some (.cells #[.int .u32 0, .int .i32 1, .int .u32 0, .iface 285 (.pointer (some ⟨q, 0, none⟩)), .slice none 0 0] 254 (0, 0)) ∧ Mod (fun k => k = R) w w2) w
    (by rw [cell_of_row _ _ _ _ _ _ hR]; rfl) (by rw [cell_of_row _ _ _ _ _ _ hR]; rfl) (Lib.frozen_of_heap hR _) (Lib.frozen_of_heap hR _) (fun W => by simp [go_sem]) (by
      rw [hW1]
      refine hB.mono ?_
      rintro e w2 ⟨rfl, hT, hR2, hm⟩
      have hs1 := m1.size
      exact ⟨rfl, ⟨_, _, hT, by omega, by omega, hR2, m1.trans hm⟩, by rw [cell_of_row _ _ _ _ _ _ hR2]; rfl, by rw [cell_of_row _ _ _ _ _ _ hR2]; rfl, Lib.frozen_of_heap hR2 _, Lib.frozen_of_heap hR2 _⟩)
  have HD := Lib.hid hD
  clear hD hB m1 hR1 hW1 hR hon
  go_enter Tryz.func177, Tryz.ntmps177
  go_wp2_with fail
  refine HD.out.mono ?_
  rintro e w1 ⟨rfl, w2, ⟨r, q, hT, hr, hq, hR2, hm⟩, hw1⟩
  have hm2 : Mod (fun k => k = R) w2 w1 := by rw [hw1]; exact (((Mod.refl (fun k => k = R) w2).drew).trans (Mod.setCell _ _ rfl)).trans (Mod.setCell _ _ rfl)
  have hT1 := hT.mod hm2 (by omega) (by omega) (fun g hg => by omega)
  have k3 : w1.cell? ⟨R, 3, none⟩ = some (.iface 285 (.pointer (some ⟨q, 0, none⟩))) := by
    rw [hw1, World.cell?_setCell_other _ _ _ _ (by simp), World.cell?_setCell_other _ _ _ _ (by simp), World.cell?_drew, cell_of_row _ _ _ _ _ _ hR2]; rfl
  have HM := Lib.hid (hm.trans hm2)
  have H2 := Lib.hid (bsReplace_any l w1 hT1 hl)
  clear hw1 hm hm2 hT hT1 hR2
  go_wp2_with fail
  refine H2.out.mono ?_
  rintro e w3 ⟨rfl, b3⟩
  have HF := Lib.hid (HM.out.trans (Mod.of_below b3))
  clear b3
  go_wp2_with fail
  go_ret
  exact ⟨rfl, HF.out⟩
def quoteL (l : List UInt8) : List UInt8 := 34 :: (escL l ++ [34])
set_option maxRecDepth 100000 in
set_option maxHeartbeats 1000000 in
theorem quote_any (l : List UInt8) (w : World) (hl : l.length ≤ 1000000000) : Calls Tryz.prog 145 #[.string ⟨l.toArray⟩] w (Ret w (.string ⟨(quoteL l).toArray⟩)) := by
  obtain ⟨W0, hW0⟩ : ∃ W0, w.alloc (.cells #[.string ⟨#[34]⟩, .string ⟨#[92, 34]⟩, .string ⟨#[92]⟩, .string ⟨#[92, 92]⟩, .string ⟨#[10]⟩, .string ⟨#[92, 110]⟩] 9) = W0 := ⟨_, rfl⟩
  have b0 : Below w.heap.size w W0 := by rw [← hW0]; exact balloc w _
  have hbx : W0.heap[w.heap.size]? = some (.cells #[.string ⟨#[34]⟩, .string ⟨#[92, 34]⟩, .string ⟨#[92]⟩, .string ⟨#[92, 92]⟩, .string ⟨#[10]⟩, .string ⟨#[92, 110]⟩] 9 (0, 0)) := by rw [← hW0]; exact World.alloc_heap_new w _
  have H1 := Lib.hid (NewReplacer_any W0 (S := w.heap.size) (c := 6) (fun j s hj => by
    rw [cell_of_row _ _ _ _ _ _ hbx]
    match j, hj with
    | 0, hj => simp [oldNew] at hj; subst hj; rfl
    | 1, hj => simp [oldNew] at hj; subst hj; rfl
    | 2, hj => simp [oldNew] at hj; subst hj; rfl
    | 3, hj => simp [oldNew] at hj; subst hj; rfl
    | 4, hj => simp [oldNew] at hj; subst hj; rfl
    | 5, hj => simp [oldNew] at hj; subst hj; rfl
    | _ + 6, hj => simp [oldNew] at hj))
  have HW := Lib.hid hW0
  have HB0 := Lib.hid b0
  clear hW0 b0 hbx
  go_enter Tryz.func145, Tryz.ntmps145
  go_wp2_with fail
  rw [HW.out]
  refine H1.out.mono ?_
  rintro e w1 ⟨R, on, cap, rfl, hR, hon, hRs, hne, b1⟩
  have H2 := Lib.hid (rpReplace_any l w1 hR hon hne hl)
  have HB1 := Lib.hid b1
  have hs0 := HB0.out.size
  clear hR hon b1
  go_wp2_with fail
  refine H2.out.mono ?_
  rintro e w2 ⟨rfl, hm⟩
  have HF := Lib.hid ((bthen HB0.out HB0.out.size HB1.out).trans (hm.below (by have := HB1.out.size; omega) (fun k hk => by omega)))
  clear hm
  have hel : (escL l).length ≤ 2000000000 := by rw [escL_len]; have := List.countP_le_length (p := big) (l := l); omega
  go_wp2_with fail
  go_ret
  refine Ret.mk ?_ HF.out
  simp [quoteL]
end Go.Proofs.YtdapdadcninidaaGreatDoor
