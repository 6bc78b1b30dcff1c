/- Package dom: next, nodes, below and visit. No condition but that the arena fits. -/
import Derived.Test.YtdapdadcninidaaGreatDoorDm1
import Derived.Test.YtdapdadcninidaaGreatDoorPut
namespace Go.Proofs.YtdapdadcninidaaGreatDoor
open Go.RowKit
attribute [local go_sem ↓] Go.wp_at_zero Go.wp_at_succ

theorem row_atA {w : World} {b n : Nat} {e : TypeId} {g cap : Nat} {xs : List Value} (h : w.ownsRow b e 1 (.slice (some ⟨g, 0, none⟩) n cap) n xs) (j : Nat) (v : Value) (hj : xs[j]? = some v) : w.cell? ⟨g, j, none⟩ = some v := row_at h j v hj
theorem row_someA {w : World} {b : Nat} {ka : Option Addr} {n kc : Nat} {xs : List Value} (h : w.ownsRow b 3 1 (.slice ka n kc) n xs) (hn : 0 < n) : ∃ gk, ka = some ⟨gk, 0, none⟩ := by
  rcases row_cells h with ⟨_, h0, _⟩ | ⟨gk, cap, cur, hv, _⟩
  · omega
  · cases hv; exact ⟨gk, rfl⟩
/-- The child that follows a node, or 0. -/
def nextL (ns : List Nd) (h : Int) : Nat :=
  if 0 < indexAt ns h + 1 then (kidsAt ns (if isH ns.length h then ((ndAt ns h).parent : Int) else 0)).getD (indexAt ns h + 1).toNat 0 else 0
set_option maxRecDepth 100000 in
set_option maxHeartbeats 1000000 in
theorem next_any (h : Int) (w : World) {B : Nat} {O : List Nat} {ns : List Nd} (hA : ArW B O ns w) (hf : Fit ns) (hp : isH ns.length h = true → (ndAt ns h).parent ≤ ns.length) (hi : -1 ≤ indexAt ns h ∧ indexAt ns h ≤ 1000000) :
    Calls Tryz.prog 54 #[.pointer (some ⟨B, 0, none⟩), .int .i64 h] w (Ret w (.int .i64 (nextL ns h : Nat))) := by
  have H1 := Lib.hid (Parent_any h w hA hf.len)
  have H2 := Lib.hid (Kids_any (if isH ns.length h then ((ndAt ns h).parent : Int) else 0) w hA hf.len (hf.kids _))
  have H3 := Lib.hid (fun w' (hb : Below w.heap.size w w') => Index_any h w' (hA.later hb) hf.len hp)
  have hkl := hf.kids (if isH ns.length h then ((ndAt ns h).parent : Int) else 0)
  have HV : Hid (nextL ns h = if 0 < indexAt ns h + 1 then (kidsAt ns (if isH ns.length h then ((ndAt ns h).parent : Int) else 0)).getD (indexAt ns h + 1).toNat 0 else 0) := Lib.hid rfl
  generalize kidsAt ns (if isH ns.length h then ((ndAt ns h).parent : Int) else 0) = ks at *
  generalize indexAt ns h = ix at *
  generalize (if isH ns.length h then ((ndAt ns h).parent : Int) else 0) = p at *
  generalize nextL ns h = nx at *
  obtain ⟨hi1, hi2⟩ := hi
  clear hA hf hp
  go_enter Tryz.func54, Tryz.ntmps54
  go_wp2_with fail
  refine H1.out.mono ?_
  rintro e w1 ⟨rfl, rfl⟩
  go_wp2_with fail
  refine H2.out.mono ?_
  rintro e w1 ⟨v, rfl, hr, b1⟩
  have H4 := Lib.hid (H3.out w1 b1)
  obtain ⟨ka, kc, rfl⟩ := ownsRow_slice hr
  have HR := Lib.hid hr; have HB := Lib.hid b1
  clear hr b1 H3
  go_wp2_with fail
  refine H4.out.mono ?_
  rintro e w2 ⟨rfl, rfl⟩
  by_cases h0 : 0 < ix + 1
  · have HV2 := Lib.hid (HV.out.trans (if_pos h0))
    obtain ⟨j, hj⟩ : ∃ j : Nat, ix + 1 = (j : Int) := ⟨(ix + 1).toNat, by omega⟩
    rw [hj] at h0 HV2
    clear HV
    by_cases hl : j < ks.length
    · obtain ⟨gk, rfl⟩ := row_someA HR.out (by omega)
      have hcell := row_atA HR.out j (natV ks[j]) (by simp [kidCells, hl])
      have HV3 : Hid (nx = ks[j]) := Lib.hid (by rw [HV2.out]; simp [hl])
      have hji : (j : Int) < (ks.length : Int) := by omega
      simp only [natV] at hcell
      go_wp2
      go_ret
      exact Ret.mk (by rw [HV3.out]; rfl) HB.out
    · have HV3 : Hid (nx = 0) := Lib.hid (by rw [HV2.out, Int.toNat_natCast, List.getD_eq_getElem?_getD, List.getElem?_eq_none (by omega)]; rfl)
      have hji : ¬ ((j : Int) < (ks.length : Int)) := by omega
      go_wp2
      go_ret
      exact Ret.mk (by rw [HV3.out]; rfl) HB.out
  · have HV2 := Lib.hid (HV.out.trans (if_neg h0))
    go_wp2
    go_ret
    exact Ret.mk (by rw [HV2.out]; rfl) HB.out
end Go.Proofs.YtdapdadcninidaaGreatDoor
