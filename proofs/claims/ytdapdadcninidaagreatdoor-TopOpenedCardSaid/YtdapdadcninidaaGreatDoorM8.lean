/- Package stack: Pop, of a builder's open elements. No condition but lengths. The chain that TopOpened builds: its nodes, its items; the next insertion. Plain. The classes of characters of package text: closures that were made by 'from', 'either', 'none', and the functions built on them. The public classes of package text (IsSpace, IsUpper, IsLetter, IsDigit, IsHex, IsAlnum), at every rune. text.Lower, EqualFold. -/
import Derived.Test.YtdapdadcninidaaGreatDoorM7
import Derived.Test.YtdapdadcninidaaGreatDoorM1
import Derived.Test.YtdapdadcninidaaGreatDoorShelf
import Derived.Lib.ConvBytes
import Derived.Lib.SlBytesRow
set_option linter.unusedSimpArgs false
set_option linter.unusedVariables false
namespace Go.Proofs.YtdapdadcninidaaGreatDoor
open Go.RowKit
attribute [local go_sem ↓] Go.wp_at_zero Go.wp_at_succ

theorem itCells_take (l : List It) (m : Nat) : (itCells l).take (m * 4) = itCells (l.take m) := by
  induction l generalizing m with
  | nil => simp [itCells]
  | cons x l ih =>
    cases m with
    | zero => simp [itCells]
    | succ m =>
      have := ih m
      simp only [itCells, List.flatMap_cons, List.take_succ_cons] at this ⊢
      rw [show (m + 1) * 4 = [Value.int .i64 (x.node : Nat), .int .i64 x.space, .string ⟨x.name.toArray⟩, .bool x.point].length + m * 4 by simp; omega, List.take_length_add_append, this]
theorem row_shrink {w : World} {b n m c s : Nat} {a : Option Addr} {e : TypeId} {xs : List Value} (h : w.ownsRow b e s (.slice a n c) n xs) (hm : m ≤ n) (hs : xs.length = n * s) (ha : a ≠ none) : w.ownsRow b e s (.slice a m c) m (xs.take (m * s)) := by
  have hms : m * s ≤ n * s := Nat.mul_le_mul_right s hm
  refine ⟨by rw [List.length_take]; omega, ?_⟩
  obtain ⟨h1, ⟨h2, h3⟩ | ⟨g, cap, cur, h2, h3, h4, h5, h6, h7, h8⟩⟩ := h
  · simp only [Value.slice.injEq] at h2; exact absurd h2.1 ha
  · simp only [Value.slice.injEq] at h2
    obtain ⟨rfl, _, rfl⟩ := h2
    refine .inr ⟨g, _, cur, rfl, h3, h4, by omega, h6, h7, ?_⟩
    rw [← h8, List.take_take]
    congr 1
    omega
theorem ownB_any (a : Option Addr) (n m c d : Nat) : (Value.slice a n c).ownBlock = (Value.slice a m d).ownBlock := by cases a <;> rfl
/-- The last item is struck. -/
theorem BuS.shrink {b m c : Nat} {B : AB} {OA : List Nat} {ns : List Nd} {its : List It} {iv : Value} {doc : Nat} {a : Option Addr} {w w1 : World} (h : BuS b B OA ns its iv doc w) (hb : Below w.heap.size w w1) (hiv : iv = .slice a its.length c) (hm : its.length = m + 1) :
    BuS b B OA ns (its.take m) (.slice a m c) doc (w1.setCell ⟨b, 2, none⟩ (.slice a m c)) ∧ AStep (b :: OA) w (b :: OA) (w1.setCell ⟨b, 2, none⟩ (.slice a m c)) := by
  subst hiv
  have h1 := h.later hb
  have hlt := h.lt
  obtain ⟨a', c', he, hrow⟩ := h1.it
  simp only [Value.slice.injEq] at he
  obtain ⟨rfl, _, rfl⟩ := he
  have hne : a ≠ none := by
    rintro rfl
    rcases row_shape hrow with ⟨_, h, _⟩ | ⟨g, h, _⟩
    · rw [h] at hm; simp at hm
    · cases h
  have hr2 := row_shrink hrow (m := m) (by omega) (itCells_len its) hne
  rw [itCells_take] at hr2
  have hm2 : Mod (fun k => k = b) w1 (w1.setCell ⟨b, 2, none⟩ (.slice a m c)) := Mod.setCell _ _ rfl
  have htl : (its.take m).length = m := by simp; omega
  refine ⟨⟨h1.ar.kept hm2 fun k hk e => h.dj.1 (e ▸ hk), ?_, ⟨a, c, by rw [htl], by rw [htl]; exact ownsRow_mod hr2 hm2 fun g hg e => (h1.dj.2 g ((ownB_any a its.length m c c).trans hg)).1 e⟩, h.dj.1, fun g hg => h1.dj.2 g ((ownB_any a its.length m c c).trans hg)⟩, ?_, fun k hk => .inl hk⟩
  · rw [Joins.block_setCell (i := 2) h1.bx]; rfl
  · exact (Mod.of_below hb).trans (hm2.mono fun k _ e => by rw [e]; exact List.mem_cons_self)
theorem AStep.stored {O O' : List Nat} {w w1 : World} {r : Nat} (h : AStep O w O' w1) (x : It) (hr : w.heap.size ≤ r) : AStep O w O' ((((w1.setCell ⟨r, 0, none⟩ (.int .i64 (x.node : Nat))).setCell ⟨r, 1, none⟩ (.int .i64 x.space)).setCell ⟨r, 2, none⟩ (.string ⟨x.name.toArray⟩)).setCell ⟨r, 3, none⟩ (.bool x.point)) := by
  have hm := it_stored_mod x w1 r
  exact ⟨⟨hm.os.trans h.mod.os, hm.tape.trans h.mod.tape, hm.output.trans h.mod.output, Nat.le_trans h.mod.size hm.size, fun k hk hO => (hm.block k (Nat.lt_of_lt_of_le hk h.mod.size) (by omega)).trans (h.mod.block k hk hO)⟩, h.own⟩
set_option maxRecDepth 100000 in
set_option maxHeartbeats 4000000 in
theorem Pop_more (w : World) {b : Nat} {B : AB} {OA : List Nat} {ns : List Nd} {its : List It} {iv : Value} {doc : Nat} (hS : BuS b B OA ns its iv doc w) (hl : its.length ≤ 100000) (h2 : 2 ≤ its.length) :
    Calls Tryz.prog 27 #[.pointer (some ⟨b, 2, none⟩)] w fun e w' => e = .returned (itV (itAt its (its.length - 1))) ∧ ∃ iv', BuS b B OA ns (its.take (its.length - 1)) iv' doc w' ∧ AStep (b :: OA) w (b :: OA) w' := by
  obtain ⟨a, c, hiv, hits⟩ := hS.its
  have hlt := hS.lt
  have H1 := Lib.hid (fun w' (hb : Below w.heap.size w w') => sLen_any w' (b := b) (o := 2) (n := its.length) (by rw [← hiv]; exact (hS.later hb).c2))
  have H2 := Lib.hid (fun w' (hb : Below w.heap.size w w') => sTop_any its w' (b := b) (o := 2) (c := c) (a := a) (by omega) (by rw [← hiv]; exact (hS.later hb).c2) (hits.later hb))
  have HS := Lib.hid hS
  have HB0 := Lib.hid (fun o => balloc w o)
  generalize itAt its ((its.length : Int) - 1) = z at *
  have hg2 : ¬ ((its.length : Int) < 2) := by omega
  obtain ⟨m, hm⟩ : ∃ m, its.length = m + 1 := ⟨its.length - 1, by omega⟩
  have hw1 : IntKind.i64.wrap ((its.length : Int) - 1) = (m : Int) := by rw [hm]; exact (IntWalk.i64_in _ (by constructor <;> omega)).trans (by omega)
  have hmc : m ≤ c := by
    obtain ⟨a', c', h3, h4⟩ := hS.it
    rw [hiv] at h3
    simp only [Value.slice.injEq] at h3
    obtain ⟨rfl, _, rfl⟩ := h3
    rcases row_shape (hiv ▸ h4) with ⟨_, h, _⟩ | ⟨g, _, h⟩
    · rw [h] at hm; simp at hm
    · omega
  clear hS hits
  unfold itV at *
  go_enter Tryz.func27, Tryz.ntmps27
  go_wp2_with fail
  refine (H1.out _ (HB0.out _)).mono ?_
  rintro e w1 ⟨rfl, rfl⟩
  go_wp2_with fail
  generalize hW : w.alloc _ = W0
  have hx : W0.heap[w.heap.size]? = some (.cells #[.int .i64 0, .int .i64 0, .string ⟨#[]⟩, .bool false] 66 (0, 0)) := by rw [← hW]; exact World.alloc_heap_new w _
  have hb0 : Below w.heap.size w W0 := by rw [← hW]; exact balloc w _
  refine (H2.out _ hb0).mono ?_
  rintro e w1 ⟨rfl, b1⟩
  have hb1 := bthen hb0 hb0.size b1
  have q2 : ∀ o, (w1.alloc o).cell? ⟨b, 2, none⟩ = some (.slice a its.length c) := fun o => by rw [← hiv]; exact (HS.out.later (hb1.alloc hb1.size o)).c2
  have rf : ∀ o, (w1.alloc o).frozen? ⟨b, 2, none⟩ = false := fun o => Lib.frozen_of_heap (HS.out.later (hb1.alloc hb1.size o)).bx 2
  have HB1 := Lib.hid hb1
  have hxl0 := (Array.getElem?_eq_some_iff.1 hx).1
  have hx1 := (b1.block _ hxl0).trans hx
  have hxl : w.heap.size < w1.heap.size := Nat.lt_of_lt_of_le hxl0 b1.size
  clear hW hb0 hx b1 hb1 H1 H2 hxl0
  go_wp2_with fail
  generalize hW3 : w1.alloc _ = W3
  have q3 := hW3 ▸ q2 _
  have rf3 := hW3 ▸ rf _
  have hb3 : Below w.heap.size w W3 := by rw [← hW3]; exact HB1.out.alloc HB1.out.size _
  have HB3 := Lib.hid hb3
  clear q2 rf hb3
  have hz3 : W3.heap[w1.heap.size]? = some (.cells #[.int .i64 (z.node : Nat), .int .i64 z.space, .string ⟨z.name.toArray⟩, .bool z.point] 66 (0, 0)) := by rw [← hW3]; exact World.alloc_heap_new w1 _
  have hlw : b < w.heap.size := hlt
  have hx3 : W3.heap[w.heap.size]? = some (.cells #[.int .i64 0, .int .i64 0, .string ⟨#[]⟩, .bool false] 66 (0, 0)) := by rw [← hW3]; exact (Below.heap_alloc w1 _ _ hxl).trans hx1
  obtain ⟨hS4, hs4⟩ := HS.out.shrink (m := m) HB3.out hiv hm
  have HS4 := Lib.hid hS4.drew; have HST4 := Lib.hid hs4.drew
  have hz4 : (W3.setCell ⟨b, 2, none⟩ (.slice a m c)).drew.heap[w1.heap.size]? = _ := (Below.heap_setCell W3 ⟨b, 2, none⟩ _ w1.heap.size (by dsimp only; omega)).trans hz3
  have hx4 : (W3.setCell ⟨b, 2, none⟩ (.slice a m c)).drew.heap[w.heap.size]? = _ := (Below.heap_setCell W3 ⟨b, 2, none⟩ _ w.heap.size (by dsimp only; omega)).trans hx3
  have HZ4 := Lib.hid hz4; have HX4 := Lib.hid hx4
  clear hz3 hx3 hS4 hs4 hz4 hx4
  go_region
  generalize (W3.setCell ⟨b, 2, none⟩ (.slice a m c)).drew = W4 at *
  have y0 : W4.cell? ⟨w1.heap.size, 0, none⟩ = some (.int .i64 (z.node : Nat)) := by rw [cell_of_row _ _ _ _ _ _ HZ4.out]; rfl
  have y1 : W4.cell? ⟨w1.heap.size, 1, none⟩ = some (.int .i64 z.space) := by rw [cell_of_row _ _ _ _ _ _ HZ4.out]; rfl
  have y2 : W4.cell? ⟨w1.heap.size, 2, none⟩ = some (.string ⟨z.name.toArray⟩) := by rw [cell_of_row _ _ _ _ _ _ HZ4.out]; rfl
  have y3 : W4.cell? ⟨w1.heap.size, 3, none⟩ = some (.bool z.point) := by rw [cell_of_row _ _ _ _ _ _ HZ4.out]; rfl
  have d0 : W4.cell? ⟨w.heap.size, 0, none⟩ = some (.int .i64 0) := by rw [cell_of_row _ _ _ _ _ _ HX4.out]; rfl
  have d1 : W4.cell? ⟨w.heap.size, 1, none⟩ = some (.int .i64 0) := by rw [cell_of_row _ _ _ _ _ _ HX4.out]; rfl
  have d2 : W4.cell? ⟨w.heap.size, 2, none⟩ = some (.string ⟨#[]⟩) := by rw [cell_of_row _ _ _ _ _ _ HX4.out]; rfl
  have d3 : W4.cell? ⟨w.heap.size, 3, none⟩ = some (.bool false) := by rw [cell_of_row _ _ _ _ _ _ HX4.out]; rfl
  have df : ∀ j, W4.frozen? ⟨w.heap.size, j, none⟩ = false := fun j => Lib.frozen_of_heap HX4.out j
  have HST := Lib.hid (it_stored z HX4.out)
  have HFF := Lib.hid (show ∃ iv', BuS b B OA ns (its.take m) iv' doc _ ∧ AStep (b :: OA) w (b :: OA) _ from ⟨_, HS4.out.kept (it_stored_mod z W4 w.heap.size) (fun k hk e => by have := HS.out.ar.lt hk; omega) (by omega) (fun g hg e => by
      obtain ⟨a', c', h3, h4⟩ := HS.out.it
      have := ownsRow_lt h4 (g := g) (by rw [hiv]; exact (ownB_any a its.length m c c).trans hg)
      omega), HST4.out.stored z (Nat.le_refl _)⟩)
  have hm1 : its.length - 1 = m := by omega
  rw [← hm1] at HFF
  go_wp2_with fail
  exact ret_itQ (x := z) (Q := fun w' => ∃ iv', BuS b B OA ns (its.take (its.length - 1)) iv' doc w' ∧ AStep (b :: OA) w (b :: OA) w') (results_cell_row rfl _ _ w.heap.size _ _ (0, 0) _ rfl HST.out Tryz.underlying66 rfl (by kernel_rfl)) rfl HFF.out
set_option maxRecDepth 100000 in
theorem Pop_less (w : World) {b : Nat} {B : AB} {OA : List Nat} {ns : List Nd} {its : List It} {iv : Value} {doc : Nat} (hS : BuS b B OA ns its iv doc w) (h2 : its.length < 2) :
    Calls Tryz.prog 27 #[.pointer (some ⟨b, 2, none⟩)] w (Ret w (itV {})) := by
  obtain ⟨a, c, hiv, -⟩ := hS.its
  have H1 := Lib.hid (fun w' (hb : Below w.heap.size w w') => sLen_any w' (b := b) (o := 2) (n := its.length) (by rw [← hiv]; exact (hS.later hb).c2))
  have HB0 := Lib.hid (fun o => balloc w o)
  have hg2 : (its.length : Int) < 2 := by omega
  clear hS
  go_enter Tryz.func27, Tryz.ntmps27
  go_wp2_with fail
  refine (H1.out _ (HB0.out _)).mono ?_
  rintro e w1 ⟨rfl, rfl⟩
  generalize hW : w.alloc _ = W0
  have hx : W0.heap[w.heap.size]? = some (.cells #[.int .i64 0, .int .i64 0, .string ⟨#[]⟩, .bool false] 66 (0, 0)) := by rw [← hW]; exact World.alloc_heap_new w _
  have hb0 : Below w.heap.size w W0 := by rw [← hW]; exact balloc w _
  have d0 : W0.cell? ⟨w.heap.size, 0, none⟩ = some (.int .i64 0) := by rw [cell_of_row _ _ _ _ _ _ hx]; rfl
  have d1 : W0.cell? ⟨w.heap.size, 1, none⟩ = some (.int .i64 0) := by rw [cell_of_row _ _ _ _ _ _ hx]; rfl
  have d2 : W0.cell? ⟨w.heap.size, 2, none⟩ = some (.string ⟨#[]⟩) := by rw [cell_of_row _ _ _ _ _ _ hx]; rfl
  have d3 : W0.cell? ⟨w.heap.size, 3, none⟩ = some (.bool false) := by rw [cell_of_row _ _ _ _ _ _ hx]; rfl
  have df : ∀ j, W0.frozen? ⟨w.heap.size, j, none⟩ = false := fun j => Lib.frozen_of_heap hx j
  have HS := Lib.hid (it_stored {} hx); have HB := Lib.hid (it_stored_below {} hb0 (Nat.le_refl _))
  clear hW hx hb0 H1
  go_wp2_with fail
  exact ret_it (x := {}) (results_cell_row rfl _ _ w.heap.size _ _ (0, 0) _ rfl HS.out Tryz.underlying66 rfl (by kernel_rfl)) rfl HB.out
end Go.Proofs.YtdapdadcninidaaGreatDoor
namespace Go.Proofs.YtdapdadcninidaaGreatDoor
open Go.RowKit

/-- The document of a chain of n elements. -/
def chD (n : Nat) : Nd := { kind := 1, doc := 1, kids := if n = 0 then [] else [2] }
/-- The i-th of n elements. -/
def chE (a : List Att) (nm : List UInt8) (i n : Nat) : Nd := { kind := 4, space := 1, name := nm, doc := 1, attrs := htmlA a, parent := i + 1, kids := if i + 1 < n then [i + 3] else [] }
def chn (a : List Att) (ns : List (List UInt8)) : List Nd := chD ns.length :: ns.mapIdx fun i nm => chE a nm i ns.length
def chI (ns : List (List UInt8)) : List It := ns.mapIdx fun i nm => { node := i + 2, space := 1, name := nm }
theorem chn_len (a : List Att) (ns : List (List UInt8)) : (chn a ns).length = ns.length + 1 := by simp [chn]
theorem chI_len (ns : List (List UInt8)) : (chI ns).length = ns.length := by simp [chI]
theorem chI_next (ns : List (List UInt8)) (nm : List UInt8) : chI (ns ++ [nm]) = chI ns ++ [{ node := ns.length + 2, space := 1, name := nm }] := by simp [chI, List.mapIdx_append]
theorem chn_zero (a : List Att) (ns : List (List UInt8)) : (chn a ns)[0]? = some (chD ns.length) := rfl
theorem chn_at (a : List Att) (ns : List (List UInt8)) (i : Nat) (h : i < ns.length) : (chn a ns)[i + 1]? = some (chE a ns[i] i ns.length) := by simp [chn, h]
theorem chn_doc (a : List Att) (ns : List (List UInt8)) (i : Nat) (h : i < ns.length + 1) : ∃ d, (chn a ns)[i]? = some d ∧ d.doc = 1 ∧ d.contents = 0 ∧ d.host = 0 ∧ d.parent = i ∧ (d.kind = 1 ∨ d.kind = 4) ∧ (d.kind = 1 → i = 0) := by
  cases i with
  | zero => exact ⟨_, chn_zero a ns, rfl, rfl, rfl, rfl, .inl rfl, fun _ => rfl⟩
  | succ i => exact ⟨_, chn_at a ns i (by omega), rfl, rfl, rfl, rfl, .inr rfl, fun h => absurd (show (4 : Int) = 1 from h) (by decide)⟩
/-- The way up a chain. -/
theorem ups {M : List Nd} {m : Nat} (h : ∀ i, i < m → ∃ d, M[i]? = some d ∧ d.parent = i ∧ d.host = 0) : ∀ j, j ≤ m → ∃ xs, Up M true ((j : Nat) : Int) xs ∧ ∀ x ∈ xs, x ≤ (j : Int)
  | 0, _ => ⟨[], .done, by simp⟩
  | j + 1, hj => by
    obtain ⟨d, h1, h2, h3⟩ := h j (by omega)
    obtain ⟨xs, h4, h5⟩ := ups h j (by omega)
    have hl := (List.getElem?_eq_some_iff.1 h1).1
    have hu : upN M true ((j + 1 : Nat) : Int) = (j : Int) := by
      unfold upN
      rw [ndAt_at h1, h2, h3]
      split <;> omega
    refine ⟨((j + 1 : Nat) : Int) :: xs, .more (isH_iff.2 ⟨j, hl, rfl⟩) (by rw [hu]; exact h4), fun x hx => ?_⟩
    rcases List.mem_cons.1 hx with rfl | hx
    · omega
    · have := h5 x hx; omega
/-- The chain and a new element. -/
def chM (a : List Att) (ns : List (List UInt8)) (nm : List UInt8) : List Nd := chn a ns ++ [eltD nm a 1]
theorem chM_len (a : List Att) (ns : List (List UInt8)) (nm : List UInt8) : (chM a ns nm).length = ns.length + 2 := by simp [chM, chn_len]
theorem chM_old (a : List Att) (ns : List (List UInt8)) (nm : List UInt8) (i : Nat) (h : i < ns.length + 1) : (chM a ns nm)[i]? = (chn a ns)[i]? := by
  rw [chM, List.getElem?_append_left (by rw [chn_len]; omega)]
theorem chM_new (a : List Att) (ns : List (List UInt8)) (nm : List UInt8) : (chM a ns nm)[ns.length + 1]? = some (eltD nm a 1) := by
  rw [chM, List.getElem?_append_right (by rw [chn_len]; omega), chn_len, Nat.sub_self]; rfl
theorem chM_up (a : List Att) (ns : List (List UInt8)) (nm : List UInt8) : ∃ xs, Up (chM a ns nm) true ((ns.length + 1 : Nat) : Int) xs ∧ ∀ x ∈ xs, x ≤ ((ns.length + 1 : Nat) : Int) :=
  ups (m := ns.length + 1) (fun i hi => by
    obtain ⟨d, h1, _, _, h4, h5, _⟩ := chn_doc a ns i hi
    exact ⟨d, by rw [chM_old a ns nm i hi, h1], h5, h4⟩) _ (Nat.le_refl _)
theorem chM_put (a : List Att) (ns : List (List UInt8)) (nm : List UInt8) : putE (chM a ns nm) ((ns.length + 1 : Nat) : Int) ((ns.length + 2 : Nat) : Int) 0 = 0 := by
  obtain ⟨d, h1, _, _, _, _, h6, _⟩ := chn_doc a ns ns.length (Nat.lt_succ_self _)
  rw [← chM_old a ns nm _ (Nat.lt_succ_self _)] at h1
  obtain ⟨xs, hu, hx⟩ := chM_up a ns nm
  have e1 : isH (chM a ns nm).length ((ns.length + 1 : Nat) : Int) = true := isH_iff.2 ⟨ns.length, by rw [chM_len]; omega, rfl⟩
  have e2 : isH (chM a ns nm).length ((ns.length + 2 : Nat) : Int) = true := isH_iff.2 ⟨ns.length + 1, by rw [chM_len]; omega, rfl⟩
  have e3 : ndAt (chM a ns nm) ((ns.length + 2 : Nat) : Int) = eltD nm a 1 := ndAt_at (chM_new a ns nm)
  have e4 : ndAt (chM a ns nm) ((ns.length + 1 : Nat) : Int) = d := ndAt_at h1
  have e5 : containsL (chM a ns nm) ((ns.length + 2 : Nat) : Int) ((ns.length + 1 : Nat) : Int) = false := by
    rw [containsL, upOf_of hu, e1, e2, Bool.true_and, Bool.true_and]
    rw [Bool.eq_false_iff]
    intro h
    have := hx _ (by simpa using h)
    omega
  unfold putE
  rw [e1, e2, e3, e4, e5, if_neg (by simp), if_neg (by simp), if_neg (by rcases h6 with h | h <;> simp [h, mayParent, eltD]), if_neg (by simp)]
/-- The next insertion. -/
theorem chn_step (a : List Att) (ns : List (List UInt8)) (nm : List UInt8) : binL (chn a ns) nm a (ns.length + 1) = chn a (ns ++ [nm]) := by
  obtain ⟨d, h1, hdoc, hct, hho, hpa, hkd, hk0⟩ := chn_doc a ns ns.length (Nat.lt_succ_self _)
  have e1 : isH (chn a ns).length ((ns.length + 1 : Nat) : Int) = true := isH_iff.2 ⟨ns.length, by rw [chn_len]; omega, rfl⟩
  have e2 : descAt (chn a ns) ((ns.length + 1 : Nat) : Int) = d := by rw [descAt, if_pos e1, ndAt_at h1]
  have hM : chn a ns ++ [eltD nm a (descAt (chn a ns) ((ns.length + 1 : Nat) : Int)).doc] = chM a ns nm := by rw [e2, hdoc]; rfl
  unfold binL
  rw [hM, chn_len, show ns.length + 1 + 1 = ns.length + 2 from rfl, putR, if_pos (chM_put a ns nm), putL]
  have e3 : ndAt (chM a ns nm) ((ns.length + 2 : Nat) : Int) = eltD nm a 1 := ndAt_at (chM_new a ns nm)
  have e4 : ndAt (chM a ns nm) ((ns.length + 1 : Nat) : Int) = d := ndAt_at ((chM_old a ns nm _ (Nat.lt_succ_self _)).trans h1)
  rw [cutL, e3, if_pos (show (eltD nm a 1).parent = 0 from rfl), putC, e4]
  have e5 : ndAt (setNd (chM a ns nm) ((ns.length + 1 : Nat) : Int) { d with kids := insK d.kids (insAt d.kids 0) ((ns.length + 2 : Nat) : Int).toNat }) ((ns.length + 2 : Nat) : Int) = eltD nm a 1 := by
    refine ndAt_at ?_
    rw [setNd, List.getElem?_set_ne (by omega)]
    exact chM_new a ns nm
  rw [e5]
  refine List.ext_getElem? fun i => ?_
  unfold setNd
  rw [show (((ns.length + 2 : Nat) : Int) - 1).toNat = ns.length + 1 by omega, show (((ns.length + 1 : Nat) : Int) - 1).toNat = ns.length by omega]
  by_cases hi : i = ns.length + 1
  · subst hi
    rw [List.getElem?_set_self (by rw [List.length_set, chM_len]; omega), chn_at a (ns ++ [nm]) ns.length (by simp)]
    simp [eltD, chE]
  · rw [List.getElem?_set_ne (by omega)]
    by_cases hi2 : i = ns.length
    · subst hi2
      rw [List.getElem?_set_self (by rw [chM_len]; omega)]
      by_cases hz : ns.length = 0
      · obtain rfl : ns = [] := List.eq_nil_of_length_eq_zero hz
        obtain rfl := Option.some.inj ((chn_zero a []).symm.trans h1)
        rfl
      · obtain ⟨j, hj⟩ : ∃ j, ns.length = j + 1 := ⟨ns.length - 1, by omega⟩
        rw [hj] at h1 ⊢
        have hd := Option.some.inj ((chn_at a ns j (by omega)).symm.trans h1)
        rw [chn_at a (ns ++ [nm]) j (by simp; omega), ← hd]
        simp [chE, hj, insK, insAt, List.getElem_append_left (show j < ns.length by omega)]
        omega
    · rw [List.getElem?_set_ne (by omega)]
      by_cases hi3 : i < ns.length
      · rw [chM_old a ns nm i (by omega)]
        cases i with
        | zero =>
          rw [chn_zero, chn_zero]
          simp [chD, show ns ≠ [] by rintro rfl; exact absurd hi3 (by simp)]
        | succ j =>
          rw [chn_at a ns j (by omega), chn_at a (ns ++ [nm]) j (by simp; omega)]
          simp [chE, List.getElem_append_left (show j < ns.length by omega), hi3]
          omega
      · rw [List.getElem?_eq_none (by rw [chM_len]; omega), List.getElem?_eq_none (by rw [chn_len]; simp; omega)]
theorem onceF_short : ∀ (l out : List Att), (onceF out l).1.length ≤ out.length + l.length
  | [], out => by simp [onceF]
  | x :: l, out => by
    rw [onceF]
    split
    · split
      · have := onceF_short l out
        simp; omega
      · have := onceF_short l (out ++ [x])
        simp at this ⊢; omega
    · simp
theorem htmlA_len (a : List Att) : (htmlA a).length ≤ a.length := by
  have := onceF_short (adjL a) []
  simpa [htmlA, adjL] using this
theorem chn_fit (a : List Att) (ns : List (List UInt8)) (hn : ns.length ≤ 1000) (ha : a.length ≤ 1000) : Fit (chn a ns) := by
  have key : ∀ d ∈ chn a ns, d.kids.length ≤ 1 ∧ d.attrs.length ≤ 1000 := by
    intro d hd
    obtain ⟨i, hi⟩ := List.mem_iff_getElem?.1 hd
    have hl := (List.getElem?_eq_some_iff.1 hi).1
    rw [chn_len] at hl
    cases i with
    | zero =>
      rw [chn_zero] at hi
      cases hi
      refine ⟨?_, Nat.zero_le _⟩
      unfold chD; dsimp only; split <;> simp
    | succ j =>
      rw [chn_at a ns j (by omega)] at hi
      cases hi
      refine ⟨?_, Nat.le_trans (htmlA_len a) ha⟩
      unfold chE; dsimp only; split <;> simp
  exact ⟨by rw [chn_len]; omega, fun d hd => by have := (key d hd).1; omega, fun d hd => by have := (key d hd).2; omega⟩
theorem chI_top (ns : List (List UInt8)) (h : 0 < ns.length) : (itAt (chI ns) (((chI ns).length : Int) - 1)).node = ns.length + 1 := by
  rw [chI_len, itAt, if_pos (by omega), show ((ns.length : Int) - 1).toNat = ns.length - 1 by omega, List.getD_eq_getElem?_getD]
  simp only [chI, List.getElem?_mapIdx]
  rw [List.getElem?_eq_getElem (by omega)]
  simp; omega
theorem chn_place (a : List Att) (ns : List (List UInt8)) : placeL (chn a ns) (chI ns) 1 = ns.length + 1 := by
  unfold placeL
  by_cases h : ns = []
  · subst h; rfl
  · have hp : 0 < ns.length := List.length_pos_iff.2 h
    have h1 : (itAt (chI ns) (((chI ns).length - 1 : Nat) : Int)).node = ns.length + 1 := by
      have := chI_top ns hp
      rw [← this]; congr 2; rw [chI_len]; omega
    rw [if_neg (fun e => by have := chI_len ns; rw [e] at this; simp at this; omega)]
    first
      | rw [h1]
      | (rw [chI_top ns hp])
    obtain ⟨d, h1, hdoc, hct, _⟩ := chn_doc a ns ns.length (Nat.lt_succ_self _)
    have e1 : isH (chn a ns).length ((ns.length + 1 : Nat) : Int) = true := isH_iff.2 ⟨ns.length, by rw [chn_len]; omega, rfl⟩
    rw [descAt, if_pos e1, ndAt_at h1, hct, if_neg (by simp)]
theorem chn_ok (a : List Att) (ns : List (List UInt8)) (nm : List UInt8) (hn : ns.length ≤ 500) (ha : a.length ≤ 500) (han : ∀ y ∈ a, y.name.length ≤ 1000) (hnt : (nm == tmplW) = false) : BinOk (chn a ns) (chI ns) 1 nm a (ns.length + 1) := by
  obtain ⟨d, h1, hdoc, hct, hho, hpa, hkd, hk0⟩ := chn_doc a ns ns.length (Nat.lt_succ_self _)
  have e1 : isH (chn a ns).length ((ns.length + 1 : Nat) : Int) = true := isH_iff.2 ⟨ns.length, by rw [chn_len]; omega, rfl⟩
  have e2 : descAt (chn a ns) ((ns.length + 1 : Nat) : Int) = d := by rw [descAt, if_pos e1, ndAt_at h1]
  have hM : chn a ns ++ [eltD nm a (descAt (chn a ns) ((ns.length + 1 : Nat) : Int)).doc] = chM a ns nm := by rw [e2, hdoc]; rfl
  have e6 : isH (chM a ns nm).length ((ns.length + 1 : Nat) : Int) = true := isH_iff.2 ⟨ns.length, by rw [chM_len]; omega, rfl⟩
  have e4 : ndAt (chM a ns nm) ((ns.length + 1 : Nat) : Int) = d := ndAt_at ((chM_old a ns nm _ (Nat.lt_succ_self _)).trans h1)
  have e3 : ndAt (chM a ns nm) ((ns.length + 2 : Nat) : Int) = eltD nm a 1 := ndAt_at (chM_new a ns nm)
  have hf := chn_fit a ns (by omega) (by omega)
  refine ⟨chn_place a ns, hf, by rw [chI_len]; omega, by omega, han, hnt, by rw [e2]; exact hct, by rw [e2, hdoc]; decide, ?_, ?_, ?_, ?_⟩
  · rw [e2, hdoc]
    rw [docE, if_pos (isH_iff.2 ⟨0, by rw [chn_len]; omega, rfl⟩), show ((1 : Nat) : Int) = ((0 + 1 : Nat) : Int) from rfl, ndAt_at (chn_zero a ns)]
    rfl
  · rw [hM]
    refine ⟨by rw [chM_len]; omega, fun x hx => ?_, fun x hx => ?_⟩
    all_goals
      rcases List.mem_append.1 hx with h | h
      · first
          | exact hf.kid x h
          | exact hf.att x h
      · obtain rfl := List.mem_singleton.1 h
        first
          | exact Nat.zero_le _
          | (have := htmlA_len a; exact Nat.le_trans this (by omega))
  · rw [hM, descAt, if_pos e6, e4, kidsAt, if_pos e6, e4]
    intro hk
    have h0 := hk0 hk
    obtain rfl : ns = [] := List.eq_nil_of_length_eq_zero h0
    obtain rfl := Option.some.inj ((chn_zero a []).symm.trans h1)
    rfl
  · rw [hM, chn_len]
    refine ⟨fun _ => ?_, fun h => ⟨h, fun h2 => ?_⟩, fun h => absurd rfl h⟩
    · obtain ⟨xs, hu, _⟩ := chM_up a ns nm
      exact ⟨xs, hu⟩
    · exact absurd (show (ndAt (chM a ns nm) ((ns.length + 1 + 1 : Nat) : Int)).parent = 0 by rw [show ns.length + 1 + 1 = ns.length + 2 from rfl, e3]; rfl) h2
end Go.Proofs.YtdapdadcninidaaGreatDoor
namespace Go.Proofs.YtdapdadcninidaaGreatDoor
open Go.RowKit

/-- The function f, with what it has captured, answers p at every rune, in every later memory. -/
def IsCls (w : World) (f : Nat) (cap : Array Value) (p : Int → Bool) : Prop :=
  (∀ args W, (callFunc f args).run Tryz.prog W = .ok (.enter f args) W) ∧
    ∀ W, Below w.heap.size w W → ∀ r : Int, Calls Tryz.prog f (#[.int .i32 r] ++ cap) W (Ret W (.bool (p r)))
theorem IsCls.later {w W : World} {f : Nat} {cap : Array Value} {p : Int → Bool} (h : IsCls w f cap p) (hb : Below w.heap.size w W) : IsCls W f cap p :=
  ⟨h.1, fun W' hb' r => h.2 W' (hb.trans (hb'.mono hb.size)) r⟩
def IsClass (w : World) (v : Value) (p : Int → Bool) : Prop := ∃ (f : Nat) (cap : Array Value), v = .func (.func f) #[] cap ∧ IsCls w f cap p
theorem IsClass.later {w W : World} {v : Value} {p : Int → Bool} (h : IsClass w v p) (hb : Below w.heap.size w W) : IsClass W v p := by
  obtain ⟨f, cap, rfl, hc⟩ := h
  exact ⟨f, cap, rfl, hc.later hb⟩
/-- The call returns a class. -/
def RetC (w : World) (p : Int → Bool) (e : Ending) (w' : World) : Prop := ∃ (f : Nat) (cap : Array Value), e = .returned (.func (.func f) #[] cap) ∧ IsCls w' f cap p ∧ Below w.heap.size w w'

def inR (lo hi r : Int) : Bool := decide (lo ≤ r) && decide (r ≤ hi)
theorem inR_t {lo hi r : Int} (h1 : lo ≤ r) (h2 : r ≤ hi) : inR lo hi r = true := by simp [inR, h1, h2]
theorem inR_f1 {lo hi r : Int} (h1 : r < lo) : inR lo hi r = false := by simp [inR]; omega

theorem from1 (w : World) (p q : Nat) (lo hi r : Int) (h1 : w.cell? ⟨p, 0, none⟩ = some (.int .i32 lo)) (h2 : w.cell? ⟨q, 0, none⟩ = some (.int .i32 hi)) :
    Calls Tryz.prog 167 #[.int .i32 r, .pointer (some ⟨p, 0, none⟩), .pointer (some ⟨q, 0, none⟩)] w (Ret w (.bool (inR lo hi r))) := by
  go_enter Tryz.func167, Tryz.ntmps167
  go_wp2
  · go_ret
    refine Ret.mk ?_ (Below.refl _ _)
    simp [inR, *]
  · go_ret
    refine Ret.mk ?_ (Below.refl _ _)
    rw [inR_f1 (by assumption)]; rfl
theorem enter_from1 (args : Array Value) (W : World) : (callFunc 167 args).run Tryz.prog W = .ok (.enter 167 args) W := by
  simp [go_sem]
theorem from_any (lo hi : Int) (w : World) : Calls Tryz.prog 133 #[.int .i32 lo, .int .i32 hi] w (RetC w (inR lo hi)) := by
  go_enter Tryz.func133, Tryz.ntmps133
  go_wp2
  go_ret
  refine ⟨_, _, rfl, ⟨enter_from1, fun W hb r => ?_⟩, by go_grown⟩
  refine from1 W _ _ lo hi r ((hb.cell (p := ⟨_, 0, none⟩) (by simp; omega)).trans ?_) ((hb.cell (p := ⟨_, 0, none⟩) (by simp)).trans ?_)
  · go_cell
  · go_cell

/-- The slice value v holds the classes ps. -/
def IsClasses (w : World) (v : Value) (ps : List (Int → Bool)) : Prop :=
  ∃ b cap, v = .slice (some ⟨b, 0, none⟩) ps.length cap ∧ ∀ i (h : i < ps.length), ∃ u, w.cell? ⟨b, i, none⟩ = some u ∧ IsClass w u ps[i]
theorem IsClasses.later {w W : World} {v : Value} {ps : List (Int → Bool)} (h : IsClasses w v ps) (hb : Below w.heap.size w W) : IsClasses W v ps := by
  obtain ⟨b, cap, rfl, hc⟩ := h
  refine ⟨b, cap, rfl, fun i hi => ?_⟩
  obtain ⟨u, hu, hp⟩ := hc i hi
  exact ⟨u, (hb.cell (p := ⟨b, i, none⟩) (World.block_lt_of_cell? w _ hu)).trans hu, hp.later hb⟩
def anyC (ps : List (Int → Bool)) (r : Int) : Bool := ps.any fun p => p r
theorem anyC_false {ps : List (Int → Bool)} {r : Int} (h : ∀ j (hj : j < ps.length), ps[j] r = false) : anyC ps r = false := by
  unfold anyC
  rw [List.any_eq_false]
  intro p hp
  obtain ⟨j, hj, rfl⟩ := List.getElem_of_mem hp
  simp [h j hj]
theorem anyC_true {ps : List (Int → Bool)} {r : Int} (j : Nat) (hj : j < ps.length) (h : ps[j] r = true) : anyC ps r = true := by
  unfold anyC
  rw [List.any_eq_true]
  exact ⟨ps[j], List.getElem_mem hj, h⟩

theorem either1 (w : World) (q : Nat) (v : Value) (ps : List (Int → Bool)) (r : Int) (hn : ps.length ≤ 1000) (hq : w.cell? ⟨q, 0, none⟩ = some v) (hv : IsClasses w v ps) :
    Calls Tryz.prog 168 #[.int .i32 r, .pointer (some ⟨q, 0, none⟩)] w (Ret w (.bool (anyC ps r))) := by
  obtain ⟨b, cap, rfl, hc⟩ := hv
  have HC := Lib.hid hc; clear hc
  go_enter Tryz.func168, Tryz.ntmps168
  go_wp2
  go_loopw [8] (fun i wr => ∃ k : Nat, k ≤ ps.length ∧ i = .int .i64 k ∧ Below w.heap.size w wr ∧ ∀ j (hj : j < ps.length), j < k → ps[j] r = false) (fun i _ => ps.length - (intOf i).toNat)
  case atStart => exact ⟨0, Nat.zero_le _, rfl, Below.refl _ _, fun j _ h => absurd h (Nat.not_lt_zero _)⟩
  case round =>
    obtain ⟨k, hk, rfl, hb, hno⟩ := hrel
    have HNO := Lib.hid hno; clear hno
    by_cases hlt : k < ps.length
    · obtain ⟨u, hu, hp⟩ := HC.out k hlt
      have hu' : wr.cell? ⟨b, k, none⟩ = some u := (hb.cell (p := ⟨b, k, none⟩) (World.block_lt_of_cell? w _ hu)).trans hu
      obtain ⟨f, cap', rfl, he, hcall⟩ := hp.later hb
      clear hu hp
      obtain ⟨p, hp⟩ : ∃ p, p = ps[k] := ⟨_, rfl⟩
      rw [← hp] at hcall
      have HP := Lib.hid hp; clear hp
      have h1 := hcall wr (Below.refl _ _) r
      clear hcall
      cases hpr : p r
      · rw [hpr] at h1
        have H1 := Lib.hid h1; clear h1
        have HR := Lib.hid hpr; clear hpr
        go_wp2_with (refine H1.out.mono ?_; rintro e w1 ⟨rfl, hb1⟩)
        go_roundw
        case rel =>
          refine ⟨k + 1, by omega, by go_num, bthen hb hb.size hb1, fun j hj hlt' => ?_⟩
          by_cases e : j = k
          · subst e; rw [← HP.out]; exact HR.out
          · exact HNO.out j hj (by omega)
        case measure => simp [intOf]; omega
      · rw [hpr] at h1
        have H1 := Lib.hid h1; clear h1
        have HR := Lib.hid hpr; clear hpr
        go_wp2_with (refine H1.out.mono ?_; rintro e w1 ⟨rfl, hb1⟩)
        go_ret
        refine Ret.mk ?_ (bthen hb hb.size hb1)
        rw [anyC_true k hlt (by rw [← HP.out]; exact HR.out)]; rfl
    · go_wp2
      go_ret
      refine Ret.mk ?_ hb
      rw [anyC_false fun j hj => HNO.out j hj (by omega)]; rfl
theorem enter_either1 (args : Array Value) (W : World) : (callFunc 168 args).run Tryz.prog W = .ok (.enter 168 args) W := by
  simp [go_sem]
theorem either_any (v : Value) (ps : List (Int → Bool)) (w : World) (hn : ps.length ≤ 1000) (hv : IsClasses w v ps) : Calls Tryz.prog 134 #[v] w (RetC w (anyC ps)) := by
  have HV := Lib.hid hv; clear hv
  obtain ⟨b, cap, rfl, -⟩ := HV.out
  go_enter Tryz.func134, Tryz.ntmps134
  go_wp2
  go_ret
  refine ⟨_, _, rfl, ⟨enter_either1, fun W hb r => ?_⟩, by go_grown⟩
  refine either1 W _ _ ps r hn ((hb.cell (p := ⟨_, 0, none⟩) (by simp)).trans ?_) (HV.out.later (bthen ((Below.refl _ _).alloc (Nat.le_refl _) _) (by simp) hb))
  go_cell

/-- Three, two, five classes laid side by side. -/
theorem IsClasses.row {w : World} {vs : Array Value} {ps : List (Int → Bool)} {b cap : Nat} {t : TypeId} {fz : Nat × Nat} (hb : w.heap[b]? = some (.cells vs t fz)) (hn : vs.size = ps.length)
    (h : ∀ i (h1 : i < vs.size) (h2 : i < ps.length), IsClass w vs[i] ps[i]) : IsClasses w (.slice (some ⟨b, 0, none⟩) ps.length cap) ps := by
  refine ⟨b, cap, rfl, fun i hi => ⟨vs[i], ?_, h i _ hi⟩⟩
  simp [World.cell?, hb, hn, hi]
end Go.Proofs.YtdapdadcninidaaGreatDoor
namespace Go.Proofs.YtdapdadcninidaaGreatDoor
open Go.RowKit

def isUpper (r : Int) : Bool := inR 65 90 r
def isDigit (r : Int) : Bool := inR 48 57 r
def isSpace (r : Int) : Bool := anyC [inR 9 10, inR 12 13, inR 32 32] r
def isLetter (r : Int) : Bool := anyC [isUpper, inR 97 122] r
def isHex (r : Int) : Bool := anyC [isDigit, inR 65 70, inR 97 102] r
def isAlnum (r : Int) : Bool := anyC [isLetter, isDigit] r

/-- A class whose function was given by name. -/
theorem isCls_of {w : World} {f : Nat} {p : Int → Bool} (he : ∀ args W, (callFunc f args).run Tryz.prog W = .ok (.enter f args) W) (hc : ∀ r W, Calls Tryz.prog f #[.int .i32 r] W (Ret W (.bool (p r)))) : IsCls w f #[] p :=
  ⟨he, fun W _ r => hc r W⟩
theorem classes2 {w : World} {f1 f2 : Nat} {c1 c2 : Array Value} {p1 p2 : Int → Bool} (h1 : IsCls w f1 c1 p1) (h2 : IsCls w f2 c2 p2) (t : TypeId) :
    IsClasses (w.alloc (.cells #[.func (.func f1) #[] c1, .func (.func f2) #[] c2] t)) (.slice (some ⟨w.heap.size, 0, none⟩) 2 2) [p1, p2] := by
  have hb := (Below.refl w.heap.size w).alloc (Nat.le_refl _) (.cells #[.func (.func f1) #[] c1, .func (.func f2) #[] c2] t)
  refine ⟨_, _, rfl, fun i hi => ?_⟩
  match i, hi with
  | 0, _ => exact ⟨_, by go_cell, _, _, rfl, h1.later hb⟩
  | 1, _ => exact ⟨_, by go_cell, _, _, rfl, h2.later hb⟩
theorem classes3 {w : World} {f1 f2 f3 : Nat} {c1 c2 c3 : Array Value} {p1 p2 p3 : Int → Bool} (h1 : IsCls w f1 c1 p1) (h2 : IsCls w f2 c2 p2) (h3 : IsCls w f3 c3 p3) (t : TypeId) :
    IsClasses (w.alloc (.cells #[.func (.func f1) #[] c1, .func (.func f2) #[] c2, .func (.func f3) #[] c3] t)) (.slice (some ⟨w.heap.size, 0, none⟩) 3 3) [p1, p2, p3] := by
  have hb := (Below.refl w.heap.size w).alloc (Nat.le_refl _) (.cells #[.func (.func f1) #[] c1, .func (.func f2) #[] c2, .func (.func f3) #[] c3] t)
  refine ⟨_, _, rfl, fun i hi => ?_⟩
  match i, hi with
  | 0, _ => exact ⟨_, by go_cell, _, _, rfl, h1.later hb⟩
  | 1, _ => exact ⟨_, by go_cell, _, _, rfl, h2.later hb⟩
  | 2, _ => exact ⟨_, by go_cell, _, _, rfl, h3.later hb⟩

theorem IsUpper_any (r : Int) (w : World) : Calls Tryz.prog 136 #[.int .i32 r] w (Ret w (.bool (isUpper r))) := by
  go_enter Tryz.func136, Tryz.ntmps136
  go_wp2_with fail
  refine (from_any 65 90 _).mono ?_
  rintro e w1 ⟨f, cap, rfl, ⟨he, hc⟩, b1⟩
  have h1 := Lib.hid (hc w1 (Below.refl _ _) r)
  clear hc
  go_wp2_with (refine h1.out.mono ?_; rintro e w2 ⟨rfl, b2⟩)
  go_ret
  exact Ret.mk rfl (bthen b1 b1.size b2)
theorem IsDigit_any (r : Int) (w : World) : Calls Tryz.prog 169 #[.int .i32 r] w (Ret w (.bool (isDigit r))) := by
  go_enter Tryz.func169, Tryz.ntmps169
  go_wp2_with fail
  refine (from_any 48 57 _).mono ?_
  rintro e w1 ⟨f, cap, rfl, ⟨he, hc⟩, b1⟩
  have h1 := Lib.hid (hc w1 (Below.refl _ _) r)
  clear hc
  go_wp2_with (refine h1.out.mono ?_; rintro e w2 ⟨rfl, b2⟩)
  go_ret
  exact Ret.mk rfl (bthen b1 b1.size b2)
theorem enter_IsUpper (args : Array Value) (W : World) : (callFunc 136 args).run Tryz.prog W = .ok (.enter 136 args) W := by simp [go_sem]
theorem enter_IsDigit (args : Array Value) (W : World) : (callFunc 169 args).run Tryz.prog W = .ok (.enter 169 args) W := by simp [go_sem]
theorem chain0 {w w9 w10 : World} {o : Obj} (b9 : Below (w.alloc o).heap.size (w.alloc o) w9) (b10 : Below w9.heap.size w9 w10) : Below w.heap.size w w10 :=
  bthen (bthen (balloc w o) (by simp) b9) (Nat.le_trans (by simp) b9.size) b10
theorem chain1 {w w1 w9 w10 : World} {o : Obj} (b1 : Below w.heap.size w w1) (b9 : Below (w1.alloc o).heap.size (w1.alloc o) w9) (b10 : Below w9.heap.size w9 w10) : Below w.heap.size w w10 :=
  bthen b1 b1.size (chain0 b9 b10)
theorem chain2 {w w1 w2 w9 w10 : World} {o : Obj} (b1 : Below w.heap.size w w1) (b2 : Below w1.heap.size w1 w2) (b9 : Below (w2.alloc o).heap.size (w2.alloc o) w9) (b10 : Below w9.heap.size w9 w10) : Below w.heap.size w w10 :=
  bthen b1 b1.size (chain1 b2 b9 b10)
theorem chain3 {w w1 w2 w3 w9 w10 : World} {o : Obj} (b1 : Below w.heap.size w w1) (b2 : Below w1.heap.size w1 w2) (b3 : Below w2.heap.size w2 w3) (b9 : Below (w3.alloc o).heap.size (w3.alloc o) w9) (b10 : Below w9.heap.size w9 w10) : Below w.heap.size w w10 :=
  bthen b1 b1.size (chain2 b2 b3 b9 b10)
theorem IsSpace_any (r : Int) (w : World) : Calls Tryz.prog 165 #[.int .i32 r] w (Ret w (.bool (isSpace r))) := by
  go_enter Tryz.func165, Tryz.ntmps165
  go_wp2_with fail
  refine (from_any 9 10 _).mono ?_
  rintro e w1 ⟨f1, cap1, rfl, c1, b1⟩
  go_wp2_with fail
  refine (from_any 12 13 _).mono ?_
  rintro e w2 ⟨f2, cap2, rfl, c2, b2⟩
  go_wp2_with fail
  refine (from_any 32 32 _).mono ?_
  rintro e w3 ⟨f3, cap3, rfl, c3, b3⟩
  go_wp2_with fail
  refine (either_any _ _ _ (by decide) (classes3 ((c1.later b2).later b3) (c2.later b3) c3 _)).mono ?_
  rintro e w9 ⟨f, cap, rfl, ⟨he, hc⟩, b9⟩
  have h1 := Lib.hid (hc w9 (Below.refl _ _) r)
  clear hc
  go_wp2_with (refine h1.out.mono ?_; rintro e w10 ⟨rfl, b10⟩)
  go_ret
  exact Ret.mk rfl (chain3 b1 b2 b3 b9 b10)
theorem IsLetter_any (r : Int) (w : World) : Calls Tryz.prog 130 #[.int .i32 r] w (Ret w (.bool (isLetter r))) := by
  go_enter Tryz.func130, Tryz.ntmps130
  go_wp2_with fail
  refine (from_any 97 122 _).mono ?_
  rintro e w1 ⟨f1, cap1, rfl, c1, b1⟩
  go_wp2_with fail
  refine (either_any _ _ _ (by decide) (classes2 (isCls_of enter_IsUpper IsUpper_any) c1 _)).mono ?_
  rintro e w9 ⟨f, cap, rfl, ⟨he, hc⟩, b9⟩
  have h1 := Lib.hid (hc w9 (Below.refl _ _) r)
  clear hc
  go_wp2_with (refine h1.out.mono ?_; rintro e w10 ⟨rfl, b10⟩)
  go_ret
  exact Ret.mk rfl (chain1 b1 b9 b10)
theorem enter_IsLetter (args : Array Value) (W : World) : (callFunc 130 args).run Tryz.prog W = .ok (.enter 130 args) W := by simp [go_sem]
theorem IsAlnum_any (r : Int) (w : World) : Calls Tryz.prog 135 #[.int .i32 r] w (Ret w (.bool (isAlnum r))) := by
  go_enter Tryz.func135, Tryz.ntmps135
  go_wp2_with fail
  refine (either_any _ _ _ (by decide) (classes2 (isCls_of enter_IsLetter IsLetter_any) (isCls_of enter_IsDigit IsDigit_any) _)).mono ?_
  rintro e w9 ⟨f, cap, rfl, ⟨he, hc⟩, b9⟩
  have h1 := Lib.hid (hc w9 (Below.refl _ _) r)
  clear hc
  go_wp2_with (refine h1.out.mono ?_; rintro e w10 ⟨rfl, b10⟩)
  go_ret
  exact Ret.mk rfl (chain0  b9 b10)
theorem enter_IsSpace (args : Array Value) (W : World) : (callFunc 165 args).run Tryz.prog W = .ok (.enter 165 args) W := by simp [go_sem]
theorem enter_IsAlnum (args : Array Value) (W : World) : (callFunc 135 args).run Tryz.prog W = .ok (.enter 135 args) W := by simp [go_sem]
end Go.Proofs.YtdapdadcninidaaGreatDoor
namespace Go.Proofs.YtdapdadcninidaaGreatDoor
open Go.RowKit
attribute [local go_sem] sext

def lowB (c : UInt8) : UInt8 := if 65 ≤ c ∧ c ≤ 90 then c + 32 else c
def lowL (l : List UInt8) : List UInt8 := l.map lowB

theorem isUpper_iff (c : UInt8) : isUpper (c.toNat : Int) = true ↔ 65 ≤ c ∧ c ≤ 90 := by
  rw [UInt8.le_iff_toNat_le, UInt8.le_iff_toNat_le]
  simp only [isUpper, inR, Bool.and_eq_true, decide_eq_true_eq]
  have h1 : (65 : UInt8).toNat = 65 := rfl
  have h2 : (90 : UInt8).toNat = 90 := rfl
  rw [h1, h2]
  omega
theorem lowB_up {c : UInt8} (h : isUpper (c.toNat : Int) = true) : ((c.toNat : Int) - 65 + 97) % 256 = ((lowB c).toNat : Int) := by
  have hc := (isUpper_iff c).1 h
  rw [lowB, if_pos hc, UInt8.toNat_add]
  rw [UInt8.le_iff_toNat_le, UInt8.le_iff_toNat_le] at hc
  have h1 : (65 : UInt8).toNat = 65 := rfl
  have h2 : (90 : UInt8).toNat = 90 := rfl
  have h3 : (32 : UInt8).toNat = 32 := rfl
  rw [h1, h2] at hc
  rw [h3]
  omega
theorem lowB_id {c : UInt8} (h : isUpper (c.toNat : Int) = false) : lowB c = c := by
  rw [lowB, if_neg]
  intro hc
  rw [(isUpper_iff c).2 hc] at h
  cases h
/-- Block D holds these bytes and some more cells, and the mark of a conversion's row. -/
def RowAt (W : World) (D n : Nat) (bs : List UInt8) : Prop := ∃ pad : List Value, W.heap[D]? = some (.cells ((Lib.byteCells bs ++ pad).toArray) 5 (n, n + 1)) ∧ bs.length ≤ n
theorem RowAt.cell {W : World} {D n : Nat} {bs : List UInt8} (h : RowAt W D n bs) (i : Nat) (hi : i < bs.length) : W.cell? ⟨D, i, none⟩ = some (.int .u8 (bs[i].toNat : Int)) := by
  obtain ⟨pad, h, _⟩ := h
  simp only [World.cell?, h]
  rw [List.getElem?_toArray, List.getElem?_append_left (by rw [Lib.byteCells_length]; exact hi)]
  simp [Lib.byteCells, hi]
theorem RowAt.frozen {W : World} {D n : Nat} {bs : List UInt8} (h : RowAt W D n bs) (i : Nat) (hi : i < bs.length) : W.frozen? ⟨D, i, none⟩ = false := by
  obtain ⟨pad, h, hn⟩ := h
  simp only [World.frozen?, h]
  simp; omega
theorem RowAt.set {W : World} {D n : Nat} {bs : List UInt8} (h : RowAt W D n bs) (i : Nat) (hi : i < bs.length) (c : UInt8) : RowAt (W.setCell ⟨D, i, none⟩ (.int .u8 (c.toNat : Int))) D n (bs.set i c) := by
  obtain ⟨pad, h, hn⟩ := h
  refine ⟨pad, ?_, by simpa using hn⟩
  show (W.heap.modify D _)[D]? = _
  rw [Array.getElem?_modify, if_pos rfl, h]
  have e : Lib.byteCells (bs.set i c) ++ pad = (Lib.byteCells bs ++ pad).set i (.int .u8 (c.toNat : Int)) := by
    rw [List.set_append_left _ _ (by rw [Lib.byteCells_length]; exact hi)]
    simp [Lib.byteCells, List.map_set]
  rw [e]
  simp
theorem RowAt.kept {A B : World} {D n : Nat} {bs : List UInt8} (h : RowAt A D n bs) (hb : Below A.heap.size A B) : RowAt B D n bs := by
  obtain ⟨pad, h, hn⟩ := h
  exact ⟨pad, (hb.block D (Array.getElem?_eq_some_iff.1 h).1).trans h, hn⟩
theorem RowAt.bytes {W : World} {D n : Nat} {bs : List UInt8} (h : RowAt W D n bs) : Lib.Bytes W D 0 ⟨bs.toArray⟩ := by
  intro i hi
  rw [Nat.zero_add]
  exact h.cell i hi
theorem RowAt.fresh (w : World) (l : List UInt8) : ∃ n, RowAt (Lib.bytesWorld w 5 ⟨l.toArray⟩) w.heap.size n l := by
  refine ⟨(Lib.bytesCells w 5 ⟨l.toArray⟩).size, List.replicate (grownCap w l.length 0 5 - l.length) (.int .u8 0), (Lib.bytesWorld_at_new w _ _).trans ?_, ?_⟩
  · have e : Lib.bytesCells w 5 ⟨l.toArray⟩ = (Lib.byteCells l ++ List.replicate (grownCap w l.length 0 5 - l.length) (Value.int .u8 0)).toArray := by
      apply Array.ext'
      simp [Lib.bytesCells, Lib.byteCells, ByteArray.size]
    rw [← e]
  · simp [Lib.bytesCells]
theorem bytesWorld_below (w : World) (l : List UInt8) : Below w.heap.size w (Lib.bytesWorld w 5 ⟨l.toArray⟩) :=
  ⟨rfl, rfl, rfl, by rw [Lib.bytesWorld_size]; omega, fun k hk => Lib.bytesWorld_at_old w _ _ k hk⟩
theorem low_next (l : List UInt8) (i : Nat) (hi : i < l.length) (c : UInt8) (hc : c = lowB l[i]) : ((l.take i).map lowB ++ l.drop i).set i c = (l.take (i + 1)).map lowB ++ l.drop (i + 1) := by
  rw [List.set_append_right _ _ (by simp; omega)]
  rw [List.drop_eq_getElem_cons hi]
  simp only [List.length_map, List.length_take, Nat.min_eq_left (Nat.le_of_lt hi), Nat.sub_self, List.set_cons_zero]
  rw [List.take_succ_eq_append_getElem hi, List.map_append, List.append_assoc, hc]
  rfl
theorem low_same (l : List UInt8) (i : Nat) (hi : i < l.length) (hc : lowB l[i] = l[i]) : (l.take (i + 1)).map lowB ++ l.drop (i + 1) = (l.take i).map lowB ++ l.drop i := by
  rw [List.take_succ_eq_append_getElem hi, List.map_append, List.append_assoc, List.drop_eq_getElem_cons hi, List.map_cons, hc]
  rfl
theorem low_at (l : List UInt8) (i : Nat) (hi : i < l.length) : ∃ h : i < ((l.take i).map lowB ++ l.drop i).length, ((l.take i).map lowB ++ l.drop i)[i]'h = l[i] := by
  have h : i < ((l.take i).map lowB ++ l.drop i).length := by simp; omega
  refine ⟨h, ?_⟩
  rw [List.getElem_append_right (by simp; omega)]
  simp [Nat.min_eq_left (Nat.le_of_lt hi)]

set_option maxRecDepth 100000 in
theorem Lower_any (l : List UInt8) (w : World) (hs : l.length ≤ 1000000000) :
    Calls Tryz.prog 83 #[.string ⟨l.toArray⟩] w (Ret w (.string ⟨(lowL l).toArray⟩)) := by
  obtain ⟨n, hrow⟩ := RowAt.fresh w l
  have kc := Lib.run_convert_string_bytes (P := Tryz.prog) w 9 110 5 ⟨l.toArray⟩ Tryz.underlying9 Tryz.underlying110 Tryz.underlying5
  obtain ⟨cap, hcap⟩ : ∃ cap, grownCap w (⟨l.toArray⟩ : ByteArray).size 0 5 = cap := ⟨_, rfl⟩
  obtain ⟨W, hW⟩ : ∃ W, Lib.bytesWorld w 5 ⟨l.toArray⟩ = W := ⟨_, rfl⟩
  rw [hcap, hW] at kc
  rw [hW] at hrow
  have HROW := Lib.hid hrow
  clear hrow hcap
  go_enter Tryz.func83, Tryz.ntmps83
  go_wp2_with fail
  have hsz : w.heap.size < W.heap.size := by rw [← hW, Lib.bytesWorld_size]; omega
  have HBW := Lib.hid (show Below w.heap.size w W from hW ▸ bytesWorld_below w l)
  clear hW kc
  go_loopw [10] (fun s10 wx => ∃ i : Nat, s10 = .int .i64 i ∧ i ≤ l.length ∧ RowAt wx w.heap.size n ((l.take i).map lowB ++ l.drop i) ∧ Below w.heap.size w wx ∧ w.heap.size < wx.heap.size) (fun i _ => l.length - (intOf i).toNat)
  case atStart => exact ⟨0, rfl, Nat.zero_le _, by simpa using HROW.out, HBW.out, hsz⟩
  case round =>
    obtain ⟨i, rfl, hi, hrow, hb, hsz2⟩ := hrel
    have HR := Lib.hid hrow; have HB := Lib.hid hb
    clear hrow hb HROW HBW
    by_cases hlt : i < l.length
    · obtain ⟨hh, hcv⟩ := low_at l i hlt
      have hc1 := HR.out.cell i hh
      have hf1 := HR.out.frozen i hh
      rw [hcv] at hc1
      obtain ⟨c, hcc⟩ : ∃ c, l[i] = c := ⟨_, rfl⟩
      rw [hcc] at hc1
      have HCC := Lib.hid hcc
      clear hcv hcc
      have h1 := IsUpper_any (c.toNat : Int) wr
      cases hp : isUpper (c.toNat : Int)
      · rw [hp] at h1
        have H1 := Lib.hid h1; have HP := Lib.hid hp; clear h1 hp
        go_wp2_with fail
        rw [wrap32_byte]
        go_wp2_with (refine H1.out.mono ?_; rintro e w1 ⟨rfl, hb1⟩)
        go_roundw
        case rel =>
          refine ⟨i + 1, by go_num, by omega, ?_, bthen HB.out HB.out.size hb1, by have := hb1.size; omega⟩
          rw [low_same l i hlt (by rw [HCC.out, lowB_id HP.out])]
          exact HR.out.kept hb1
        case measure => simp [intOf]; omega
      · rw [hp] at h1
        have H1 := Lib.hid h1; have HP := Lib.hid hp; clear h1 hp
        go_wp2_with fail
        rw [wrap32_byte]
        go_wp2_with (refine H1.out.mono ?_; rintro e w1 ⟨rfl, hb1⟩; have hf2 := (bcell hb1).2 w.heap.size i hsz2; rw [hf1] at hf2; have hc2 := (bcell hb1).1 w.heap.size i hsz2; rw [hc1] at hc2)
        rw [lowB_up HP.out]
        go_roundw
        case rel =>
          refine ⟨i + 1, by go_num, by omega, ?_, (bthen HB.out HB.out.size hb1).trans ?_, by have := hb1.size; simp; omega⟩
          · have := (HR.out.kept hb1).set i hh (lowB c)
            rwa [low_next l i hlt (lowB c) (by rw [HCC.out])] at this
          · exact Below.setCell (p := ⟨w.heap.size, i, none⟩) (Below.refl w.heap.size w1) (Nat.le_refl _) _
        case measure => simp [intOf]; omega
    · obtain rfl : i = l.length := by omega
      have hr : RowAt wr w.heap.size n (lowL l) := by have := HR.out; rwa [List.take_length, List.drop_length, List.append_nil] at this
      have kc := Lib.run_convert_whole (P := Tryz.prog) wr 110 5 9 Tryz.underlying110 Tryz.underlying5 Tryz.underlying9 w.heap.size 0 _ hr.bytes cap
      rw [show (⟨(lowL l).toArray⟩ : ByteArray).size = l.length by simp [lowL, ByteArray.size]] at kc
      clear hr
      go_wp2_with fail
      go_ret
      exact Ret.mk rfl HB.out
theorem lowL_len (l : List UInt8) : (lowL l).length = l.length := by simp [lowL]
theorem EqualFold_any (a b : List UInt8) (w : World) (ha : a.length ≤ 1000000000) (hb : b.length ≤ 1000000000) :
    Calls Tryz.prog 156 #[.string ⟨a.toArray⟩, .string ⟨b.toArray⟩] w (Ret w (.bool (lowL a == lowL b))) := by
  go_enter Tryz.func156, Tryz.ntmps156
  go_wp2_with fail
  refine (Lower_any a _ ha).mono ?_
  rintro e w1 ⟨rfl, b1⟩
  go_wp2_with fail
  refine (Lower_any b _ hb).mono ?_
  rintro e w2 ⟨rfl, b2⟩
  go_wp2_with fail
  go_ret
  refine Ret.mk ?_ (bthen b1 b1.size b2)
  rfl
end Go.Proofs.YtdapdadcninidaaGreatDoor
