/- Package builder: a builder in memory; there, Current, node. No condition but lengths. Package builder: the node document, the place of what is inserted. No condition but lengths. Package stack: an item is put behind the others. No condition but lengths. Package dom: the rules of a move, and the first one that refuses it. No condition but that the arena fits and the way up ends. -/
import Derived.Test.YtdapdadcninidaaGreatDoorM5
import Derived.Laws.AppendOwnNone
import Derived.Test.YtdapdadcninidaaGreatDoorM3
import Derived.Deep.QuietTactic
import Derived.BigQuiet
set_option linter.unusedSimpArgs false
set_option linter.unusedVariables false
namespace Go.Proofs.YtdapdadcninidaaGreatDoor
open Go.RowKit
attribute [local go_sem ↓] Go.wp_at_zero Go.wp_at_succ

def buArr (T doc : Nat) (iv : Value) : Array Value := #[.pointer (some ⟨T, 0, none⟩), .int .i64 (doc : Nat), iv, .slice none 0 0, .int .i64 1, .int .i64 0, .slice none 0 0, .int .i64 0, .int .i64 0, .bool false, .int .i64 0, .int .i64 0, .string ⟨#[]⟩, .bool false, .bool true, .bool false, .string ⟨#[]⟩, .bool false, .int .i64 0, .bool false]
/-- A builder at b over the arena at B: its open elements, their slice, its document. -/
structure BuS (b : Nat) (B : AB) (OA : List Nat) (ns : List Nd) (its : List It) (iv : Value) (doc : Nat) (w : World) : Prop where
  ar : ArW B OA ns w
  bx : w.heap[b]? = some (.cells (buArr B.blk doc iv) 69 (0, 0))
  it : ∃ a c, iv = .slice a its.length c ∧ w.ownsRow 0 66 4 iv its.length (itCells its)
  dj : b ∉ OA ∧ ∀ g, iv.ownBlock = some g → g ≠ b ∧ g ∉ OA
theorem BuS.lt {b : Nat} {B : AB} {OA : List Nat} {ns : List Nd} {its : List It} {iv : Value} {doc : Nat} {w : World} (h : BuS b B OA ns its iv doc w) : b < w.heap.size := (Array.getElem?_eq_some_iff.1 h.bx).1
/-- A call that has turned the arena alone. -/
theorem BuS.call {b : Nat} {B B' : AB} {OA O' : List Nat} {ns ns' : List Nd} {its : List It} {iv : Value} {doc : Nat} {w w' : World} (h : BuS b B OA ns its iv doc w) (hB : B'.blk = B.blk) (hA : ArW B' O' ns' w') (hs : AStep OA w O' w') : BuS b B' O' ns' its iv doc w' := by
  obtain ⟨h1, h2, ⟨a, c, h3, h4⟩, h5, h6⟩ := h
  have hlt := (Array.getElem?_eq_some_iff.1 h2).1
  refine ⟨hA, by rw [hB]; exact (hs.mod.block _ hlt h5).trans h2, ⟨a, c, h3, ownsRow_mod h4 hs.mod fun g hg => (h6 g hg).2⟩, fun hk => (hs.own b hk).elim h5 (by omega), fun g hg => ⟨(h6 g hg).1, fun hk => (hs.own g hk).elim (h6 g hg).2 fun h => ?_⟩⟩
  have := ownsRow_lt h4 hg
  omega
theorem BuS.later {b : Nat} {B : AB} {OA : List Nat} {ns : List Nd} {its : List It} {iv : Value} {doc : Nat} {w w' : World} (h : BuS b B OA ns its iv doc w) (hb : Below w.heap.size w w') : BuS b B OA ns its iv doc w' :=
  h.call rfl (h.ar.later hb) ⟨Mod.of_below hb, fun _ hk => .inl hk⟩
theorem BuS.c0 {b : Nat} {B : AB} {OA : List Nat} {ns : List Nd} {its : List It} {iv : Value} {doc : Nat} {w : World} (h : BuS b B OA ns its iv doc w) : w.cell? ⟨b, 0, none⟩ = some (.pointer (some ⟨B, 0, none⟩)) := by rw [cell_of_row _ _ _ _ _ _ h.bx]; rfl
theorem BuS.c1 {b : Nat} {B : AB} {OA : List Nat} {ns : List Nd} {its : List It} {iv : Value} {doc : Nat} {w : World} (h : BuS b B OA ns its iv doc w) : w.cell? ⟨b, 1, none⟩ = some (.int .i64 (doc : Nat)) := by rw [cell_of_row _ _ _ _ _ _ h.bx]; rfl
theorem BuS.c2 {b : Nat} {B : AB} {OA : List Nat} {ns : List Nd} {its : List It} {iv : Value} {doc : Nat} {w : World} (h : BuS b B OA ns its iv doc w) : w.cell? ⟨b, 2, none⟩ = some iv := by rw [cell_of_row _ _ _ _ _ _ h.bx]; rfl
theorem BuS.c15 {b : Nat} {B : AB} {OA : List Nat} {ns : List Nd} {its : List It} {iv : Value} {doc : Nat} {w : World} (h : BuS b B OA ns its iv doc w) : w.cell? ⟨b, 15, none⟩ = some (.bool false) := by rw [cell_of_row _ _ _ _ _ _ h.bx]; rfl
theorem BuS.its {b : Nat} {B : AB} {OA : List Nat} {ns : List Nd} {its : List It} {iv : Value} {doc : Nat} {w : World} (h : BuS b B OA ns its iv doc w) : ∃ a c, iv = .slice a its.length c ∧ ItsAt w a its := by
  obtain ⟨a, c, h3, h4⟩ := h.it
  exact ⟨a, c, h3, ItsAt.own (by rw [← h3]; exact h4)⟩
set_option maxRecDepth 100000 in
theorem there_any (w : World) {b : Nat} {T : Addr} (h : w.cell? ⟨b, 0, none⟩ = some (.pointer (some T))) : Calls Tryz.prog 62 #[.pointer (some ⟨b, 0, none⟩)] w fun e w' => e = .returned (.bool true) ∧ w = w' := by
  go_enter Tryz.func62, Tryz.ntmps62
  go_wp2
  go_ret
  exact ⟨rfl, rfl⟩
set_option maxRecDepth 100000 in
theorem Current_any (w : World) {b : Nat} {B : AB} {OA : List Nat} {ns : List Nd} {its : List It} {iv : Value} {doc : Nat} (h : BuS b B OA ns its iv doc w) (hl : its.length ≤ 1000000) :
    Calls Tryz.prog 23 #[.pointer (some ⟨b, 0, none⟩)] w (Ret w (itV (itAt its (its.length - 1)))) := by
  have H1 := Lib.hid (fun w' (hb : Below w.heap.size w w') => there_any w' (h.later hb).c0)
  obtain ⟨a, c, hiv, hits⟩ := h.its
  have H2 := Lib.hid (fun w' (hb : Below w.heap.size w w') => sTop_any its w' (b := b) (o := 2) (c := c) (a := a) hl (by rw [← hiv]; exact (h.later hb).c2) (hits.later hb))
  have HB0 := Lib.hid (fun o => balloc w o)
  generalize itAt its ((its.length : Int) - 1) = z at *
  clear h hits hiv
  unfold itV at *
  go_enter Tryz.func23, Tryz.ntmps23
  go_wp2_with fail
  generalize hW : w.alloc _ = W0
  have hx : W0.heap[w.heap.size]? = some (.cells #[.int .i64 0, .int .i64 0, .string ⟨#[]⟩, .bool false] 66 (0, 0)) := by rw [← hW]; exact World.alloc_heap_new w _
  have hb0 : Below w.heap.size w W0 := by rw [← hW]; exact balloc w _
  refine (H1.out _ hb0).mono ?_
  rintro e w1 ⟨rfl, rfl⟩
  go_wp2_with fail
  refine (H2.out _ hb0).mono ?_
  rintro e w1 ⟨rfl, b1⟩
  have hxl := (Array.getElem?_eq_some_iff.1 hx).1
  have hx1 := (b1.block _ hxl).trans hx
  have hb1 := bthen hb0 hb0.size b1
  have d0 : w1.cell? ⟨w.heap.size, 0, none⟩ = some (.int .i64 0) := by rw [cell_of_row _ _ _ _ _ _ hx1]; rfl
  have d1 : w1.cell? ⟨w.heap.size, 1, none⟩ = some (.int .i64 0) := by rw [cell_of_row _ _ _ _ _ _ hx1]; rfl
  have d2 : w1.cell? ⟨w.heap.size, 2, none⟩ = some (.string ⟨#[]⟩) := by rw [cell_of_row _ _ _ _ _ _ hx1]; rfl
  have d3 : w1.cell? ⟨w.heap.size, 3, none⟩ = some (.bool false) := by rw [cell_of_row _ _ _ _ _ _ hx1]; rfl
  have df : ∀ j, w1.frozen? ⟨w.heap.size, j, none⟩ = false := fun j => Lib.frozen_of_heap hx1 j
  have HS := Lib.hid (it_stored z hx1); have HB := Lib.hid (it_stored_below z hb1 (Nat.le_refl _))
  clear hW hx hb0 b1 hxl hx1 hb1 H1 H2
  go_wp2_with fail
  exact ret_it (x := z) (results_cell_row rfl _ _ w.heap.size _ _ (0, 0) _ rfl HS.out Tryz.underlying66 rfl (by kernel_rfl)) rfl HB.out
def ndArr (d : Nd) (k1 : Option Addr) (k2 : Nat) (a1 : Option Addr) (a2 : Nat) : Array Value := #[.int .i64 d.kind, .int .i64 (d.parent : Nat), .slice k1 d.kids.length k2, .int .i64 (d.doc : Nat), .int .i64 d.space, .string ⟨d.name.toArray⟩, .slice a1 d.attrs.length a2, .string ⟨d.data.toArray⟩, .string ⟨d.pub.toArray⟩, .string ⟨d.sys.toArray⟩, .bool d.quirks, .int .i64 (d.contents : Nat), .int .i64 (d.host : Nat)]
/-- Cells are stored, one after the other. -/
def putCells (b : Nat) : World → Nat → List Value → World
  | w, _, [] => w
  | w, i, v :: vs => putCells b (w.setCell ⟨b, i, none⟩ v) (i + 1) vs
def over : Array Value → Nat → List Value → Array Value
  | c, _, [] => c
  | c, i, v :: vs => over (c.setIfInBounds i v) (i + 1) vs
theorem putCells_heap {b : Nat} {T : TypeId} {fr : Nat × Nat} : ∀ (vs : List Value) (i : Nat) (w : World) (cur : Array Value), w.heap[b]? = some (.cells cur T fr) → (putCells b w i vs).heap[b]? = some (.cells (over cur i vs) T fr)
  | [], _, _, _, h => h
  | v :: vs, i, w, cur, h => putCells_heap vs (i + 1) _ _ (Joins.block_setCell h v)
theorem putCells_mod (b : Nat) : ∀ (vs : List Value) (i : Nat) (w : World), Mod (fun k => k = b) w (putCells b w i vs)
  | [], _, _ => Mod.refl _ _
  | v :: vs, i, w => (Mod.setCell (S := fun k => k = b) (a := ⟨b, i, none⟩) w v rfl).trans (putCells_mod b vs (i + 1) _)
theorem over_list : ∀ (vs pre rest : List Value), rest.length = vs.length → over (pre ++ rest).toArray pre.length vs = (pre ++ vs).toArray
  | [], pre, rest, h => by
    have : rest = [] := List.eq_nil_of_length_eq_zero (by simpa using h)
    subst this; rfl
  | v :: vs, pre, [], h => by simp at h
  | v :: vs, pre, r :: rest, h => by
    have ih := over_list vs (pre ++ [v]) rest (by simpa using h)
    rw [over]
    have e : (pre ++ r :: rest).toArray.setIfInBounds pre.length v = ((pre ++ [v]) ++ rest).toArray := by simp
    rw [e]
    rw [List.length_append] at ih
    simpa using ih
theorem putCells_full {b : Nat} {T : TypeId} {fr : Nat × Nat} (vs old : List Value) (w : World) (hl : old.length = vs.length) (h : w.heap[b]? = some (.cells old.toArray T fr)) : (putCells b w 0 vs).heap[b]? = some (.cells vs.toArray T fr) := by
  have := putCells_heap vs 0 w _ h
  rw [this]
  have h2 := over_list vs [] old hl
  simp only [List.nil_append, List.length_nil] at h2
  rw [h2]
/-- node's result. -/
structure BnGot (d : Nd) (w : World) (e : Ending) (w' : World) (k1 : Option Addr) (k2 : Nat) (a1 : Option Addr) (a2 : Nat) : Prop where
  e : e = .returned (.agg (ndArr d k1 k2 a1 a2))
  k : w'.ownsRow w.heap.size 3 1 (.slice k1 d.kids.length k2) d.kids.length (kidCells d.kids)
  a : w'.ownsRow w.heap.size 121 3 (.slice a1 d.attrs.length a2) d.attrs.length (attCells d.attrs)
  b : Below w.heap.size w w'
set_option maxRecDepth 100000 in
set_option maxHeartbeats 2000000 in
theorem bnode_any (h : Int) (w : World) {b : Nat} {B : AB} {OA : List Nat} {ns : List Nd} {its : List It} {iv : Value} {doc : Nat} (hS : BuS b B OA ns its iv doc w) (hf : Fit ns) :
    Calls Tryz.prog 102 #[.pointer (some ⟨b, 0, none⟩), .int .i64 h] w fun e w' => ∃ k1 k2 a1 a2, BnGot (descAt ns h) w e w' k1 k2 a1 a2 := by
  have H1 := Lib.hid (fun w' (hb : Below w.heap.size w w') => NodeD_any h w' (hS.ar.later hb) hf)
  have hlt := hS.lt
  have q0 : ∀ o, (w.alloc o).cell? ⟨b, 0, none⟩ = some (.pointer (some ⟨B, 0, none⟩)) := fun o => (hS.later (balloc w o)).c0
  generalize descAt ns h = d at *
  clear hS hf
  go_enter Tryz.func102, Tryz.ntmps102
  go_wp2_with fail
  generalize hW : w.alloc _ = W0
  have hb0 : Below w.heap.size w W0 := by rw [← hW]; exact balloc w _
  have hx : W0.heap[w.heap.size]? = some (.cells #[.int .i64 0, .int .i64 0, .slice none 0 0, .int .i64 0, .int .i64 0, .string ⟨#[]⟩, .slice none 0 0, .string ⟨#[]⟩, .string ⟨#[]⟩, .string ⟨#[]⟩, .bool false, .int .i64 0, .int .i64 0] 55 (0, 0)) := by rw [← hW]; exact World.alloc_heap_new w _
  refine (H1.out _ hb0).mono ?_
  rintro e w1 ⟨k1, k2, a1, a2, rfl, hk, ha, b1⟩
  have hs0 := hb0.size
  have hsz0 : W0.heap.size = w.heap.size + 1 := by rw [← hW]; simp
  have hx1 := (b1.block _ (by omega)).trans hx
  have hs1 := b1.size
  have hxo : ∀ o, (w1.alloc o).heap[w.heap.size]? = _ := fun o => (Below.heap_alloc w1 o _ (by omega)).trans hx1
  have HX := Lib.hid (fun o => putCells_full (b := w.heap.size) (ndArr d k1 k2 a1 a2).toList [.int .i64 0, .int .i64 0, .slice none 0 0, .int .i64 0, .int .i64 0, .string ⟨#[]⟩, .slice none 0 0, .string ⟨#[]⟩, .string ⟨#[]⟩, .string ⟨#[]⟩, .bool false, .int .i64 0, .int .i64 0] (w1.alloc o) rfl (hxo o))
  have hcz : ∀ o j v, (#[.int .i64 0, .int .i64 0, .slice none 0 0, .int .i64 0, .int .i64 0, .string ⟨#[]⟩, .slice none 0 0, .string ⟨#[]⟩, .string ⟨#[]⟩, .string ⟨#[]⟩, .bool false, .int .i64 0, .int .i64 0] : Array Value)[j]? = some v → (w1.alloc o).cell? ⟨w.heap.size, j, none⟩ = some v := fun o j v hv => by rw [cell_of_row _ _ _ _ _ _ (hxo o)]; exact hv
  have d0 := fun o => hcz o 0 _ rfl
  have d1 := fun o => hcz o 1 _ rfl
  have d2 := fun o => hcz o 2 _ rfl
  have d3 := fun o => hcz o 3 _ rfl
  have d4 := fun o => hcz o 4 _ rfl
  have d5 := fun o => hcz o 5 _ rfl
  have d6 := fun o => hcz o 6 _ rfl
  have d7 := fun o => hcz o 7 _ rfl
  have d8 := fun o => hcz o 8 _ rfl
  have d9 := fun o => hcz o 9 _ rfl
  have d10 := fun o => hcz o 10 _ rfl
  have d11 := fun o => hcz o 11 _ rfl
  have d12 := fun o => hcz o 12 _ rfl
  have df : ∀ o j, (w1.alloc o).frozen? ⟨w.heap.size, j, none⟩ = false := fun o j => Lib.frozen_of_heap (hxo o) j
  have HF := Lib.hid (show ∀ o, ∃ k1' k2' a1' a2', BnGot d w (.returned (.agg (ndArr d k1 k2 a1 a2))) (putCells w.heap.size (w1.alloc o) 0 (ndArr d k1 k2 a1 a2).toList) k1' k2' a1' a2' from fun o => by
    have hm := putCells_mod w.heap.size (ndArr d k1 k2 a1 a2).toList 0 (w1.alloc o)
    have hb1 : Below w.heap.size w (w1.alloc o) := (bthen hb0 hs0 b1).alloc (by omega) _
    have far : ∀ {v : Value} {g n s : Nat} {e : TypeId} {xs : List Value}, w1.ownsRow W0.heap.size e s v n xs → v.ownBlock = some g → ¬ g = w.heap.size := fun h hg => by have := ownsRow_ge h hg; omega
    exact ⟨k1, k2, a1, a2, rfl, ownsRow_base (by omega) (ownsRow_mod (ownsRow_below hk (balloc w1 o)) hm fun g hg => far hk hg), ownsRow_base (by omega) (ownsRow_mod (ownsRow_below ha (balloc w1 o)) hm fun g hg => far ha hg), hb1.trans (hm.below (by simp; omega) (fun k hk => by omega))⟩)
  clear hW hb0 hx hk ha b1 hx1 hxo hcz H1
  go_wp2_with fail
  refine bodyPost_ret (v := .agg (ndArr d k1 k2 a1 a2)) (results_cell_row rfl _ _ w.heap.size _ _ (0, 0) _ rfl (HX.out _) Tryz.underlying55 rfl (by kernel_rfl)) rfl (HF.out _)
end Go.Proofs.YtdapdadcninidaaGreatDoor
namespace Go.Proofs.YtdapdadcninidaaGreatDoor
open Go.RowKit
attribute [local go_sem ↓] Go.wp_at_zero Go.wp_at_succ

theorem run_asAgg {P : Program} (vs : Array Value) (w : World) : (asAgg (.agg vs)).run P w = .ok vs w := rfl
theorem run_field_it (v0 v1 v2 v3 : Value) (w : World) : (Instr.field 66 (.agg #[v0, v1, v2, v3]) 0).run Tryz.prog w = .ok v0 w := by
  simp [Instr.field, run_asAgg, go_sem, Tryz.underlying66]
attribute [local go_sem] run_field_it
set_option maxRecDepth 100000 in
set_option maxHeartbeats 1000000 in
/-- document, of a node without contents. -/
theorem bdoc_any (h : Int) (w : World) {b : Nat} {B : AB} {OA : List Nat} {ns : List Nd} {its : List It} {iv : Value} {doc : Nat} (hS : BuS b B OA ns its iv doc w) (hf : Fit ns) (hc : (descAt ns h).contents = 0) (hd : (descAt ns h).doc ≠ 0) :
    Calls Tryz.prog 152 #[.pointer (some ⟨b, 0, none⟩), .int .i64 h] w (Ret w (.int .i64 ((descAt ns h).doc : Nat))) := by
  have H1 := Lib.hid (bnode_any h w hS hf)
  generalize descAt ns h = d at *
  obtain ⟨dk, dp, dks, dd, dsp, dn, da, ddt, dpu, dsy, dq, dc, dh⟩ := d
  dsimp only at hc hd
  subst hc
  have hdb : ((dd : Int) != 0) = true := by simpa using hd
  clear hS hf hd
  go_enter Tryz.func152, Tryz.ntmps152
  go_wp2_with fail
  refine H1.out.mono ?_
  rintro e w1 ⟨k1, k2, a1, a2, rfl, -, -, b1⟩
  have HB := Lib.hid (fun o => b1.alloc b1.size o)
  clear b1 H1
  simp only [ndArr]
  go_wp2_with fail
  go_ret
  exact Ret.mk rfl (HB.out _)
/-- Where the next node goes. -/
def placeL (ns : List Nd) (its : List It) (doc : Nat) : Nat :=
  if its = [] then doc else if (descAt ns ((itAt its (its.length - 1)).node : Nat)).contents ≠ 0 then (descAt ns ((itAt its (its.length - 1)).node : Nat)).contents else (itAt its (its.length - 1)).node
set_option maxRecDepth 100000 in
set_option maxHeartbeats 2000000 in
theorem Place_any (w : World) {b : Nat} {B : AB} {OA : List Nat} {ns : List Nd} {its : List It} {iv : Value} {doc : Nat} (hS : BuS b B OA ns its iv doc w) (hf : Fit ns) (hl : its.length ≤ 1000000) :
    Calls Tryz.prog 101 #[.pointer (some ⟨b, 0, none⟩), .int .i64 0] w (Ret w (.tuple #[.int .i64 (placeL ns its doc : Nat), .int .i64 0])) := by
  obtain ⟨a, c, hiv, hits⟩ := hS.its
  have H1 := Lib.hid (there_any w hS.c0)
  have H2 := Lib.hid (sLen_any (b := b) (o := 2) (n := its.length) w (hiv ▸ hS.c2))
  have H3 := Lib.hid (Current_any w hS hl)
  have HN := Lib.hid (fun (h : Int) w' (hb : Below w.heap.size w w') => bnode_any h w' (hS.later hb) hf)
  have HS := Lib.hid hS
  have hlt := hS.lt
  by_cases h0 : its = []
  · have hp : placeL ns its doc = doc := by rw [placeL, if_pos h0]
    rw [hp]
    subst h0
    have c1 := hS.c1
    clear hS hf hits hp H3 HN
    go_enter Tryz.func101, Tryz.ntmps101
    go_wp2_with fail
    refine H1.out.mono ?_
    rintro e w1 ⟨rfl, rfl⟩
    go_wp2_with fail
    refine H2.out.mono ?_
    rintro e w1 ⟨rfl, rfl⟩
    go_wp2_with fail
    go_ret2
    exact Ret.mk rfl (Below.refl _ _)
  · have hlen : ((its.length : Int) == 0) = false := by
      cases its with | nil => exact absurd rfl h0 | cons x l => simp; omega
    have hp : placeL ns its doc = if (descAt ns ((itAt its (its.length - 1)).node : Nat)).contents ≠ 0 then (descAt ns ((itAt its (its.length - 1)).node : Nat)).contents else (itAt its (its.length - 1)).node := by rw [placeL, if_neg h0]
    obtain ⟨z, hz⟩ : ∃ z, itAt its ((its.length : Int) - 1) = z := ⟨_, rfl⟩
    rw [hz] at H3 hp
    obtain ⟨d, hd⟩ : ∃ d, descAt ns (z.node : Nat) = d := ⟨_, rfl⟩
    rw [hd] at hp
    have HN2 := HN.out (z.node : Nat)
    rw [hd] at HN2
    have HN2 := Lib.hid HN2
    have HP := Lib.hid hp
    generalize placeL ns its doc = pl at *
    clear hS hf hits h0 hz hd hp HN hiv
    unfold itV at H3
    go_enter Tryz.func101, Tryz.ntmps101
    go_wp2_with fail
    refine H1.out.mono ?_
    rintro e w1 ⟨rfl, rfl⟩
    go_wp2_with fail
    refine H2.out.mono ?_
    rintro e w1 ⟨rfl, rfl⟩
    go_wp2_with fail
    refine H3.out.mono ?_
    rintro e w1 ⟨rfl, b1⟩
    have HB1 := Lib.hid b1
    clear b1 H3
    go_wp2_with fail
    refine (HN2.out w1 HB1.out).mono ?_
    rintro e w2 ⟨k1, k2, a1, a2, rfl, -, -, b2⟩
    have hb2 := bthen HB1.out HB1.out.size b2
    have c15 : ∀ o, (w2.alloc o).cell? ⟨b, 15, none⟩ = some (.bool false) := fun o => (HS.out.later (hb2.alloc hb2.size o)).c15
    have HB3 := Lib.hid (fun o => hb2.alloc hb2.size o)
    clear b2 hb2
    simp only [ndArr]
    go_wp2_with fail
    generalize hW : w2.alloc _ = W3
    have hb3 : Below w.heap.size w W3 := by rw [← hW]; exact HB3.out _
    refine (HN2.out W3 hb3).mono ?_
    rintro e w4 ⟨j1, j2, c1, c2, rfl, -, -, b4⟩
    have hb4 := bthen hb3 hb3.size b4
    have HB4 := Lib.hid (fun o => hb4.alloc hb4.size o)
    clear b4 hb4 hW hb3 c15 HB3
    simp only [ndArr]
    by_cases hc : d.contents = 0
    · have HP2 := Lib.hid (HP.out.trans (if_neg (by simpa using hc)))
      rw [hc]
      go_wp2_with fail
      go_ret2
      exact Ret.mk (by rw [HP2.out]; rfl) (HB4.out _)
    · have HP2 := Lib.hid (HP.out.trans (if_pos (by simpa using hc)))
      have hcb : ((d.contents : Int) != 0) = true := by simpa using hc
      go_wp2_with fail
      go_ret2
      exact Ret.mk (by rw [HP2.out]; rfl) (HB4.out _)
end Go.Proofs.YtdapdadcninidaaGreatDoor
namespace Go.Proofs.YtdapdadcninidaaGreatDoor
open Go.RowKit
attribute [local go_sem ↓] Go.wp_at_zero Go.wp_at_succ

theorem infoIt : (Tryz.prog.info? 66).map (fun i => (i.zero, i.size, i.bytes)) = some (some (.agg #[.int .i64 0, .int .i64 0, .string ⟨#[]⟩, .bool false]), 4, 40) := by kernel_rfl
theorem append_its {ops : Array Oper} {rest : List Oper} {o : Oper} {a : Act} {Q : Exit → Act → World → Prop} {W : World} (hgd : o.guard = none) (s x : Operand)
    (ho : o.op = .call { callee := .builtin .append, args := #[s, x], argTypes := #[57, 57] })
    (R : Nat) (v : Value) (l1 : List It) (hs : a.eval s = v) (hown : W.ownsRow R 66 4 v l1.length (itCells l1)) (ad : Addr) (c : Nat) (l2 : List It) (hx : a.eval x = .slice (some ad) l2.length c)
    (hnews : ∀ j u, (itCells l2)[j]? = some u → W.cell? (ad.add j) = some u) (hlen : l1.length + l2.length ≤ 1000000) (hR : R ≤ W.heap.size)
    (h : ∀ v' w', w'.ownsRow R 66 4 v' (l1.length + l2.length) (itCells (l1 ++ l2)) → Below R W w' → wpList Tryz.prog ops Q rest (a.put o.dst v') w') :
    wpList Tryz.prog ops Q (o :: rest) a W := by
  obtain ⟨i0, hi, hz0, hz1, hz2⟩ := info_parts infoIt
  refine wpList_append_own _ hgd s x 57 ho R 66 i0 _ 4 40 Tryz.underlying57 hi hz0 hz1 hz2 rfl (by decide) v l1.length (itCells l1) hs hown ad l2.length c (itCells l2) hx (itCells_len l2) hnews ?_ ?_ ?_ hR ?_
  · intro u hu
    simp only [itCells, List.mem_flatMap] at hu
    obtain ⟨y, _, hu⟩ := hu
    simp at hu
    rcases hu with rfl | rfl | rfl | rfl <;> rfl
  · unfold maxLen; omega
  · omega
  · intro v' w' hown' hg _
    refine h v' w' (by rw [itCells_app]; exact hown') ⟨hg.os, hg.tape, hg.output, hg.size, fun k hk => hg.block k (by omega) (fun e => ?_)⟩
    have := ownsRow_ge hown e.symm
    omega
theorem row_news {w : World} {b n c s g : Nat} {e : TypeId} {xs : List Value} (h : w.ownsRow b e s (.slice (some ⟨g, 0, none⟩) n c) n xs) (hn : xs.length = n * s) (j : Nat) (v : Value) (hv : xs[j]? = some v) : w.cell? ⟨g, j, none⟩ = some v := by
  obtain ⟨h1, ⟨h2, h3⟩ | ⟨g', cap, cur, h2, h3, h4, h5, h6, h7, h8⟩⟩ := h
  · cases h2
  · cases h2
    have hi := (List.getElem?_eq_some_iff.1 hv).1
    rw [cell_of_row w g _ cur _ _ h4, ← Array.getElem?_toList]
    rw [← h8, List.getElem?_take] at hv
    by_cases hi2 : j < n * s
    · rw [if_pos (by omega)] at hv; exact hv
    · omega
theorem row_shape {w : World} {b c : Nat} {a : Option Addr} {l : List It} (h : w.ownsRow b 66 4 (.slice a l.length c) l.length (itCells l)) : (a = none ∧ l = [] ∧ c = 0) ∨ ∃ g, a = some ⟨g, 0, none⟩ ∧ l.length ≤ c := by
  rcases h.2 with ⟨e, h0⟩ | ⟨g, cap, cur, e, hg, hgg, h5, _⟩
  · simp only [Value.slice.injEq] at e
    exact .inl ⟨e.1, List.eq_nil_of_length_eq_zero h0, e.2.2⟩
  · simp only [Value.slice.injEq] at e
    exact .inr ⟨g, e.1, by omega⟩
set_option maxRecDepth 100000 in
set_option maxHeartbeats 2000000 in
theorem insEnd_any (l : List It) (x : It) (w : World) {a : Option Addr} {c : Nat} (hl : l.length ≤ 100000) (hrow : w.ownsRow 0 66 4 (.slice a l.length c) l.length (itCells l)) :
    Calls Tryz.prog 153 #[.slice a l.length c, itV x, .int .i64 (l.length : Nat)] w fun e w' => ∃ va vc, e = .returned (.slice va (l.length + 1) vc) ∧ w'.ownsRow w.heap.size 66 4 (.slice va (l.length + 1) vc) (l.length + 1) (itCells (l ++ [x])) ∧ Below w.heap.size w w' := by
  unfold itV
  have HR := Lib.hid hrow
  obtain ⟨i0, hi, hz0, hz1, hz2⟩ := info_parts infoIt
  obtain ⟨W1, hW1⟩ : ∃ W1, w.alloc (.cells #[.int .i64 (x.node : Nat), .int .i64 x.space, .string ⟨x.name.toArray⟩, .bool x.point] 66) = W1 := ⟨_, rfl⟩
  have hbx : W1.heap[w.heap.size]? = some (.cells #[.int .i64 (x.node : Nat), .int .i64 x.space, .string ⟨x.name.toArray⟩, .bool x.point] 66 (0, 0)) := by rw [← hW1]; exact World.alloc_heap_new w _
  have hs1 : W1.heap.size = w.heap.size + 1 := by rw [← hW1]; simp
  have hb1 : Below w.heap.size w W1 := by rw [← hW1]; exact balloc w _
  have boxed : ∀ W2 : World, W2.heap[w.heap.size]? = some (.cells #[.int .i64 (x.node : Nat), .int .i64 x.space, .string ⟨x.name.toArray⟩, .bool x.point] 66 (0, 0)) →
      W2.cell? ⟨w.heap.size, 0, none⟩ = some (.int .i64 (x.node : Nat)) ∧ W2.cell? ⟨w.heap.size, 1, none⟩ = some (.int .i64 x.space) ∧ W2.cell? ⟨w.heap.size, 2, none⟩ = some (.string ⟨x.name.toArray⟩) ∧ W2.cell? ⟨w.heap.size, 3, none⟩ = some (.bool x.point) := fun W2 h =>
    ⟨by rw [cell_of_row _ _ _ _ _ _ h]; rfl, by rw [cell_of_row _ _ _ _ _ _ h]; rfl, by rw [cell_of_row _ _ _ _ _ _ h]; rfl, by rw [cell_of_row _ _ _ _ _ _ h]; rfl⟩
  have BX := Lib.hid boxed; have HBX := Lib.hid hbx; have HB1 := Lib.hid hb1; have HW1 := Lib.hid hW1
  rcases row_shape hrow with ⟨rfl, rfl, rfl⟩ | ⟨g, rfl, hcl⟩
  · clear hrow boxed hbx hb1 hW1
    go_enter Tryz.func153, Tryz.ntmps153
    go_wp2_with (first | (at_builtin; refine wpList_append_own_none rfl _ _ 57 rfl (w.heap.size + 1) 66 i0 4 Tryz.underlying57 hi (.slice va2 _ vc2) _ _ rfl hown2 rfl ?_; have done3 := trivial) | (have hq := y0; clear hq; at_builtin; refine append_its rfl _ _ rfl (w.heap.size + 1) (.slice none 0 0) [] rfl ⟨rfl, .inl ⟨rfl, rfl⟩⟩ ⟨w.heap.size + 1, 0, none⟩ 1 [x] rfl (news_new (H := w.heap.size + 1) (cs := itCells [x]) hs1) (by first | (simp; done) | (simp; omega) | omega) (by first | (simp; done) | (simp; omega) | omega) ?_; intro v2 w2 hown2 hb2; obtain ⟨va2, vc2, rfl⟩ := ownsRow_slice hown2) | (at_builtin; rw [HW1.out]; refine wpList_append_own_none rfl _ _ 57 rfl 0 66 i0 4 Tryz.underlying57 hi (.slice none 0 0) 0 [] rfl ⟨rfl, .inl ⟨rfl, rfl⟩⟩ rfl ?_; obtain ⟨y0, y1, y2, y3⟩ := BX.out W1 HBX.out))
    go_ret
    exact ⟨va2, vc2, by simp, ownsRow_base (b := w.heap.size + 1) (Nat.le_succ _) (by simpa using hown2), (HB1.out.trans (((balloc W1 _).mono (by omega)).trans (hb2.mono (by omega))))⟩
  · have hcell : ∀ j u, (itCells l)[j]? = some u → W1.cell? ((⟨g, 0, none⟩ : Addr).add j) = some u := fun j u hj => by
      have h := row_news (ownsRow_below HR.out HB1.out) (itCells_len l) j u hj
      have e : ((⟨g, 0, none⟩ : Addr).add j) = ⟨g, j, none⟩ := by unfold Addr.add; split <;> simp_all
      exact e ▸ h
    have HC := Lib.hid hcell
    clear hrow boxed hbx hb1 hW1 hcell
    by_cases hcc : c = l.length
    all_goals
      go_enter Tryz.func153, Tryz.ntmps153
      go_wp2_with (first | (at_builtin; refine append_its rfl _ _ rfl (w.heap.size + 1) (.slice va2 _ vc2) (l ++ [x]) rfl (by simpa using hown2) _ _ [] rfl (by intro j u hj; simp [itCells] at hj) (by first | (simp; done) | (simp; omega) | omega) (by have h2 := hb2.size; have h1 := hb1.size; rw [World.size_alloc] at h2; omega) ?_; intro v3 w3 hown3 hb3; obtain ⟨va3, vc3, rfl⟩ := ownsRow_slice hown3) | (have hq := y0; clear hq; at_builtin; refine append_its rfl _ _ rfl (w.heap.size + 1) (.slice va1 _ vc1) l rfl (by simpa using ownsRow_below hown1 (balloc w1 _)) ⟨w1.heap.size, 0, none⟩ 1 [x] rfl (news_new (H := w1.heap.size) (cs := itCells [x]) rfl) (by first | (simp; done) | (simp; omega) | omega) (by have := hb1.size; first | (simp; omega) | (rw [World.size_alloc]; omega)) ?_; intro v2 w2 hown2 hb2; obtain ⟨va2, vc2, rfl⟩ := ownsRow_slice hown2) | (at_builtin; rw [HW1.out]; refine append_its rfl _ _ rfl (w.heap.size + 1) (.slice none 0 0) [] rfl ⟨rfl, .inl ⟨rfl, rfl⟩⟩ ⟨g, 0, none⟩ _ l rfl HC.out (by first | (simp; done) | (simp; omega) | omega) (by omega) ?_; intro v1 w1 hown1 hb1; rw [List.nil_append] at hown1; obtain ⟨va1, vc1, rfl⟩ := ownsRow_slice hown1; obtain ⟨y0, y1, y2, y3⟩ := BX.out w1 ((hb1.block _ (by omega)).trans HBX.out)))
      go_ret
      have hb1s := hb1.size
      exact ⟨va3, vc3, by simp, ownsRow_base (b := w.heap.size + 1) (Nat.le_succ _) (by simpa using hown3), (HB1.out.trans ((hb1.mono (by omega)).trans (((balloc w1 _).mono (by omega)).trans ((hb2.mono (by omega)).trans (hb3.mono (by omega))))))⟩
end Go.Proofs.YtdapdadcninidaaGreatDoor
namespace Go.Proofs.YtdapdadcninidaaGreatDoor
open Go.RowKit
attribute [local go_sem ↓] Go.wp_at_zero Go.wp_at_succ

def mvV (B : Nat) (p n c : Int) (r : Bool) : Value := .agg #[.pointer (some ⟨B, 0, none⟩), .int .i64 p, .int .i64 n, .int .i64 c, .bool r]
def kdA (ns : List Nd) (h : Int) : Int := (descAt ns h).kind
/-- May a node of this kind have children? -/
def parK (k : Int) : Bool := k == 1 || (k == 2 || k == 4)
def parOf (ns : List Nd) (h : Int) : Int := if isH ns.length h then ((ndAt ns h).parent : Int) else 0
theorem bneA {a b : Int} (h : (a == b) = false) : (a != b) = true := by simpa using h
set_option maxRecDepth 100000 in
theorem rule1_any (p n c : Int) (r : Bool) (w : World) {B : AB} {O : List Nat} {ns : List Nd} (hA : ArW B O ns w) (hf : Fit ns) :
    Calls Tryz.prog 190 #[mvV B p n c r] w (Ret w (.bool (!parK (kdA ns p)))) := by
  have H1 := Lib.hid (fun w' (hb : Below w.heap.size w w') => kind_any p w' (hA.later hb) hf)
  rw [show (descAt ns p).kind = kdA ns p from rfl] at H1
  have HB0 := Lib.hid (fun o => balloc w o)
  generalize kdA ns p = k at *
  unfold mvV
  clear hA hf
  have hk : k = 1 ∨ ((k == 1) = false ∧ k = 2) ∨ ((k == 1) = false ∧ (k == 2) = false ∧ k = 4) ∨ ((k == 1) = false ∧ (k == 2) = false ∧ (k == 4) = false) := by simp only [beq_eq_false_iff_ne]; omega
  rcases hk with rfl | ⟨h1, rfl⟩ | ⟨h1, h2, rfl⟩ | ⟨h1, h2, h3⟩
  all_goals
    try have g1 := bneA h1
    try have g2 := bneA h2
    try have g3 := bneA h3
    go_enter Tryz.func190, Tryz.ntmps190
    go_wp2_with (go_at_call 81; refine (H1.out _ (HB0.out _)).mono ?_; rintro e w1 ⟨rfl, b1⟩)
    go_ret
    exact Ret.mk (by simp [parK, *]) (bthen (HB0.out _) (HB0.out _).size b1)
set_option maxRecDepth 100000 in
theorem rule2_any (p n c : Int) (r : Bool) (w : World) {B : AB} {O : List Nat} {ns : List Nd} (hA : ArW B O ns w) (hf : Fit ns) (hup : isH ns.length p = true → ∃ xs, Up ns true p xs) :
    Calls Tryz.prog 191 #[mvV B p n c r] w (Ret w (.bool (containsL ns n p))) := by
  have H1 := Lib.hid (fun w' (hb : Below w.heap.size w w') => Contains_any n p w' (hA.later hb) hf.len hup)
  have HB0 := Lib.hid (fun o => balloc w o)
  unfold mvV
  clear hA hf hup
  go_enter Tryz.func191, Tryz.ntmps191
  go_wp2_with (go_at_call 46; refine (H1.out _ (HB0.out _)).mono ?_; rintro e w1 ⟨rfl, b1⟩)
  go_ret
  exact Ret.mk rfl (bthen (HB0.out _) (HB0.out _).size b1)
theorem quiet_leftA {P : Program} {f : FuncId} {args : Array Value} {w : World} {n : Nat} {v : Value} (h : Calls P f args (w.drewN n) fun e w' => e = .returned v ∧ w.drewN n = w') :
    Calls P f args (w.drewN n) fun e w'' => e = .returned v ∧ ∃ m, w'' = w.drewN m := h.mono fun _ _ ⟨he, hm⟩ => ⟨he, n, hm.symm⟩
theorem bdrewA {n : Nat} {w w' : World} (h : Below n w w') : Below n w w'.drew := ⟨h.os, h.tape, h.output, h.size, h.block⟩
theorem bdrewsA {n : Nat} {w w' : World} (h : Below n w w') (k : Nat) : Below n w (w'.drewN k) := ⟨h.os, h.tape, h.output, h.size, h.block⟩
/-- A move's box in a later world. -/
structure MvAt (B : Nat) (p n c : Int) (r : Bool) (w w1 : World) : Prop where
  box : w1.heap[w.heap.size]? = some (.cells #[.pointer (some ⟨B, 0, none⟩), .int .i64 p, .int .i64 n, .int .i64 c, .bool r] 173 (0, 0))
  bl : Below w.heap.size w w1
theorem MvAt.start {B : Nat} {p n c : Int} {r : Bool} {w W0 : World} (h : w.alloc (.cells #[.pointer (some ⟨B, 0, none⟩), .int .i64 p, .int .i64 n, .int .i64 c, .bool r] 173) = W0) : MvAt B p n c r w W0 := by
  subst h
  exact ⟨World.alloc_heap_new w _, balloc w _⟩
theorem MvAt.step {B : Nat} {p n c : Int} {r : Bool} {w w1 w2 : World} (h : MvAt B p n c r w w1) (hb : Below w1.heap.size w1 w2) : MvAt B p n c r w w2 :=
  ⟨(hb.block _ (Array.getElem?_eq_some_iff.1 h.box).1).trans h.box, bthen h.bl h.bl.size hb⟩
theorem MvAt.drew {B : Nat} {p n c : Int} {r : Bool} {w w1 : World} (h : MvAt B p n c r w w1) : MvAt B p n c r w w1.drew := ⟨h.box, bdrewA h.bl⟩
theorem MvAt.cells {B : Nat} {p n c : Int} {r : Bool} {w w1 : World} (h : MvAt B p n c r w w1) : w1.cell? ⟨w.heap.size, 0, none⟩ = some (.pointer (some ⟨B, 0, none⟩)) ∧ w1.cell? ⟨w.heap.size, 1, none⟩ = some (.int .i64 p) ∧ w1.cell? ⟨w.heap.size, 2, none⟩ = some (.int .i64 n) ∧ w1.cell? ⟨w.heap.size, 3, none⟩ = some (.int .i64 c) ∧
      w1.cell? ⟨w.heap.size, 4, none⟩ = some (.bool r) := by
  have hb := h.box
  exact ⟨by rw [cell_of_row _ _ _ _ _ _ hb]; rfl, by rw [cell_of_row _ _ _ _ _ _ hb]; rfl, by rw [cell_of_row _ _ _ _ _ _ hb]; rfl, by rw [cell_of_row _ _ _ _ _ _ hb]; rfl, by rw [cell_of_row _ _ _ _ _ _ hb]; rfl⟩
/-- What a region that loads a move's first cells keeps. -/
theorem MvAt.s {B : Nat} {p n c : Int} {r : Bool} {w w1 : World} (h : MvAt B p n c r w w1) : w1.cell? ⟨w.heap.size, 0, none⟩ = some (.pointer (some ⟨B, 0, none⟩)) ∧ w1.cell? ⟨w.heap.size, 1, none⟩ = some (.int .i64 p) ∧ w1.cell? ⟨w.heap.size, 2, none⟩ = some (.int .i64 n) ∧ MvAt B p n c r w w1 :=
  ⟨h.cells.1, h.cells.2.1, h.cells.2.2.1, h⟩
/-- A region that draws its order, its calls kept within a class of worlds. -/
theorem region_class {P : Program} {id : Nat} {Q : Exit → Act → World → Prop} {a : Act} {w : World} {l : List Oper} (C : World → Prop) (hm : P.follows .mixedOrders = true) (hB : Region.lexB .any l.toArray = true) (hC : C w.drew)
    (h : wpQuiet P l.toArray C (fun a' => ∀ w', C w' → Q .normal a' w') l a) : (Code.region id l.toArray true).wp P Q a w := wp_region_quiet hm hB hC (by simpa using h)
/-- The box of a move. -/
theorem mv_box {w W0 : World} {B : Nat} {p n c : Int} {r : Bool} {T : TypeId} (h : w.alloc (.cells #[.pointer (some ⟨B, 0, none⟩), .int .i64 p, .int .i64 n, .int .i64 c, .bool r] T) = W0) :
    W0.cell? ⟨w.heap.size, 0, none⟩ = some (.pointer (some ⟨B, 0, none⟩)) ∧ W0.cell? ⟨w.heap.size, 1, none⟩ = some (.int .i64 p) ∧ W0.cell? ⟨w.heap.size, 2, none⟩ = some (.int .i64 n) ∧ W0.cell? ⟨w.heap.size, 3, none⟩ = some (.int .i64 c) ∧
      W0.cell? ⟨w.heap.size, 4, none⟩ = some (.bool r) ∧ Below w.heap.size w W0 := by
  have hb := World.alloc_heap_new w (.cells #[.pointer (some ⟨B, 0, none⟩), .int .i64 p, .int .i64 n, .int .i64 c, .bool r] T)
  have hB := balloc w (.cells #[.pointer (some ⟨B, 0, none⟩), .int .i64 p, .int .i64 n, .int .i64 c, .bool r] T)
  rw [h] at hb hB
  exact ⟨by rw [cell_of_row _ _ _ _ _ _ hb]; rfl, by rw [cell_of_row _ _ _ _ _ _ hb]; rfl, by rw [cell_of_row _ _ _ _ _ _ hb]; rfl, by rw [cell_of_row _ _ _ _ _ _ hb]; rfl, by rw [cell_of_row _ _ _ _ _ _ hb]; rfl, hB⟩
set_option maxRecDepth 100000 in
theorem rule3_any (p n c : Int) (r : Bool) (w : World) {B : AB} {O : List Nat} {ns : List Nd} (hA : ArW B O ns w) (hf : Fit ns) :
    Calls Tryz.prog 192 #[mvV B p n c r] w (Ret w (.bool (c != 0 && parOf ns c != p))) := by
  have H1 := Lib.hid (fun w' (hb : Below w.heap.size w w') => Parent_any c w' (hA.later hb) hf.len)
  have HB0 := Lib.hid (fun o => balloc w o)
  rw [show (if isH ns.length c then ((ndAt ns c).parent : Int) else 0) = parOf ns c from rfl] at H1
  generalize parOf ns c = q at *
  unfold mvV
  clear hA hf
  by_cases hc0 : c = 0
  · subst hc0
    go_enter Tryz.func192, Tryz.ntmps192
    go_wp2_with fail
    generalize hW : w.alloc _ = W0
    obtain ⟨m0, m1, m2, m3, m4, mb⟩ := mv_box hW
    have MB := Lib.hid mb
    clear hW mb
    go_quiet (fail)
    go_wp2_with fail
    go_ret
    exact Ret.mk (by simp [*]) (bdrewsA MB.out _)
  · have hc : (c != 0) = true := by simpa using hc0
    go_enter Tryz.func192, Tryz.ntmps192
    go_wp2_with fail
    generalize hW : w.alloc _ = W0
    obtain ⟨m0, m1, m2, m3, m4, mb⟩ := mv_box hW
    have MB := Lib.hid mb
    clear hW mb
    go_quiet ((go_at_call 15; exact quiet_leftA (H1.out _ (bdrewsA MB.out _))))
    go_wp2_with fail
    go_ret
    exact Ret.mk (by simp [*]) (bdrewsA MB.out _)
set_option maxRecDepth 100000 in
theorem rule4_any (p n c : Int) (r : Bool) (w : World) {B : AB} {O : List Nat} {ns : List Nd} (hA : ArW B O ns w) (hf : Fit ns) :
    Calls Tryz.prog 193 #[mvV B p n c r] w (Ret w (.bool (kdA ns n == 1))) := by
  have H1 := Lib.hid (fun w' (hb : Below w.heap.size w w') => kind_any n w' (hA.later hb) hf)
  rw [show (descAt ns n).kind = kdA ns n from rfl] at H1
  have HB0 := Lib.hid (fun o => balloc w o)
  generalize kdA ns n = k at *
  unfold mvV
  clear hA hf
  go_enter Tryz.func193, Tryz.ntmps193
  go_wp2_with (go_at_call 81; refine (H1.out _ (HB0.out _)).mono ?_; rintro e w1 ⟨rfl, b1⟩)
  go_ret
  exact Ret.mk rfl (bthen (HB0.out _) (HB0.out _).size b1)
/-- The fifth rule. -/
def rul5 (kp kn : Int) : Bool := (kp == 1 && kn == 5) || (!(kp == 1) && kn == 3)
set_option maxRecDepth 100000 in
set_option maxHeartbeats 4000000 in
theorem rule5_any (p n c : Int) (r : Bool) (w : World) {B : AB} {O : List Nat} {ns : List Nd} (hA : ArW B O ns w) (hf : Fit ns) :
    Calls Tryz.prog 194 #[mvV B p n c r] w (Ret w (.bool (rul5 (kdA ns p) (kdA ns n)))) := by
  have H1 := Lib.hid (fun w' (hb : Below w.heap.size w w') => kind_any p w' (hA.later hb) hf)
  have H2 := Lib.hid (fun w' (hb : Below w.heap.size w w') => kind_any n w' (hA.later hb) hf)
  rw [show (descAt ns n).kind = kdA ns n from rfl] at H2
  rw [show (descAt ns p).kind = kdA ns p from rfl] at H1
  generalize kdA ns n = kn at *
  generalize kdA ns p = kp at *
  unfold mvV rul5
  clear hA hf
  go_enter Tryz.func194, Tryz.ntmps194
  go_wp2_with fail
  generalize hW : w.alloc _ = W0
  obtain ⟨m0, m1, m2, m3, m4, mb⟩ := mv_box hW
  have mb' := bdrewA mb
  have MV := MvAt.start hW
  clear hW mb mb'
  have hC0 : MvAt B p n c r w W0.drew := MV.drew
  obtain ⟨C, hC⟩ : ∃ C : World → Prop, C = MvAt B p n c r w := ⟨_, rfl⟩
  rw [← hC] at hC0
  have HCC := Lib.hid hC
  clear hC MV m0 m1 m2 m3 m4
  refine region_class C (by kernel_rfl) (by kernel_rfl) hC0 ?_
  iterate 4
    refine wpQuiet_step (fun K hK => ?_)
    go_simp
    apply Exists.intro
    refine ⟨fun W hW => ?_, hK _ ?_⟩
    · first
        | exact rfl
        | (rw [HCC.out] at hW; obtain ⟨m0, m1, m2, m3, m4⟩ := hW.cells; go_simp; exact rfl)
    clear hK K
  refine wpQuiet_step (fun K hK => ?_)
  go_simp
  apply Exists.intro
  refine ⟨fun W hW => ?_, hK _ ?_⟩
  · rw [HCC.out] at hW
    refine (H1.out _ hW.bl).mono ?_
    rintro e w1 ⟨rfl, b1⟩
    exact ⟨rfl, by rw [HCC.out]; exact hW.step b1⟩
  clear hK K
  iterate 5
    refine wpQuiet_step (fun K hK => ?_)
    go_simp
    apply Exists.intro
    refine ⟨fun W hW => ?_, hK _ ?_⟩
    · first
        | exact rfl
        | (rw [HCC.out] at hW; obtain ⟨m0, m1, m2, m3, m4⟩ := hW.cells; go_simp; exact rfl)
    clear hK K
  refine wpQuiet_step (fun K hK => ?_)
  go_simp
  apply Exists.intro
  refine ⟨fun W hW => ?_, hK _ ?_⟩
  · rw [HCC.out] at hW
    refine (H2.out _ hW.bl).mono ?_
    rintro e w1 ⟨rfl, b1⟩
    exact ⟨rfl, by rw [HCC.out]; exact hW.step b1⟩
  clear hK K
  iterate 2
    refine wpQuiet_step (fun K hK => ?_)
    go_simp
    apply Exists.intro
    refine ⟨fun W hW => ?_, hK _ ?_⟩
    · first
        | exact rfl
        | (rw [HCC.out] at hW; obtain ⟨m0, m1, m2, m3, m4⟩ := hW.cells; go_simp; exact rfl)
    clear hK K
  refine wpQuiet_nil ?_
  intro W2 hW2
  rw [HCC.out] at hW2
  have HB := Lib.hid hW2.bl
  clear hW2 HCC hC0 H1 H2
  have HBB := HB
  cases h1 : (kp == 1)
  all_goals
    cases h2 : (kn == 5)
    all_goals
      go_wp2_with fail
      all_goals
        go_ret
        exact Ret.mk (by first | (simp [h1, h2]; done) | (simp [h1]; done) | simp_all) HB.out
end Go.Proofs.YtdapdadcninidaaGreatDoor
/- Package dom: the last rule, at a parent without children; the first rule that refuses. No condition but that the arena fits. -/
namespace Go.Proofs.YtdapdadcninidaaGreatDoor
open Go.RowKit
attribute [local go_sem ↓] Go.wp_at_zero Go.wp_at_succ

set_option maxRecDepth 100000 in
/-- Is this kind among these? -/
theorem kIndex_any (ks : List Int) (v : Int) (w : World) {a : Option Addr} {c : Nat} (hl : ks.length ≤ 1000000) (hc : ∀ j k, ks[j]? = some k → ∃ g, a = some ⟨g, 0, none⟩ ∧ w.cell? ⟨g, j, none⟩ = some (.int .i64 k)) :
    Calls Tryz.prog 229 #[.slice a ks.length c, .int .i64 v] w fun e w' => (∃ i : Int, e = .returned (.int .i64 i) ∧ decide (0 ≤ i) = ks.contains v) ∧ w = w' := by
  have HC := Lib.hid hc
  obtain ⟨b, hb⟩ : ∃ b, ks.contains v = b := ⟨_, rfl⟩
  rw [hb]
  have HBV := Lib.hid hb
  clear hc hb
  go_enter Tryz.func229, Tryz.ntmps229
  go_wp2
  go_loop [4, 5, 8] (fun _ _ i => ∃ k : Nat, k ≤ ks.length ∧ i = .int .i64 k ∧ (ks.take k).contains v = false) (fun _ _ i => ks.length - (intOf i).toNat)
  case atStart => exact ⟨0, Nat.zero_le _, rfl, rfl⟩
  case round =>
    obtain ⟨k, hk, rfl, hall⟩ := hrel
    have HA := Lib.hid hall
    clear hall
    by_cases hlt : k < ks.length
    · obtain ⟨g, rfl, hcell⟩ := HC.out k ks[k] (List.getElem?_eq_getElem hlt)
      obtain ⟨z, hz⟩ : ∃ z, ks[k] = z := ⟨_, rfl⟩
      rw [hz] at hcell
      have hki : (k : Int) < (ks.length : Int) := by omega
      by_cases hb : v = z
      · have HR : Hid (b = true) := Lib.hid (by
          rw [← HBV.out, List.contains_iff_mem, hb, ← hz]
          exact List.getElem_mem hlt)
        subst hb
        clear hz
        go_wp2
        go_ret
        exact ⟨⟨_, rfl, by rw [HR.out]; simp⟩, rfl⟩
      · have HN : Hid ((ks.take (k + 1)).contains v = false) := Lib.hid (by
          rw [List.take_succ_eq_append_getElem hlt, hz]
          have := HA.out
          simp only [List.contains_eq_mem, decide_eq_false_iff_not, List.mem_append, List.mem_singleton, not_or] at this ⊢
          exact ⟨this, hb⟩)
        have hb2 : (v == z) = false := by simpa using hb
        clear hz
        go_wp2
        go_round
        case rel => exact ⟨k + 1, by omega, by go_num, HN.out⟩
        case measure => simp [intOf]; omega
    · have HR : Hid (b = false) := Lib.hid (by
        have := HA.out
        rwa [List.take_of_length_le (by omega), HBV.out] at this)
      go_wp2
      go_ret
      exact ⟨⟨_, rfl, by rw [HR.out]; rfl⟩, rfl⟩
set_option maxRecDepth 100000 in
theorem kContains_any (ks : List Int) (v : Int) (w : World) {a : Option Addr} {c : Nat} (hl : ks.length ≤ 1000000) (hc : ∀ j k, ks[j]? = some k → ∃ g, a = some ⟨g, 0, none⟩ ∧ w.cell? ⟨g, j, none⟩ = some (.int .i64 k)) :
    Calls Tryz.prog 221 #[.slice a ks.length c, .int .i64 v] w fun e w' => e = .returned (.bool (ks.contains v)) ∧ w = w' := by
  have H1 := Lib.hid (kIndex_any ks v w (c := c) hl hc)
  clear hc
  generalize ks.contains v = b at *
  go_enter Tryz.func221, Tryz.ntmps221
  go_wp2_with fail
  refine H1.out.mono ?_
  rintro e w1 ⟨⟨i, rfl, hi⟩, rfl⟩
  have HI := Lib.hid hi
  clear hi
  go_wp2_with fail
  go_ret
  exact ⟨by simp [HI.out], rfl⟩
set_option maxRecDepth 100000 in
/-- split, of a parent without children. -/
theorem split_nil (p n c : Int) (r : Bool) (w : World) {B : AB} {O : List Nat} {ns : List Nd} (hA : ArW B O ns w) (hf : Fit ns) (hk : kidsAt ns p = []) :
    Calls Tryz.prog 220 #[mvV B p n c r] w (Ret w (.tuple #[.slice none 0 0, .slice none 0 0])) := by
  have H1 := fun w' (hb : Below w.heap.size w w') => Kids_any p w' (hA.later hb) hf.len (hf.kids p)
  rw [hk] at H1
  have H1 := Lib.hid H1
  unfold mvV
  clear hA hf hk
  go_enter Tryz.func220, Tryz.ntmps220
  go_wp2_with fail
  generalize hW : w.alloc _ = W0
  obtain ⟨m0, m1, m2, m3, m4, mb⟩ := mv_box hW
  have MB := Lib.hid mb
  clear hW mb
  go_wp2_with fail
  refine (H1.out _ MB.out).mono ?_
  rintro e w1 ⟨v, rfl, hr, b1⟩
  obtain ⟨ka, kc, rfl⟩ := ownsRow_slice hr
  have HB1 := Lib.hid (bthen MB.out MB.out.size b1)
  clear hr b1 H1 m0 m1 m2 m3 m4
  go_wp2_with fail
  go_loop [2, 3, 13] (fun s2 s3 i => s2 = .slice none 0 0 ∧ s3 = .slice none 0 0 ∧ i = .int .i64 0) (fun _ _ _ => 0)
  case atStart => exact ⟨rfl, rfl, rfl⟩
  case round =>
    obtain ⟨rfl, rfl, rfl⟩ := hrel
    go_wp2_with fail
    go_ret2
    exact Ret.mk rfl HB1.out
theorem nilKinds (w : World) : ∀ (j : Nat) (k : Int), ([] : List Int)[j]? = some k → ∃ g, (none : Option Addr) = some ⟨g, 0, none⟩ ∧ w.cell? ⟨g, j, none⟩ = some (.int .i64 k) := fun j k h => by simp at h
theorem kCon_nil (v : Int) (w : World) (c : Nat) : Calls Tryz.prog 221 #[.slice none 0 c, .int .i64 v] w fun e w' => e = .returned (.bool false) ∧ w = w' :=
  kContains_any [] v w (a := none) (c := c) (Nat.zero_le _) (nilKinds w)
set_option maxRecDepth 100000 in
/-- element, of a parent without children, at its end. -/
theorem element_nil (p n : Int) (r : Bool) (w : World) {B : AB} {O : List Nat} {ns : List Nd} (hA : ArW B O ns w) (hf : Fit ns) (hk : kidsAt ns p = []) :
    Calls Tryz.prog 210 #[mvV B p n 0 r] w (Ret w (.bool false)) := by
  have H1 := Lib.hid (fun w' (hb : Below w.heap.size w w') => split_nil p n 0 r w' (hA.later hb) hf hk)
  have H2 := Lib.hid (fun v w' c => kCon_nil v w' c)
  unfold mvV at *
  clear hA hf hk
  go_enter Tryz.func210, Tryz.ntmps210
  go_wp2_with fail
  generalize hW : w.alloc _ = W0
  obtain ⟨m0, m1, m2, m3, m4, mb⟩ := mv_box hW
  have MB := Lib.hid mb
  clear hW mb
  go_wp2_with fail
  refine (H1.out _ MB.out).mono ?_
  rintro e w1 ⟨rfl, b1⟩
  have HB1 := Lib.hid (bthen MB.out MB.out.size b1)
  have hbx := World.block_lt_of_cell? _ _ m0
  have k0 := (b1.cell (p := ⟨w.heap.size, 0, none⟩) hbx).trans m0
  have k3 := (b1.cell (p := ⟨w.heap.size, 3, none⟩) hbx).trans m3
  have k4 := (b1.cell (p := ⟨w.heap.size, 4, none⟩) hbx).trans m4
  clear b1 H1 m0 m1 m2 m3 m4 hbx
  cases r
  all_goals
    go_wp2_with (go_at_call 221; refine (H2.out _ _ _).mono ?_; rintro e w2 ⟨rfl, rfl⟩)
    go_ret
    exact Ret.mk rfl HB1.out
set_option maxRecDepth 100000 in
/-- crowded, of an element, at the end of a parent without children. -/
theorem crowded_nil (p n : Int) (r : Bool) (w : World) {B : AB} {O : List Nat} {ns : List Nd} (hA : ArW B O ns w) (hf : Fit ns) (hk : kidsAt ns p = []) (hn : kdA ns n = 4) :
    Calls Tryz.prog 196 #[mvV B p n 0 r] w (Ret w (.bool false)) := by
  have H1 := fun w' (hb : Below w.heap.size w w') => kind_any n w' (hA.later hb) hf
  rw [show (descAt ns n).kind = kdA ns n from rfl, hn] at H1
  have H1 := Lib.hid H1
  have H2 := Lib.hid (fun w' (hb : Below w.heap.size w w') => element_nil p n r w' (hA.later hb) hf hk)
  unfold mvV at *
  clear hA hf hk hn
  go_enter Tryz.func196, Tryz.ntmps196
  go_wp2_with fail
  generalize hW : w.alloc _ = W0
  have MV := MvAt.start hW
  obtain ⟨m0, m1, m2, m3, m4⟩ := MV.cells
  clear hW
  go_wp2_with fail
  refine (H1.out _ MV.bl).mono ?_
  rintro e w1 ⟨rfl, b1⟩
  have mv1 := MV.step b1
  have rb := Lib.hid mv1.box
  clear b1 H1 m0 m1 m2 m3 m4 MV
  obtain ⟨m0, m1, m2, m3, m4⟩ := mv1.cells
  go_wp2_with fail
  refine (H2.out _ mv1.bl).mono ?_
  rintro e w2 ⟨rfl, b2⟩
  have mv2 := Lib.hid (mv1.step b2).bl
  clear b2 m0 m1 m2 m3 m4 mv1
  go_wp2_with fail
  go_ret
  exact Ret.mk rfl mv2.out
/-- The last rule, at a parent that is no document. -/
theorem rule6_no (p n c : Int) (r : Bool) (w : World) {B : AB} {O : List Nat} {ns : List Nd} (hA : ArW B O ns w) (hf : Fit ns) (hp : kdA ns p ≠ 1) :
    Calls Tryz.prog 195 #[mvV B p n c r] w (Ret w (.bool false)) := by
  have H1 := Lib.hid (fun w' (hb : Below w.heap.size w w') => kind_any p w' (hA.later hb) hf)
  rw [show (descAt ns p).kind = kdA ns p from rfl] at H1
  generalize kdA ns p = kp at *
  have hpb : (kp == 1) = false := by simpa using hp
  unfold mvV at *
  clear hA hf hp
  go_enter Tryz.func195, Tryz.ntmps195
  go_wp2_with fail
  generalize hW : w.alloc _ = W0
  have MV := MvAt.start hW
  obtain ⟨m0, m1, m2, m3, m4⟩ := MV.cells
  clear hW
  go_wp2_with fail
  refine (H1.out _ MV.bl).mono ?_
  rintro e w1 ⟨rfl, b1⟩
  have mv1 := Lib.hid (MV.step b1).bl
  clear b1 H1 m0 m1 m2 m3 m4 MV
  go_wp2_with fail
  go_ret
  exact Ret.mk rfl mv1.out
/-- .. at a document without children. -/
theorem rule6_nil (p n : Int) (r : Bool) (w : World) {B : AB} {O : List Nat} {ns : List Nd} (hA : ArW B O ns w) (hf : Fit ns) (hp : kdA ns p = 1) (hk : kidsAt ns p = []) (hn : kdA ns n = 4) :
    Calls Tryz.prog 195 #[mvV B p n 0 r] w (Ret w (.bool false)) := by
  have H1 := fun w' (hb : Below w.heap.size w w') => kind_any p w' (hA.later hb) hf
  rw [show (descAt ns p).kind = kdA ns p from rfl, hp] at H1
  have H1 := Lib.hid H1
  have H2 := Lib.hid (fun w' (hb : Below w.heap.size w w') => crowded_nil p n r w' (hA.later hb) hf hk hn)
  unfold mvV at *
  clear hA hf hk hn hp
  go_enter Tryz.func195, Tryz.ntmps195
  go_wp2_with fail
  generalize hW : w.alloc _ = W0
  have MV := MvAt.start hW
  obtain ⟨m0, m1, m2, m3, m4⟩ := MV.cells
  clear hW
  go_wp2_with fail
  refine (H1.out _ MV.bl).mono ?_
  rintro e w1 ⟨rfl, b1⟩
  have mv1 := MV.step b1
  clear b1 H1 m0 m1 m2 m3 m4 MV
  obtain ⟨m0, m1, m2, m3, m4⟩ := mv1.cells
  go_wp2_with fail
  refine (H2.out _ mv1.bl).mono ?_
  rintro e w2 ⟨rfl, b2⟩
  have mv2 := Lib.hid (mv1.step b2).bl
  clear b2 m0 m1 m2 m3 m4 mv1
  go_wp2_with fail
  go_ret
  exact Ret.mk rfl mv2.out
end Go.Proofs.YtdapdadcninidaaGreatDoor
/- Package dom: the first rule that refuses a move. No condition but the rules' own answers. -/
namespace Go.Proofs.YtdapdadcninidaaGreatDoor
open Go.RowKit
attribute [local go_sem ↓] Go.wp_at_zero Go.wp_at_succ

theorem run_store_func {P : Program} {w : World} {a : Addr} {m : Mode} (fn : Fn) (x y : Array Value) : (store a (.func fn x y) m).run P w = stored P w a (.func fn x y) m := run_store P w a _ m rfl
attribute [local go_sem] run_store_func
def rulesRow : Array Value := #[.func (.func 190) #[] #[], .int .i64 4, .func (.func 191) #[] #[], .int .i64 4, .func (.func 192) #[] #[], .int .i64 5,
  .func (.func 193) #[] #[], .int .i64 4, .func (.func 194) #[] #[], .int .i64 4, .func (.func 195) #[] #[], .int .i64 4]
set_option maxRecDepth 100000 in
theorem rules_any (w : World) : Calls Tryz.prog 161 #[] w fun e w' => e = .returned (.slice (some ⟨w.heap.size, 0, none⟩) 6 6) ∧ w' = w.alloc (.cells rulesRow 211) := by
  go_enter Tryz.func161, Tryz.ntmps161
  go_wp2_with fail
  go_ret
  exact ⟨rfl, rfl⟩
/-- The rules' answers. -/
structure RulB (b1 b2 b3 b4 b5 b6 : Bool) (m : Value) (w : World) : Prop where
  h1 : ∀ w', Below w.heap.size w w' → Calls Tryz.prog 190 #[m] w' (Ret w' (.bool b1))
  h2 : ∀ w', Below w.heap.size w w' → Calls Tryz.prog 191 #[m] w' (Ret w' (.bool b2))
  h3 : ∀ w', Below w.heap.size w w' → Calls Tryz.prog 192 #[m] w' (Ret w' (.bool b3))
  h4 : ∀ w', Below w.heap.size w w' → Calls Tryz.prog 193 #[m] w' (Ret w' (.bool b4))
  h5 : ∀ w', Below w.heap.size w w' → Calls Tryz.prog 194 #[m] w' (Ret w' (.bool b5))
  h6 : ∀ w', Below w.heap.size w w' → Calls Tryz.prog 195 #[m] w' (Ret w' (.bool b6))
def firstE (b1 b2 b3 b4 b5 b6 : Bool) : Int := if b1 then 4 else if b2 then 4 else if b3 then 5 else if b4 then 4 else if b5 then 4 else if b6 then 4 else 0
set_option maxRecDepth 100000 in
set_option maxHeartbeats 2000000 in
theorem refused_any (p n c : Int) (r : Bool) (w : World) {B : Nat} {b1 b2 b3 b4 b5 b6 : Bool} (hR : RulB b1 b2 b3 b4 b5 b6 (mvV B p n c r) w) :
    Calls Tryz.prog 118 #[mvV B p n c r] w (Ret w (.int .i64 (firstE b1 b2 b3 b4 b5 b6))) := by
  have HR := Lib.hid hR
  have HQ := Lib.hid rules_any
  clear hR
  unfold mvV at *
  go_enter Tryz.func118, Tryz.ntmps118
  go_wp2_with fail
  generalize hW : w.alloc _ = W0
  have mb : W0.heap[w.heap.size]? = some (.cells #[.pointer (some ⟨B, 0, none⟩), .int .i64 p, .int .i64 n, .int .i64 c, .bool r] 173 (0, 0)) := by rw [← hW]; exact World.alloc_heap_new w _
  have hB := balloc w (.cells #[.pointer (some ⟨B, 0, none⟩), .int .i64 p, .int .i64 n, .int .i64 c, .bool r] 173)
  rw [hW] at hB
  have hs0 : W0.heap.size = w.heap.size + 1 := by rw [← hW]; simp
  refine (HQ.out W0).mono ?_
  rintro e w1 ⟨rfl, rfl⟩
  generalize hW1 : W0.alloc _ = W1
  have rb : W1.heap[W0.heap.size]? = some (.cells rulesRow 211 (0, 0)) := by rw [← hW1]; exact World.alloc_heap_new W0 _
  have hB1 : Below w.heap.size w W1 := by rw [← hW1]; exact hB.alloc hB.size _
  have mb1 : W1.heap[w.heap.size]? = some (.cells #[.pointer (some ⟨B, 0, none⟩), .int .i64 p, .int .i64 n, .int .i64 c, .bool r] 173 (0, 0)) := by rw [← hW1]; exact (Below.heap_alloc W0 _ _ (by omega)).trans mb
  rw [hs0] at rb ⊢
  have hs1 : W1.heap.size = w.heap.size + 2 := by rw [← hW1]; simp [hs0]
  have HB1 := Lib.hid hB1; have RB := Lib.hid rb; have MB := Lib.hid mb1; have HS1 := Lib.hid hs1
  clear hW hW1 mb hB hs0 rb hB1 mb1 hs1 HQ
  go_wp2_with fail
  go_loopw [7] (fun i wr => ∃ k : Nat, k ≤ 6 ∧ i = .int .i64 k ∧ Below (w.heap.size + 2) W1 wr ∧ w.heap.size + 2 ≤ wr.heap.size ∧ (0 < k → b1 = false) ∧ (1 < k → b2 = false) ∧ (2 < k → b3 = false) ∧ (3 < k → b4 = false) ∧ (4 < k → b5 = false) ∧ (5 < k → b6 = false)) (fun i _ => 6 - (intOf i).toNat)
  case atStart => exact ⟨0, Nat.zero_le _, rfl, by rw [← HS1.out]; exact Below.refl _ _, by rw [HS1.out]; exact Nat.le_refl _, by omega, by omega, by omega, by omega, by omega, by omega⟩
  case round =>
    obtain ⟨k, hk, rfl, hbw, hsw, hall⟩ := hrel
    have HA := Lib.hid hall
    have rbw := (hbw.block (w.heap.size + 1) (by omega)).trans RB.out
    have mbw := (hbw.block w.heap.size (by omega)).trans MB.out
    have hbb : Below w.heap.size w wr := HB1.out.trans (hbw.mono (by omega))
    have HBB := Lib.hid hbb; have HBW := Lib.hid hbw; have HSW := Lib.hid hsw
    have mbo : ∀ o, (wr.alloc o).heap[w.heap.size]? = some (.cells #[.pointer (some ⟨B, 0, none⟩), .int .i64 p, .int .i64 n, .int .i64 c, .bool r] 173 (0, 0)) := fun o => (Below.heap_alloc wr o _ (by omega)).trans mbw
    have q0 : ∀ o, (wr.alloc o).cell? ⟨w.heap.size, 0, none⟩ = some (.pointer (some ⟨B, 0, none⟩)) := fun o => by rw [cell_of_row _ _ _ _ _ _ (mbo o)]; rfl
    have q1 : ∀ o, (wr.alloc o).cell? ⟨w.heap.size, 1, none⟩ = some (.int .i64 p) := fun o => by rw [cell_of_row _ _ _ _ _ _ (mbo o)]; rfl
    have q2 : ∀ o, (wr.alloc o).cell? ⟨w.heap.size, 2, none⟩ = some (.int .i64 n) := fun o => by rw [cell_of_row _ _ _ _ _ _ (mbo o)]; rfl
    have q3 : ∀ o, (wr.alloc o).cell? ⟨w.heap.size, 3, none⟩ = some (.int .i64 c) := fun o => by rw [cell_of_row _ _ _ _ _ _ (mbo o)]; rfl
    have q4 : ∀ o, (wr.alloc o).cell? ⟨w.heap.size, 4, none⟩ = some (.bool r) := fun o => by rw [cell_of_row _ _ _ _ _ _ (mbo o)]; rfl
    have HRB := Lib.hid rbw
    clear hall rbw mbw hbb hbw hsw mbo
    rcases (show k = 6 ∨ k = 0 ∨ k = 1 ∨ k = 2 ∨ k = 3 ∨ k = 4 ∨ k = 5 by omega) with rfl | rfl | rfl | rfl | rfl | rfl | rfl
    · have HV : Hid (firstE b1 b2 b3 b4 b5 b6 = 0) := Lib.hid (by
        obtain ⟨h1, h2, h3, h4, h5, h6⟩ := HA.out
        rw [h1 (by omega), h2 (by omega), h3 (by omega), h4 (by omega), h5 (by omega), h6 (by omega)]; rfl)
      go_wp2
      go_ret
      exact Ret.mk (by rw [HV.out]; rfl) HBB.out
    · have r0 : wr.cell? ⟨w.heap.size + 1, 0, none⟩ = some (.func (.func 190) #[] #[]) := by rw [cell_of_row _ _ _ _ _ _ HRB.out]; rfl
      have r1 : wr.cell? ⟨w.heap.size + 1, 1, none⟩ = some (.int .i64 4) := by rw [cell_of_row _ _ _ _ _ _ HRB.out]; rfl
      go_wp2_with fail
      refine (HR.out.h1 _ (HBB.out.alloc HBB.out.size _)).mono ?_
      rintro e w3 ⟨rfl, b3⟩
      have e1 : w3.cell? ⟨wr.heap.size, 1, none⟩ = some (.int .i64 4) := (b3.cell (p := ⟨wr.heap.size, 1, none⟩) (by simp)).trans (by simp)
      have HB3 := Lib.hid (bthen (HBB.out.alloc HBB.out.size _) (Nat.le_trans HBB.out.size (by simp)) b3)
      have HL3 := Lib.hid ((HBW.out.trans ((balloc wr _).mono HSW.out)).trans (b3.mono (by have := HSW.out; simp; omega)))
      have HS3 := Lib.hid (show w.heap.size + 2 ≤ w3.heap.size by have := HSW.out; have := b3.size; simp at this; omega)
      clear b3 r0 r1 q0 q1 q2 q3 q4
      cases hb : b1
      · have HN := Lib.hid hb
        clear hb
        go_wp2_with fail
        go_roundw
        case rel => exact ⟨1, by omega, rfl, HL3.out, HS3.out, fun _ => HN.out, fun h => absurd h (by omega), fun h => absurd h (by omega), fun h => absurd h (by omega), fun h => absurd h (by omega), fun h => absurd h (by omega)⟩
        case measure => simp [intOf]
      · have HV : Hid (firstE b1 b2 b3 b4 b5 b6 = 4) := Lib.hid (by rw [hb]; rfl)
        clear hb
        go_wp2_with fail
        go_ret
        exact Ret.mk (by rw [HV.out]; rfl) HB3.out
    · have r0 : wr.cell? ⟨w.heap.size + 1, 2, none⟩ = some (.func (.func 191) #[] #[]) := by rw [cell_of_row _ _ _ _ _ _ HRB.out]; rfl
      have r1 : wr.cell? ⟨w.heap.size + 1, 3, none⟩ = some (.int .i64 4) := by rw [cell_of_row _ _ _ _ _ _ HRB.out]; rfl
      go_wp2_with fail
      refine (HR.out.h2 _ (HBB.out.alloc HBB.out.size _)).mono ?_
      rintro e w3 ⟨rfl, b3⟩
      have e1 : w3.cell? ⟨wr.heap.size, 1, none⟩ = some (.int .i64 4) := (b3.cell (p := ⟨wr.heap.size, 1, none⟩) (by simp)).trans (by simp)
      have HB3 := Lib.hid (bthen (HBB.out.alloc HBB.out.size _) (Nat.le_trans HBB.out.size (by simp)) b3)
      have HL3 := Lib.hid ((HBW.out.trans ((balloc wr _).mono HSW.out)).trans (b3.mono (by have := HSW.out; simp; omega)))
      have HS3 := Lib.hid (show w.heap.size + 2 ≤ w3.heap.size by have := HSW.out; have := b3.size; simp at this; omega)
      clear b3 r0 r1 q0 q1 q2 q3 q4
      cases hb : b2
      · have HN := Lib.hid hb
        clear hb
        go_wp2_with fail
        go_roundw
        case rel => exact ⟨2, by omega, rfl, HL3.out, HS3.out, fun _ => HA.out.1 (by omega), fun _ => HN.out, fun h => absurd h (by omega), fun h => absurd h (by omega), fun h => absurd h (by omega), fun h => absurd h (by omega)⟩
        case measure => simp [intOf]
      · have HV : Hid (firstE b1 b2 b3 b4 b5 b6 = 4) := Lib.hid (by rw [HA.out.1 (by omega)]; rw [hb]; rfl)
        clear hb
        go_wp2_with fail
        go_ret
        exact Ret.mk (by rw [HV.out]; rfl) HB3.out
    · have r0 : wr.cell? ⟨w.heap.size + 1, 4, none⟩ = some (.func (.func 192) #[] #[]) := by rw [cell_of_row _ _ _ _ _ _ HRB.out]; rfl
      have r1 : wr.cell? ⟨w.heap.size + 1, 5, none⟩ = some (.int .i64 5) := by rw [cell_of_row _ _ _ _ _ _ HRB.out]; rfl
      go_wp2_with fail
      refine (HR.out.h3 _ (HBB.out.alloc HBB.out.size _)).mono ?_
      rintro e w3 ⟨rfl, b3⟩
      have e1 : w3.cell? ⟨wr.heap.size, 1, none⟩ = some (.int .i64 5) := (b3.cell (p := ⟨wr.heap.size, 1, none⟩) (by simp)).trans (by simp)
      have HB3 := Lib.hid (bthen (HBB.out.alloc HBB.out.size _) (Nat.le_trans HBB.out.size (by simp)) b3)
      have HL3 := Lib.hid ((HBW.out.trans ((balloc wr _).mono HSW.out)).trans (b3.mono (by have := HSW.out; simp; omega)))
      have HS3 := Lib.hid (show w.heap.size + 2 ≤ w3.heap.size by have := HSW.out; have := b3.size; simp at this; omega)
      clear b3 r0 r1 q0 q1 q2 q3 q4
      cases hb : b3
      · have HN := Lib.hid hb
        clear hb
        go_wp2_with fail
        go_roundw
        case rel => exact ⟨3, by omega, rfl, HL3.out, HS3.out, fun _ => HA.out.1 (by omega), fun _ => HA.out.2.1 (by omega), fun _ => HN.out, fun h => absurd h (by omega), fun h => absurd h (by omega), fun h => absurd h (by omega)⟩
        case measure => simp [intOf]
      · have HV : Hid (firstE b1 b2 b3 b4 b5 b6 = 5) := Lib.hid (by rw [HA.out.1 (by omega)]; rw [HA.out.2.1 (by omega)]; rw [hb]; rfl)
        clear hb
        go_wp2_with fail
        go_ret
        exact Ret.mk (by rw [HV.out]; rfl) HB3.out
    · have r0 : wr.cell? ⟨w.heap.size + 1, 6, none⟩ = some (.func (.func 193) #[] #[]) := by rw [cell_of_row _ _ _ _ _ _ HRB.out]; rfl
      have r1 : wr.cell? ⟨w.heap.size + 1, 7, none⟩ = some (.int .i64 4) := by rw [cell_of_row _ _ _ _ _ _ HRB.out]; rfl
      go_wp2_with fail
      refine (HR.out.h4 _ (HBB.out.alloc HBB.out.size _)).mono ?_
      rintro e w3 ⟨rfl, b3⟩
      have e1 : w3.cell? ⟨wr.heap.size, 1, none⟩ = some (.int .i64 4) := (b3.cell (p := ⟨wr.heap.size, 1, none⟩) (by simp)).trans (by simp)
      have HB3 := Lib.hid (bthen (HBB.out.alloc HBB.out.size _) (Nat.le_trans HBB.out.size (by simp)) b3)
      have HL3 := Lib.hid ((HBW.out.trans ((balloc wr _).mono HSW.out)).trans (b3.mono (by have := HSW.out; simp; omega)))
      have HS3 := Lib.hid (show w.heap.size + 2 ≤ w3.heap.size by have := HSW.out; have := b3.size; simp at this; omega)
      clear b3 r0 r1 q0 q1 q2 q3 q4
      cases hb : b4
      · have HN := Lib.hid hb
        clear hb
        go_wp2_with fail
        go_roundw
        case rel => exact ⟨4, by omega, rfl, HL3.out, HS3.out, fun _ => HA.out.1 (by omega), fun _ => HA.out.2.1 (by omega), fun _ => HA.out.2.2.1 (by omega), fun _ => HN.out, fun h => absurd h (by omega), fun h => absurd h (by omega)⟩
        case measure => simp [intOf]
      · have HV : Hid (firstE b1 b2 b3 b4 b5 b6 = 4) := Lib.hid (by rw [HA.out.1 (by omega)]; rw [HA.out.2.1 (by omega)]; rw [HA.out.2.2.1 (by omega)]; rw [hb]; rfl)
        clear hb
        go_wp2_with fail
        go_ret
        exact Ret.mk (by rw [HV.out]; rfl) HB3.out
    · have r0 : wr.cell? ⟨w.heap.size + 1, 8, none⟩ = some (.func (.func 194) #[] #[]) := by rw [cell_of_row _ _ _ _ _ _ HRB.out]; rfl
      have r1 : wr.cell? ⟨w.heap.size + 1, 9, none⟩ = some (.int .i64 4) := by rw [cell_of_row _ _ _ _ _ _ HRB.out]; rfl
      go_wp2_with fail
      refine (HR.out.h5 _ (HBB.out.alloc HBB.out.size _)).mono ?_
      rintro e w3 ⟨rfl, b3⟩
      have e1 : w3.cell? ⟨wr.heap.size, 1, none⟩ = some (.int .i64 4) := (b3.cell (p := ⟨wr.heap.size, 1, none⟩) (by simp)).trans (by simp)
      have HB3 := Lib.hid (bthen (HBB.out.alloc HBB.out.size _) (Nat.le_trans HBB.out.size (by simp)) b3)
      have HL3 := Lib.hid ((HBW.out.trans ((balloc wr _).mono HSW.out)).trans (b3.mono (by have := HSW.out; simp; omega)))
      have HS3 := Lib.hid (show w.heap.size + 2 ≤ w3.heap.size by have := HSW.out; have := b3.size; simp at this; omega)
      clear b3 r0 r1 q0 q1 q2 q3 q4
      cases hb : b5
      · have HN := Lib.hid hb
        clear hb
        go_wp2_with fail
        go_roundw
        case rel => exact ⟨5, by omega, rfl, HL3.out, HS3.out, fun _ => HA.out.1 (by omega), fun _ => HA.out.2.1 (by omega), fun _ => HA.out.2.2.1 (by omega), fun _ => HA.out.2.2.2.1 (by omega), fun _ => HN.out, fun h => absurd h (by omega)⟩
        case measure => simp [intOf]
      · have HV : Hid (firstE b1 b2 b3 b4 b5 b6 = 4) := Lib.hid (by rw [HA.out.1 (by omega)]; rw [HA.out.2.1 (by omega)]; rw [HA.out.2.2.1 (by omega)]; rw [HA.out.2.2.2.1 (by omega)]; rw [hb]; rfl)
        clear hb
        go_wp2_with fail
        go_ret
        exact Ret.mk (by rw [HV.out]; rfl) HB3.out
    · have r0 : wr.cell? ⟨w.heap.size + 1, 10, none⟩ = some (.func (.func 195) #[] #[]) := by rw [cell_of_row _ _ _ _ _ _ HRB.out]; rfl
      have r1 : wr.cell? ⟨w.heap.size + 1, 11, none⟩ = some (.int .i64 4) := by rw [cell_of_row _ _ _ _ _ _ HRB.out]; rfl
      go_wp2_with fail
      refine (HR.out.h6 _ (HBB.out.alloc HBB.out.size _)).mono ?_
      rintro e w3 ⟨rfl, b3⟩
      have e1 : w3.cell? ⟨wr.heap.size, 1, none⟩ = some (.int .i64 4) := (b3.cell (p := ⟨wr.heap.size, 1, none⟩) (by simp)).trans (by simp)
      have HB3 := Lib.hid (bthen (HBB.out.alloc HBB.out.size _) (Nat.le_trans HBB.out.size (by simp)) b3)
      have HL3 := Lib.hid ((HBW.out.trans ((balloc wr _).mono HSW.out)).trans (b3.mono (by have := HSW.out; simp; omega)))
      have HS3 := Lib.hid (show w.heap.size + 2 ≤ w3.heap.size by have := HSW.out; have := b3.size; simp at this; omega)
      clear b3 r0 r1 q0 q1 q2 q3 q4
      cases hb : b6
      · have HN := Lib.hid hb
        clear hb
        go_wp2_with fail
        go_roundw
        case rel => exact ⟨6, by omega, rfl, HL3.out, HS3.out, fun _ => HA.out.1 (by omega), fun _ => HA.out.2.1 (by omega), fun _ => HA.out.2.2.1 (by omega), fun _ => HA.out.2.2.2.1 (by omega), fun _ => HA.out.2.2.2.2.1 (by omega), fun _ => HN.out⟩
        case measure => simp [intOf]
      · have HV : Hid (firstE b1 b2 b3 b4 b5 b6 = 4) := Lib.hid (by rw [HA.out.1 (by omega)]; rw [HA.out.2.1 (by omega)]; rw [HA.out.2.2.1 (by omega)]; rw [HA.out.2.2.2.1 (by omega)]; rw [HA.out.2.2.2.2.1 (by omega)]; rw [hb]; rfl)
        clear hb
        go_wp2_with fail
        go_ret
        exact Ret.mk (by rw [HV.out]; rfl) HB3.out
end Go.Proofs.YtdapdadcninidaaGreatDoor
