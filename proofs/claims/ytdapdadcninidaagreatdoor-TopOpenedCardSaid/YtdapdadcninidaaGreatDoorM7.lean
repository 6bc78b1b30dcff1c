/- Package stack: Push; package builder: New. No condition but lengths. Package builder: put; package stack: HTMLPoint of HTML. No condition but that the nodes are linked well. Package stack: Adjust, of HTML. No condition but lengths. Package builder: Create, of HTML. No condition but that the parent's document is one, that the name is not template, and lengths. Package builder: insert, of HTML. No condition but that the nodes are linked well and the name is not template. Package builder: Insert; thicketlaw07.Begin of the zero start; Arena.Len. No condition but that the nodes are linked well and the name is not template. -/
import Derived.Test.YtdapdadcninidaaGreatDoorM6
import Derived.Test.YtdapdadcninidaaGreatDoorM5
import Derived.Test.YtdapdadcninidaaGreatDoorM4
import Derived.Maps.OwnSet
set_option linter.unusedSimpArgs false
set_option linter.unusedVariables false
namespace Go.Proofs.YtdapdadcninidaaGreatDoor
open Go.RowKit
attribute [local go_sem ↓] Go.wp_at_zero Go.wp_at_succ

/-- The slice of open elements is set. -/
theorem BuS.push {b : Nat} {B : AB} {OA : List Nat} {ns : List Nd} {its its' : List It} {iv : Value} {doc c : Nat} {a : Option Addr} {w w1 : World} (h : BuS b B OA ns its iv doc w) (hb : Below w.heap.size w w1) (hr : w1.ownsRow w.heap.size 66 4 (.slice a its'.length c) its'.length (itCells its')) :
    BuS b B OA ns its' (.slice a its'.length c) doc (w1.setCell ⟨b, 2, none⟩ (.slice a its'.length c)) ∧ AStep (b :: OA) w (b :: OA) (w1.setCell ⟨b, 2, none⟩ (.slice a its'.length c)) := by
  have h1 := h.later hb
  have hlt := h.lt
  have hm : Mod (fun k => k = b) w1 (w1.setCell ⟨b, 2, none⟩ (.slice a its'.length c)) := Mod.setCell _ _ rfl
  refine ⟨⟨h1.ar.kept hm fun k hk e => h.dj.1 (e ▸ hk), ?_, ⟨a, c, rfl, ownsRow_zero (ownsRow_mod hr hm fun g hg e => by have := ownsRow_ge hr hg; omega)⟩, h.dj.1, fun g hg => ?_⟩, ?_, fun k hk => .inl hk⟩
  · rw [Joins.block_setCell (i := 2) h1.bx]; rfl
  · have h2 := ownsRow_ge hr hg
    exact ⟨by omega, fun hk => by have := h.ar.lt hk; omega⟩
  · exact (Mod.of_below hb).trans (hm.mono fun k _ e => by rw [e]; exact List.mem_cons_self)
theorem BuS.drew {b : Nat} {B : AB} {OA : List Nat} {ns : List Nd} {its : List It} {iv : Value} {doc : Nat} {w : World} (h : BuS b B OA ns its iv doc w) : BuS b B OA ns its iv doc w.drew := h.later ⟨rfl, rfl, rfl, Nat.le_refl _, fun _ _ => rfl⟩
theorem AStep.drew {O O' : List Nat} {w w' : World} (h : AStep O w O' w') : AStep O w O' w'.drew := ⟨⟨h.mod.os, h.mod.tape, h.mod.output, h.mod.size, h.mod.block⟩, h.own⟩
set_option maxRecDepth 100000 in
set_option maxHeartbeats 4000000 in
/-- Push, onto a builder's open elements. -/
theorem Push_any (x : It) (w : World) {b : Nat} {B : AB} {OA : List Nat} {ns : List Nd} {its : List It} {iv : Value} {doc : Nat} (hS : BuS b B OA ns its iv doc w) (hl : its.length ≤ 100000) :
    Calls Tryz.prog 106 #[.pointer (some ⟨b, 2, none⟩), itV x] w fun e w' => e = .returned (.tuple #[]) ∧ ∃ iv', BuS b B OA ns (its ++ [x]) iv' doc w' ∧ AStep (b :: OA) w (b :: OA) w' := by
  obtain ⟨a, c, hiv, hrow⟩ := hS.it
  rw [hiv] at hrow
  have hlt := hS.lt
  have H1 := Lib.hid (fun w' (hb : Below w.heap.size w w') => insEnd_any its x w' (a := a) (c := c) hl (ownsRow_below hrow hb))
  unfold itV at *
  obtain ⟨W0, hW0⟩ : ∃ W0, w.alloc (.cells #[.int .i64 (x.node : Nat), .int .i64 x.space, .string ⟨x.name.toArray⟩, .bool x.point] 66) = W0 := ⟨_, rfl⟩
  have hbx : W0.heap[w.heap.size]? = some (.cells #[.int .i64 (x.node : Nat), .int .i64 x.space, .string ⟨x.name.toArray⟩, .bool x.point] 66 (0, 0)) := by rw [← hW0]; exact World.alloc_heap_new w _
  have hb0 : Below w.heap.size w W0 := by rw [← hW0]; exact balloc w _
  have q2 : W0.cell? ⟨b, 2, none⟩ = some (.slice a its.length c) := by rw [← hiv]; exact (hS.later hb0).c2
  have y0 : W0.cell? ⟨w.heap.size, 0, none⟩ = some (.int .i64 (x.node : Nat)) := by rw [cell_of_row _ _ _ _ _ _ hbx]; rfl
  have y1 : W0.cell? ⟨w.heap.size, 1, none⟩ = some (.int .i64 x.space) := by rw [cell_of_row _ _ _ _ _ _ hbx]; rfl
  have y2 : W0.cell? ⟨w.heap.size, 2, none⟩ = some (.string ⟨x.name.toArray⟩) := by rw [cell_of_row _ _ _ _ _ _ hbx]; rfl
  have y3 : W0.cell? ⟨w.heap.size, 3, none⟩ = some (.bool x.point) := by rw [cell_of_row _ _ _ _ _ _ hbx]; rfl
  have HS := Lib.hid hS; have HW := Lib.hid hW0; have HB0 := Lib.hid hb0; have HB0d := Lib.hid (bdrewA hb0)
  clear hS hiv hrow hW0 hbx
  go_enter Tryz.func106, Tryz.ntmps106
  go_wp2_with fail
  rw [HW.out]
  go_region_with ((go_at_call 153
                   refine (H1.out _ (by first | exact HB0.out | exact HB0d.out)).mono ?_
                   rintro e w1 ⟨va, vc, rfl, hr1, b1⟩
                   have hb1 : Below w.heap.size w w1 := bthen hb0 hb0.size (by first | exact b1 | exact bdrew b1)
                   have r2 := (HS.out.later hb1).c2
                   have rf : w1.frozen? ⟨b, 2, none⟩ = false := Lib.frozen_of_heap (HS.out.later hb1).bx 2
                   have hfin := HS.out.push (its' := its ++ [x]) (a := va) (c := vc) hb1 (by rw [List.length_append]; exact ownsRow_base hb0.size hr1)
                   rw [List.length_append] at hfin
                   have HF := Lib.hid hfin
                   have HFd := Lib.hid (show _ ∧ _ from ⟨hfin.1.drew, hfin.2.drew⟩)
                   clear hfin hb1 b1 hr1))
  all_goals
    go_wp2
    go_end0
    first | exact ⟨rfl, _, HF.out⟩ | exact ⟨rfl, _, HFd.out⟩
set_option maxRecDepth 100000 in
set_option maxHeartbeats 1000000 in
theorem bNew_any (d : Nat) (w : World) {B : AB} {OA : List Nat} {ns : List Nd} (hA : ArW B OA ns w) (hf : Fit ns) (hh : isH ns.length d = true) (hk : (ndAt ns d).kind = 1) :
    Calls Tryz.prog 59 #[.pointer (some ⟨B, 0, none⟩), .int .i64 (d : Nat)] w fun e w' => ∃ b, e = .returned (.pointer (some ⟨b, 0, none⟩)) ∧ w.heap.size ≤ b ∧ BuS b B OA ns [] (.slice none 0 0) d w' ∧ Below w.heap.size w w' := by
  have H1 := NodeD_any (d : Nat) w hA hf
  have hd : descAt ns (d : Nat) = ndAt ns d := by rw [descAt, if_pos hh]
  have hn : nodeE ns.length (d : Nat) = 0 := by rw [nodeE, if_pos hh]
  rw [hd, hn] at H1
  obtain ⟨z, hz⟩ : ∃ z, ndAt ns (d : Nat) = z := ⟨_, rfl⟩
  rw [hz] at H1 hk
  have H1 := Lib.hid H1; have HA := Lib.hid hA
  clear hA hf hh hd hn hz
  obtain ⟨zk, z1, z2, z3, z4, z5, z6, z7, z8, z9, z10, z11, z12⟩ := z
  dsimp only at hk
  subst hk
  go_enter Tryz.func59, Tryz.ntmps59
  go_wp2_with fail
  refine H1.out.mono ?_
  rintro e w1 ⟨k1, k2, a1, a2, rfl, -, -, b1⟩
  have HB := Lib.hid (fun o => b1.alloc b1.size o)
  clear b1 H1
  go_wp2_with fail
  go_ret
  generalize hW : w1.alloc _ = W1
  have hb1 : Below w.heap.size w W1 := by rw [← hW]; exact HB.out _
  have hs1 : W1.heap.size = w1.heap.size + 1 := by rw [← hW]; simp
  have hb2 : Below w.heap.size w (W1.alloc (.cells (buArr B.blk d (.slice none 0 0)) 69)) := hb1.alloc hb1.size _
  refine ⟨w1.heap.size + 1, rfl, by have := hb1.size; omega, ⟨HA.out.later hb2, ?_, ⟨none, 0, rfl, ⟨rfl, .inl ⟨rfl, rfl⟩⟩⟩, fun hk => by have := HA.out.lt hk; have := hb1.size; omega, fun g hg => by simp [Value.ownBlock] at hg⟩, hb2⟩
  rw [← hs1]
  exact World.alloc_heap_new W1 _
end Go.Proofs.YtdapdadcninidaaGreatDoor
namespace Go.Proofs.YtdapdadcninidaaGreatDoor
open Go.RowKit
attribute [local go_sem ↓] Go.wp_at_zero Go.wp_at_succ

theorem run_field_nd (v0 v1 v2 v3 v4 v5 v6 v7 v8 v9 v10 v11 v12 : Value) (w : World) : (Instr.field 55 (.agg #[v0, v1, v2, v3, v4, v5, v6, v7, v8, v9, v10, v11, v12]) 0).run Tryz.prog w = .ok v0 w := by
  simp [Instr.field, run_asAgg, go_sem, Tryz.underlying55]
attribute [local go_sem] run_field_nd
set_option maxRecDepth 100000 in
theorem HTMLPoint_html (nm : List UInt8) (v : Value) (w : World) : Calls Tryz.prog 107 #[.int .i64 1, .string ⟨nm.toArray⟩, v] w fun e w' => e = .returned (.bool false) ∧ w = w' := by
  go_enter Tryz.func107, Tryz.ntmps107
  go_wp2
  go_ret
  exact ⟨rfl, rfl⟩
set_option maxRecDepth 100000 in
theorem iIndexF_nil (f : Value) (w : World) {a : Option Addr} {c : Nat} : Calls Tryz.prog 179 #[.slice a 0 c, f] w fun e w' => e = .returned (.int .i64 (-1)) ∧ w = w' := by
  go_enter Tryz.func179, Tryz.ntmps179
  go_wp2_with fail
  go_loop [4, 5, 8] (fun _ _ i => i = .int .i64 0) (fun _ _ _ => 0)
  case atStart => rfl
  case round =>
    subst hrel
    go_wp2
    go_ret
    exact ⟨rfl, rfl⟩
set_option maxRecDepth 100000 in
theorem iContF_nil (f : Value) (w : World) {a : Option Addr} {c : Nat} : Calls Tryz.prog 148 #[.slice a 0 c, f] w fun e w' => e = .returned (.bool false) ∧ w = w' := by
  have H1 := Lib.hid (iIndexF_nil f w (a := a) (c := c))
  go_enter Tryz.func148, Tryz.ntmps148
  go_wp2_with fail
  refine H1.out.mono ?_
  rintro e w1 ⟨rfl, rfl⟩
  go_wp2
  go_ret
  exact ⟨rfl, rfl⟩
noncomputable def putR (ns : List Nd) (p n b : Int) : List Nd := if putE ns p n b = 0 then putL ns p n b else ns
set_option maxRecDepth 100000 in
set_option maxHeartbeats 2000000 in
theorem bput_any (h p c : Int) (w : World) {b : Nat} {B : AB} {OA : List Nat} {ns : List Nd} {its : List It} {iv : Value} {doc : Nat} (hS : BuS b B OA ns its iv doc w) (hf : Fit ns) (hk : (descAt ns p).kind = 1 → kidsAt ns p = []) (hok : PutOk ns p h c) :
    Calls Tryz.prog 104 #[.pointer (some ⟨b, 0, none⟩), .int .i64 h, .int .i64 p, .int .i64 c] w fun e w' => e = .returned (.tuple #[]) ∧ ∃ O', BuS b B O' (putR ns p h c) its iv doc w' ∧ AStep (b :: OA) w (b :: O') w' := by
  obtain ⟨W0, hW0⟩ : ∃ W0, w.alloc (.cells #[.pointer (some ⟨b, 0, none⟩)] 42) = W0 := ⟨_, rfl⟩
  have hbx : W0.heap[w.heap.size]? = some (.cells #[.pointer (some ⟨b, 0, none⟩)] 42 (0, 0)) := by rw [← hW0]; exact World.alloc_heap_new w _
  have hb0 : Below w.heap.size w W0 := by rw [← hW0]; exact balloc w _
  have hlt := hS.lt
  have HN := Lib.hid (fun (x : Int) w' (hb : Below w.heap.size w w') => bnode_any x w' (hS.later hb) hf)
  have HKI := fun w' (hb : Below w.heap.size w w') => Kids_any p w' (hS.later hb).ar hf.len (hf.kids p)
  have HP := Lib.hid (fun w' (hb : Below w.heap.size w w') => Put_any p h c w' (hS.later hb).ar hf hok)
  have HS := Lib.hid hS; have HW := Lib.hid hW0; have HBX := Lib.hid hbx; have HB0 := Lib.hid hb0
  have HFin := Lib.hid (fun (w1 w2 : World) (e : Ending) (hb : Below w.heap.size w w1) (hd : Did B OA w1 (putE ns p h c) (putL ns p h c) e w2) => show ∃ O', BuS b B O' (putR ns p h c) its iv doc w2 ∧ AStep (b :: OA) w (b :: O') w2 by
    obtain ⟨O', hA', hs'⟩ := hd.step (hS.later hb).ar
    refine ⟨O', (hS.later hb).call rfl hA' hs', ?_⟩
    have h1 := astep_pre hb hs'
    exact ⟨h1.mod.mono fun k _ hk => List.mem_cons_of_mem _ hk, fun k hk => by
      rcases List.mem_cons.1 hk with rfl | hk
      · exact .inl List.mem_cons_self
      · exact (h1.own k hk).imp (List.mem_cons_of_mem _) id⟩)
  generalize putR ns p h c = res at *
  have dn := HN.out p
  have hn := HN.out h
  obtain ⟨d, hd⟩ : ∃ d, descAt ns p = d := ⟨_, rfl⟩
  obtain ⟨dh, hdh⟩ : ∃ dh, descAt ns h = dh := ⟨_, rfl⟩
  rw [hd] at dn hk
  rw [hdh] at hn
  have DN := Lib.hid dn; have DH := Lib.hid hn
  clear dn hn hd hdh hS hW0 hbx hb0 hok HN hf
  by_cases h1 : d.kind = 1
  · rw [hk h1] at HKI
    have HK := Lib.hid HKI
    clear HKI hk
    have hmf : ∀ (fn : Fn) (first cap : Array Value) (w : World), (Instr.makeFunc fn first cap).run Tryz.prog w = .ok (.func fn first cap) w := fun _ _ _ _ => rfl
    go_enter Tryz.func104, Tryz.ntmps104
    go_wp2_with fail
    rw [HW.out]
    have y0 : W0.cell? ⟨w.heap.size, 0, none⟩ = some (.pointer (some ⟨b, 0, none⟩)) := by rw [cell_of_row _ _ _ _ _ _ HBX.out]; rfl
    go_wp2_with fail
    refine (DN.out _ HB0.out).mono ?_
    rintro e w1 ⟨k1, k2, a1, a2, rfl, -, -, b1⟩
    have hb1 := bthen HB0.out HB0.out.size b1
    have hx1 := (b1.block _ (Array.getElem?_eq_some_iff.1 HBX.out).1).trans HBX.out
    have y1 : w1.cell? ⟨w.heap.size, 0, none⟩ = some (.pointer (some ⟨b, 0, none⟩)) := by rw [cell_of_row _ _ _ _ _ _ hx1]; rfl
    have HB1 := Lib.hid hb1; have HX1 := Lib.hid hx1
    clear hb1 hx1 b1 y0
    simp only [ndArr]
    rw [h1]
    go_wp2_with fail
    refine (DH.out _ HB1.out).mono ?_
    rintro e w2 ⟨k1, k2, a1, a2, rfl, -, -, b2⟩
    have hb2 := bthen HB1.out HB1.out.size b2
    have hx2 := (b2.block _ (Array.getElem?_eq_some_iff.1 HX1.out).1).trans HX1.out
    have y2 : w2.cell? ⟨w.heap.size, 0, none⟩ = some (.pointer (some ⟨b, 0, none⟩)) := by rw [cell_of_row _ _ _ _ _ _ hx2]; rfl
    have q2 := (HS.out.later hb2).c0
    have HB2 := Lib.hid hb2; have HX2 := Lib.hid hx2
    clear hb2 hx2 b2 y1 h1
    simp only [ndArr]
    by_cases h4 : dh.kind = 4
    · rw [h4]
      go_wp2_with fail
      refine (HK.out _ HB2.out).mono ?_
      rintro e w3 ⟨v, rfl, hr, b3⟩
      obtain ⟨ka, kc, rfl⟩ := ownsRow_slice hr
      have hb3 := bthen HB2.out HB2.out.size b3
      have hx3 := (b3.block _ (Array.getElem?_eq_some_iff.1 HX2.out).1).trans HX2.out
      have y3 : w3.cell? ⟨w.heap.size, 0, none⟩ = some (.pointer (some ⟨b, 0, none⟩)) := by rw [cell_of_row _ _ _ _ _ _ hx3]; rfl
      have q3 := (HS.out.later hb3).c0
      have HB3 := Lib.hid hb3
      clear hb3 hx3 b3 y2 q2 hr h4
      go_wp2_with fail
      refine (iContF_nil _ w3).mono ?_
      rintro e w4 ⟨rfl, rfl⟩
      go_wp2_with fail
      refine (HP.out _ HB3.out).mono ?_
      rintro e w5 hd2
      have HF := Lib.hid (HFin.out _ w5 e HB3.out hd2)
      obtain ⟨rfl, -⟩ := hd2
      go_wp2_with fail
      go_end0
      exact ⟨rfl, HF.out⟩
    · have h4b : (dh.kind == 4) = false := by simpa using h4
      clear h4
      go_wp2_with fail
      refine (HP.out _ HB2.out).mono ?_
      rintro e w5 hd2
      have HF := Lib.hid (HFin.out _ w5 e HB2.out hd2)
      obtain ⟨rfl, -⟩ := hd2
      go_wp2_with fail
      go_end0
      exact ⟨rfl, HF.out⟩
  · have h1b : (d.kind == 1) = false := by simpa using h1
    clear HKI hk h1
    go_enter Tryz.func104, Tryz.ntmps104
    go_wp2_with fail
    rw [HW.out]
    have y0 : W0.cell? ⟨w.heap.size, 0, none⟩ = some (.pointer (some ⟨b, 0, none⟩)) := by rw [cell_of_row _ _ _ _ _ _ HBX.out]; rfl
    go_wp2_with fail
    refine (DN.out _ HB0.out).mono ?_
    rintro e w1 ⟨k1, k2, a1, a2, rfl, -, -, b1⟩
    have hb1 := bthen HB0.out HB0.out.size b1
    have hx1 := (b1.block _ (Array.getElem?_eq_some_iff.1 HBX.out).1).trans HBX.out
    have y1 : w1.cell? ⟨w.heap.size, 0, none⟩ = some (.pointer (some ⟨b, 0, none⟩)) := by rw [cell_of_row _ _ _ _ _ _ hx1]; rfl
    have q1 := (HS.out.later hb1).c0
    have HB1 := Lib.hid hb1
    clear hb1 hx1 b1 y0
    simp only [ndArr]
    go_wp2_with fail
    refine (HP.out _ HB1.out).mono ?_
    rintro e w2 hd2
    have HF := Lib.hid (HFin.out w1 w2 e HB1.out hd2)
    obtain ⟨rfl, -⟩ := hd2
    go_wp2_with fail
    go_end0
    exact ⟨rfl, HF.out⟩
end Go.Proofs.YtdapdadcninidaaGreatDoor
namespace Go.Proofs.YtdapdadcninidaaGreatDoor
open Go.RowKit
attribute [local go_sem ↓] Go.wp_at_zero Go.wp_at_succ

open Classical in
/-- How an attribute in a map reads: its shape alone. -/
noncomputable def attR (v : Value) : Option (DataW Unit × List MemPlace) := if ∃ s n x, v = .agg #[.int .i64 s, .string n, .string x] then some (.nil, []) else none
theorem attR_inv {v : Value} {z : DataW Unit × List MemPlace} (h : attR v = some z) : ∃ s n x, v = .agg #[.int .i64 s, .string n, .string x] := by
  unfold attR at h
  split at h
  · assumption
  · cases h
theorem attR_mk (s : Int) (n x : ByteArray) : attR (.agg #[.int .i64 s, .string n, .string x]) = some (.nil, []) := if_pos ⟨_, _, _, rfl⟩
/-- A map of attributes at r, made since w0. -/
def MpB (w0 : World) (r N : Nat) (w : World) : Prop := Below w0.heap.size w0 w ∧ w0.heap.size ≤ r ∧ ∃ D : DataW Unit, w.ownsMap Tryz.prog 9 attR r N D
theorem run_mkMap (t : TypeId) (w : World) : (Instr.makeMap t none).run Tryz.prog w = .ok (.map (some w.heap.size)) (w.alloc (.map #[] 0)) := rfl
attribute [local go_sem] run_mkMap
theorem MpB.made {w0 w : World} (hb : Below w0.heap.size w0 w) : MpB w0 w.heap.size 0 (w.alloc (.map #[] 0)) := ⟨hb.alloc hb.size _, hb.size, .map [], World.ownsMap_made w _ _ _⟩
theorem MpB.later {w0 w w' : World} {r N : Nat} (h : MpB w0 r N w) (hb : Below w.heap.size w w') : MpB w0 r N w' := by
  obtain ⟨h1, h2, D, h3⟩ := h
  refine ⟨bthen h1 h1.size hb, h2, D, h3.kept (row := none) ⟨hb.os, hb.tape, hb.output, hb.size, fun i hi _ => hb.block i hi⟩ (by simp)⟩
set_option maxRecDepth 100000 in
theorem ins_att {ops : Array Oper} {rest : List Oper} {o : Oper} {a : Act} {Q : Exit → Act → World → Prop} {w : World} (hg : o.guard = none) (m x v : Operand) (hop : o.op = Op.insert 226 m x v)
    {w0 : World} {r N : Nat} (hm : a.eval m = .map (some r)) (h : MpB w0 r N w) (key n y : ByteArray) (s : Int) (hx : a.eval x = .string key) (hv : a.eval v = .agg #[.int .i64 s, .string n, .string y]) (hk : key.size ≤ 1000) (hN : N < 1000)
    (hK : ∀ w', MpB w0 r (N + 1) w' → wpList Tryz.prog ops Q rest (a.put o.dst undef) w') : wpList Tryz.prog ops Q (o :: rest) a w := by
  refine wpList_plain hg fun K' hK' => ?_
  obtain ⟨h1, h2, D, h3⟩ := h
  obtain ⟨w', hrun, r1, r2⟩ := h3.update (Go.Maps.string_keyed Tryz.underlying9) Tryz.underlying226 (by unfold maxLen; omega) (Go.WideMaps.keyOf_string_mk Tryz.underlying9 (s := key) (by unfold maxLen; omega)) (attR_mk s n y)
  unfold Oper.wp
  simp [execOp, hop, hm, hx, hv, hrun, Result.andThen]
  refine hK' _ _ (hK w' ⟨?_, h2, _, r1⟩)
  exact ⟨r2.os.trans h1.os, r2.tape.trans h1.tape, r2.output.trans h1.output, Nat.le_trans h1.size r2.size, fun i hi => (r2.block i (Nat.lt_of_lt_of_le hi h1.size) (by simp; omega)).trans (h1.block i hi)⟩
theorem MpB.keep {w0 w w' : World} {r N : Nat} (h : MpB w0 r N w) (hb : Below (r + 1) w w') : MpB w0 r N w' := by
  obtain ⟨h1, h2, D, es, clock, h3, h4, h5, h6⟩ := h
  exact ⟨h1.trans (hb.mono (by omega)), h2, D, es, clock, (hb.block r (Nat.lt_succ_self _)).trans h3, h4, h5, h6⟩
theorem zeroAt (w : World) : (zeroValue 121).run Tryz.prog w = .ok (.agg #[.int .i64 0, .string ⟨#[]⟩, .string ⟨#[]⟩]) w := by
  have h0 : Tryz.t121.zero = some (.agg #[.int .i64 0, .string ⟨#[]⟩, .string ⟨#[]⟩]) := by kernel_rfl
  simp [zeroValue, go_sem, h0]
set_option maxRecDepth 100000 in
theorem look_att {ops : Array Oper} {rest : List Oper} {o : Oper} {a : Act} {Q : Exit → Act → World → Prop} {w : World} (hg : o.guard = none) (m x : Operand) (hop : o.op = Op.lookup 226 m x true)
    {w0 : World} {r N : Nat} (hm : a.eval m = .map (some r)) (h : MpB w0 r N w) (key : ByteArray) (hx : a.eval x = .string key) (hk : key.size ≤ 1000)
    (hK : ∀ s n y q, wpList Tryz.prog ops Q rest (a.put o.dst (.tuple #[.agg #[.int .i64 s, .string n, .string y], .bool q])) w) : wpList Tryz.prog ops Q (o :: rest) a w := by
  obtain ⟨h1, h2, D, h3⟩ := h
  refine wpList_lookup_own_ok _ hg m x _ hop 9 121 (Go.Maps.string_keyed Tryz.underlying9) Tryz.underlying226 attR (zeroAt w) .nil [] (attR_mk _ _ _) r N D hm h3 (.string key) _ hx (Go.WideMaps.keyOf_string_mk Tryz.underlying9 (s := key) (by unfold maxLen; omega)) ?_
  intro v ps hv
  obtain ⟨s, n, y, rfl⟩ := attR_inv hv
  exact hK s n y _
theorem append_att2 {ops : Array Oper} {rest : List Oper} {o : Oper} {a : Act} {Q : Exit → Act → World → Prop} {W : World} (hgd : o.guard = none) (s x : Operand)
    (ho : o.op = .call { callee := .builtin .append, args := #[s, x], argTypes := #[40, 40] })
    (R : Nat) (v : Value) (l : List Att) (hs : a.eval s = v) (hown : W.ownsRow R 121 3 v l.length (attCells l)) (y : Att) (H : Nat) (hx : a.eval x = .slice (some ⟨H, 0, none⟩) 1 1) (hH : W.heap.size = H)
    (hlen : l.length + 1 ≤ 1000000) (hR : R ≤ W.heap.size)
    (h : ∀ v' w', w'.ownsRow R 121 3 v' (l.length + 1) (attCells (l ++ [y])) → Below R W w' → wpList Tryz.prog ops Q rest (a.put o.dst v') w') :
    wpList Tryz.prog ops Q (o :: rest) a (W.alloc (.cells #[.int .i64 y.space, .string ⟨y.name.toArray⟩, .string ⟨y.value.toArray⟩] 121)) := by
  subst hH
  exact append_att hgd s x ho R v l hs hown y hx hlen hR h
/-- What the attributes of HTML are adjusted to: their space is struck. -/
def adjL (l : List Att) : List Att := l.map fun y => { name := y.name, value := y.value }
set_option maxRecDepth 100000 in
set_option maxHeartbeats 4000000 in
theorem Adjust_html (l : List Att) (w : World) {a : Option Addr} {c : Nat} (hl : l.length ≤ 100000) (hn : ∀ y ∈ l, y.name.length ≤ 1000) (hc : AttsAt w a l) :
    Calls Tryz.prog 150 #[.int .i64 1, .slice a l.length c] w fun e w' => ∃ va vc, e = .returned (.slice va l.length vc) ∧ w'.ownsRow w.heap.size 121 3 (.slice va l.length vc) l.length (attCells (adjL l)) ∧ Below w.heap.size w w' := by
  have HM0 := MpB.made (Below.refl w.heap.size w)
  have HC := Lib.hid hc; have HN := Lib.hid hn
  clear hc hn
  go_enter Tryz.func150, Tryz.ntmps150
  go_wp2_with (refine ins_att rfl _ _ _ rfl rfl (by assumption) _ _ _ _ rfl rfl (by decide) (by decide) ?_; intro wi HMi)
  go_loopw [6, 27] (fun o i wr => ∃ (k : Nat) (va : Option Addr) (vc : Nat), k ≤ l.length ∧ i = .int .i64 k ∧ o = .slice va k vc ∧ wr.ownsRow (w.heap.size + 1) 121 3 (.slice va k vc) k (attCells (adjL (l.take k))) ∧ MpB w w.heap.size 11 wr) (fun _ i _ => l.length - (intOf i).toNat)
  case atStart => exact ⟨0, none, 0, Nat.zero_le _, rfl, rfl, ⟨rfl, .inl ⟨rfl, rfl⟩⟩, HMi⟩
  case round =>
    obtain ⟨k, va, vc, hk, rfl, rfl, hown, hmp⟩ := hrel
    have HOW := Lib.hid hown; have HMP := Lib.hid hmp
    clear hown hmp
    by_cases hlt : k < l.length
    · obtain ⟨g, rfl, c0, c1, c2⟩ := (HC.out.later HMP.out.1) k l[k] (List.getElem?_eq_getElem hlt)
      have hnk := HN.out l[k] (List.getElem_mem hlt)
      have hnx : adjL (l.take (k + 1)) = adjL (l.take k) ++ [{ name := l[k].name, value := l[k].value }] := by
        rw [List.take_succ_eq_append_getElem hlt]; simp only [adjL, List.map_append, List.map_cons, List.map_nil]
      have HNX := Lib.hid hnx
      obtain ⟨z, hz⟩ : ∃ z, l[k] = z := ⟨_, rfl⟩
      rw [hz] at c0 c1 c2 hnk HNX
      have hki : (k : Int) < (l.length : Int) := by omega
      clear hz hnx
      obtain ⟨zs, zn, zv⟩ := z
      dsimp only at c0 c1 c2 hnk HNX
      have hgl := World.block_lt_of_cell? _ _ c0
      dsimp only at hgl
      have hkl : (adjL (l.take k)).length = k := by simp [adjL]; omega
      have HKL := Lib.hid hkl
      clear hkl
      go_wp2_with (first | (refine look_att rfl _ _ rfl rfl ((HMP.out.later (balloc _ _)).later (balloc _ _)) _ rfl (by exact hnk) ?_; intro fs fn fv q) | (at_builtin; refine append_att2 rfl _ _ rfl (w.heap.size + 1) _ (adjL (l.take k)) rfl (by rw [HKL.out]; exact ownsRow_below (ownsRow_below (ownsRow_below HOW.out (balloc _ _)) (balloc _ _)) (balloc _ _)) { name := zn, value := zv } _ rfl (by simp) (by rw [HKL.out]; omega) (by have h1 := HMP.out.1.size; simp; omega) ?_; intro v5 w5 hown5 hb5; obtain ⟨va5, vc5, rfl⟩ := ownsRow_slice hown5))
      all_goals
        rw [HKL.out] at hown5
        have HM5 := Lib.hid ((((HMP.out.later (balloc _ _)).later (balloc _ _)).later (balloc _ _)).keep hb5)
        have HO5 := Lib.hid hown5
        clear hown5 hb5
        go_roundw
        case rel => exact ⟨k + 1, va5, vc5, by omega, by go_num, by rw [HKL.out], by rw [HNX.out]; exact HO5.out, HM5.out⟩
        case measure => simp [intOf]; omega
    · have hke : k = l.length := by omega
      subst hke
      rw [List.take_length] at HOW
      go_wp2_with fail
      go_ret
      exact ⟨va, vc, rfl, ownsRow_base (b := w.heap.size + 1) (Nat.le_succ _) HOW.out, HMP.out.1⟩
end Go.Proofs.YtdapdadcninidaaGreatDoor
namespace Go.Proofs.YtdapdadcninidaaGreatDoor
open Go.RowKit
attribute [local go_sem ↓] Go.wp_at_zero Go.wp_at_succ

/-- A start tag. -/
def tokV (nm : List UInt8) (av : Value) : Value := .agg #[.int .i64 2, .string ⟨nm.toArray⟩, .bool false, .string ⟨#[]⟩, .bool false, .string ⟨#[]⟩, .bool false, .bool false, av, .bool false, .string ⟨#[]⟩, .int .i32 0]
theorem onceF_ok : ∀ (out l : List Att), (∀ y ∈ l, y.space = 0) → (onceF out l).2 = true
  | _, [], _ => rfl
  | out, x :: xs, h => by
    rw [onceF, if_pos (by rw [h x List.mem_cons_self]; decide)]
    exact onceF_ok _ xs fun y hy => h y (List.mem_cons_of_mem _ hy)
theorem adjL_zero (l : List Att) : ∀ y ∈ adjL l, y.space = 0 := by
  intro y hy
  simp only [adjL, List.mem_map] at hy
  obtain ⟨z, _, rfl⟩ := hy
  rfl
/-- The attributes that an element of HTML gets. -/
def htmlA (l : List Att) : List Att := (onceF [] (adjL l)).1
def eltD (nm : List UInt8) (l : List Att) (doc : Nat) : Nd := { kind := 4, space := 1, name := nm, doc := doc, attrs := htmlA l }
theorem BuS.kept {S : Nat → Prop} {b : Nat} {B : AB} {OA : List Nat} {ns : List Nd} {its : List It} {iv : Value} {doc : Nat} {w w' : World} (h : BuS b B OA ns its iv doc w) (hm : Mod S w w') (h1 : ∀ k ∈ OA, ¬ S k) (h2 : ¬ S b) (h3 : ∀ g, iv.ownBlock = some g → ¬ S g) : BuS b B OA ns its iv doc w' := by
  obtain ⟨a, c, h4, h5⟩ := h.it
  exact ⟨h.ar.kept hm h1, (hm.block _ h.lt h2).trans h.bx, ⟨a, c, h4, ownsRow_mod h5 hm h3⟩, h.dj⟩
/-- A call on the arena, and then a store into a result's cells. -/
theorem crt_fin {b r : Nat} {B B' : AB} {OA O' : List Nat} {ns ns' : List Nd} {its : List It} {iv : Value} {doc : Nat} {w w2 w3 w4 : World} (hBB : B'.blk = B.blk) (hS : BuS b B OA ns its iv doc w) (hb : Below w.heap.size w w2) (hr : w.heap.size ≤ r ∧ r < w2.heap.size) (hA : ArW B' O' ns' w3) (hs : AStep OA w2 O' w3) (hm : Mod (fun k => k = r) w3 w4) :
    BuS b B' O' ns' its iv doc w4 ∧ AStep (b :: OA) w (b :: O') w4 := by
  have h3 := (hS.later hb).call hBB hA hs
  have hlt := hS.lt
  obtain ⟨a, c, hiv, hrow⟩ := hS.it
  refine ⟨h3.kept hm (fun k hk e => ?_) (by omega) (fun g hg e => by have := ownsRow_lt hrow hg; omega), ?_, fun k hk => ?_⟩
  · rcases hs.own k hk with h | h
    · have := hS.ar.lt h; omega
    · omega
  · have h1 := astep_pre hb hs
    exact ⟨hm.os.trans h1.mod.os, hm.tape.trans h1.mod.tape, hm.output.trans h1.mod.output, Nat.le_trans h1.mod.size hm.size, fun k hk hO => (hm.block k (Nat.lt_of_lt_of_le hk h1.mod.size) (by omega)).trans (h1.mod.block k hk fun h => hO (List.mem_cons_of_mem _ h))⟩
  · rcases List.mem_cons.1 hk with rfl | hk
    · exact .inl List.mem_cons_self
    · exact ((astep_pre hb hs).own k hk).imp (List.mem_cons_of_mem _) id
theorem it_stored_mod (x : It) (w2 : World) (b : Nat) : Mod (fun k => k = b) w2 ((((w2.setCell ⟨b, 0, none⟩ (.int .i64 (x.node : Nat))).setCell ⟨b, 1, none⟩ (.int .i64 x.space)).setCell ⟨b, 2, none⟩ (.string ⟨x.name.toArray⟩)).setCell ⟨b, 3, none⟩ (.bool x.point)) := by
  iterate 4 refine Mod.trans ?_ (Mod.setCell _ _ rfl)
  exact Mod.refl _ _
theorem ret_itQ {P : Program} {f : Func} {W : World} {a : Act} {x : It} {Q : World → Prop} (hr : (results f a.tmps).run P W = .ok (itV x) W) (hd : a.defers = []) (hb : Q W) : bodyPost P f (fun e w' => e = .returned (itV x) ∧ Q w') .ret a W :=
  bodyPost_ret hr hd ⟨rfl, hb⟩
/-- Element has made a node, the arena's nodes are n1 now. -/
def EltN (PB : AB → Prop) (OA : List Nat) (n1 : List Nd) (k : Nat) (w : World) (e : Ending) (w' : World) : Prop := e = .returned (.tuple #[.int .i64 ((k + 1 : Nat) : Int), .int .i64 0]) ∧ ∃ B' O', PB B' ∧ ArW B' O' n1 w' ∧ AStep OA w O' w'
set_option maxRecDepth 100000 in
set_option maxHeartbeats 8000000 in
theorem Create_gen (nm : List UInt8) (l : List Att) (p : Int) (w : World) {b : Nat} {B : AB} {OA : List Nat} {ns : List Nd} {its : List It} {iv : Value} {doc : Nat} {a : Option Addr} {c : Nat} (n1 : List Nd) (k : Nat) (PB : AB → Prop) (hBB : ∀ B', PB B' → B'.blk = B.blk) (hS : BuS b B OA ns its iv doc w) (hf : Fit ns)
    (hal : l.length ≤ 100000) (hn : ∀ y ∈ l, y.name.length ≤ 1000) (hc : AttsAt w a l) (hct : (descAt ns p).contents = 0) (hd : (descAt ns p).doc ≠ 0)
    (hE : ∀ va vc w', AttsAt w' va (adjL l) → ArW B OA ns w' → Calls Tryz.prog 9 #[.pointer (some ⟨B, 0, none⟩), .int .i64 ((descAt ns p).doc : Nat), .int .i64 1, .string ⟨nm.toArray⟩, .slice va (adjL l).length vc] w' (EltN PB OA n1 k w')) :
    Calls Tryz.prog 105 #[.pointer (some ⟨b, 0, none⟩), tokV nm (.slice a l.length c), .int .i64 1, .int .i64 p] w fun e w' =>
      e = .returned (itV { node := k + 1, space := 1, name := nm }) ∧ ∃ B' O', PB B' ∧ BuS b B' O' n1 its iv doc w' ∧ AStep (b :: OA) w (b :: O') w' := by
  obtain ⟨W0, hW0⟩ : ∃ W0, (w.alloc (.cells #[.int .i64 2, .string ⟨nm.toArray⟩, .bool false, .string ⟨#[]⟩, .bool false, .string ⟨#[]⟩, .bool false, .bool false, .slice a l.length c, .bool false, .string ⟨#[]⟩, .int .i32 0] 51)).alloc (.cells #[.int .i64 0, .int .i64 0, .string ⟨#[]⟩, .bool false] 66) = W0 := ⟨_, rfl⟩
  obtain ⟨x0, x1, hs0, b0⟩ := two_new hW0
  have hS0 := hS.later b0
  have H1 := Lib.hid (there_any W0 hS0.c0)
  have H2 := Lib.hid (fun w' (hb : Below w.heap.size w w') => Adjust_html l w' (a := a) (c := c) hal hn (hc.later hb))
  have HS := Lib.hid hS; have HW := Lib.hid hW0; have X0 := Lib.hid x0; have X1 := Lib.hid x1; have HB0 := Lib.hid b0; have HB0d := Lib.hid (bdrewA b0)
  have hlt := hS.lt
  have y1 : W0.cell? ⟨w.heap.size, 1, none⟩ = some (.string ⟨nm.toArray⟩) := by rw [cell_of_row _ _ _ _ _ _ x0]; rfl
  have y8 : W0.cell? ⟨w.heap.size, 8, none⟩ = some (.slice a l.length c) := by rw [cell_of_row _ _ _ _ _ _ x0]; rfl
  have HSZ := Lib.hid hs0
  clear hS hW0 x0 x1 hs0 b0 hc hS0
  have hal2 : (adjL l).length = l.length := by simp [adjL]
  have HAL := Lib.hid hal2; have HF1 := Lib.hid hf
  have HE := Lib.hid hE
  clear hal2 hf hE
  unfold tokV
  go_enter Tryz.func105, Tryz.ntmps105
  go_wp2_with fail
  rw [HW.out]
  refine H1.out.mono ?_
  rintro e w1 ⟨rfl, rfl⟩
  go_wp2_with fail
  go_region_with ((go_at_call 150
                   refine (H2.out _ (by first | exact HB0.out | exact HB0d.out)).mono ?_
                   rintro e w1 ⟨va, vc, rfl, hr1, b1⟩
                   have hb1 : Below W0.heap.size W0 w1 := (by first | exact b1 | exact bdrew b1)
                   have HB1 := Lib.hid hb1
                   have HR1 := Lib.hid (show w1.ownsRow w.heap.size 121 3 (.slice va l.length vc) l.length (attCells (adjL l)) from ownsRow_base HB0.out.size hr1)
                   have y1' : w1.cell? ⟨w.heap.size, 1, none⟩ = some (.string ⟨nm.toArray⟩) := (hb1.cell (p := ⟨w.heap.size, 1, none⟩) (by have := HSZ.out; dsimp only; omega)).trans y1
                   clear hb1 b1 hr1))
  all_goals
    have hb1 : Below w.heap.size w w1 := bthen HB0.out HB0.out.size HB1.out
    have hS1 := HS.out.later hb1
    have q0 := hS1.c0
    have H3 := Lib.hid (fun w' (hb : Below w1.heap.size w1 w') => bdoc_any p w' (hS1.later hb) HF1.out hct hd)
    have H4 := fun w' (hb : Below w1.heap.size w1 w') => HE.out va vc w' ((AttsAt.own (b := w.heap.size) (by rw [HAL.out]; exact HR1.out)).later hb) (hS1.later hb).ar
    rw [HAL.out] at H4
    have H4 := Lib.hid H4
    have HS1 := Lib.hid hS1; have HBW := Lib.hid hb1
    clear hS1 hb1
    go_wp2_with fail
    go_region_with ((first
      | (go_at_call 152
         refine (H3.out _ (by first | exact Below.refl _ _ | exact bdrewA (Below.refl _ _))).mono ?_
         rintro e w2 ⟨rfl, b2⟩
         have hb2 : Below w1.heap.size w1 w2 := (by first | exact b2 | exact bdrew b2)
         have q2 := (HS1.out.later hb2).c0
         have HB2 := Lib.hid hb2
         clear b2 hb2)
      | (go_at_call 9
         refine (H4.out _ (by first | exact HB2.out | exact bdrewA HB2.out)).mono ?_
         rintro e w3 hm
         obtain ⟨rfl, B', O', hPB, hA', hs'⟩ := hm
         have hw2 := bthen HBW.out HBW.out.size HB2.out
         have hszz : w.heap.size + 1 < w2.heap.size := (by have h1 := HSZ.out; have h2 := HB1.out.size; have h3 := HB2.out.size; omega)
         have hx3 : w3.heap[w.heap.size + 1]? = some (.cells #[.int .i64 0, .int .i64 0, .string ⟨#[]⟩, .bool false] 66 (0, 0)) :=
           (hs'.mod.block _ hszz (fun hk => by have := HS.out.ar.lt hk; omega)).trans ((HB2.out.block _ (by have h1 := HSZ.out; have h2 := HB1.out.size; omega)).trans ((HB1.out.block _ (by have h1 := HSZ.out; omega)).trans X1.out))
         have HX3 := Lib.hid hx3
         have d0 : w3.cell? ⟨w.heap.size + 1, 0, none⟩ = some (.int .i64 0) := (by rw [cell_of_row _ _ _ _ _ _ hx3]; rfl)
         have d1 : w3.cell? ⟨w.heap.size + 1, 1, none⟩ = some (.int .i64 0) := (by rw [cell_of_row _ _ _ _ _ _ hx3]; rfl)
         have d2 : w3.cell? ⟨w.heap.size + 1, 2, none⟩ = some (.string ⟨#[]⟩) := (by rw [cell_of_row _ _ _ _ _ _ hx3]; rfl)
         have d3 : w3.cell? ⟨w.heap.size + 1, 3, none⟩ = some (.bool false) := (by rw [cell_of_row _ _ _ _ _ _ hx3]; rfl)
         have df : ∀ j, w3.frozen? ⟨w.heap.size + 1, j, none⟩ = false := (fun j => Lib.frozen_of_heap hx3 j)
         have HF := Lib.hid (fun w4 (hm : Mod (fun k => k = w.heap.size + 1) w3 w4) => (by first | exact crt_fin (hBB _ hPB) HS.out hw2 ⟨by omega, hszz⟩ hA' hs' hm | exact crt_fin (hBB _ hPB) HS.out (bdrewA hw2) ⟨by omega, hszz⟩ hA' hs' hm : BuS b B' O' n1 its iv doc w4 ∧ AStep (b :: OA) w (b :: O') w4))
         clear hA' hs' hx3 hw2 hszz)))
    all_goals
      have HST := Lib.hid (it_stored { node := k + 1, space := 1, name := nm } HX3.out)
      have HFF := Lib.hid (HF.out _ (it_stored_mod { node := k + 1, space := 1, name := nm } w3 (w.heap.size + 1)))
      go_wp2_with fail
      refine (HTMLPoint_html nm _ _).mono ?_
      rintro e w4 ⟨rfl, rfl⟩
      go_wp2_with fail
      exact ret_itQ (x := { node := k + 1, space := 1, name := nm }) (Q := fun w' => ∃ B' O', PB B' ∧ BuS b B' O' n1 its iv doc w' ∧ AStep (b :: OA) w (b :: O') w') (results_cell_row rfl _ _ (w.heap.size + 1) _ _ (0, 0) _ rfl HST.out Tryz.underlying66 rfl (by kernel_rfl)) rfl ⟨_, _, hPB, HFF.out⟩
theorem Create_html (nm : List UInt8) (l : List Att) (p : Int) (w : World) {b : Nat} {B : AB} {OA : List Nat} {ns : List Nd} {its : List It} {iv : Value} {doc : Nat} {a : Option Addr} {c : Nat} (hS : BuS b B OA ns its iv doc w) (hf : Fit ns)
    (hal : l.length ≤ 100000) (hn : ∀ y ∈ l, y.name.length ≤ 1000) (hc : AttsAt w a l) (ht : (nm == tmplW) = false) (hct : (descAt ns p).contents = 0) (hd : (descAt ns p).doc ≠ 0) (hdd : docE ns ((descAt ns p).doc : Nat) = 0) :
    Calls Tryz.prog 105 #[.pointer (some ⟨b, 0, none⟩), tokV nm (.slice a l.length c), .int .i64 1, .int .i64 p] w fun e w' =>
      e = .returned (itV { node := ns.length + 1, space := 1, name := nm }) ∧ ∃ O', BuS b B O' (ns ++ [eltD nm l (descAt ns p).doc]) its iv doc w' ∧ AStep (b :: OA) w (b :: O') w' := by
  refine (Create_gen nm l p w (ns ++ [eltD nm l (descAt ns p).doc]) ns.length (· = B) (fun _ h => by rw [h]) hS hf hal hn hc hct hd fun va vc w' hat hA => ?_).mono fun e w' ⟨h1, B', O', hB, h2, h3⟩ => ?_
  rotate_left
  · subst hB
    exact ⟨h1, O', h2, h3⟩
  have hal2 : (adjL l).length = l.length := by simp [adjL]
  have her : eltE ns ((descAt ns p).doc : Nat) 1 (adjL l) = 0 := by rw [eltE, if_neg (by simp [hdd]), onceF_ok [] (adjL l) (adjL_zero l)]; rfl
  refine (ElementA_any (descAt ns p).doc 1 nm (adjL l) w' hA hf.len ht (by rw [hal2]; exact hal) hat).mono fun e w'' hm => ?_
  rcases hm with ⟨h0, _, _⟩ | ⟨_, he, O', hA', hs'⟩
  · exact absurd her h0
  · exact ⟨he, B, O', rfl, hA', hs'⟩
end Go.Proofs.YtdapdadcninidaaGreatDoor
namespace Go.Proofs.YtdapdadcninidaaGreatDoor
open Go.RowKit
attribute [local go_sem ↓] Go.wp_at_zero Go.wp_at_succ

/-- What an insertion of HTML leans on; p: the place. -/
structure BinOk (ns : List Nd) (its : List It) (doc : Nat) (nm : List UInt8) (l : List Att) (p : Nat) : Prop where
  pl : placeL ns its doc = p
  fit : Fit ns
  il : its.length ≤ 10000
  al : l.length ≤ 100000
  an : ∀ y ∈ l, y.name.length ≤ 1000
  nt : (nm == tmplW) = false
  ct : (descAt ns (p : Nat)).contents = 0
  dn : (descAt ns (p : Nat)).doc ≠ 0
  dd : docE ns ((descAt ns (p : Nat)).doc : Nat) = 0
  f1 : Fit (ns ++ [eltD nm l (descAt ns (p : Nat)).doc])
  kd : (descAt (ns ++ [eltD nm l (descAt ns (p : Nat)).doc]) (p : Nat)).kind = 1 → kidsAt (ns ++ [eltD nm l (descAt ns (p : Nat)).doc]) (p : Nat) = []
  pt : PutOk (ns ++ [eltD nm l (descAt ns (p : Nat)).doc]) (p : Nat) ((ns.length + 1 : Nat) : Int) 0
noncomputable def binL (ns : List Nd) (nm : List UInt8) (l : List Att) (p : Nat) : List Nd := putR (ns ++ [eltD nm l (descAt ns (p : Nat)).doc]) (p : Nat) ((ns.length + 1 : Nat) : Int) 0
theorem run_first (b : Nat) (args : Array Value) (w : World) : (callFunc 105 args).run Tryz.prog w = .ok (.enter 105 args) w := by simp [go_sem]
/-- An element has been inserted: its number, the builder then. -/
def InsQ (b : Nat) (PB : AB → Prop) (OA : List Nat) (n2 : List Nd) (its' : List It) (doc m : Nat) (w : World) (e : Ending) (w' : World) : Prop := e = .returned (.int .i64 (m : Nat)) ∧ ∃ B' O' iv', PB B' ∧ BuS b B' O' n2 its' iv' doc w' ∧ AStep (b :: OA) w (b :: O') w'
set_option maxRecDepth 100000 in
set_option maxHeartbeats 4000000 in
theorem binsert_gen (nm : List UInt8) (l : List Att) (p : Nat) (w : World) {b : Nat} {B : AB} (PB : AB → Prop) {OA : List Nat} {ns : List Nd} {its : List It} {iv : Value} {doc : Nat} {a : Option Addr} {c : Nat} (n1 : List Nd) (k : Nat) (hS : BuS b B OA ns its iv doc w)
    (hpl : placeL ns its doc = p) (hf : Fit ns) (hil : its.length ≤ 10000) (hf1 : Fit n1) (hkd : (descAt n1 (p : Nat)).kind = 1 → kidsAt n1 (p : Nat) = []) (hpt : PutOk n1 (p : Nat) ((k + 1 : Nat) : Int) 0)
    (H2 : ∀ w', Below w.heap.size w w' → Calls Tryz.prog 105 #[.pointer (some ⟨b, 0, none⟩), tokV nm (.slice a l.length c), .int .i64 1, .int .i64 (p : Nat)] w' fun e w'' => e = .returned (itV { node := k + 1, space := 1, name := nm }) ∧ ∃ B' O', PB B' ∧ BuS b B' O' n1 its iv doc w'' ∧ AStep (b :: OA) w' (b :: O') w'') :
    Calls Tryz.prog 110 #[.pointer (some ⟨b, 0, none⟩), .func (.func 105) #[.pointer (some ⟨b, 0, none⟩)] #[], tokV nm (.slice a l.length c), .int .i64 1] w (InsQ b PB OA (putR n1 (p : Nat) ((k + 1 : Nat) : Int) 0) (its ++ [{ node := k + 1, space := 1, name := nm }]) doc (k + 1) w) := by
  obtain ⟨W0, hW0⟩ : ∃ W0, w.alloc (.cells #[.int .i64 2, .string ⟨nm.toArray⟩, .bool false, .string ⟨#[]⟩, .bool false, .string ⟨#[]⟩, .bool false, .bool false, .slice a l.length c, .bool false, .string ⟨#[]⟩, .int .i32 0] 51) = W0 := ⟨_, rfl⟩
  have x0 : W0.heap[w.heap.size]? = some (.cells #[.int .i64 2, .string ⟨nm.toArray⟩, .bool false, .string ⟨#[]⟩, .bool false, .string ⟨#[]⟩, .bool false, .bool false, .slice a l.length c, .bool false, .string ⟨#[]⟩, .int .i32 0] 51 (0, 0)) := by rw [← hW0]; exact World.alloc_heap_new w _
  have b0 : Below w.heap.size w W0 := by rw [← hW0]; exact balloc w _
  have H1 := Place_any W0 (hS.later b0) hf (by omega)
  rw [hpl] at H1
  have H1 := Lib.hid H1
  have H2 := Lib.hid H2
  have H3 := Lib.hid (fun B' O1 w' (hb : BuS b B' O1 n1 its iv doc w') => bput_any ((k + 1 : Nat) : Int) (p : Nat) 0 w' hb hf1 hkd hpt)
  have H4 := Lib.hid (fun B' O1 w' (hb : BuS b B' O1 (putR n1 (p : Nat) ((k + 1 : Nat) : Int) 0) its iv doc w') => Push_any { node := k + 1, space := 1, name := nm } w' hb (by omega))
  have HS := Lib.hid hS; have HW := Lib.hid hW0; have X0 := Lib.hid x0; have HB0 := Lib.hid b0
  unfold InsQ
  generalize putR n1 (p : Nat) ((k + 1 : Nat) : Int) 0 = n2 at *
  have hlt := hS.lt
  clear hS hpl hf hf1 hkd hpt hW0 x0 b0
  unfold tokV at *
  go_enter Tryz.func110, Tryz.ntmps110
  go_wp2_with fail
  rw [HW.out]
  refine H1.out.mono ?_
  rintro e w1 ⟨rfl, b1⟩
  have hb1 := bthen HB0.out HB0.out.size b1
  have x1 := (b1.block _ (Array.getElem?_eq_some_iff.1 X0.out).1).trans X0.out
  have y0 : w1.cell? ⟨w.heap.size, 0, none⟩ = some (.int .i64 2) := by rw [cell_of_row _ _ _ _ _ _ x1]; rfl
  have y1 : w1.cell? ⟨w.heap.size, 1, none⟩ = some (.string ⟨nm.toArray⟩) := by rw [cell_of_row _ _ _ _ _ _ x1]; rfl
  have y2 : w1.cell? ⟨w.heap.size, 2, none⟩ = some (.bool false) := by rw [cell_of_row _ _ _ _ _ _ x1]; rfl
  have y3 : w1.cell? ⟨w.heap.size, 3, none⟩ = some (.string ⟨#[]⟩) := by rw [cell_of_row _ _ _ _ _ _ x1]; rfl
  have y4 : w1.cell? ⟨w.heap.size, 4, none⟩ = some (.bool false) := by rw [cell_of_row _ _ _ _ _ _ x1]; rfl
  have y5 : w1.cell? ⟨w.heap.size, 5, none⟩ = some (.string ⟨#[]⟩) := by rw [cell_of_row _ _ _ _ _ _ x1]; rfl
  have y6 : w1.cell? ⟨w.heap.size, 6, none⟩ = some (.bool false) := by rw [cell_of_row _ _ _ _ _ _ x1]; rfl
  have y7 : w1.cell? ⟨w.heap.size, 7, none⟩ = some (.bool false) := by rw [cell_of_row _ _ _ _ _ _ x1]; rfl
  have y8 : w1.cell? ⟨w.heap.size, 8, none⟩ = some (.slice a l.length c) := by rw [cell_of_row _ _ _ _ _ _ x1]; rfl
  have y9 : w1.cell? ⟨w.heap.size, 9, none⟩ = some (.bool false) := by rw [cell_of_row _ _ _ _ _ _ x1]; rfl
  have y10 : w1.cell? ⟨w.heap.size, 10, none⟩ = some (.string ⟨#[]⟩) := by rw [cell_of_row _ _ _ _ _ _ x1]; rfl
  have y11 : w1.cell? ⟨w.heap.size, 11, none⟩ = some (.int .i32 0) := by rw [cell_of_row _ _ _ _ _ _ x1]; rfl
  have HB1 := Lib.hid hb1
  clear hb1 x1 b1 H1
  go_wp2_with fail
  refine (H2.out w1 HB1.out).mono ?_
  rintro e w2 ⟨rfl, B', O1, hPB, hS2, hs2⟩
  have HS2 := Lib.hid hS2
  have HST2 := Lib.hid (show AStep (b :: OA) w (b :: O1) w2 from astep_pre HB1.out hs2)
  clear hS2 hs2 y0 y1 y2 y3 y4 y5 y6 y7 y8 y9 y10 y11
  simp only [itV]
  go_wp2_with fail
  generalize hW3 : w2.alloc _ = W3
  have z3 : W3.heap[w2.heap.size]? = some (.cells #[.int .i64 ((k + 1 : Nat) : Int), .int .i64 1, .string ⟨nm.toArray⟩, .bool false] 66 (0, 0)) := by rw [← hW3]; exact World.alloc_heap_new w2 _
  have b3 : Below w2.heap.size w2 W3 := by rw [← hW3]; exact balloc w2 _
  have HS3 := Lib.hid (HS2.out.later b3)
  have HST3 := Lib.hid (HST2.out.trans (⟨Mod.of_below b3, fun k hk => .inl hk⟩ : AStep (b :: O1) w2 (b :: O1) W3))
  have Z3 := Lib.hid z3; have HB3 := Lib.hid b3
  have H5 := Lib.hid (H3.out B' O1 W3 HS3.out)
  clear hW3 z3 b3
  refine H5.out.mono ?_
  rintro e w4 ⟨rfl, O2, hS4, hs4⟩
  have hb2s : w2.heap.size < W3.heap.size := (Array.getElem?_eq_some_iff.1 Z3.out).1
  have hbw : b < w2.heap.size := HS2.out.lt
  have hz4 := (hs4.mod.block w2.heap.size hb2s (fun hk => by
    rcases List.mem_cons.1 hk with h | h
    · omega
    · have := HS2.out.ar.lt h; omega)).trans Z3.out
  have hn4 : ∀ k ∈ b :: O2, k ≠ w2.heap.size := fun k hk e => by
    rcases hs4.own k hk with h | h
    · rcases List.mem_cons.1 h with h | h
      · omega
      · have := HS2.out.ar.lt h; omega
    · omega
  have hs4s := hs4.mod.size
  have HS4 := Lib.hid hS4; have HST4 := Lib.hid (HST3.out.trans hs4); have HN4 := Lib.hid hn4; have Z4 := Lib.hid hz4
  have HS4d := Lib.hid hS4.drew; have HST4d := Lib.hid (HST3.out.trans hs4).drew
  have y0 : w4.cell? ⟨w2.heap.size, 0, none⟩ = some (.int .i64 ((k + 1 : Nat) : Int)) := by rw [cell_of_row _ _ _ _ _ _ hz4]; rfl
  have y1 : w4.cell? ⟨w2.heap.size, 1, none⟩ = some (.int .i64 1) := by rw [cell_of_row _ _ _ _ _ _ hz4]; rfl
  have y2 : w4.cell? ⟨w2.heap.size, 2, none⟩ = some (.string ⟨nm.toArray⟩) := by rw [cell_of_row _ _ _ _ _ _ hz4]; rfl
  have y3 : w4.cell? ⟨w2.heap.size, 3, none⟩ = some (.bool false) := by rw [cell_of_row _ _ _ _ _ _ hz4]; rfl
  clear hS4 hs4 hz4 hn4 H5 H3
  go_wp2_with fail
  go_region_with ((go_at_call 106
                   refine (H4.out B' O2 _ (by first | exact HS4.out | exact HS4d.out)).mono ?_
                   rintro e w5 ⟨rfl, iv', hS5, hs5⟩
                   have hz5 := (hs5.mod.block w2.heap.size (by first | exact Nat.lt_of_lt_of_le hb2s hs4s) (fun hk => HN4.out _ hk rfl)).trans Z4.out
                   have u0 : w5.cell? ⟨w2.heap.size, 0, none⟩ = some (.int .i64 ((k + 1 : Nat) : Int)) := by rw [cell_of_row _ _ _ _ _ _ hz5]; rfl
                   have HF := Lib.hid (show ∃ B' O' iv', PB B' ∧ BuS b B' O' n2 (its ++ [{ node := k + 1, space := 1, name := nm }]) iv' doc w5 ∧ AStep (b :: OA) w (b :: O') w5 from ⟨B', O2, iv', hPB, hS5, by first | exact HST4.out.trans hs5 | exact HST4d.out.trans hs5⟩)
                   clear hz5 hS5 hs5))
  all_goals
    go_wp2_with fail
    go_ret
    exact ⟨rfl, HF.out⟩
theorem binsert_any (nm : List UInt8) (l : List Att) (p : Nat) (w : World) {b : Nat} {B : AB} {OA : List Nat} {ns : List Nd} {its : List It} {iv : Value} {doc : Nat} {a : Option Addr} {c : Nat} (hS : BuS b B OA ns its iv doc w) (hc : AttsAt w a l) (hok : BinOk ns its doc nm l p) :
    Calls Tryz.prog 110 #[.pointer (some ⟨b, 0, none⟩), .func (.func 105) #[.pointer (some ⟨b, 0, none⟩)] #[], tokV nm (.slice a l.length c), .int .i64 1] w (InsQ b (· = B) OA (binL ns nm l p) (its ++ [{ node := ns.length + 1, space := 1, name := nm }]) doc (ns.length + 1) w) := by
  obtain ⟨hpl, hf, hil, hal, han, hnt, hct, hdn, hdd, hf1, hkd, hpt⟩ := hok
  exact binsert_gen nm l p w (· = B) _ ns.length hS hpl hf hil hf1 hkd hpt fun w' hb => (Create_html nm l (p : Nat) w' (a := a) (c := c) (hS.later hb) hf hal han (hc.later hb) hnt hct hdn hdd).mono fun e w'' ⟨h1, O', h2, h3⟩ => ⟨h1, B, O', rfl, h2, h3⟩
set_option maxRecDepth 100000 in
set_option maxHeartbeats 2000000 in
theorem bForeign_gen (nm : List UInt8) (l : List Att) (m : Nat) (w : World) {b : Nat} {B : AB} {PB : AB → Prop} {OA : List Nat} {ns n2 : List Nd} {its its' : List It} {iv : Value} {doc : Nat} {a : Option Addr} {c : Nat} (hS : BuS b B OA ns its iv doc w)
    (H2 : ∀ w', Below w.heap.size w w' → Calls Tryz.prog 110 #[.pointer (some ⟨b, 0, none⟩), .func (.func 105) #[.pointer (some ⟨b, 0, none⟩)] #[], tokV nm (.slice a l.length c), .int .i64 1] w' (InsQ b PB OA n2 its' doc m w')) :
    Calls Tryz.prog 60 #[.pointer (some ⟨b, 0, none⟩), tokV nm (.slice a l.length c), .int .i64 1] w (InsQ b PB OA n2 its' doc m w) := by
  obtain ⟨W0, hW0⟩ : ∃ W0, w.alloc (.cells #[.int .i64 2, .string ⟨nm.toArray⟩, .bool false, .string ⟨#[]⟩, .bool false, .string ⟨#[]⟩, .bool false, .bool false, .slice a l.length c, .bool false, .string ⟨#[]⟩, .int .i32 0] 51) = W0 := ⟨_, rfl⟩
  have x1 : W0.heap[w.heap.size]? = some (.cells #[.int .i64 2, .string ⟨nm.toArray⟩, .bool false, .string ⟨#[]⟩, .bool false, .string ⟨#[]⟩, .bool false, .bool false, .slice a l.length c, .bool false, .string ⟨#[]⟩, .int .i32 0] 51 (0, 0)) := by rw [← hW0]; exact World.alloc_heap_new w _
  have b0 : Below w.heap.size w W0 := by rw [← hW0]; exact balloc w _
  have H1 := Lib.hid (there_any W0 (hS.later b0).c0)
  have H2 := Lib.hid (H2 W0 b0)
  have y0 : W0.cell? ⟨w.heap.size, 0, none⟩ = some (.int .i64 2) := by rw [cell_of_row _ _ _ _ _ _ x1]; rfl
  have y1 : W0.cell? ⟨w.heap.size, 1, none⟩ = some (.string ⟨nm.toArray⟩) := by rw [cell_of_row _ _ _ _ _ _ x1]; rfl
  have y2 : W0.cell? ⟨w.heap.size, 2, none⟩ = some (.bool false) := by rw [cell_of_row _ _ _ _ _ _ x1]; rfl
  have y3 : W0.cell? ⟨w.heap.size, 3, none⟩ = some (.string ⟨#[]⟩) := by rw [cell_of_row _ _ _ _ _ _ x1]; rfl
  have y4 : W0.cell? ⟨w.heap.size, 4, none⟩ = some (.bool false) := by rw [cell_of_row _ _ _ _ _ _ x1]; rfl
  have y5 : W0.cell? ⟨w.heap.size, 5, none⟩ = some (.string ⟨#[]⟩) := by rw [cell_of_row _ _ _ _ _ _ x1]; rfl
  have y6 : W0.cell? ⟨w.heap.size, 6, none⟩ = some (.bool false) := by rw [cell_of_row _ _ _ _ _ _ x1]; rfl
  have y7 : W0.cell? ⟨w.heap.size, 7, none⟩ = some (.bool false) := by rw [cell_of_row _ _ _ _ _ _ x1]; rfl
  have y8 : W0.cell? ⟨w.heap.size, 8, none⟩ = some (.slice a l.length c) := by rw [cell_of_row _ _ _ _ _ _ x1]; rfl
  have y9 : W0.cell? ⟨w.heap.size, 9, none⟩ = some (.bool false) := by rw [cell_of_row _ _ _ _ _ _ x1]; rfl
  have y10 : W0.cell? ⟨w.heap.size, 10, none⟩ = some (.string ⟨#[]⟩) := by rw [cell_of_row _ _ _ _ _ _ x1]; rfl
  have y11 : W0.cell? ⟨w.heap.size, 11, none⟩ = some (.int .i32 0) := by rw [cell_of_row _ _ _ _ _ _ x1]; rfl
  have hmf : ∀ (fn : Fn) (first cap : Array Value) (w : World), (Instr.makeFunc fn first cap).run Tryz.prog w = .ok (.func fn first cap) w := fun _ _ _ _ => rfl
  have HW := Lib.hid hW0; have HB0 := Lib.hid b0
  clear hS hW0 x1 b0
  unfold InsQ at *
  unfold tokV at *
  go_enter Tryz.func60, Tryz.ntmps60
  go_wp2_with fail
  rw [HW.out]
  refine H1.out.mono ?_
  rintro e w1 ⟨rfl, rfl⟩
  go_wp2_with fail
  refine H2.out.mono ?_
  rintro e w2 ⟨rfl, B', O', iv', hPB, hS', hs'⟩
  have HF := Lib.hid (show ∃ B' O' iv', PB B' ∧ BuS b B' O' n2 its' iv' doc w2 ∧ AStep (b :: OA) w (b :: O') w2 from ⟨B', O', iv', hPB, hS', astep_pre HB0.out hs'⟩)
  clear hS' hs' H1 H2
  go_wp2_with fail
  go_ret
  exact ⟨rfl, HF.out⟩
end Go.Proofs.YtdapdadcninidaaGreatDoor
namespace Go.Proofs.YtdapdadcninidaaGreatDoor
open Go.RowKit
attribute [local go_sem ↓] Go.wp_at_zero Go.wp_at_succ

set_option maxRecDepth 100000 in
set_option maxHeartbeats 2000000 in
theorem bInsert_gen (nm : List UInt8) (l : List Att) (m : Nat) (w : World) {b : Nat} {B : AB} {PB : AB → Prop} {OA : List Nat} {ns n2 : List Nd} {its its' : List It} {iv : Value} {doc : Nat} {a : Option Addr} {c : Nat} (hS : BuS b B OA ns its iv doc w)
    (H2 : ∀ w', Below w.heap.size w w' → Calls Tryz.prog 110 #[.pointer (some ⟨b, 0, none⟩), .func (.func 105) #[.pointer (some ⟨b, 0, none⟩)] #[], tokV nm (.slice a l.length c), .int .i64 1] w' (InsQ b PB OA n2 its' doc m w')) :
    Calls Tryz.prog 21 #[.pointer (some ⟨b, 0, none⟩), tokV nm (.slice a l.length c)] w (InsQ b PB OA n2 its' doc m w) := by
  obtain ⟨W0, hW0⟩ : ∃ W0, w.alloc (.cells #[.int .i64 2, .string ⟨nm.toArray⟩, .bool false, .string ⟨#[]⟩, .bool false, .string ⟨#[]⟩, .bool false, .bool false, .slice a l.length c, .bool false, .string ⟨#[]⟩, .int .i32 0] 51) = W0 := ⟨_, rfl⟩
  have x1 : W0.heap[w.heap.size]? = some (.cells #[.int .i64 2, .string ⟨nm.toArray⟩, .bool false, .string ⟨#[]⟩, .bool false, .string ⟨#[]⟩, .bool false, .bool false, .slice a l.length c, .bool false, .string ⟨#[]⟩, .int .i32 0] 51 (0, 0)) := by rw [← hW0]; exact World.alloc_heap_new w _
  have b0 : Below w.heap.size w W0 := by rw [← hW0]; exact balloc w _
  have H2 := Lib.hid (bForeign_gen nm l m W0 (a := a) (c := c) (hS.later b0) fun w' hb => H2 w' (bthen b0 b0.size hb))
  have y0 : W0.cell? ⟨w.heap.size, 0, none⟩ = some (.int .i64 2) := by rw [cell_of_row _ _ _ _ _ _ x1]; rfl
  have y1 : W0.cell? ⟨w.heap.size, 1, none⟩ = some (.string ⟨nm.toArray⟩) := by rw [cell_of_row _ _ _ _ _ _ x1]; rfl
  have y2 : W0.cell? ⟨w.heap.size, 2, none⟩ = some (.bool false) := by rw [cell_of_row _ _ _ _ _ _ x1]; rfl
  have y3 : W0.cell? ⟨w.heap.size, 3, none⟩ = some (.string ⟨#[]⟩) := by rw [cell_of_row _ _ _ _ _ _ x1]; rfl
  have y4 : W0.cell? ⟨w.heap.size, 4, none⟩ = some (.bool false) := by rw [cell_of_row _ _ _ _ _ _ x1]; rfl
  have y5 : W0.cell? ⟨w.heap.size, 5, none⟩ = some (.string ⟨#[]⟩) := by rw [cell_of_row _ _ _ _ _ _ x1]; rfl
  have y6 : W0.cell? ⟨w.heap.size, 6, none⟩ = some (.bool false) := by rw [cell_of_row _ _ _ _ _ _ x1]; rfl
  have y7 : W0.cell? ⟨w.heap.size, 7, none⟩ = some (.bool false) := by rw [cell_of_row _ _ _ _ _ _ x1]; rfl
  have y8 : W0.cell? ⟨w.heap.size, 8, none⟩ = some (.slice a l.length c) := by rw [cell_of_row _ _ _ _ _ _ x1]; rfl
  have y9 : W0.cell? ⟨w.heap.size, 9, none⟩ = some (.bool false) := by rw [cell_of_row _ _ _ _ _ _ x1]; rfl
  have y10 : W0.cell? ⟨w.heap.size, 10, none⟩ = some (.string ⟨#[]⟩) := by rw [cell_of_row _ _ _ _ _ _ x1]; rfl
  have y11 : W0.cell? ⟨w.heap.size, 11, none⟩ = some (.int .i32 0) := by rw [cell_of_row _ _ _ _ _ _ x1]; rfl
  have HW := Lib.hid hW0; have HB0 := Lib.hid b0
  clear hS hW0 x1 b0
  unfold InsQ at *
  unfold tokV at *
  go_enter Tryz.func21, Tryz.ntmps21
  go_wp2_with fail
  rw [HW.out]
  go_wp2_with fail
  refine H2.out.mono ?_
  rintro e w2 ⟨rfl, B', O', iv', hPB, hS', hs'⟩
  have HF := Lib.hid (show ∃ B' O' iv', PB B' ∧ BuS b B' O' n2 its' iv' doc w2 ∧ AStep (b :: OA) w (b :: O') w2 from ⟨B', O', iv', hPB, hS', astep_pre HB0.out hs'⟩)
  clear hS' hs' H2
  go_wp2_with fail
  go_ret
  exact ⟨rfl, HF.out⟩
theorem bInsert_any (nm : List UInt8) (l : List Att) (p : Nat) (w : World) {b : Nat} {B : AB} {OA : List Nat} {ns : List Nd} {its : List It} {iv : Value} {doc : Nat} {a : Option Addr} {c : Nat} (hS : BuS b B OA ns its iv doc w) (hc : AttsAt w a l) (hok : BinOk ns its doc nm l p) :
    Calls Tryz.prog 21 #[.pointer (some ⟨b, 0, none⟩), tokV nm (.slice a l.length c)] w fun e w' =>
      e = .returned (.int .i64 ((ns.length + 1 : Nat) : Int)) ∧ ∃ O' iv', BuS b B O' (binL ns nm l p) (its ++ [{ node := ns.length + 1, space := 1, name := nm }]) iv' doc w' ∧ AStep (b :: OA) w (b :: O') w' :=
  (bInsert_gen nm l _ w hS fun w' hb => binsert_any nm l p w' (hS.later hb) (hc.later hb) hok).mono fun e w' ⟨h1, B', O', iv', hB, h2, h3⟩ => ⟨h1, O', iv', hB ▸ h2, h3⟩
set_option maxRecDepth 100000 in
theorem aLen_any (w : World) {B : AB} {O : List Nat} {ns : List Nd} (hA : ArW B O ns w) : Calls Tryz.prog 26 #[.pointer (some ⟨B, 0, none⟩)] w fun e w' => e = .returned (.int .i64 (ns.length : Nat)) ∧ w = w' := by
  obtain ⟨ad, cap, c0⟩ := hA.inlen
  clear hA
  go_enter Tryz.func26, Tryz.ntmps26
  go_wp2
  go_ret
  exact ⟨rfl, rfl⟩
theorem astep_under {n : Nat} {O O' : List Nat} {w0 w1 w2 : World} (h : AStep O w1 O' w2) (hb : Below n w0 w1) (hn : n ≤ w1.heap.size) (hO : ∀ k ∈ O, n ≤ k) : Below n w0 w2 :=
  hb.trans (h.mod.below hn fun k hk hkO => by have := hO k hkO; omega)
def startV : Value := .agg #[.bool false, .int .i64 0, .string ⟨#[]⟩, .slice none 0 0, .bool false, .bool false]
set_option maxRecDepth 100000 in
set_option maxHeartbeats 1000000 in
theorem Begin_zero (w : World) : Calls Tryz.prog 20 #[startV] w fun e w' => ∃ b B OA, e = .returned (.pointer (some ⟨b, 0, none⟩)) ∧ B.iv = .map none ∧ BuS b B OA [{ kind := 1, doc := 1 }] [] (.slice none 0 0) 1 w' ∧ Below w.heap.size w w' ∧ w.heap.size ≤ b ∧ ∀ k ∈ OA, w.heap.size ≤ k := by
  have HN := Lib.hid New_any
  have HB0 := Lib.hid (fun o => balloc w o)
  unfold startV
  go_enter Tryz.func20, Tryz.ntmps20
  go_wp2_with fail
  generalize hW : w.alloc _ = W0
  have x1 : W0.heap[w.heap.size]? = some (.cells #[.bool false, .int .i64 0, .string ⟨#[]⟩, .slice none 0 0, .bool false, .bool false] 47 (0, 0)) := by rw [← hW]; exact World.alloc_heap_new w _
  have hb0 : Below w.heap.size w W0 := by rw [← hW]; exact balloc w _
  refine (HN.out W0).mono ?_
  rintro e w1 ⟨rfl, hA1, b1⟩
  have hx := (b1.block _ (Array.getElem?_eq_some_iff.1 x1).1).trans x1
  have hb1 := bthen hb0 hb0.size b1
  have hs0 := hb0.size
  have hlt : w.heap.size < w1.heap.size := Nat.lt_of_lt_of_le (Array.getElem?_eq_some_iff.1 x1).1 b1.size
  have hne : w.heap.size < W0.heap.size := (Array.getElem?_eq_some_iff.1 x1).1
  have y4 : w1.cell? ⟨w.heap.size, 4, none⟩ = some (.bool false) := by rw [cell_of_row _ _ _ _ _ _ hx]; rfl
  have HX := Lib.hid hx; have HB1 := Lib.hid hb1; have HA1 := Lib.hid hA1
  have H2 := Lib.hid (Document_any false w1 hA1 (Nat.zero_le _))
  clear hW x1 hb0 hA1 b1 hx hb1
  go_wp2_with fail
  refine H2.out.mono ?_
  rintro e w2 ⟨rfl, O2, hA2, hs2⟩
  have hx2 := (hs2.mod.block w.heap.size hlt (by simp; omega)).trans HX.out
  have y0 : w2.cell? ⟨w.heap.size, 0, none⟩ = some (.bool false) := by rw [cell_of_row _ _ _ _ _ _ hx2]; rfl
  have hb2 : Below w.heap.size w w2 := astep_under hs2 HB1.out HB1.out.size (by simp; omega)
  have hO2 : ∀ k ∈ O2, w.heap.size ≤ k := fun k hk => by
    rcases hs2.own k hk with h | h
    · simp at h; omega
    · omega
  have HB2 := Lib.hid hb2; have HO2 := Lib.hid hO2
  have H3 := Lib.hid (bNew_any 1 w2 (ns := [{ kind := 1, doc := 1 }]) hA2 ⟨by simp, by simp, by simp⟩ rfl rfl)
  clear hx2 hb2 hO2 hA2 hs2 y4 H2
  go_wp2_with fail
  refine H3.out.mono ?_
  rintro e w3 ⟨b, rfl, hge, hS, b3⟩
  have HF := Lib.hid (show ∃ b' B OA, (Ending.returned (.pointer (some ⟨b, 0, none⟩))) = .returned (.pointer (some ⟨b', 0, none⟩)) ∧ B.iv = .map none ∧ BuS b' B OA [{ kind := 1, doc := 1 }] [] (.slice none 0 0) 1 w3 ∧ Below w.heap.size w w3 ∧ w.heap.size ≤ b' ∧ ∀ k ∈ OA, w.heap.size ≤ k from
    ⟨b, ⟨W0.heap.size, .map none⟩, O2, rfl, rfl, hS, bthen HB2.out HB2.out.size b3, Nat.le_trans HB2.out.size hge, HO2.out⟩)
  clear hS b3 H3
  go_wp2_with fail
  go_ret
  exact HF.out
end Go.Proofs.YtdapdadcninidaaGreatDoor
