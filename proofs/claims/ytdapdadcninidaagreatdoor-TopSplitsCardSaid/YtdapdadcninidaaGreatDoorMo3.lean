/- Package dom: CreateElement, SetTextContent, of what they accept. No condition but that the nodes are linked well. -/
import Derived.Test.YtdapdadcninidaaGreatDoorMov
import Derived.Test.YtdapdadcninidaaGreatDoorCls4
import Derived.Test.YtdapdadcninidaaGreatDoorLow
namespace Go.Proofs.YtdapdadcninidaaGreatDoor
open Go.RowKit
attribute [local go_sem ↓] Go.wp_at_zero Go.wp_at_succ

set_option maxRecDepth 100000 in
set_option maxHeartbeats 1000000 in
theorem CreateElement_ok (doc : Nat) (nm : List UInt8) (w : World) {B : Nat} {O : List Nat} {ns : List Nd} (hA : ArW B O ns w) (hf : Fit ns) (hh : isH ns.length doc = true) (hk : (ndAt ns doc).kind = 1) (hv : validElem nm = true) (hl : nm.length ≤ 1000000) (ht : (lowL nm == tmplW) = false) :
    Calls Tryz.prog 33 #[.pointer (some ⟨B, 0, none⟩), .int .i64 (doc : Int), .string ⟨nm.toArray⟩] w fun e w' =>
      e = .returned (.tuple #[.int .i64 ((ns.length + 1 : Nat) : Int), .int .i64 0]) ∧ ∃ O', ArW B O' (ns ++ [{ kind := 4, space := 1, name := lowL nm, doc := doc }]) w' ∧ AStep O w O' w' := by
  obtain ⟨W0, hW0⟩ : ∃ W0, w.alloc (.cells #[.int .i64 (doc : Int)] 3) = W0 := ⟨_, rfl⟩
  have b0 : Below w.heap.size w W0 := by rw [← hW0]; exact balloc w _
  have hbx : W0.heap[w.heap.size]? = some (.cells #[.int .i64 (doc : Int)] 3 (0, 0)) := by rw [← hW0]; exact World.alloc_heap_new w _
  have hs0 : W0.heap.size = w.heap.size + 1 := by rw [← hW0]; simp
  have H1 := checkD_any (B := B) (H := w.heap.size) (c := 1) (-1) [(doc : Int)] W0 (hA.later b0) hf (by intro j v hj; match j, hj with | 0, hj => simp at hj; subst hj; rw [cell_of_row _ _ _ _ _ _ hbx]; rfl) (by simp) (by omega)
  rw [show chkD ns.length (-1) [(doc : Int)] = 0 by simp [chkD, chkFrom, hh]] at H1
  have H2 := fun w' (hb : Below w.heap.size w w') => kind_any (doc : Int) w' (hA.later hb) hf
  rw [show (descAt ns doc).kind = 1 by rw [descAt, if_pos hh, hk]] at H2
  have hd : docE ns (doc : Int) = 0 := by simp [docE, hh, hk]
  have H3 := fun w' => hv ▸ ValidElement_any nm w' (by unfold maxLen; omega)
  have H4 := Lib.hid (fun w' => Lower_any nm w' (by omega))
  have H5 := Lib.hid (fun w' (hb : Below w.heap.size w w') => Element_any doc 1 (lowL nm) w' (hA.later hb) hf.len (by decide) ht)
  have H1 := Lib.hid H1; have H2 := Lib.hid H2; have H3 := Lib.hid H3; have HW := Lib.hid hW0; have HB0 := Lib.hid b0; have HD := Lib.hid hd
  clear hA hf hh hk hv hl ht hW0 b0 hbx hs0 hd
  generalize lowL nm = ln at *
  go_enter Tryz.func33, Tryz.ntmps33
  go_wp2_with fail
  rw [HW.out]
  refine H1.out.mono ?_
  rintro e w1 ⟨rfl, b1⟩
  have HB1 := Lib.hid (bthen HB0.out HB0.out.size b1)
  clear b1 H1
  go_wp2_with fail
  refine (H2.out _ HB1.out).mono ?_
  rintro e w2 ⟨rfl, b2⟩
  have HB2 := Lib.hid (bthen HB1.out HB1.out.size b2)
  clear b2 H2
  go_wp2_with fail
  refine (H3.out _).mono ?_
  rintro e w3 ⟨rfl, b3⟩
  have HB3 := Lib.hid (bthen HB2.out HB2.out.size b3)
  clear b3 H3
  go_wp2_with fail
  refine (H4.out _).mono ?_
  rintro e w4 ⟨rfl, b4⟩
  have HB4 := Lib.hid (bthen HB3.out HB3.out.size b4)
  clear b4 H4
  go_wp2_with fail
  refine (H5.out _ HB4.out).mono ?_
  rintro e w5 hm
  rcases hm with ⟨h0, _, _⟩ | ⟨_, rfl, O', hA', hs'⟩
  · exact absurd HD.out h0
  · have HF := Lib.hid (show ∃ O', ArW B O' (ns ++ [{ kind := 4, space := 1, name := ln, doc := doc }]) w5 ∧ AStep O w O' w5 from ⟨O', hA', astep_pre HB4.out hs'⟩)
    clear hA' hs' H5
    obtain ⟨y, hy⟩ : ∃ y : Int, ((ns.length + 1 : Nat) : Int) = y := ⟨_, rfl⟩
    rw [hy]
    have HY := Lib.hid hy
    clear hy
    go_wp2_with fail
    go_ret2
    exact ⟨by rw [HY.out]; rfl, HF.out⟩
set_option maxRecDepth 100000 in
theorem empty_nil (p : Int) (w : World) {B : Nat} {O : List Nat} {ns : List Nd} (hA : ArW B O ns w) (hf : Fit ns) (hk : kidsAt ns p = []) :
    Calls Tryz.prog 84 #[.pointer (some ⟨B, 0, none⟩), .int .i64 p] w (Ret w (.tuple #[])) := by
  have H1 := Kids_any p w hA hf.len (hf.kids p)
  rw [hk] at H1
  have H1 := Lib.hid H1
  clear hA hf hk
  go_enter Tryz.func84, Tryz.ntmps84
  go_wp2_with fail
  refine H1.out.mono ?_
  rintro e w1 ⟨v, rfl, hr, b1⟩
  obtain ⟨ka, kc, rfl⟩ := ownsRow_slice hr
  have HB1 := Lib.hid b1
  clear hr b1 H1
  go_wp2_with fail
  go_loop [10] (fun i => i = .int .i64 0) (fun _ => 0)
  case atStart => rfl
  case round =>
    subst hrel
    go_wp2_with fail
    go_end0
    exact Ret.mk rfl HB1.out
set_option maxRecDepth 100000 in
set_option maxHeartbeats 1000000 in
/-- SetTextContent, of an element without children. -/
theorem SetText_el (h : Int) (s : List UInt8) (w : World) {B : Nat} {O : List Nat} {ns ns2 : List Nd} (hA : ArW B O ns w) (hf : Fit ns) (hh : isH ns.length h = true) (hk : (ndAt ns h).kind = 4) (hks : kidsAt ns h = []) (hs : s ≠ []) (hd : docE ns (ndAt ns h).doc = 0)
    (hf1 : Fit (ns ++ [{ kind := 5, data := s, doc := (ndAt ns h).doc }])) (hp : PutOk (ns ++ [{ kind := 5, data := s, doc := (ndAt ns h).doc }]) h ((ns.length + 1 : Nat) : Int) 0) (hpe : putE (ns ++ [{ kind := 5, data := s, doc := (ndAt ns h).doc }]) h ((ns.length + 1 : Nat) : Int) 0 = 0)
    (h2 : putL (ns ++ [{ kind := 5, data := s, doc := (ndAt ns h).doc }]) h ((ns.length + 1 : Nat) : Int) 0 = ns2) :
    Calls Tryz.prog 35 #[.pointer (some ⟨B, 0, none⟩), .int .i64 h, .string ⟨s.toArray⟩] w fun e w' => e = .returned (.int .i64 0) ∧ ∃ O', ArW B O' ns2 w' ∧ AStep O w O' w' := by
  obtain ⟨W0, hW0⟩ : ∃ W0, w.alloc (.cells #[.int .i64 h] 3) = W0 := ⟨_, rfl⟩
  have b0 : Below w.heap.size w W0 := by rw [← hW0]; exact balloc w _
  have hbx : W0.heap[w.heap.size]? = some (.cells #[.int .i64 h] 3 (0, 0)) := by rw [← hW0]; exact World.alloc_heap_new w _
  have hs0 : W0.heap.size = w.heap.size + 1 := by rw [← hW0]; simp
  have H1 := checkD_any (B := B) (H := w.heap.size) (c := 1) (-1) [h] W0 (hA.later b0) hf (by intro j v hj; match j, hj with | 0, hj => simp at hj; subst hj; rw [cell_of_row _ _ _ _ _ _ hbx]; rfl) (by simp) (by omega)
  rw [show chkD ns.length (-1) [h] = 0 by simp [chkD, chkFrom, hh]] at H1
  have H2 := fun w' (hb : Below w.heap.size w w') => kind_any h w' (hA.later hb) hf
  rw [show (descAt ns h).kind = 4 by rw [descAt, if_pos hh, hk]] at H2
  have H3 := Lib.hid (fun w' (hb : Below w.heap.size w w') => empty_nil h w' (hA.later hb) hf hks)
  have H4 := fun w' (hb : Below w.heap.size w w') => docOf_any h w' (hA.later hb) hf
  rw [show (descAt ns h).doc = (ndAt ns h).doc by rw [descAt, if_pos hh]] at H4
  generalize (ndAt ns h).doc = doc at *
  have H5 := Lib.hid (fun w' (hb : Below w.heap.size w w') => Text_any doc s w' (hA.later hb) hf.len)
  have H6 := Lib.hid (fun O1 w' (hb : ArW B O1 (ns ++ [{ kind := 5, data := s, doc := doc }]) w') => Put_any h ((ns.length + 1 : Nat) : Int) 0 w' hb hf1 hp)
  rw [hpe, h2] at H6
  have hsb : s.isEmpty = false := by cases s with | nil => exact absurd rfl hs | cons a l => rfl
  have H1 := Lib.hid H1; have H2 := Lib.hid H2; have H4 := Lib.hid H4; have HW := Lib.hid hW0; have HB0 := Lib.hid b0; have HD := Lib.hid hd
  clear hA hf hh hk hks hs hd hf1 hp hpe h2 hW0 b0 hbx hs0
  go_enter Tryz.func35, Tryz.ntmps35
  go_wp2_with fail
  rw [HW.out]
  refine H1.out.mono ?_
  rintro e w1 ⟨rfl, b1⟩
  have HB1 := Lib.hid (bthen HB0.out HB0.out.size b1)
  clear b1 H1
  go_wp2_with fail
  refine (H2.out _ HB1.out).mono ?_
  rintro e w2 ⟨rfl, b2⟩
  have HB2 := Lib.hid (bthen HB1.out HB1.out.size b2)
  clear b2 H2
  go_wp2_with fail
  refine (H3.out _ HB2.out).mono ?_
  rintro e w3 ⟨rfl, b3⟩
  have HB3 := Lib.hid (bthen HB2.out HB2.out.size b3)
  clear b3 H3
  go_wp2_with fail
  refine (H4.out _ HB3.out).mono ?_
  rintro e w4 ⟨rfl, b4⟩
  have HB4 := Lib.hid (bthen HB3.out HB3.out.size b4)
  clear b4 H4
  go_wp2_with fail
  refine (H5.out _ HB4.out).mono ?_
  rintro e w5 hm
  rcases hm with ⟨h0, _, _⟩ | ⟨_, rfl, O1, hA1, hs1⟩
  · exact absurd HD.out h0
  · rw [Int.toNat_natCast] at hA1
    have H7 := Lib.hid (H6.out O1 w5 hA1)
    have HS1 := Lib.hid (astep_pre HB4.out hs1)
    clear hA1 hs1 H5 H6
    obtain ⟨y, hy⟩ : ∃ y : Int, ((ns.length + 1 : Nat) : Int) = y := ⟨_, rfl⟩
    rw [hy] at H7 ⊢
    clear hy
    go_wp2_with fail
    refine H7.out.mono ?_
    rintro e w6 ⟨rfl, ⟨h0, _⟩ | ⟨_, O2, hA2, hs2⟩⟩
    · exact absurd rfl h0
    · have HF := Lib.hid (show ∃ O', ArW B O' ns2 w6 ∧ AStep O w O' w6 from ⟨O2, hA2, HS1.out.trans hs2⟩)
      clear hA2 hs2 H7
      go_wp2_with fail
      go_ret
      exact ⟨rfl, HF.out⟩
end Go.Proofs.YtdapdadcninidaaGreatDoor
