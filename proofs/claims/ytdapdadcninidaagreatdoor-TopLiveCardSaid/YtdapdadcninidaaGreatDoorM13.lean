/- text.Lower, EqualFold. Package dom: CreateElement, SetTextContent, of what they accept. No condition but that the nodes are linked well. Package dom: CreateElement, SetTextContent, Normalize, in all cases. No condition but the invariant and short strings. Package dom: what duplicate leans on, plain: what stands below a node with its contents, what a copy costs, what it leaves. Blocks that are none of the arena's, over its steps. Plain. Package dom: attribute, SetAttribute, RemoveAttribute, in all cases. No condition but the invariant and short names. -/
import Derived.Test.YtdapdadcninidaaGreatDoorM12
import Derived.Lib.ConvBytes
import Derived.Lib.SlBytesRow
import Derived.Test.YtdapdadcninidaaGreatDoorM9
import Derived.Test.YtdapdadcninidaaGreatDoorM11
import Derived.Deep.QuietTactic
set_option linter.unusedSimpArgs false
set_option linter.unusedVariables false
namespace Go.Proofs.YtdapdadcninidaaGreatDoor
open Go.RowKit
attribute [local go_sem] sext

def lowB (c : UInt8) : UInt8 := if 65 ≤ c ∧ c ≤ 90 then c + 32 else c
def lowL (l : List UInt8) : List UInt8 := l.map lowB

theorem isUpper_iff (c : UInt8) : isUpper (c.toNat : Int) = true ↔ 65 ≤ c ∧ c ≤ 90 := by
  rw [UInt8.le_iff_toNat_le, UInt8.le_iff_toNat_le]
  simp only [isUpper, inRg, Bool.and_eq_true, decide_eq_true_eq]
  have h1 : (65 : UInt8).toNat = 65 := rfl
  have h2 : (90 : UInt8).toNat = 90 := rfl
  rw [h1, h2]
  omega
theorem lowB_up {c : UInt8} (h : isUpper (c.toNat : Int) = true) : ((c.toNat : Int) - 65 + 97) % 256 = ((lowB c).toNat : Int) := by
  have hc := (isUpper_iff c).1 h
  rw [lowB, if_pos hc, UInt8.toNat_add]
  rw [UInt8.le_iff_toNat_le, UInt8.le_iff_toNat_le] at hc
  have h1 : (65 : UInt8).toNat = 65 := rfl
  have h2 : (90 : UInt8).toNat = 90 := rfl
  have h3 : (32 : UInt8).toNat = 32 := rfl
  rw [h1, h2] at hc
  rw [h3]
  omega
theorem lowB_id {c : UInt8} (h : isUpper (c.toNat : Int) = false) : lowB c = c := by
  rw [lowB, if_neg]
  intro hc
  rw [(isUpper_iff c).2 hc] at h
  cases h
/-- Block D holds these bytes and some more cells, and the mark of a conversion's row. -/
def RowAt (W : World) (D n : Nat) (bs : List UInt8) : Prop := ∃ pad : List Value, W.heap[D]? = some (.cells ((Lib.byteCells bs ++ pad).toArray) 5 (n, n + 1)) ∧ bs.length ≤ n
theorem RowAt.cell {W : World} {D n : Nat} {bs : List UInt8} (h : RowAt W D n bs) (i : Nat) (hi : i < bs.length) : W.cell? ⟨D, i, none⟩ = some (.int .u8 (bs[i].toNat : Int)) := by
  obtain ⟨pad, h, _⟩ := h
  simp only [World.cell?, h]
  rw [List.getElem?_toArray, List.getElem?_append_left (by rw [Lib.byteCells_length]; exact hi)]
  simp [Lib.byteCells, hi]
theorem RowAt.frozen {W : World} {D n : Nat} {bs : List UInt8} (h : RowAt W D n bs) (i : Nat) (hi : i < bs.length) : W.frozen? ⟨D, i, none⟩ = false := by
  obtain ⟨pad, h, hn⟩ := h
  simp only [World.frozen?, h]
  simp; omega
theorem RowAt.set {W : World} {D n : Nat} {bs : List UInt8} (h : RowAt W D n bs) (i : Nat) (hi : i < bs.length) (c : UInt8) : RowAt (W.setCell ⟨D, i, none⟩ (.int .u8 (c.toNat : Int))) D n (bs.set i c) := by
  obtain ⟨pad, h, hn⟩ := h
  refine ⟨pad, ?_, by simpa using hn⟩
  show (W.heap.modify D _)[D]? = _
  rw [Array.getElem?_modify, if_pos rfl, h]
  have e : Lib.byteCells (bs.set i c) ++ pad = (Lib.byteCells bs ++ pad).set i (.int .u8 (c.toNat : Int)) := by
    rw [List.set_append_left _ _ (by rw [Lib.byteCells_length]; exact hi)]
    simp [Lib.byteCells, List.map_set]
  rw [e]
  simp
theorem RowAt.kept {A B : World} {D n : Nat} {bs : List UInt8} (h : RowAt A D n bs) (hb : Below A.heap.size A B) : RowAt B D n bs := by
  obtain ⟨pad, h, hn⟩ := h
  exact ⟨pad, (hb.block D (Array.getElem?_eq_some_iff.1 h).1).trans h, hn⟩
theorem RowAt.bytes {W : World} {D n : Nat} {bs : List UInt8} (h : RowAt W D n bs) : Lib.Bytes W D 0 ⟨bs.toArray⟩ := by
  intro i hi
  rw [Nat.zero_add]
  exact h.cell i hi
theorem RowAt.fresh (w : World) (l : List UInt8) : ∃ n, RowAt (Lib.bytesWorld w 5 ⟨l.toArray⟩) w.heap.size n l := by
  refine ⟨(Lib.bytesCells w 5 ⟨l.toArray⟩).size, List.replicate (grownCap w l.length 0 5 - l.length) (.int .u8 0), (Lib.bytesWorld_at_new w _ _).trans ?_, ?_⟩
  · have e : Lib.bytesCells w 5 ⟨l.toArray⟩ = (Lib.byteCells l ++ List.replicate (grownCap w l.length 0 5 - l.length) (Value.int .u8 0)).toArray := by
      apply Array.ext'
      simp [Lib.bytesCells, Lib.byteCells, ByteArray.size]
    rw [← e]
  · simp [Lib.bytesCells]
theorem bytesWorld_below (w : World) (l : List UInt8) : Below w.heap.size w (Lib.bytesWorld w 5 ⟨l.toArray⟩) :=
  ⟨rfl, rfl, rfl, by rw [Lib.bytesWorld_size]; omega, fun k hk => Lib.bytesWorld_at_old w _ _ k hk⟩
theorem low_next (l : List UInt8) (i : Nat) (hi : i < l.length) (c : UInt8) (hc : c = lowB l[i]) : ((l.take i).map lowB ++ l.drop i).set i c = (l.take (i + 1)).map lowB ++ l.drop (i + 1) := by
  rw [List.set_append_right _ _ (by simp; omega)]
  rw [List.drop_eq_getElem_cons hi]
  simp only [List.length_map, List.length_take, Nat.min_eq_left (Nat.le_of_lt hi), Nat.sub_self, List.set_cons_zero]
  rw [List.take_succ_eq_append_getElem hi, List.map_append, List.append_assoc, hc]
  rfl
theorem low_same (l : List UInt8) (i : Nat) (hi : i < l.length) (hc : lowB l[i] = l[i]) : (l.take (i + 1)).map lowB ++ l.drop (i + 1) = (l.take i).map lowB ++ l.drop i := by
  rw [List.take_succ_eq_append_getElem hi, List.map_append, List.append_assoc, List.drop_eq_getElem_cons hi, List.map_cons, hc]
  rfl
theorem low_at (l : List UInt8) (i : Nat) (hi : i < l.length) : ∃ h : i < ((l.take i).map lowB ++ l.drop i).length, ((l.take i).map lowB ++ l.drop i)[i]'h = l[i] := by
  have h : i < ((l.take i).map lowB ++ l.drop i).length := by simp; omega
  refine ⟨h, ?_⟩
  rw [List.getElem_append_right (by simp; omega)]
  simp [Nat.min_eq_left (Nat.le_of_lt hi)]

set_option maxRecDepth 100000 in
theorem Lower_any (l : List UInt8) (w : World) (hs : l.length ≤ 1000000000) :
    Calls Tryz.prog 83 #[.string ⟨l.toArray⟩] w (Ret w (.string ⟨(lowL l).toArray⟩)) := by
  obtain ⟨n, hrow⟩ := RowAt.fresh w l
  have kc := Lib.run_convert_string_bytes (P := Tryz.prog) w 9 110 5 ⟨l.toArray⟩ Tryz.underlying9 Tryz.underlying110 Tryz.underlying5
  obtain ⟨cap, hcap⟩ : ∃ cap, grownCap w (⟨l.toArray⟩ : ByteArray).size 0 5 = cap := ⟨_, rfl⟩
  obtain ⟨W, hW⟩ : ∃ W, Lib.bytesWorld w 5 ⟨l.toArray⟩ = W := ⟨_, rfl⟩
  rw [hcap, hW] at kc
  rw [hW] at hrow
  have HROW := Lib.hid hrow
  clear hrow hcap
  go_enter Tryz.func83, Tryz.ntmps83
  go_wp2_with fail
  have hsz : w.heap.size < W.heap.size := by rw [← hW, Lib.bytesWorld_size]; omega
  have HBW := Lib.hid (show Below w.heap.size w W from hW ▸ bytesWorld_below w l)
  clear hW kc
  go_loopw [10] (fun s10 wx => ∃ i : Nat, s10 = .int .i64 i ∧ i ≤ l.length ∧ RowAt wx w.heap.size n ((l.take i).map lowB ++ l.drop i) ∧ Below w.heap.size w wx ∧ w.heap.size < wx.heap.size) (fun i _ => l.length - (intOf i).toNat)
  case atStart => exact ⟨0, rfl, Nat.zero_le _, by simpa using HROW.out, HBW.out, hsz⟩
  case round =>
    obtain ⟨i, rfl, hi, hrow, hb, hsz2⟩ := hrel
    have HR := Lib.hid hrow; have HB := Lib.hid hb
    clear hrow hb HROW HBW
    by_cases hlt : i < l.length
    · obtain ⟨hh, hcv⟩ := low_at l i hlt
      have hc1 := HR.out.cell i hh
      have hf1 := HR.out.frozen i hh
      rw [hcv] at hc1
      obtain ⟨c, hcc⟩ : ∃ c, l[i] = c := ⟨_, rfl⟩
      rw [hcc] at hc1
      have HCC := Lib.hid hcc
      clear hcv hcc
      have h1 := IsUpper_any (c.toNat : Int) wr
      cases hp : isUpper (c.toNat : Int)
      · rw [hp] at h1
        have H1 := Lib.hid h1; have HP := Lib.hid hp; clear h1 hp
        go_wp2_with fail
        rw [wrap32_byte]
        go_wp2_with (refine H1.out.mono ?_; rintro e w1 ⟨rfl, hb1⟩)
        go_roundw
        case rel =>
          refine ⟨i + 1, by go_num, by omega, ?_, bthen HB.out HB.out.size hb1, by have := hb1.size; omega⟩
          rw [low_same l i hlt (by rw [HCC.out, lowB_id HP.out])]
          exact HR.out.kept hb1
        case measure => simp [intOf]; omega
      · rw [hp] at h1
        have H1 := Lib.hid h1; have HP := Lib.hid hp; clear h1 hp
        go_wp2_with fail
        rw [wrap32_byte]
        go_wp2_with (refine H1.out.mono ?_; rintro e w1 ⟨rfl, hb1⟩; have hf2 := (bcell hb1).2 w.heap.size i hsz2; rw [hf1] at hf2; have hc2 := (bcell hb1).1 w.heap.size i hsz2; rw [hc1] at hc2)
        rw [lowB_up HP.out]
        go_roundw
        case rel =>
          refine ⟨i + 1, by go_num, by omega, ?_, (bthen HB.out HB.out.size hb1).trans ?_, by have := hb1.size; simp; omega⟩
          · have := (HR.out.kept hb1).set i hh (lowB c)
            rwa [low_next l i hlt (lowB c) (by rw [HCC.out])] at this
          · exact Below.setCell (p := ⟨w.heap.size, i, none⟩) (Below.refl w.heap.size w1) (Nat.le_refl _) _
        case measure => simp [intOf]; omega
    · obtain rfl : i = l.length := by omega
      have hr : RowAt wr w.heap.size n (lowL l) := by have := HR.out; rwa [List.take_length, List.drop_length, List.append_nil] at this
      have kc := Lib.run_convert_whole (P := Tryz.prog) wr 110 5 9 Tryz.underlying110 Tryz.underlying5 Tryz.underlying9 w.heap.size 0 _ hr.bytes cap
      rw [show (⟨(lowL l).toArray⟩ : ByteArray).size = l.length by simp [lowL, ByteArray.size]] at kc
      clear hr
      go_wp2_with fail
      go_ret
      exact Ret.mk rfl HB.out
end Go.Proofs.YtdapdadcninidaaGreatDoor
namespace Go.Proofs.YtdapdadcninidaaGreatDoor
open Go.RowKit
attribute [local go_sem ↓] Go.wp_at_zero Go.wp_at_succ

set_option maxRecDepth 100000 in
set_option maxHeartbeats 1000000 in
theorem CreateElement_ok (doc : Nat) (nm : List UInt8) (w : World) {B : AB} {O : List Nat} {ns : List Nd} (hA : ArW B O ns w) (hf : Fit ns) (hh : isH ns.length doc = true) (hk : (ndAt ns doc).kind = 1) (hv : validElem nm = true) (hl : nm.length ≤ 1000000) (ht : (lowL nm == tmplW) = false) :
    Calls Tryz.prog 33 #[.pointer (some ⟨B, 0, none⟩), .int .i64 (doc : Int), .string ⟨nm.toArray⟩] w fun e w' =>
      e = .returned (.tuple #[.int .i64 ((ns.length + 1 : Nat) : Int), .int .i64 0]) ∧ ∃ O', ArW B O' (ns ++ [{ kind := 4, space := 1, name := lowL nm, doc := doc }]) w' ∧ AStep O w O' w' := by
  obtain ⟨W0, hW0⟩ : ∃ W0, w.alloc (.cells #[.int .i64 (doc : Int)] 3) = W0 := ⟨_, rfl⟩
  have b0 : Below w.heap.size w W0 := by rw [← hW0]; exact balloc w _
  have hbx : W0.heap[w.heap.size]? = some (.cells #[.int .i64 (doc : Int)] 3 (0, 0)) := by rw [← hW0]; exact World.alloc_heap_new w _
  have hs0 : W0.heap.size = w.heap.size + 1 := by rw [← hW0]; simp
  have H1 := checkD_any (B := B) (H := w.heap.size) (c := 1) (-1) [(doc : Int)] W0 (hA.later b0) hf (by intro j v hj; match j, hj with | 0, hj => simp at hj; subst hj; rw [cell_of_row _ _ _ _ _ _ hbx]; rfl) (by simp) (by omega)
  rw [show chkD ns.length (-1) [(doc : Int)] = 0 by simp [chkD, chkFrom, hh]] at H1
  have H2 := fun w' (hb : Below w.heap.size w w') => kind_any (doc : Int) w' (hA.later hb) hf
  rw [show (descAt ns doc).kind = 1 by rw [descAt, if_pos hh, hk]] at H2
  have hd : docE ns (doc : Int) = 0 := by simp [docE, hh, hk]
  have H3 := fun w' => hv ▸ ValidElement_any nm w' (by unfold maxLen; omega)
  have H4 := Lib.hid (fun w' => Lower_any nm w' (by omega))
  have H5 := Lib.hid (fun w' (hb : Below w.heap.size w w') => Element_any doc 1 (lowL nm) w' (hA.later hb) hf.len (by decide) ht)
  have H1 := Lib.hid H1; have H2 := Lib.hid H2; have H3 := Lib.hid H3; have HW := Lib.hid hW0; have HB0 := Lib.hid b0; have HD := Lib.hid hd
  clear hA hf hh hk hv hl ht hW0 b0 hbx hs0 hd
  generalize lowL nm = ln at *
  go_enter Tryz.func33, Tryz.ntmps33
  go_wp2_with fail
  rw [HW.out]
  refine H1.out.mono ?_
  rintro e w1 ⟨rfl, b1⟩
  have HB1 := Lib.hid (bthen HB0.out HB0.out.size b1)
  clear b1 H1
  go_wp2_with fail
  refine (H2.out _ HB1.out).mono ?_
  rintro e w2 ⟨rfl, b2⟩
  have HB2 := Lib.hid (bthen HB1.out HB1.out.size b2)
  clear b2 H2
  go_wp2_with fail
  refine (H3.out _).mono ?_
  rintro e w3 ⟨rfl, b3⟩
  have HB3 := Lib.hid (bthen HB2.out HB2.out.size b3)
  clear b3 H3
  go_wp2_with fail
  refine (H4.out _).mono ?_
  rintro e w4 ⟨rfl, b4⟩
  have HB4 := Lib.hid (bthen HB3.out HB3.out.size b4)
  clear b4 H4
  go_wp2_with fail
  refine (H5.out _ HB4.out).mono ?_
  rintro e w5 hm
  rcases hm with ⟨h0, _, _⟩ | ⟨_, rfl, O', hA', hs'⟩
  · exact absurd HD.out h0
  · have HF := Lib.hid (show ∃ O', ArW B O' (ns ++ [{ kind := 4, space := 1, name := ln, doc := doc }]) w5 ∧ AStep O w O' w5 from ⟨O', hA', astep_pre HB4.out hs'⟩)
    clear hA' hs' H5
    obtain ⟨y, hy⟩ : ∃ y : Int, ((ns.length + 1 : Nat) : Int) = y := ⟨_, rfl⟩
    rw [hy]
    have HY := Lib.hid hy
    clear hy
    go_wp2_with fail
    go_ret2
    exact ⟨by rw [HY.out]; rfl, HF.out⟩
set_option maxRecDepth 100000 in
theorem empty_nil (p : Int) (w : World) {B : AB} {O : List Nat} {ns : List Nd} (hA : ArW B O ns w) (hf : Fit ns) (hk : kidsAt ns p = []) :
    Calls Tryz.prog 84 #[.pointer (some ⟨B, 0, none⟩), .int .i64 p] w (Ret w (.tuple #[])) := by
  have H1 := Kids_any p w hA hf.len (hf.kids p)
  rw [hk] at H1
  have H1 := Lib.hid H1
  clear hA hf hk
  go_enter Tryz.func84, Tryz.ntmps84
  go_wp2_with fail
  refine H1.out.mono ?_
  rintro e w1 ⟨v, rfl, hr, b1⟩
  obtain ⟨ka, kc, rfl⟩ := ownsRow_slice hr
  have HB1 := Lib.hid b1
  clear hr b1 H1
  go_wp2_with fail
  go_loop [10] (fun i => i = .int .i64 0) (fun _ => 0)
  case atStart => rfl
  case round =>
    subst hrel
    go_wp2_with fail
    go_end0
    exact Ret.mk rfl HB1.out
set_option maxRecDepth 100000 in
set_option maxHeartbeats 1000000 in
/-- SetTextContent, of an element without children. -/
theorem SetText_el (h : Int) (s : List UInt8) (w : World) {B : AB} {O : List Nat} {ns ns2 : List Nd} (hA : ArW B O ns w) (hf : Fit ns) (hh : isH ns.length h = true) (hk : (ndAt ns h).kind = 4) (hks : kidsAt ns h = []) (hs : s ≠ []) (hd : docE ns (ndAt ns h).doc = 0)
    (hf1 : Fit (ns ++ [{ kind := 5, data := s, doc := (ndAt ns h).doc }])) (hp : PutOk (ns ++ [{ kind := 5, data := s, doc := (ndAt ns h).doc }]) h ((ns.length + 1 : Nat) : Int) 0) (hpe : putE (ns ++ [{ kind := 5, data := s, doc := (ndAt ns h).doc }]) h ((ns.length + 1 : Nat) : Int) 0 = 0)
    (h2 : putL (ns ++ [{ kind := 5, data := s, doc := (ndAt ns h).doc }]) h ((ns.length + 1 : Nat) : Int) 0 = ns2) :
    Calls Tryz.prog 35 #[.pointer (some ⟨B, 0, none⟩), .int .i64 h, .string ⟨s.toArray⟩] w fun e w' => e = .returned (.int .i64 0) ∧ ∃ O', ArW B O' ns2 w' ∧ AStep O w O' w' := by
  obtain ⟨W0, hW0⟩ : ∃ W0, w.alloc (.cells #[.int .i64 h] 3) = W0 := ⟨_, rfl⟩
  have b0 : Below w.heap.size w W0 := by rw [← hW0]; exact balloc w _
  have hbx : W0.heap[w.heap.size]? = some (.cells #[.int .i64 h] 3 (0, 0)) := by rw [← hW0]; exact World.alloc_heap_new w _
  have hs0 : W0.heap.size = w.heap.size + 1 := by rw [← hW0]; simp
  have H1 := checkD_any (B := B) (H := w.heap.size) (c := 1) (-1) [h] W0 (hA.later b0) hf (by intro j v hj; match j, hj with | 0, hj => simp at hj; subst hj; rw [cell_of_row _ _ _ _ _ _ hbx]; rfl) (by simp) (by omega)
  rw [show chkD ns.length (-1) [h] = 0 by simp [chkD, chkFrom, hh]] at H1
  have H2 := fun w' (hb : Below w.heap.size w w') => kind_any h w' (hA.later hb) hf
  rw [show (descAt ns h).kind = 4 by rw [descAt, if_pos hh, hk]] at H2
  have H3 := Lib.hid (fun w' (hb : Below w.heap.size w w') => empty_nil h w' (hA.later hb) hf hks)
  have H4 := fun w' (hb : Below w.heap.size w w') => docOf_any h w' (hA.later hb) hf
  rw [show (descAt ns h).doc = (ndAt ns h).doc by rw [descAt, if_pos hh]] at H4
  generalize (ndAt ns h).doc = doc at *
  have H5 := Lib.hid (fun w' (hb : Below w.heap.size w w') => Text_any doc s w' (hA.later hb) hf.len)
  have H6 := Lib.hid (fun O1 w' (hb : ArW B O1 (ns ++ [{ kind := 5, data := s, doc := doc }]) w') => Put_any h ((ns.length + 1 : Nat) : Int) 0 w' hb hf1 hp)
  rw [hpe, h2] at H6
  have hsb : s.isEmpty = false := by cases s with | nil => exact absurd rfl hs | cons a l => rfl
  have H1 := Lib.hid H1; have H2 := Lib.hid H2; have H4 := Lib.hid H4; have HW := Lib.hid hW0; have HB0 := Lib.hid b0; have HD := Lib.hid hd
  clear hA hf hh hk hks hs hd hf1 hp hpe h2 hW0 b0 hbx hs0
  go_enter Tryz.func35, Tryz.ntmps35
  go_wp2_with fail
  rw [HW.out]
  refine H1.out.mono ?_
  rintro e w1 ⟨rfl, b1⟩
  have HB1 := Lib.hid (bthen HB0.out HB0.out.size b1)
  clear b1 H1
  go_wp2_with fail
  refine (H2.out _ HB1.out).mono ?_
  rintro e w2 ⟨rfl, b2⟩
  have HB2 := Lib.hid (bthen HB1.out HB1.out.size b2)
  clear b2 H2
  go_wp2_with fail
  refine (H3.out _ HB2.out).mono ?_
  rintro e w3 ⟨rfl, b3⟩
  have HB3 := Lib.hid (bthen HB2.out HB2.out.size b3)
  clear b3 H3
  go_wp2_with fail
  refine (H4.out _ HB3.out).mono ?_
  rintro e w4 ⟨rfl, b4⟩
  have HB4 := Lib.hid (bthen HB3.out HB3.out.size b4)
  clear b4 H4
  go_wp2_with fail
  refine (H5.out _ HB4.out).mono ?_
  rintro e w5 hm
  rcases hm with ⟨h0, _, _⟩ | ⟨_, rfl, O1, hA1, hs1⟩
  · exact absurd HD.out h0
  · rw [Int.toNat_natCast] at hA1
    have H7 := Lib.hid (H6.out O1 w5 hA1)
    have HS1 := Lib.hid (astep_pre HB4.out hs1)
    clear hA1 hs1 H5 H6
    obtain ⟨y, hy⟩ : ∃ y : Int, ((ns.length + 1 : Nat) : Int) = y := ⟨_, rfl⟩
    rw [hy] at H7 ⊢
    clear hy
    go_wp2_with fail
    refine H7.out.mono ?_
    rintro e w6 ⟨rfl, ⟨h0, _⟩ | ⟨_, O2, hA2, hs2⟩⟩
    · exact absurd rfl h0
    · have HF := Lib.hid (show ∃ O', ArW B O' ns2 w6 ∧ AStep O w O' w6 from ⟨O2, hA2, HS1.out.trans hs2⟩)
      clear hA2 hs2 H7
      go_wp2_with fail
      go_ret
      exact ⟨rfl, HF.out⟩
end Go.Proofs.YtdapdadcninidaaGreatDoor
namespace Go.Proofs.YtdapdadcninidaaGreatDoor
open Go.RowKit
attribute [local go_sem ↓] Go.wp_at_zero Go.wp_at_succ

theorem AttsAt.none (w : World) : AttsAt w Option.none [] := fun j y h => by simp at h
theorem chk_one {n : Nat} {h : Int} : chkD n (-1) [h] = if isH n h then 0 else 3 := by simp [chkD, chkFrom]
set_option maxRecDepth 100000 in
set_option maxHeartbeats 2000000 in
theorem CreateElement_fw (doc : Int) (nm : List UInt8) (w : World) {T : Nat} {O : List Nat} {s : St} {L : Lim} (hA : ArM T O s w) (hg : Gd L s) (hf : L.f ≤ 900000) (ha : L.a ≤ 900000) (hl : nm.length ≤ 1000000) :
    Calls Tryz.prog 33 #[.pointer (some ⟨T, 0, none⟩), .int .i64 doc, .string ⟨nm.toArray⟩] w (Act T O w (FwP ⟨L.x, L.y, L.f + 2, L.a⟩ s)) := by
  have hfit := hg.fit (by omega) (by omega)
  obtain ⟨W0, hW0⟩ : ∃ W0, w.alloc (.cells #[.int .i64 doc] 3) = W0 := ⟨_, rfl⟩
  have b0 : Below w.heap.size w W0 := by rw [← hW0]; exact balloc w _
  have hbx : W0.heap[w.heap.size]? = some (.cells #[.int .i64 doc] 3 (0, 0)) := by rw [← hW0]; exact World.alloc_heap_new w _
  have hs0 : W0.heap.size = w.heap.size + 1 := by rw [← hW0]; simp
  obtain ⟨iv, O1, hA1, -⟩ := hA.turn
  have H1 := checkD_any (B := ⟨T, iv⟩) (H := w.heap.size) (c := 1) (-1) [doc] W0 (hA1.later b0) hfit (by intro j v hj; match j, hj with | 0, hj => simp at hj; subst hj; rw [cell_of_row _ _ _ _ _ _ hbx]; rfl) (by simp) (by omega)
  generalize chkD s.ns.length (-1) [doc] = ce at *
  have H2 := fun w' (hb : Below w.heap.size w w') => kind_any doc w' (hA1.later hb) hfit
  generalize (descAt s.ns doc).kind = kd at *
  have H3 := fun w' => ValidElement_any nm w' (by unfold maxLen; omega)
  generalize validElem nm = ve at *
  have H4 := Lib.hid (fun w' => Lower_any nm w' (by omega))
  have H5 := fun w' (hb : Below w.heap.size w w') => Element_fw doc 1 (lowL nm) [] w' (c := 0) (hA.later hb) hg hf (by simp) (AttsAt.none w')
  generalize lowL nm = ln at *
  have HF := Lib.hid (fun (er : Int) w' (hb : Below w.heap.size w w') => show Act T O w (FwP ⟨L.x, L.y, L.f + 2, L.a⟩ s) (.returned (.tuple #[.int .i64 0, .int .i64 er])) w' from Act.still hA hb ⟨⟨_, _, rfl⟩, hg.still.weak (Nat.le_refl _) (Nat.le_refl _) (Nat.le_add_right _ _) (Nat.le_refl _)⟩)
  have HE := Lib.hid (fun w1 (hb : Below w.heap.size w w1) e w2 (h : Act T O w1 (FwP ⟨L.x, L.y, L.f + 2, max L.a ([] : List Att).length⟩ s) e w2) => show ∃ v er : Int, e = .returned (.tuple #[.int .i64 v, .int .i64 er]) ∧ Act T O w (FwP ⟨L.x, L.y, L.f + 2, L.a⟩ s) (.returned (.tuple #[.int .i64 v, .int .i64 er])) w2 from by
    obtain ⟨s', O', h1, h2, ⟨v, er, rfl⟩, h3⟩ := h
    exact ⟨v, er, rfl, s', O', h1, astep_pre hb h2, ⟨_, _, rfl⟩, h3.weak (Nat.le_refl _) (Nat.le_refl _) (Nat.le_refl _) (by simp)⟩)
  have H1 := Lib.hid H1; have H2 := Lib.hid H2; have H3 := Lib.hid H3; have H5 := Lib.hid H5; have HW := Lib.hid hW0; have HB0 := Lib.hid b0
  clear hA hA1 hg hfit hbx hs0 hW0 b0
  by_cases hce : ce = 0
  · subst hce
    by_cases hk : kd = 1
    · subst hk
      cases ve
      · go_enter Tryz.func33, Tryz.ntmps33
        go_wp2_with fail
        rw [HW.out]
        refine H1.out.mono ?_
        rintro e w1 ⟨rfl, b1⟩
        have HB1 := Lib.hid (bthen HB0.out HB0.out.size b1)
        clear b1 H1
        go_wp2_with fail
        refine (H2.out _ HB1.out).mono ?_
        rintro e w2 ⟨rfl, b2⟩
        have HB2 := Lib.hid (bthen HB1.out HB1.out.size b2)
        clear b2 H2
        go_wp2_with fail
        refine (H3.out _).mono ?_
        rintro e w3 ⟨rfl, b3⟩
        have HB3 := Lib.hid (bthen HB2.out HB2.out.size b3)
        clear b3 H3
        go_wp2_with fail
        go_ret2
        exact HF.out _ _ HB3.out
      · go_enter Tryz.func33, Tryz.ntmps33
        go_wp2_with fail
        rw [HW.out]
        refine H1.out.mono ?_
        rintro e w1 ⟨rfl, b1⟩
        have HB1 := Lib.hid (bthen HB0.out HB0.out.size b1)
        clear b1 H1
        go_wp2_with fail
        refine (H2.out _ HB1.out).mono ?_
        rintro e w2 ⟨rfl, b2⟩
        have HB2 := Lib.hid (bthen HB1.out HB1.out.size b2)
        clear b2 H2
        go_wp2_with fail
        refine (H3.out _).mono ?_
        rintro e w3 ⟨rfl, b3⟩
        have HB3 := Lib.hid (bthen HB2.out HB2.out.size b3)
        clear b3 H3
        go_wp2_with fail
        refine (H4.out _).mono ?_
        rintro e w4 ⟨rfl, b4⟩
        have HB4 := Lib.hid (bthen HB3.out HB3.out.size b4)
        clear b4 H4
        go_wp2_with fail
        refine (H5.out _ HB4.out).mono ?_
        rintro e w5 hh
        obtain ⟨v, er, rfl, hz⟩ := HE.out w4 HB4.out e w5 hh
        have HH := Lib.hid hz
        clear hh hz H5
        go_wp2_with fail
        go_ret2
        exact HH.out
    · have hkb : (kd != 1) = true := by simpa using hk
      clear hk H3 H4 H5
      go_enter Tryz.func33, Tryz.ntmps33
      go_wp2_with fail
      rw [HW.out]
      refine H1.out.mono ?_
      rintro e w1 ⟨rfl, b1⟩
      have HB1 := Lib.hid (bthen HB0.out HB0.out.size b1)
      clear b1 H1
      go_wp2_with fail
      refine (H2.out _ HB1.out).mono ?_
      rintro e w2 ⟨rfl, b2⟩
      have HB2 := Lib.hid (bthen HB1.out HB1.out.size b2)
      clear b2 H2
      go_wp2_with fail
      go_ret2
      exact HF.out _ _ HB2.out
  · have hcb : (ce != 0) = true := by simpa using hce
    clear hce H2 H3 H4 H5
    go_enter Tryz.func33, Tryz.ntmps33
    go_wp2_with fail
    rw [HW.out]
    refine H1.out.mono ?_
    rintro e w1 ⟨rfl, b1⟩
    have HB1 := Lib.hid (bthen HB0.out HB0.out.size b1)
    clear b1 H1
    go_wp2_with fail
    go_ret2
    exact HF.out _ _ HB1.out
set_option maxRecDepth 100000 in
set_option maxHeartbeats 4000000 in
theorem SetTextContent_fw (h : Int) (l : List UInt8) (w : World) {T : Nat} {O : List Nat} {s : St} {L : Lim} (hA : ArM T O s w) (hg : Gd L s) (hf : L.f ≤ 800000) (ha : L.a ≤ 900000) (hl : l.length ≤ L.y) :
    Calls Tryz.prog 35 #[.pointer (some ⟨T, 0, none⟩), .int .i64 h, .string ⟨l.toArray⟩] w (Act T O w (FwE ⟨L.x + L.y, L.y, L.f + 1, L.a⟩ s)) := by
  have hfit := hg.fit (by omega) (by omega)
  obtain ⟨W0, hW0⟩ : ∃ W0, w.alloc (.cells #[.int .i64 h] 3) = W0 := ⟨_, rfl⟩
  have b0 : Below w.heap.size w W0 := by rw [← hW0]; exact balloc w _
  have hbx : W0.heap[w.heap.size]? = some (.cells #[.int .i64 h] 3 (0, 0)) := by rw [← hW0]; exact World.alloc_heap_new w _
  have hs0 : W0.heap.size = w.heap.size + 1 := by rw [← hW0]; simp
  obtain ⟨iv, O1, hA1, -⟩ := hA.turn
  have H1 := checkD_any (B := ⟨T, iv⟩) (H := w.heap.size) (c := 1) (-1) [h] W0 (hA1.later b0) hfit (by intro j v hj; match j, hj with | 0, hj => simp at hj; subst hj; rw [cell_of_row _ _ _ _ _ _ hbx]; rfl) (by simp) (by omega)
  generalize chkD s.ns.length (-1) [h] = ce at *
  have H2 := fun w' (hb : Below w.heap.size w w') => kind_any h w' (hA1.later hb) hfit
  generalize (descAt s.ns h).kind = kd at *
  have H3 := Lib.hid (fun w' (hb : Below w.heap.size w w') => SetData_fw h l w' (hA.later hb) hg (by omega))
  obtain ⟨s1, hs1⟩ : ∃ s1, cutsS s (kidsAt s.ns h) = s1 := ⟨_, rfl⟩
  have H4 := fun w' (hb : Below w.heap.size w w') => empty_act h w' (hA.later hb) hg (by omega) ha
  rw [hs1] at H4
  have hg1 : Gd L s1 := by rw [← hs1]; exact hg.cutsS
  have hF1 : Fw L s s1 := by rw [← hs1]; exact hg.cutsF
  have H5 := Lib.hid (fun w' O' (hA' : ArM T O' s1 w') => docOf_any h w' hA'.turn.choose_spec.choose_spec.1 (hg1.fit (by omega) (by omega)))
  generalize (descAt s1.ns h).doc = doc at *
  have H6 := Lib.hid (fun w' O' (hA' : ArM T O' s1 w') => Text_fw (doc : Nat) l w' hA' hg1 (by omega))
  have H7 := Lib.hid (fun (v : Int) w' O' s2 (hA' : ArM T O' s2 w') (hg2 : Gd ⟨L.x, max L.y l.length, L.f + 1, L.a⟩ s2) => Put_fw h v 0 w' hA' hg2 (by dsimp only; omega) ha)
  have HF1 := Lib.hid hF1
  have HFW := Lib.hid (fun s' (h : Fw L s s') => show Fw ⟨L.x + L.y, L.y, L.f + 1, L.a⟩ s s' from h.weak (Nat.le_add_right _ _) (Nat.le_refl _) (Nat.le_add_right _ _) (Nat.le_refl _))
  have HF := Lib.hid (fun (er : Int) w' (hb : Below w.heap.size w w') => show Act T O w (FwE ⟨L.x + L.y, L.y, L.f + 1, L.a⟩ s) (.returned (.int .i64 er)) w' from Act.still hA hb ⟨⟨_, rfl⟩, HFW.out s hg.still⟩)
  have H1 := Lib.hid H1; have H2 := Lib.hid H2; have H4 := Lib.hid H4; have HW := Lib.hid hW0; have HB0 := Lib.hid b0; have HLY := Lib.hid hl
  have HFX := Lib.hid (fun s2 s3 (h : Fw ⟨L.x, max L.y l.length, L.f + 1, L.a⟩ s1 s2) (k : Fw ⟨L.x + max L.y l.length, max L.y l.length, L.f + 1, L.a⟩ s2 s3) => show Fw ⟨L.x + L.y, L.y, L.f + 1, L.a⟩ s s3 from by
    rw [Nat.max_eq_left hl] at h k
    exact (hF1.trans h).trans k)
  have HFD := Lib.hid (fun s2 (h : Fw ⟨L.x + l.length, max L.y l.length, L.f, L.a⟩ s s2) => show Fw ⟨L.x + L.y, L.y, L.f + 1, L.a⟩ s s2 from by
    rw [Nat.max_eq_left hl] at h
    exact h.weak (by dsimp only; omega) (Nat.le_refl _) (Nat.le_add_right _ _) (Nat.le_refl _))
  clear hA hA1 hg hg1 hF1 hfit hbx hs0 hW0 b0 hs1 hl
  by_cases hce : ce = 0
  · subst hce
    go_enter Tryz.func35, Tryz.ntmps35
    go_wp2_with fail
    rw [HW.out]
    refine H1.out.mono ?_
    rintro e w1 ⟨rfl, b1⟩
    have HB1 := Lib.hid (bthen HB0.out HB0.out.size b1)
    clear b1 H1
    go_wp2_with fail
    refine (H2.out _ HB1.out).mono ?_
    rintro e w2 ⟨rfl, b2⟩
    have HB2 := Lib.hid (bthen HB1.out HB1.out.size b2)
    clear b2 H2
    have hkk : (kd = 5 ∨ ((kd == 5) = false ∧ kd = 6)) ∨ (kd = 4 ∨ ((kd == 4) = false ∧ kd = 2)) ∨ ((kd == 5) = false ∧ (kd == 6) = false ∧ (kd == 4) = false ∧ (kd == 2) = false) := by
      simp only [beq_eq_false_iff_ne]; omega
    rcases hkk with hkk | hkk | ⟨h5, h6, h4, h2⟩
    · have H8 := Lib.hid (H3.out w2 HB2.out)
      rcases hkk with rfl | ⟨h5, rfl⟩
      all_goals
        go_wp2_with fail
        refine H8.out.mono ?_
        rintro e w3 ⟨s', O', h1, h2, ⟨er, rfl⟩, h3⟩
        have HZ := Lib.hid (show Act T O w (FwE ⟨L.x + L.y, L.y, L.f + 1, L.a⟩ s) (.returned (.int .i64 er)) w3 from ⟨s', O', h1, astep_pre HB2.out h2, ⟨_, rfl⟩, HFD.out _ h3⟩)
        clear h1 h2 h3 H8
        go_wp2_with fail
        go_ret
        exact HZ.out
    · have H8 := Lib.hid (H4.out w2 HB2.out)
      cases hl : l with
      | nil =>
        subst hl
        rcases hkk with rfl | ⟨h5, rfl⟩
        all_goals
          go_wp2_with fail
          refine H8.out.mono ?_
          rintro e w3 ⟨s', O', h1, h2, rfl, rfl⟩
          have HZ := Lib.hid (show Act T O w (FwE ⟨L.x + L.y, L.y, L.f + 1, L.a⟩ s) (.returned (.int .i64 0)) w3 from ⟨_, O', h1, astep_pre HB2.out h2, ⟨_, rfl⟩, HFW.out _ HF1.out⟩)
          clear h1 h2 H8
          go_wp2_with fail
          go_ret
          exact HZ.out
      | cons y ys =>
        have hle : l.isEmpty = false := by rw [hl]; rfl
        rw [← hl]
        clear hl
        rcases hkk with rfl | ⟨h5, rfl⟩
        all_goals
          go_wp2_with fail
          refine H8.out.mono ?_
          rintro e w3 ⟨s', O3, h1, h2, rfl, rfl⟩
          have HS3 := Lib.hid (astep_pre HB2.out h2)
          have HA3 := Lib.hid h1
          have H9 := Lib.hid (H5.out w3 O3 h1)
          clear h1 h2 H8
          go_wp2_with fail
          refine H9.out.mono ?_
          rintro e w4 ⟨rfl, b4⟩
          have HS4 := Lib.hid (HS3.out.trans (astep_below b4))
          have H10 := Lib.hid (H6.out w4 O3 (HA3.out.later b4))
          clear b4 H9
          go_wp2_with fail
          refine H10.out.mono ?_
          rintro e w5 ⟨s5, O5, hA5, hs5, ⟨v, er, rfl⟩, hF5⟩
          have HS5 := Lib.hid (HS4.out.trans hs5); have HF5 := Lib.hid hF5
          have H11 := Lib.hid (H7.out v w5 O5 s5 hA5 hF5.gd)
          clear hA5 hs5 hF5 H10
          go_wp2_with fail
          refine H11.out.mono ?_
          rintro e w6 ⟨s6, O6, hA6, hs6, ⟨er, rfl⟩, hF6⟩
          have HZ := Lib.hid (show Act T O w (FwE ⟨L.x + L.y, L.y, L.f + 1, L.a⟩ s) (.returned (.int .i64 er)) w6 from ⟨_, O6, hA6, HS5.out.trans hs6, ⟨_, rfl⟩, HFX.out _ _ HF5.out hF6⟩)
          clear hA6 hs6 hF6 H11
          go_wp2_with fail
          go_ret
          exact HZ.out
    · clear H3 H4 H5 H6 H7
      go_wp2_with fail
      go_ret
      exact HF.out _ _ HB2.out
  · have hcb : (ce != 0) = true := by simpa using hce
    clear hce H2 H3 H4 H5 H6 H7
    go_enter Tryz.func35, Tryz.ntmps35
    go_wp2_with fail
    rw [HW.out]
    refine H1.out.mono ?_
    rintro e w1 ⟨rfl, b1⟩
    have HB1 := Lib.hid (bthen HB0.out HB0.out.size b1)
    clear b1 H1
    go_wp2_with fail
    go_ret
    exact HF.out _ _ HB1.out
set_option maxRecDepth 100000 in
set_option maxHeartbeats 2000000 in
theorem Normalize_fw (h : Int) (w : World) {T : Nat} {O : List Nat} {s : St} {L : Lim} (hA : ArM T O s w) (hg : Gd L s) (hf : L.f ≤ 900000) (ha : L.a ≤ 900000) (hx : (L.x : Int) ≤ 4611686018427387904) :
    Calls Tryz.prog 17 #[.pointer (some ⟨T, 0, none⟩), .int .i64 h] w (Act T O w (FwE ⟨L.x, max L.x L.y, L.f, L.a⟩ s)) := by
  have hfit := hg.fit (by omega) (by omega)
  obtain ⟨iv, O1, hA1, ht⟩ := hA.turn
  have HF := Lib.hid (fun (er : Int) w' (hb : Below w.heap.size w w') => show Act T O w (FwE ⟨L.x, max L.x L.y, L.f, L.a⟩ s) (.returned (.int .i64 er)) w' from Act.still hA hb ⟨⟨_, rfl⟩, hg.still.weak (Nat.le_refl _) (Nat.le_max_right _ _) (Nat.le_refl _) (Nat.le_refl _)⟩)
  cases hh : isH s.ns.length h
  · obtain ⟨W0, hW0⟩ : ∃ W0, w.alloc (.cells #[.int .i64 h] 3) = W0 := ⟨_, rfl⟩
    have b0 : Below w.heap.size w W0 := by rw [← hW0]; exact balloc w _
    have hbx : W0.heap[w.heap.size]? = some (.cells #[.int .i64 h] 3 (0, 0)) := by rw [← hW0]; exact World.alloc_heap_new w _
    have hs0 : W0.heap.size = w.heap.size + 1 := by rw [← hW0]; simp
    have H1 := checkD_any (B := ⟨T, iv⟩) (H := w.heap.size) (c := 1) (-1) [h] W0 (hA1.later b0) hfit (by intro j v hj; match j, hj with | 0, hj => simp at hj; subst hj; rw [cell_of_row _ _ _ _ _ _ hbx]; rfl) (by simp) (by omega)
    rw [chk_one, hh] at H1
    have H1 := Lib.hid H1; have HW := Lib.hid hW0; have HB0 := Lib.hid b0
    clear hA hA1 hg hfit hbx hs0 hW0 b0 ht hh hx
    go_enter Tryz.func17, Tryz.ntmps17
    go_wp2_with fail
    rw [HW.out]
    refine H1.out.mono ?_
    rintro e w1 ⟨rfl, b1⟩
    have HB1 := Lib.hid (bthen HB0.out HB0.out.size b1)
    clear b1 H1
    go_wp2_with fail
    go_ret
    exact HF.out _ _ HB1.out
  · obtain ⟨x, rfl, hxr⟩ := isH_nat hh
    obtain ⟨j1, j2⟩ := hg.joinF hf ha hx ((x : Nat) : Int)
    obtain ⟨r, hr⟩ := j2.gd.snd
    obtain ⟨xs, hS, hxs⟩ := below_data hr ((x : Nat) : Int)
    have hx1 : inR (joinL s.ns (kidsAt s.ns ((x : Nat) : Int))) x := j2.kt.kept.inR hxr
    obtain ⟨hn, hi⟩ := below_nodup hr hr.downKids hx1 hS
    have hxl : xs.length ≤ (joinL s.ns (kidsAt s.ns ((x : Nat) : Int))).length := nodup_len (List.nodup_cons.1 hn).2 hi
    have hl1 : (joinL s.ns (kidsAt s.ns ((x : Nat) : Int))).length ≤ L.f := j2.gd.len
    obtain ⟨k1, k2⟩ := Gd.joinsF (L := ⟨L.x, max L.x L.y, L.f, L.a⟩) hf ha hx xs _ j2.gd
    refine (Normalize_any ((x : Nat) : Int) xs w hA1 hfit hh j1 (j2.gd.fit (by dsimp only; omega) (by dsimp only; omega)) hS k1 (by omega)).mono ?_
    rintro e w' ⟨rfl, O2, hA2, hs2⟩
    obtain ⟨O3, h3, h4⟩ := ht O2 _ w' hA2 hs2
    exact ⟨_, O3, h3, h4, ⟨_, rfl⟩, (j2.trans k2).weak (Nat.le_refl _) (by dsimp only; omega) (Nat.le_refl _) (Nat.le_refl _)⟩
end Go.Proofs.YtdapdadcninidaaGreatDoor
namespace Go.Proofs.YtdapdadcninidaaGreatDoor
open Go.RowKit

def ctL (d : Nd) : List Nat := if d.contents = 0 then [] else [d.contents]
/-- A node's contents, then its children. -/
def kdW (ns : List Nd) (h : Int) : List Nat := if isH ns.length h then ctL (ndAt ns h) ++ (ndAt ns h).kids else []
theorem kdW_at {ns : List Nd} {x : Nat} (hx : inR ns x) : kdW ns ((x : Nat) : Int) = ctL (nd ns x) ++ (nd ns x).kids := by unfold kdW; rw [if_pos (inR_isH.2 hx)]; rfl
theorem mem_ctL {d : Nd} {k : Nat} (h : k ∈ ctL d) : d.contents ≠ 0 ∧ k = d.contents := by
  unfold ctL at h
  split at h
  · cases h
  · rename_i hc; exact ⟨hc, List.mem_singleton.1 h⟩
theorem Snd.downW {ns : List Nd} {r : Nat → Nat} (h : Snd ns r) : DownOk ns (kdW ns) := by
  refine ⟨fun x hx k hk => ?_, fun x hx => ?_⟩
  · rw [kdW_at hx] at hk
    rcases List.mem_append.1 hk with hk | hk
    · obtain ⟨hc, rfl⟩ := mem_ctL hk
      obtain ⟨h1, h2, h3⟩ := h.cts x hx hc
      refine ⟨h1, ?_⟩
      unfold upS
      rw [if_pos (h.top _ h1 (.inr h3))]; exact h2
    · obtain ⟨h1, h2⟩ := h.kid x k hx hk
      refine ⟨h1, ?_⟩
      unfold upS
      rw [if_neg (by rw [h2]; have := hx.1; omega)]; exact h2
  · rw [kdW_at hx]
    refine List.nodup_append.2 ⟨?_, h.nod x hx, fun a ha b hb e => ?_⟩
    · unfold ctL; split <;> simp
    · obtain ⟨hc, rfl⟩ := mem_ctL ha
      obtain ⟨h1, h2, h3⟩ := h.cts x hx hc
      obtain ⟨_, h5⟩ := h.kid x b hx hb
      rw [← e, h.top _ h1 (.inr h3)] at h5
      have := hx.1; omega
theorem Sub.inv {kd : Int → List Nat} {k : Nat} {ks xs : List Nat} (h : Sub kd (k :: ks) xs) : ∃ x1 x2, Sub kd (kd k) x1 ∧ Sub kd ks x2 ∧ xs = k :: (x1 ++ x2) := by
  cases h with
  | cons h1 h2 => exact ⟨_, _, h1, h2, rfl⟩
theorem Sub.split {kd : Int → List Nat} : ∀ {a b xs : List Nat}, Sub kd (a ++ b) xs → ∃ x1 x2, Sub kd a x1 ∧ Sub kd b x2 ∧ xs = x1 ++ x2
  | [], _, xs, h => ⟨[], xs, .nil, h, rfl⟩
  | k :: a, b, xs, h => by
    obtain ⟨x1, x2, h1, h2, rfl⟩ := Sub.inv (ks := a ++ b) h
    obtain ⟨y1, y2, g1, g2, rfl⟩ := Sub.split h2
    exact ⟨_, y2, .cons h1 g1, g2, by simp⟩
theorem Sub.join {kd : Int → List Nat} {a b x1 x2 : List Nat} (h : Sub kd a x1) (g : Sub kd b x2) : Sub kd (a ++ b) (x1 ++ x2) := by
  induction h with
  | nil => exact g
  | @cons k ks xs ys h1 h2 _ ih2 =>
    have := Sub.cons h1 (ih2)
    rw [List.cons_append, List.cons_append, List.append_assoc]
    exact this
/-- What these nodes' data weighs where it hangs. -/
def attW (ns : List Nd) (xs : List Nat) : Nat := (xs.map fun x => att (nd ns x)).sum
theorem attW_app (ns : List Nd) (a b : List Nat) : attW ns (a ++ b) = attW ns a + attW ns b := by unfold attW; rw [List.map_append, List.sum_append]
theorem attW_cons (ns : List Nd) (a : Nat) (b : List Nat) : attW ns (a :: b) = att (nd ns a) + attW ns b := by unfold attW; rw [List.map_cons, List.sum_cons]
theorem sum_erase {f : Nat → Nat} {a : Nat} : ∀ {l : List Nat}, a ∈ l → (l.map f).sum = f a + ((l.erase a).map f).sum
  | b :: l, h => by
    by_cases e : b = a
    · subst e; rw [List.erase_cons_head, List.map_cons, List.sum_cons]
    · have h2 : a ∈ l := by
        rcases List.mem_cons.1 h with h | h
        · exact absurd h.symm e
        · exact h
      rw [List.erase_cons_tail (by simpa using e), List.map_cons, List.sum_cons, List.map_cons, List.sum_cons, sum_erase h2]
      omega
theorem sum_sub {f : Nat → Nat} : ∀ {l m : List Nat}, l.Nodup → (∀ x ∈ l, x ∈ m) → (l.map f).sum ≤ (m.map f).sum
  | [], _, _, _ => Nat.zero_le _
  | a :: l, m, hn, hs => by
    obtain ⟨h1, h2⟩ := List.nodup_cons.1 hn
    have ih := sum_sub (f := f) (m := m.erase a) h2 fun x hx => (List.mem_erase_of_ne (fun e : x = a => h1 (e ▸ hx))).2 (hs x (List.mem_cons_of_mem _ hx))
    rw [sum_erase (f := f) (hs a List.mem_cons_self), List.map_cons, List.sum_cons]
    omega
theorem attS_range (ns : List Nd) : attS ns = attW ns ((List.range ns.length).map (· + 1)) := by
  unfold attS attW
  congr 1
  refine List.ext_getElem? fun i => ?_
  by_cases hi : i < ns.length
  · have hr : inR ns (i + 1) := ⟨by omega, by omega⟩
    have g := nd_get hr
    rw [show i + 1 - 1 = i by omega] at g
    rw [List.getElem?_map, g]
    simp [hi]
  · rw [List.getElem?_eq_none (by simp; omega), List.getElem?_eq_none (by simp; omega)]
theorem cost_all {ns : List Nd} {xs : List Nat} (hn : xs.Nodup) (hi : ∀ y ∈ xs, inR ns y) : attW ns xs ≤ attS ns ∧ xs.length ≤ ns.length := by
  refine ⟨?_, nodup_len hn hi⟩
  rw [attS_range]
  exact sum_sub hn fun x hx => List.mem_map.2 ⟨x - 1, List.mem_range.2 (by have := hi x hx; unfold inR at this; omega), by have := (hi x hx).1; omega⟩
/-- A node made since, that hangs nowhere. -/
structure NewN (s0 : St) (c D : Nat) (s : St) : Prop where
  gt : s0.ns.length < c
  is : inR s.ns c
  par : (nd s.ns c).parent = 0
  dat : (nd s.ns c).data.length ≤ D
/-- What duplicate answers and leaves. -/
structure DupQ (ns0 : List Nd) (k : Nat) (M : Lim) (s : St) (c : Nat) (s' : St) : Prop where
  pre : Pre s.ns s'.ns
  c : c = 0 ∨ NewN s c (nd ns0 k).data.length s'
  kt : KT s.ns s'.ns
  gd : Gd M s'
def DupR (ns0 : List Nd) (k : Nat) (M : Lim) (s : St) (e : Ending) (s' : St) : Prop := ∃ c : Nat, e = .returned (.int .i64 (c : Nat)) ∧ DupQ ns0 k M s c s'
theorem put_ins {ns : List Nd} {r : Nat → Nat} (h : Snd ns r) (p n b : Int) (he : putE ns p n b = 0) : ∃ p' n' : Nat, p = ((p' : Nat) : Int) ∧ n = ((n' : Nat) : Int) ∧ inR ns p' ∧ inR ns n' ∧ p' ≠ n' := by
  unfold putE at he
  split at he
  · cases he
  · rename_i h1
    split at he
    · cases he
    · split at he
      · cases he
      · rename_i h3
        have hpi : isH ns.length p = true := by
          cases hh : isH ns.length p
          · exact absurd (.inl hh) h1
          · rfl
        have hni : isH ns.length n = true := by
          cases hh : isH ns.length n
          · exact absurd (.inr hh) h1
          · rfl
        obtain ⟨p, rfl, hp⟩ := isH_nat hpi
        obtain ⟨n, rfl, hn⟩ := isH_nat hni
        have g4 : containsL ns ((n : Nat) : Int) ((p : Nat) : Int) = false := by
          cases hh : containsL ns ((n : Nat) : Int) ((p : Nat) : Int)
          · rfl
          · exact absurd (.inr (.inr (.inr hh))) h3
        exact ⟨p, n, rfl, rfl, hp, hn, fun e => containsL_anc h hn hp g4 (e ▸ .here)⟩
theorem putL_far {ns : List Nd} {r : Nat → Nat} (h : Snd ns r) {p n z : Nat} {b : Int} (hp : inR ns p) (hn : inR ns n) (hz : inR ns z) (hne : p ≠ n) (h0 : (nd ns n).parent = 0) (h1 : z ≠ n) (h2 : z ≠ p) : nd (putL ns ((p : Nat) : Int) ((n : Nat) : Int) b) z = nd ns z := by
  unfold putL
  rw [nd_put b (inR_cut.2 hp) (inR_cut.2 hn) (inR_cut.2 hz) hne, if_neg h1, if_neg h2, nd_cut h hn hz, if_neg h1, if_neg (fun h => h.1 h0)]
/-- A copy is put below its parent. -/
theorem put_child {n0 : List Nd} {M : Lim} {s : St} {t c D : Nat} (hg : Gd M s) (hp : Pre n0 s.ns) (ht : t = 0 ∨ n0.length < t) (hc : c = 0 ∨ (n0.length < c ∧ (nd s.ns c).parent = 0 ∧ (nd s.ns c).data.length ≤ D)) :
    Pre n0 (putS s t c 0).ns ∧ KT s.ns (putS s t c 0).ns ∧ Gd ⟨M.x + D, M.y, M.f, M.a⟩ (putS s t c 0) ∧ (putS s t c 0).ns.length = s.ns.length ∧ ∀ z, inR s.ns z → z ≠ c → (nd (putS s t c 0).ns z).parent = (nd s.ns z).parent ∧ (nd (putS s t c 0).ns z).data = (nd s.ns z).data := by
  unfold putS
  split
  · rename_i he
    obtain ⟨r, hr⟩ := hg.snd
    obtain ⟨p', n', e1, e2, hpr, hnr, hne⟩ := put_ins hr t c 0 he
    obtain rfl : t = p' := by omega
    obtain rfl : c = n' := by omega
    obtain ⟨h1, h2, x, hx, hxr, h4, h3, h5⟩ := put_all hr t c 0 he
    obtain rfl : c = x := by omega
    have hc0 : c ≠ 0 := by have := hnr.1; omega
    obtain ⟨c1, c2, c3⟩ := hc.resolve_left hc0
    have ht0 : n0.length < t := ht.resolve_left (by have := hpr.1; omega)
    have hax := hg.ax
    refine ⟨⟨by dsimp only; rw [h3]; exact hp.len, fun z hz => ?_⟩, h2.kt, hg.mv h2 h3 h1 (by omega), h3, fun z hz hzc => ⟨h5 z hz hzc, (data_kp (h2.old z hz)).1⟩⟩
    dsimp only
    rw [putL_far hr hpr hnr (hp.inR hz) hne c2 (by have := hz.2; omega) (by have := hz.2; omega)]
    exact hp.old z hz
  · exact ⟨hp, KT.refl _, hg.weak (Nat.le_add_right _ _) (Nat.le_refl _) (Nat.le_refl _) (Nat.le_refl _), rfl, fun _ _ _ => ⟨rfl, rfl⟩⟩
/-- What duplicate's loops keep: c the copy, t where copies are put, rest what is still to be copied. -/
structure DupJ (ns0 : List Nd) (s0 : St) (M : Lim) (N D c t : Nat) (rest : List Nat) (s : St) : Prop where
  pre : Pre s0.ns s.ns
  kt : KT s0.ns s.ns
  c : c = 0 ∨ NewN s0 c D s
  t : t = 0 ∨ (s0.ns.length < t ∧ inR s.ns t)
  gd : ∃ xs X F, Sub (kdW ns0) rest xs ∧ Gd ⟨X, M.y, F, M.a⟩ s ∧ X + attW ns0 xs ≤ M.x ∧ F + xs.length ≤ M.f ∧ xs.length ≤ N
theorem DupJ.lim {ns0 : List Nd} {s0 s : St} {M : Lim} {N D c t : Nat} {rest : List Nat} (h : DupJ ns0 s0 M N D c t rest s) : Gd M s := by
  obtain ⟨xs, X, F, h1, h2, h3, h4, _⟩ := h.gd
  exact h2.weak (by dsimp only; omega) (Nat.le_refl _) (by dsimp only; omega) (Nat.le_refl _)
theorem DupJ.done {ns0 : List Nd} {s0 s : St} {M : Lim} {N k c t : Nat} {rest : List Nat} (h : DupJ ns0 s0 M N (nd ns0 k).data.length c t rest s) : DupQ ns0 k M s0 c s := ⟨h.pre, h.c, h.kt, h.lim⟩
theorem NewN.pre {s0 s s' : St} {c D : Nat} (h : NewN s0 c D s) (hp : Pre s.ns s'.ns) : NewN s0 c D s' := ⟨h.gt, hp.inR h.is, by rw [hp.old c h.is]; exact h.par, by rw [hp.old c h.is]; exact h.dat⟩
theorem DupJ.inert {ns0 : List Nd} {s0 s s' : St} {M : Lim} {N D c t : Nat} {rest : List Nat} (h : DupJ ns0 s0 M N D c t rest s) (hi : InS s s') (hf : M.f ≤ 900000) : DupJ ns0 s0 M N D c t rest s' := by
  obtain ⟨xs, X, F, h1, h2, h3, h4, h5⟩ := h.gd
  have hp := hi.pre
  exact ⟨h.pre.trans hp, h.kt.trans hi.kt, h.c.imp id fun h => h.pre hp, h.t.imp id fun h => ⟨h.1, hp.inR h.2⟩, xs, X, F, h1, h2.inS hi (by dsimp only; omega), h3, h4, h5⟩
/-- The same, with copies put elsewhere. -/
theorem DupJ.to {ns0 : List Nd} {s0 s : St} {M : Lim} {N D c t t' : Nat} {rest : List Nat} (h : DupJ ns0 s0 M N D c t rest s) (ht : t' = 0 ∨ (s0.ns.length < t' ∧ inR s.ns t')) : DupJ ns0 s0 M N D c t' rest s := ⟨h.pre, h.kt, h.c, ht, h.gd⟩
theorem DupJ.self {ns0 : List Nd} {s0 s : St} {M : Lim} {N D c t : Nat} {rest : List Nat} (h : DupJ ns0 s0 M N D c t rest s) : DupJ ns0 s0 M N D c c rest s := h.to (h.c.imp id fun h => ⟨h.gt, h.is⟩)
/-- A child is copied and put. -/
theorem DupJ.round {ns0 : List Nd} {s0 s : St} {M : Lim} {N D c t k : Nat} {rest : List Nat} (h : DupJ ns0 s0 M N D c t (k :: rest) s) (hk : (nd ns0 k).parent ≠ 0) : ∃ xs1 L, Sub (kdW ns0) (kdW ns0 k) xs1 ∧ Gd L s ∧ L.y = M.y ∧ L.a = M.a ∧ L.f + 1 + xs1.length ≤ M.f ∧ xs1.length < N ∧
    ∀ c' s1, DupQ ns0 k ⟨L.x + attW ns0 xs1, L.y, L.f + 1 + xs1.length, L.a⟩ s c' s1 → DupJ ns0 s0 M N D c t rest (putS s1 t c' 0) := by
  obtain ⟨xs, X, F, h1, h2, h3, h4, h5⟩ := h.gd
  obtain ⟨x1, x2, g1, g2, rfl⟩ := h1.inv
  rw [attW_cons, attW_app] at h3
  simp only [List.length_cons, List.length_append] at h4 h5
  refine ⟨x1, ⟨X, M.y, F, M.a⟩, g1, h2, rfl, rfl, by dsimp only; omega, by omega, fun c' s1 hq => ?_⟩
  have hp1 := h.pre.trans hq.pre
  obtain ⟨q1, q2, q3, q4, q5⟩ := put_child (n0 := s0.ns) (t := t) (c := c') (D := (nd ns0 k).data.length) hq.gd hp1 (h.t.imp id fun h => h.1) (hq.c.imp id fun hn => ⟨by have := hn.gt; have := h.pre.len; omega, hn.par, hn.dat⟩)
  have hin : ∀ z, inR s1.ns z → inR (putS s1 t c' 0).ns z := fun z hz => ⟨hz.1, by rw [q4]; exact hz.2⟩
  refine ⟨q1, (h.kt.trans hq.kt).trans q2, h.c.imp id fun hn => ?_, h.t.imp id fun ht => ⟨ht.1, hin _ (hq.pre.inR ht.2)⟩, x2, X + attW ns0 x1 + (nd ns0 k).data.length, F + 1 + x1.length, g2, q3, ?_, by omega, by omega⟩
  · have hn1 := hn.pre hq.pre
    have hne : c ≠ c' := by
      rcases hq.c with e | e
      · have := hn.gt; omega
      · have := e.gt; have := hn.is.2; omega
    obtain ⟨r1, r2⟩ := q5 c hn1.is hne
    exact ⟨hn.gt, hin _ hn1.is, by rw [r1]; exact hn1.par, by rw [r2]; exact hn1.dat⟩
  · have : att (nd ns0 k) = (nd ns0 k).data.length := by unfold att; rw [if_neg hk]
    omega
/-- What stands below a node with contents: the contents' children, then its own. -/
theorem sub_ct {ns0 : List Nd} {k : Nat} {xs : List Nat} (hs : ∀ x, inR ns0 x → (nd ns0 x).contents ≠ 0 → inR ns0 (nd ns0 x).contents) (hk : inR ns0 k) (h : Sub (kdW ns0) (kdW ns0 k) xs) :
    (∃ x2, Sub (kdW ns0) (nd ns0 k).kids x2 ∧ attW ns0 x2 ≤ attW ns0 xs ∧ x2.length ≤ xs.length ∧ ((nd ns0 k).contents ≠ 0 → x2.length + 1 ≤ xs.length)) ∧
    ((nd ns0 k).contents ≠ 0 → ∃ x2, Sub (kdW ns0) ((nd ns0 (nd ns0 k).contents).kids ++ (nd ns0 k).kids) x2 ∧ attW ns0 x2 ≤ attW ns0 xs ∧ x2.length + 1 ≤ xs.length) := by
  rw [kdW_at hk] at h
  obtain ⟨x1, x2, h1, h2, rfl⟩ := h.split
  rw [attW_app, List.length_append]
  refine ⟨⟨x2, h2, by omega, by omega, fun hc => ?_⟩, fun hc => ?_⟩
  · unfold ctL at h1
    rw [if_neg hc] at h1
    obtain ⟨y1, y2, _, _, rfl⟩ := h1.inv
    simp only [List.length_cons]; omega
  · unfold ctL at h1
    rw [if_neg hc] at h1
    obtain ⟨y1, y2, g1, g2, rfl⟩ := h1.inv
    rw [kdW_at (hs k hk hc)] at g1
    obtain ⟨z1, z2, e1, e2, rfl⟩ := g1.split
    refine ⟨z2 ++ x2, e2.join h2, ?_, ?_⟩
    · rw [attW_app, attW_cons, attW_app, attW_app]; omega
    · simp only [List.length_cons, List.length_append]; omega
end Go.Proofs.YtdapdadcninidaaGreatDoor
namespace Go.Proofs.YtdapdadcninidaaGreatDoor
open Go.RowKit

/-- A block that is none of the arena's own. -/
structure Kp (b : Nat) (O : List Nat) (W : World) (o : Obj) : Prop where
  c : W.heap[b]? = some o
  n : b ∉ O
theorem Kp.lt {b : Nat} {O : List Nat} {W : World} {o : Obj} (h : Kp b O W o) : b < W.heap.size := (Array.getElem?_eq_some_iff.1 h.c).1
theorem Kp.step {b : Nat} {O O2 : List Nat} {W W2 : World} {o : Obj} (h : Kp b O W o) (hs : AStep O W O2 W2) : Kp b O2 W2 o :=
  ⟨(hs.mod.block b h.lt h.n).trans h.c, fun hb => by
    rcases hs.own b hb with h1 | h1
    · exact h.n h1
    · have := h.lt; omega⟩
theorem Kp.later {b : Nat} {O : List Nat} {W W2 : World} {o : Obj} (h : Kp b O W o) (hb : Below W.heap.size W W2) : Kp b O W2 o := h.step (astep_below hb)
theorem Kp.cell {b : Nat} {O : List Nat} {W : World} {cs : Array Value} {t : TypeId} {f : Nat × Nat} (h : Kp b O W (.cells cs t f)) (i : Nat) : W.cell? ⟨b, i, none⟩ = cs[i]? := cell_of_row _ _ _ _ _ _ h.c
/-- A row whose block is none of the arena's own. -/
structure Kr (R : Nat) (ty : TypeId) (sz : Nat) (v : Value) (n : Nat) (xs : List Value) (O : List Nat) (W : World) : Prop where
  r : W.ownsRow R ty sz v n xs
  n : ∀ g, v.ownBlock = some g → g ∉ O
theorem Kr.step {R : Nat} {ty : TypeId} {sz : Nat} {v : Value} {n : Nat} {xs : List Value} {O O2 : List Nat} {W W2 : World} (h : Kr R ty sz v n xs O W) (hs : AStep O W O2 W2) : Kr R ty sz v n xs O2 W2 :=
  ⟨ownsRow_mod h.r hs.mod fun g hg => h.n g hg, fun g hg hb => by
    rcases hs.own g hb with h1 | h1
    · exact h.n g hg h1
    · have := ownsRow_lt h.r hg; omega⟩
theorem Kr.later {R : Nat} {ty : TypeId} {sz : Nat} {v : Value} {n : Nat} {xs : List Value} {O : List Nat} {W W2 : World} (h : Kr R ty sz v n xs O W) (hb : Below W.heap.size W W2) : Kr R ty sz v n xs O W2 := h.step (astep_below hb)
/-- A row in new memory. -/
theorem Kr.new {T : Nat} {R : Nat} {ty : TypeId} {sz : Nat} {v : Value} {n : Nat} {xs : List Value} {O : List Nat} {s : St} {w W : World} (hA : ArM T O s w) (hR : w.heap.size ≤ R) (h : W.ownsRow R ty sz v n xs) : Kr R ty sz v n xs O W :=
  ⟨h, fun g hg hb => by have := hA.lt g hb; have := ownsRow_ge h hg; omega⟩
theorem Kp.new {T b : Nat} {O : List Nat} {s : St} {w W : World} {o : Obj} (hA : ArM T O s w) (hb : w.heap.size ≤ b) (h : W.heap[b]? = some o) : Kp b O W o := ⟨h, fun hk => by have := hA.lt b hk; omega⟩
/-- Steps over blocks that are all new leave what lay before. -/
theorem AStep.below {O O' : List Nat} {n : Nat} {w w' : World} (h : AStep O w O' w') (hn : n ≤ w.heap.size) (hO : ∀ k ∈ O, n ≤ k) : Below n w w' := h.mod.below hn fun k hk hk2 => by have := hO k hk2; omega
end Go.Proofs.YtdapdadcninidaaGreatDoor
namespace Go.Proofs.YtdapdadcninidaaGreatDoor
open Go.RowKit
attribute [local go_sem ↓] Go.wp_at_zero Go.wp_at_succ

theorem results_tmp4 {fn : Func} {t u v x : Tmp} (h : fn.results = #[.tmp t, .tmp u, .tmp v, .tmp x]) (tmps : Array Value) (P : Program) (w : World) :
    (results fn tmps).run P w = .ok (.tuple #[tmps.getD t undef, tmps.getD u undef, tmps.getD v undef, tmps.getD x undef]) w := by
  simp [results, h]
set_option maxRecDepth 100000 in
theorem attrF_any (y : Att) (sp : Int) (nm : List UInt8) (w : World) {bs bn : Nat} (c0 : w.cell? ⟨bs, 0, none⟩ = some (.int .i64 sp)) (c1 : w.cell? ⟨bn, 0, none⟩ = some (.string ⟨nm.toArray⟩)) :
    Calls Tryz.prog 163 #[attV y, .pointer (some ⟨bs, 0, none⟩), .pointer (some ⟨bn, 0, none⟩)] w (Ret w (.bool (y.space == sp && y.name == nm))) := by
  obtain ⟨ys, yn, yv⟩ := y
  have hb0 := World.block_lt_of_cell? _ _ c0
  have hb1 := World.block_lt_of_cell? _ _ c1
  unfold attV
  have HB0 := Lib.hid (fun o => balloc w o)
  dsimp only
  cases h1 : (ys == sp)
  · go_enter Tryz.func163, Tryz.ntmps163
    go_wp2
    all_goals
      go_ret
      exact Ret.mk (by simp) (HB0.out _)
  · go_enter Tryz.func163, Tryz.ntmps163
    go_wp2
    all_goals
      go_ret
      exact Ret.mk (by simp) (HB0.out _)
theorem eg_attr (args : Array Value) (w : World) : (callFunc 163 args).run Tryz.prog w = .ok (.enter 163 args) w := by simp [go_sem]
/-- What attribute answers: an error, or the attributes in memory of their own, an index, a name. -/
def AtG (ns : List Nd) (el : Int) (w : World) (e : Ending) (w' : World) : Prop := Below w.heap.size w w' ∧
  ((∃ er : Int, er ≠ 0 ∧ e = .returned (.tuple #[.slice none 0 0, .int .i64 (-1), .string ⟨#[]⟩, .int .i64 er])) ∨
   ∃ (x : Nat) (i : Int) (nm : List UInt8) (va : Option Addr) (vc : Nat), el = ((x : Nat) : Int) ∧ inR ns x ∧ e = .returned (.tuple #[.slice va (nd ns x).attrs.length vc, .int .i64 i, .string ⟨nm.toArray⟩, .int .i64 0]) ∧ w'.ownsRow w.heap.size 121 3 (.slice va (nd ns x).attrs.length vc) (nd ns x).attrs.length (attCells (nd ns x).attrs) ∧ -1 ≤ i ∧ i < ((nd ns x).attrs.length : Int))
/-- The world behind what attribute makes. -/
structure AtW (w : World) (sp : Int) (nm : List UInt8) (bx : Nat) (d : Nd) (k1 : Option Addr) (k2 : Nat) (a1 : Option Addr) (a2 : Nat) (W : World) : Prop where
  bl : Below w.heap.size w W
  cs : W.cell? ⟨w.heap.size, 0, none⟩ = some (.int .i64 sp)
  cn : W.cell? ⟨w.heap.size + 1, 0, none⟩ = some (.string ⟨nm.toArray⟩)
  bx : W.heap[bx]? = some (.cells (nodeArr d k1 k2 a1 a2) 55 (0, 0))
  row : W.ownsRow w.heap.size 121 3 (.slice a1 d.attrs.length a2) d.attrs.length (attCells d.attrs)
set_option maxRecDepth 100000 in
set_option maxHeartbeats 8000000 in
theorem attribute_any (el sp : Int) (nm : List UInt8) (w : World) {B : AB} {O : List Nat} {ns : List Nd} (hA : ArW B O ns w) (hf : Fit ns) (hl : nm.length ≤ 1000000) :
    Calls Tryz.prog 120 #[.pointer (some ⟨B, 0, none⟩), .int .i64 el, .int .i64 sp, .string ⟨nm.toArray⟩] w (AtG ns el w) := by
  obtain ⟨W0, hW0⟩ : ∃ W0, ((w.alloc (.cells #[.int .i64 sp] 29)).alloc (.cells #[.string ⟨nm.toArray⟩] 9)).alloc (.cells #[.int .i64 el] 3) = W0 := ⟨_, rfl⟩
  have b0 : Below w.heap.size w W0 := by rw [← hW0]; exact ((balloc w _).alloc (by simp) _).alloc (by simp; omega) _
  have hs0 : W0.heap.size = w.heap.size + 3 := by rw [← hW0]; simp
  have h0 : W0.heap[w.heap.size]? = some (.cells #[.int .i64 sp] 29 (0, 0)) := by rw [← hW0]; exact (Below.heap_alloc _ _ _ (by simp; omega)).trans ((Below.heap_alloc _ _ _ (by simp)).trans (World.alloc_heap_new w _))
  have h1 : W0.heap[w.heap.size + 1]? = some (.cells #[.string ⟨nm.toArray⟩] 9 (0, 0)) := by
    rw [← hW0]
    have e1 := World.alloc_heap_new (w.alloc (.cells #[.int .i64 sp] 29)) (.cells #[.string ⟨nm.toArray⟩] 9)
    rw [World.size_alloc] at e1
    exact (Below.heap_alloc _ _ _ (by simp)).trans e1
  have h2 : W0.heap[w.heap.size + 2]? = some (.cells #[.int .i64 el] 3 (0, 0)) := by
    rw [← hW0]
    have e1 := World.alloc_heap_new ((w.alloc (.cells #[.int .i64 sp] 29)).alloc (.cells #[.string ⟨nm.toArray⟩] 9)) (.cells #[.int .i64 el] 3)
    rw [World.size_alloc, World.size_alloc] at e1
    exact e1
  have H1 := checkD_any (B := B) (H := w.heap.size + 2) (c := 1) (-1) [el] W0 (hA.later b0) hf (by intro j v hj; match j, hj with | 0, hj => simp at hj; subst hj; rw [cell_of_row _ _ _ _ _ _ h2]; rfl) (by simp) (by omega)
  rw [chk_one] at H1
  have HE := Lib.hid (fun (er : Int) (w' : World) (h : er ≠ 0) (hb : Below w.heap.size w w') => show AtG ns el w (.returned (.tuple #[.slice none 0 0, .int .i64 (-1), .string ⟨#[]⟩, .int .i64 er])) w' from ⟨hb, .inl ⟨er, h, rfl⟩⟩)
  have HW := Lib.hid hW0; have HB0 := Lib.hid b0
  cases hh : isH ns.length el
  · rw [hh] at H1
    have H1 := Lib.hid H1
    clear hh hA hf b0 hW0 hs0 h0 h1 h2
    go_enter Tryz.func120, Tryz.ntmps120
    go_wp2_with fail
    rw [HW.out]
    refine H1.out.mono ?_
    rintro e w1 ⟨rfl, b1⟩
    have HB1 := Lib.hid (bthen HB0.out HB0.out.size b1)
    clear b1 H1
    go_wp2_with fail
    refine bodyPost_ret (results_tmp4 rfl _ _ _) rfl ?_
    exact HE.out _ _ (by decide) HB1.out
  · obtain ⟨x, rfl, hx⟩ := isH_nat hh
    rw [hh] at H1
    have H2 := fun w' (hb : Below w.heap.size w w') => NodeD_any ((x : Nat) : Int) w' (hA.later hb) hf
    rw [descAt_nd hx] at H2
    have hdl : (nd ns x).attrs.length ≤ 1000000 := hf.att _ (nd_mem hx)
    have HGO := Lib.hid (fun (i : Int) (nm' : List UInt8) {va vc} (w' : World) (hb : Below w.heap.size w w') (hr : w'.ownsRow w.heap.size 121 3 (.slice va (nd ns x).attrs.length vc) (nd ns x).attrs.length (attCells (nd ns x).attrs)) (h1 : -1 ≤ i) (h2 : i < ((nd ns x).attrs.length : Int)) => show AtG ns ((x : Nat) : Int) w (.returned (.tuple #[.slice va (nd ns x).attrs.length vc, .int .i64 i, .string ⟨nm'.toArray⟩, .int .i64 0])) w' from ⟨hb, .inr ⟨x, i, nm', va, vc, rfl, hx, rfl, hr, h1, h2⟩⟩)
    generalize nd ns x = d at *
    have H1 := Lib.hid H1; have H2 := Lib.hid H2
    have HL := Lib.hid (fun w' => Lower_any nm w' (by omega))
    generalize nodeE ns.length ((x : Nat) : Int) = ne at *
    clear hh hA hf b0 hW0 hx
    go_enter Tryz.func120, Tryz.ntmps120
    go_wp2_with fail
    rw [HW.out]
    refine H1.out.mono ?_
    rintro e w1 ⟨rfl, b1⟩
    have HB1 := Lib.hid (bthen HB0.out HB0.out.size b1)
    have g0 := (b1.block w.heap.size (by omega)).trans h0
    have g1 := (b1.block (w.heap.size + 1) (by omega)).trans h1
    have hs1 := b1.size
    have H3 := Lib.hid (H2.out w1 HB1.out)
    clear b1 H1 H2 h0 h1 h2
    go_wp2_with fail
    refine H3.out.mono ?_
    rintro e w2 ⟨k1, k2, a1, a2, rfl, -, hra, b2⟩
    have HB2 := Lib.hid (bthen HB1.out HB1.out.size b2)
    have f0 := (b2.block w.heap.size (by omega)).trans g0
    have f1 := (b2.block (w.heap.size + 1) (by omega)).trans g1
    have hs2 := b2.size
    have HR := Lib.hid (ownsRow_base HB1.out.size hra)
    have HNB : Hid (∀ g, (Value.slice a1 d.attrs.length a2).ownBlock = some g → g ≠ w.heap.size + 1) := Lib.hid (fun g hg e => by have := ownsRow_ge hra hg; omega)
    clear b2 H3 g0 g1 hra
    have s0 : ∀ o, (w2.alloc o).cell? ⟨w.heap.size, 0, none⟩ = some (.int .i64 sp) := fun o => by rw [cell_of_row _ _ _ _ _ _ ((Below.heap_alloc w2 o _ (by omega)).trans f0)]; rfl
    have s1 : ∀ o, (w2.alloc o).cell? ⟨w.heap.size + 1, 0, none⟩ = some (.string ⟨nm.toArray⟩) := fun o => by rw [cell_of_row _ _ _ _ _ _ ((Below.heap_alloc w2 o _ (by omega)).trans f1)]; rfl
    have hl2 : w.heap.size + 1 < w2.heap.size := by omega
    have HG0 := Lib.hid f0; have HG1 := Lib.hid f1
    clear f0 f1 hs1 hs2 HB1
    by_cases hk : d.kind = 4
    · have hkb : (d.kind != 4) = false := by simpa using hk
      clear hk
      by_cases hsp : sp < 0 ∨ 7 < sp
      · rcases hsp with h | h
        all_goals
          first | (have hn0 : ¬ sp < 0 := by omega) | skip
          go_wp2_with fail
          refine bodyPost_ret (results_tmp4 rfl _ _ _) rfl ?_
          exact HE.out _ _ (by decide) (HB2.out.alloc HB2.out.size _)
      · have hn0 : ¬ sp < 0 := by omega
        have hn7 : ¬ 7 < sp := by omega
        clear hsp
        by_cases hlow : d.space = 1 ∧ sp = 0
        · obtain ⟨hd1, rfl⟩ := hlow
          have hd1b : (d.space == 1) = true := by simpa using hd1
          clear hd1
          go_wp2_with fail
          generalize hW3 : w2.alloc _ = W3
          have hX : AtW w 0 nm w2.heap.size d k1 k2 a1 a2 W3 := ⟨by rw [← hW3]; exact HB2.out.alloc HB2.out.size _, by rw [← hW3]; exact s0 _, by rw [← hW3]; exact s1 _, by rw [← hW3]; exact World.alloc_heap_new w2 _, by rw [← hW3]; exact ownsRow_below HR.out (balloc _ _)⟩
          have e1 : W3.heap[w.heap.size + 1]? = some (.cells #[.string ⟨nm.toArray⟩] 9 (0, 0)) := by rw [← hW3]; exact (Below.heap_alloc w2 _ _ hl2).trans HG1.out
          obtain ⟨bx, hbx⟩ : ∃ bx, w2.heap.size = bx := ⟨_, rfl⟩
          rw [hbx] at hX hl2 ⊢
          have HX := Lib.hid hX; have HE1 := Lib.hid e1
          clear hW3 hX e1 hbx s0 s1 HB2 HR HG0 HG1
          have H5 := Lib.hid (HL.out W3)
          generalize lowL nm = ln at *
          refine H5.out.mono ?_
          rintro e w4 ⟨rfl, b4⟩
          have m1 := (b4.block (w.heap.size + 1) (Array.getElem?_eq_some_iff.1 HE1.out).1).trans HE1.out
          have fz : w4.frozen? ⟨w.heap.size + 1, 0, none⟩ = false := Lib.frozen_of_heap m1 0
          have cz : w4.cell? ⟨w.heap.size + 1, 0, none⟩ = some (.string ⟨nm.toArray⟩) := by rw [cell_of_row _ _ _ _ _ _ m1]; rfl
          have hb0 := World.block_lt_of_cell? _ _ HX.out.cs
          have hbb := (Array.getElem?_eq_some_iff.1 HX.out.bx).1
          have hm : Mod (fun k => k = w.heap.size + 1) w4 (w4.setCell ⟨w.heap.size + 1, 0, none⟩ (.string ⟨ln.toArray⟩)) := Mod.setCell _ _ rfl
          have hX5 : AtW w 0 ln bx d k1 k2 a1 a2 (w4.setCell ⟨w.heap.size + 1, 0, none⟩ (.string ⟨ln.toArray⟩)) :=
            ⟨(bthen HX.out.bl HX.out.bl.size b4).trans (hm.below (Nat.le_trans HX.out.bl.size b4.size) fun k hk e => by omega), (hm.cell (p := ⟨w.heap.size, 0, none⟩) (Nat.lt_of_lt_of_le hb0 b4.size) (by dsimp only; omega)).trans ((b4.cell (p := ⟨w.heap.size, 0, none⟩) hb0).trans HX.out.cs), by rw [cell_of_row _ _ _ _ _ _ (Joins.block_setCell (i := 0) m1 _)]; rfl, (hm.block bx (Nat.lt_of_lt_of_le hbb b4.size) (by omega)).trans ((b4.block bx hbb).trans HX.out.bx), row_keep (ownsRow_below HX.out.row b4) fun g hg => hm.block g (ownsRow_lt (ownsRow_below HX.out.row b4) hg) (HNB.out g hg)⟩
          have HX := Lib.hid hX5
          have q6s : (w4.setCell ⟨w.heap.size + 1, 0, none⟩ (.string ⟨ln.toArray⟩)).cell? ⟨bx, 6, none⟩ = some (.slice a1 d.attrs.length a2) := cell_of_row _ _ 6 _ _ _ hX5.bx
          clear hX5 hm b4 m1 H5 hb0 hbb HE1
          go_wp2_with fail
          clear q6s
          generalize hWW : w4.setCell _ _ = WW at *
          clear hWW fz cz
          have q0 := HX.out.cs
          have q1 := HX.out.cn
          have qb := HX.out.bx
          have q6 : WW.cell? ⟨bx, 6, none⟩ = some (.slice a1 d.attrs.length a2) := cell_of_row _ _ 6 _ _ _ qb
          have H6 := aIndexF_any d.attrs (fun y => y.space == (0 : Int) && y.name == ln) 163 #[.pointer (some ⟨w.heap.size, 0, none⟩), .pointer (some ⟨w.heap.size + 1, 0, none⟩)] WW (a := a1) (c := a2) hdl (AttsAt.own HX.out.row) eg_attr (fun y w' hb => attrF_any y 0 ln w' ((hb.cell (p := ⟨w.heap.size, 0, none⟩) (World.block_lt_of_cell? _ _ q0)).trans q0) ((hb.cell (p := ⟨w.heap.size + 1, 0, none⟩) (World.block_lt_of_cell? _ _ q1)).trans q1))
          have H6 := Lib.hid H6
          refine H6.out.mono ?_
          rintro e w7 ⟨⟨i, rfl, -, hi1, hi2⟩, b7⟩
          have l0 := World.block_lt_of_cell? _ _ q0
          have l1 := World.block_lt_of_cell? _ _ q1
          have l6 := World.block_lt_of_cell? _ _ q6
          have r1 := (b7.cell (p := ⟨w.heap.size + 1, 0, none⟩) l1).trans q1
          have r6 := (b7.cell (p := ⟨bx, 6, none⟩) l6).trans q6
          have HB7 := Lib.hid (bthen HX.out.bl HX.out.bl.size b7)
          have HR7 := Lib.hid (ownsRow_below HX.out.row b7)
          clear q0 q1 qb q6 H6 b7 l0 l1 l6
          go_wp2_with fail
          go_quiet (fail)
          generalize hW8 : w7.drewN _ = w8
          have HF := Lib.hid (show AtG ns ((x : Nat) : Int) w (.returned (.tuple #[.slice a1 d.attrs.length a2, .int .i64 i, .string ⟨ln.toArray⟩, .int .i64 0])) w8 from HGO.out i ln w8 (by rw [← hW8]; exact bdrewsA HB7.out _) (by rw [← hW8]; exact HR7.out) hi1 hi2)
          clear hW8 HB7 HR7 r1 r6 HX
          go_wp2_with fail
          refine bodyPost_ret (results_tmp4 rfl _ _ _) rfl ?_
          exact HF.out
        · have hlw : ((d.space == 1) = false) ∨ ((d.space == 1) = true ∧ (sp == 0) = false) := by
            by_cases h1 : d.space = 1
            · exact .inr ⟨by simpa using h1, by simpa using fun h => hlow ⟨h1, h⟩⟩
            · exact .inl (by simpa using h1)
          clear hlow
          rcases hlw with h1 | ⟨h1, h2⟩
          all_goals
            go_wp2_with fail
            generalize hW3 : w2.alloc _ = W3
            have hX : AtW w sp nm w2.heap.size d k1 k2 a1 a2 W3 := ⟨by rw [← hW3]; exact HB2.out.alloc HB2.out.size _, by rw [← hW3]; exact s0 _, by rw [← hW3]; exact s1 _, by rw [← hW3]; exact World.alloc_heap_new w2 _, by rw [← hW3]; exact ownsRow_below HR.out (balloc _ _)⟩
            have e1 : W3.heap[w.heap.size + 1]? = some (.cells #[.string ⟨nm.toArray⟩] 9 (0, 0)) := by rw [← hW3]; exact (Below.heap_alloc w2 _ _ hl2).trans HG1.out
            obtain ⟨bx, hbx⟩ : ∃ bx, w2.heap.size = bx := ⟨_, rfl⟩
            rw [hbx] at hX hl2 ⊢
            have HX := Lib.hid hX; have HE1 := Lib.hid e1
            clear hW3 hX e1 hbx s0 s1 HB2 HR HG0 HG1
            have q0 := HX.out.cs
            have q1 := HX.out.cn
            have qb := HX.out.bx
            have q6 : W3.cell? ⟨bx, 6, none⟩ = some (.slice a1 d.attrs.length a2) := cell_of_row _ _ 6 _ _ _ qb
            have H6 := aIndexF_any d.attrs (fun y => y.space == sp && y.name == nm) 163 #[.pointer (some ⟨w.heap.size, 0, none⟩), .pointer (some ⟨w.heap.size + 1, 0, none⟩)] W3 (a := a1) (c := a2) hdl (AttsAt.own HX.out.row) eg_attr (fun y w' hb => attrF_any y sp nm w' ((hb.cell (p := ⟨w.heap.size, 0, none⟩) (World.block_lt_of_cell? _ _ q0)).trans q0) ((hb.cell (p := ⟨w.heap.size + 1, 0, none⟩) (World.block_lt_of_cell? _ _ q1)).trans q1))
            have H6 := Lib.hid H6
            refine H6.out.mono ?_
            rintro e w7 ⟨⟨i, rfl, -, hi1, hi2⟩, b7⟩
            have l0 := World.block_lt_of_cell? _ _ q0
            have l1 := World.block_lt_of_cell? _ _ q1
            have l6 := World.block_lt_of_cell? _ _ q6
            have r1 := (b7.cell (p := ⟨w.heap.size + 1, 0, none⟩) l1).trans q1
            have r6 := (b7.cell (p := ⟨bx, 6, none⟩) l6).trans q6
            have HB7 := Lib.hid (bthen HX.out.bl HX.out.bl.size b7)
            have HR7 := Lib.hid (ownsRow_below HX.out.row b7)
            clear q0 q1 qb q6 H6 b7 l0 l1 l6
            go_wp2_with fail
            go_quiet (fail)
            generalize hW8 : w7.drewN _ = w8
            have HF := Lib.hid (show AtG ns ((x : Nat) : Int) w (.returned (.tuple #[.slice a1 d.attrs.length a2, .int .i64 i, .string ⟨nm.toArray⟩, .int .i64 0])) w8 from HGO.out i nm w8 (by rw [← hW8]; exact bdrewsA HB7.out _) (by rw [← hW8]; exact HR7.out) hi1 hi2)
            clear hW8 HB7 HR7 r1 r6 HX
            go_wp2_with fail
            refine bodyPost_ret (results_tmp4 rfl _ _ _) rfl ?_
            exact HF.out
    · have hkb : (d.kind != 4) = true := by simpa using hk
      go_wp2_with fail
      refine bodyPost_ret (results_tmp4 rfl _ _ _) rfl ?_
      exact HE.out _ _ (by decide) (HB2.out.alloc HB2.out.size _)
/-- A value set among attributes. -/
theorem AttsAt.setv {w : World} {a : Option Addr} {l : List Att} (h : AttsAt w a l) {g i : Nat} (hi : i < l.length) (ha : a = some ⟨g, 0, Option.none⟩) (v : List UInt8) :
    AttsAt (w.setCell ⟨g, i * 3 + 2, Option.none⟩ (.string ⟨v.toArray⟩)) a (l.set i { l[i] with value := v }) := by
  intro j y hj
  have hjl : j < l.length := by
    have := (List.getElem?_eq_some_iff.1 hj).1
    rwa [List.length_set] at this
  obtain ⟨g', o, e, c0, c1, c2⟩ := h j l[j] (List.getElem?_eq_getElem hjl)
  rw [ha] at e
  cases e
  have keep : ∀ k, k ≠ i * 3 + 2 → (w.setCell ⟨g, i * 3 + 2, Option.none⟩ (.string ⟨v.toArray⟩)).cell? ⟨g, k, Option.none⟩ = w.cell? ⟨g, k, Option.none⟩ := fun k hk => by
    refine World.cell?_setCell_other w _ _ _ fun e => ?_
    first | (simp at e; done) | (simp at e; omega)
  refine ⟨g, 0, ha, ?_⟩
  by_cases e : j = i
  · subst e
    have hy : y = { l[j] with value := v } := by
      have := (List.getElem?_eq_some_iff.1 hj).2
      rw [← this]; simp
    subst hy
    refine ⟨(keep _ (by omega)).trans c0, (keep _ (by omega)).trans c1, ?_⟩
    rw [Nat.zero_add] at c2 ⊢
    exact World.cell?_setCell_same w _ _ c2
  · have hy : y = l[j] := by
      have := (List.getElem?_eq_some_iff.1 hj).2
      rw [← this, List.getElem_set_ne (Ne.symm e)]
    subst hy
    exact ⟨(keep _ (by omega)).trans c0, (keep _ (by omega)).trans c1, (keep _ (by omega)).trans c2⟩
end Go.Proofs.YtdapdadcninidaaGreatDoor
