/- text.Lower, EqualFold. -/
import Derived.Test.YtdapdadcninidaaGreatDoorCls2
import Derived.Lib.ConvBytes
import Derived.Lib.SlBytesRow
namespace Go.Proofs.YtdapdadcninidaaGreatDoor
open Go.RowKit
attribute [local go_sem] sext

def lowB (c : UInt8) : UInt8 := if 65 ≤ c ∧ c ≤ 90 then c + 32 else c
def lowL (l : List UInt8) : List UInt8 := l.map lowB

theorem isUpper_iff (c : UInt8) : isUpper (c.toNat : Int) = true ↔ 65 ≤ c ∧ c ≤ 90 := by
  rw [UInt8.le_iff_toNat_le, UInt8.le_iff_toNat_le]
  simp only [isUpper, inR, Bool.and_eq_true, decide_eq_true_eq]
  have h1 : (65 : UInt8).toNat = 65 := rfl
  have h2 : (90 : UInt8).toNat = 90 := rfl
  rw [h1, h2]
  omega
theorem lowB_up {c : UInt8} (h : isUpper (c.toNat : Int) = true) : ((c.toNat : Int) - 65 + 97) % 256 = ((lowB c).toNat : Int) := by
  have hc := (isUpper_iff c).1 h
  rw [lowB, if_pos hc, UInt8.toNat_add]
  rw [UInt8.le_iff_toNat_le, UInt8.le_iff_toNat_le] at hc
  have h1 : (65 : UInt8).toNat = 65 := rfl
  have h2 : (90 : UInt8).toNat = 90 := rfl
  have h3 : (32 : UInt8).toNat = 32 := rfl
  rw [h1, h2] at hc
  rw [h3]
  omega
theorem lowB_id {c : UInt8} (h : isUpper (c.toNat : Int) = false) : lowB c = c := by
  rw [lowB, if_neg]
  intro hc
  rw [(isUpper_iff c).2 hc] at h
  cases h
/-- Block D holds these bytes and some more cells, and the mark of a conversion's row. -/
def RowAt (W : World) (D n : Nat) (bs : List UInt8) : Prop := ∃ pad : List Value, W.heap[D]? = some (.cells ((Lib.byteCells bs ++ pad).toArray) 5 (n, n + 1)) ∧ bs.length ≤ n
theorem RowAt.cell {W : World} {D n : Nat} {bs : List UInt8} (h : RowAt W D n bs) (i : Nat) (hi : i < bs.length) : W.cell? ⟨D, i, none⟩ = some (.int .u8 (bs[i].toNat : Int)) := by
  obtain ⟨pad, h, _⟩ := h
  simp only [World.cell?, h]
  rw [List.getElem?_toArray, List.getElem?_append_left (by rw [Lib.byteCells_length]; exact hi)]
  simp [Lib.byteCells, hi]
theorem RowAt.frozen {W : World} {D n : Nat} {bs : List UInt8} (h : RowAt W D n bs) (i : Nat) (hi : i < bs.length) : W.frozen? ⟨D, i, none⟩ = false := by
  obtain ⟨pad, h, hn⟩ := h
  simp only [World.frozen?, h]
  simp; omega
theorem RowAt.set {W : World} {D n : Nat} {bs : List UInt8} (h : RowAt W D n bs) (i : Nat) (hi : i < bs.length) (c : UInt8) : RowAt (W.setCell ⟨D, i, none⟩ (.int .u8 (c.toNat : Int))) D n (bs.set i c) := by
  obtain ⟨pad, h, hn⟩ := h
  refine ⟨pad, ?_, by simpa using hn⟩
  show (W.heap.modify D _)[D]? = _
  rw [Array.getElem?_modify, if_pos rfl, h]
  have e : Lib.byteCells (bs.set i c) ++ pad = (Lib.byteCells bs ++ pad).set i (.int .u8 (c.toNat : Int)) := by
    rw [List.set_append_left _ _ (by rw [Lib.byteCells_length]; exact hi)]
    simp [Lib.byteCells, List.map_set]
  rw [e]
  simp
theorem RowAt.kept {A B : World} {D n : Nat} {bs : List UInt8} (h : RowAt A D n bs) (hb : Below A.heap.size A B) : RowAt B D n bs := by
  obtain ⟨pad, h, hn⟩ := h
  exact ⟨pad, (hb.block D (Array.getElem?_eq_some_iff.1 h).1).trans h, hn⟩
theorem RowAt.bytes {W : World} {D n : Nat} {bs : List UInt8} (h : RowAt W D n bs) : Lib.Bytes W D 0 ⟨bs.toArray⟩ := by
  intro i hi
  rw [Nat.zero_add]
  exact h.cell i hi
theorem RowAt.fresh (w : World) (l : List UInt8) : ∃ n, RowAt (Lib.bytesWorld w 5 ⟨l.toArray⟩) w.heap.size n l := by
  refine ⟨(Lib.bytesCells w 5 ⟨l.toArray⟩).size, List.replicate (grownCap w l.length 0 5 - l.length) (.int .u8 0), (Lib.bytesWorld_at_new w _ _).trans ?_, ?_⟩
  · have e : Lib.bytesCells w 5 ⟨l.toArray⟩ = (Lib.byteCells l ++ List.replicate (grownCap w l.length 0 5 - l.length) (Value.int .u8 0)).toArray := by
      apply Array.ext'
      simp [Lib.bytesCells, Lib.byteCells, ByteArray.size]
    rw [← e]
  · simp [Lib.bytesCells]
theorem bytesWorld_below (w : World) (l : List UInt8) : Below w.heap.size w (Lib.bytesWorld w 5 ⟨l.toArray⟩) :=
  ⟨rfl, rfl, rfl, by rw [Lib.bytesWorld_size]; omega, fun k hk => Lib.bytesWorld_at_old w _ _ k hk⟩
theorem low_next (l : List UInt8) (i : Nat) (hi : i < l.length) (c : UInt8) (hc : c = lowB l[i]) : ((l.take i).map lowB ++ l.drop i).set i c = (l.take (i + 1)).map lowB ++ l.drop (i + 1) := by
  rw [List.set_append_right _ _ (by simp; omega)]
  rw [List.drop_eq_getElem_cons hi]
  simp only [List.length_map, List.length_take, Nat.min_eq_left (Nat.le_of_lt hi), Nat.sub_self, List.set_cons_zero]
  rw [List.take_succ_eq_append_getElem hi, List.map_append, List.append_assoc, hc]
  rfl
theorem low_same (l : List UInt8) (i : Nat) (hi : i < l.length) (hc : lowB l[i] = l[i]) : (l.take (i + 1)).map lowB ++ l.drop (i + 1) = (l.take i).map lowB ++ l.drop i := by
  rw [List.take_succ_eq_append_getElem hi, List.map_append, List.append_assoc, List.drop_eq_getElem_cons hi, List.map_cons, hc]
  rfl
theorem low_at (l : List UInt8) (i : Nat) (hi : i < l.length) : ∃ h : i < ((l.take i).map lowB ++ l.drop i).length, ((l.take i).map lowB ++ l.drop i)[i]'h = l[i] := by
  have h : i < ((l.take i).map lowB ++ l.drop i).length := by simp; omega
  refine ⟨h, ?_⟩
  rw [List.getElem_append_right (by simp; omega)]
  simp [Nat.min_eq_left (Nat.le_of_lt hi)]

set_option maxRecDepth 100000 in
theorem Lower_any (l : List UInt8) (w : World) (hs : l.length ≤ 1000000000) :
    Calls Tryz.prog 83 #[.string ⟨l.toArray⟩] w (Ret w (.string ⟨(lowL l).toArray⟩)) := by
  obtain ⟨n, hrow⟩ := RowAt.fresh w l
  have kc := Lib.run_convert_string_bytes (P := Tryz.prog) w 9 110 5 ⟨l.toArray⟩ Tryz.underlying9 Tryz.underlying110 Tryz.underlying5
  obtain ⟨cap, hcap⟩ : ∃ cap, grownCap w (⟨l.toArray⟩ : ByteArray).size 0 5 = cap := ⟨_, rfl⟩
  obtain ⟨W, hW⟩ : ∃ W, Lib.bytesWorld w 5 ⟨l.toArray⟩ = W := ⟨_, rfl⟩
  rw [hcap, hW] at kc
  rw [hW] at hrow
  have HROW := Lib.hid hrow
  clear hrow hcap
  go_enter Tryz.func83, Tryz.ntmps83
  go_wp2_with fail
  have hsz : w.heap.size < W.heap.size := by rw [← hW, Lib.bytesWorld_size]; omega
  have HBW := Lib.hid (show Below w.heap.size w W from hW ▸ bytesWorld_below w l)
  clear hW kc
  go_loopw [10] (fun s10 wx => ∃ i : Nat, s10 = .int .i64 i ∧ i ≤ l.length ∧ RowAt wx w.heap.size n ((l.take i).map lowB ++ l.drop i) ∧ Below w.heap.size w wx ∧ w.heap.size < wx.heap.size) (fun i _ => l.length - (intOf i).toNat)
  case atStart => exact ⟨0, rfl, Nat.zero_le _, by simpa using HROW.out, HBW.out, hsz⟩
  case round =>
    obtain ⟨i, rfl, hi, hrow, hb, hsz2⟩ := hrel
    have HR := Lib.hid hrow; have HB := Lib.hid hb
    clear hrow hb HROW HBW
    by_cases hlt : i < l.length
    · obtain ⟨hh, hcv⟩ := low_at l i hlt
      have hc1 := HR.out.cell i hh
      have hf1 := HR.out.frozen i hh
      rw [hcv] at hc1
      obtain ⟨c, hcc⟩ : ∃ c, l[i] = c := ⟨_, rfl⟩
      rw [hcc] at hc1
      have HCC := Lib.hid hcc
      clear hcv hcc
      have h1 := IsUpper_any (c.toNat : Int) wr
      cases hp : isUpper (c.toNat : Int)
      · rw [hp] at h1
        have H1 := Lib.hid h1; have HP := Lib.hid hp; clear h1 hp
        go_wp2_with fail
        rw [wrap32_byte]
        go_wp2_with (refine H1.out.mono ?_; rintro e w1 ⟨rfl, hb1⟩)
        go_roundw
        case rel =>
          refine ⟨i + 1, by go_num, by omega, ?_, bthen HB.out HB.out.size hb1, by have := hb1.size; omega⟩
          rw [low_same l i hlt (by rw [HCC.out, lowB_id HP.out])]
          exact HR.out.kept hb1
        case measure => simp [intOf]; omega
      · rw [hp] at h1
        have H1 := Lib.hid h1; have HP := Lib.hid hp; clear h1 hp
        go_wp2_with fail
        rw [wrap32_byte]
        go_wp2_with (refine H1.out.mono ?_; rintro e w1 ⟨rfl, hb1⟩; have hf2 := (bcell hb1).2 w.heap.size i hsz2; rw [hf1] at hf2; have hc2 := (bcell hb1).1 w.heap.size i hsz2; rw [hc1] at hc2)
        rw [lowB_up HP.out]
        go_roundw
        case rel =>
          refine ⟨i + 1, by go_num, by omega, ?_, (bthen HB.out HB.out.size hb1).trans ?_, by have := hb1.size; simp; omega⟩
          · have := (HR.out.kept hb1).set i hh (lowB c)
            rwa [low_next l i hlt (lowB c) (by rw [HCC.out])] at this
          · exact Below.setCell (p := ⟨w.heap.size, i, none⟩) (Below.refl w.heap.size w1) (Nat.le_refl _) _
        case measure => simp [intOf]; omega
    · obtain rfl : i = l.length := by omega
      have hr : RowAt wr w.heap.size n (lowL l) := by have := HR.out; rwa [List.take_length, List.drop_length, List.append_nil] at this
      have kc := Lib.run_convert_whole (P := Tryz.prog) wr 110 5 9 Tryz.underlying110 Tryz.underlying5 Tryz.underlying9 w.heap.size 0 _ hr.bytes cap
      rw [show (⟨(lowL l).toArray⟩ : ByteArray).size = l.length by simp [lowL, ByteArray.size]] at kc
      clear hr
      go_wp2_with fail
      go_ret
      exact Ret.mk rfl HB.out
theorem lowL_len (l : List UInt8) : (lowL l).length = l.length := by simp [lowL]
theorem EqualFold_any (a b : List UInt8) (w : World) (ha : a.length ≤ 1000000000) (hb : b.length ≤ 1000000000) :
    Calls Tryz.prog 156 #[.string ⟨a.toArray⟩, .string ⟨b.toArray⟩] w (Ret w (.bool (lowL a == lowL b))) := by
  go_enter Tryz.func156, Tryz.ntmps156
  go_wp2_with fail
  refine (Lower_any a _ ha).mono ?_
  rintro e w1 ⟨rfl, b1⟩
  go_wp2_with fail
  refine (Lower_any b _ hb).mono ?_
  rintro e w2 ⟨rfl, b2⟩
  go_wp2_with fail
  go_ret
  refine Ret.mk ?_ (bthen b1 b1.size b2)
  rfl
end Go.Proofs.YtdapdadcninidaaGreatDoor
