/- thicketlaw01: TextDecodes, TextValid, TextPieces, TextInput. -/
import Derived.Test.YtpfnakonpledgaaDoorRk
import Derived.Test.YtpfnakonpledgaaDoorPl6
import Derived.Test.YtpfnakonpledgaaDoorN1
namespace Go.Proofs.YtpfnakonpledgaaDoor
open Go.RowKit
attribute [local go_sem] sext
attribute [local go_sem] sapp
attribute [local go_sem] sgetr

set_option maxRecDepth 100000 in
set_option maxHeartbeats 4000000 in
theorem TextDecodes_any (l : List UInt8) (w : World) (hg : Good w) (hl : l.length ≤ maxLen) : Calls Tryd.prog 12 #[.string ⟨l.toArray⟩] w (Ret w (.bool true)) := by
  have HK := Lib.hid (fun w hg => known_any w hg)
  by_cases gl : l.length ≤ 65536
  · have Sl := Lib.hid (small_yes l w hl gl)
    have hdl := decL_len l
    have hrl := decR_len l
    have HR1 := Lib.hid (fun (w : World) => rDecode_any l w (by omega))
    have HRN := Lib.hid (decR_rng l)
    have HT := Lib.hid (text_decR l)
    have qH2 := fun (w : World) (hg : Good w) => Decode_any l w (by omega)
    have H2 := Lib.hid qH2
    clear qH2
    have qH4 := fun (w : World) (hg : Good w) => Input_any l w hg (by omega)
    have H4 := Lib.hid qH4
    clear qH4
    have qH5 := fun (w : World) (hg : Good w) => rInput_any l w (by omega)
    have H5 := Lib.hid qH5
    clear qH5
    have qH6 := fun (w : World) (hg : Good w) => Count_any l w (by omega)
    have H6 := Lib.hid qH6
    clear qH6
    have hcnt : (decR l).length = (pieces l).length := by unfold decR; rw [List.length_map]
    have HCNT := Lib.hid hcnt
    clear hcnt
    go_enter Tryd.func12, Tryd.ntmps12
    have b : Below w.heap.size w w := Below.refl _ _
    go_wp2_with fail
    refine Sl.out.mono ?_
    rintro e w' ⟨rfl, rfl⟩
    go_wp2_with fail
    refine (HR1.out _).mono ?_
    rintro e w1 ⟨v, rfl, hv, c⟩
    have hvl := OwnV.shape hv
    obtain ⟨va, vc, rfl⟩ := hvl
    have HV := Lib.hid hv
    replace b := bthen b b.size c
    clear c hv
    rw [show (runeVals (decR l)).length = (pieces l).length from by rw [← HCNT.out]; simp [runeVals]] at HV ⊢
    go_wp2_with fail
    refine (H2.out _ (hg.kept b)).mono ?_
    rintro e w2 ⟨rfl, c⟩
    have h3 := rText_any (decR l) _ _ w2 (OwnV.below HV.out c) (by omega) (fun r hr => ⟨(HRN.out r hr).1, by have := (HRN.out r hr).2; omega⟩)
    rw [HT.out] at h3
    have H3 := Lib.hid h3
    clear h3
    replace b := bthen b b.size c
    clear c
    go_wp2_with fail
    refine H3.out.mono ?_
    rintro e w3 ⟨rfl, c⟩
    replace b := bthen b b.size c
    clear c
    generalize newlines (decL l) = nl at *
    clear HT HV
    generalize decL l = t at *
    go_wp2_with fail
    refine (H4.out _ (hg.kept b)).mono ?_
    rintro e w4 ⟨rfl, c⟩
    replace b := bthen b b.size c
    clear c
    go_wp2_with fail
    refine (H5.out _ (hg.kept b)).mono ?_
    rintro e w5 ⟨rfl, c⟩
    replace b := bthen b b.size c
    clear c
    go_wp2_with fail
    refine (H6.out _ (hg.kept b)).mono ?_
    rintro e w6 ⟨rfl, c⟩
    replace b := bthen b b.size c
    clear c
    go_wp2_with fail
    refine (HK.out _ (hg.kept b)).mono ?_
    rintro e w4 ⟨rfl, c⟩
    replace b := bthen b b.size c
    clear c
    go_wp2_with fail
    go_ret
    exact Ret.mk rfl b
  · have Sl := Lib.hid (small_no l w hl gl)
    go_enter Tryd.func12, Tryd.ntmps12
    have b : Below w.heap.size w w := Below.refl _ _
    go_wp2_with fail
    refine Sl.out.mono ?_
    rintro e w' ⟨rfl, rfl⟩
    go_wp2_with fail
    refine (HK.out _ (hg.kept b)).mono ?_
    rintro e w1 ⟨rfl, c⟩
    replace b := bthen b b.size c
    clear c
    go_wp2_with fail
    go_ret
    exact Ret.mk rfl b

set_option maxRecDepth 100000 in
set_option maxHeartbeats 4000000 in
theorem TextValid_any (l : List UInt8) (w : World) (hg : Good w) (hl : l.length ≤ maxLen) : Calls Tryd.prog 14 #[.string ⟨l.toArray⟩] w (Ret w (.bool true)) := by
  have HK := Lib.hid (fun w hg => known_any w hg)
  by_cases gl : l.length ≤ 65536
  · have Sl := Lib.hid (small_yes l w hl gl)
    have hdl := decL_len l
    have qH1 := fun (w : World) (hg : Good w) => Decode_any l w (by omega)
    have H1 := Lib.hid qH1
    clear qH1
    have qH2 := fun (w : World) (hg : Good w) => Valid_any l w (by omega)
    have H2 := Lib.hid qH2
    clear qH2
    have qH3 := fun (w : World) (hg : Good w) => rValid_any l w (by omega)
    have H3 := Lib.hid qH3
    clear qH3
    have qH4 := fun (w : World) (hg : Good w) => Valid_any (decL l) w (by omega)
    rw [valid_dec] at qH4
    have H4 := Lib.hid qH4
    clear qH4
    have hvi := valid_iff l
    generalize decL l = t at *
    generalize validL l = v at *
    go_enter Tryd.func14, Tryd.ntmps14
    have b : Below w.heap.size w w := Below.refl _ _
    go_wp2_with fail
    refine Sl.out.mono ?_
    rintro e w' ⟨rfl, rfl⟩
    go_wp2_with fail
    refine (H1.out _ (hg.kept b)).mono ?_
    rintro e w1 ⟨rfl, c⟩
    replace b := bthen b b.size c
    clear c
    go_wp2_with fail
    refine (H2.out _ (hg.kept b)).mono ?_
    rintro e w2 ⟨rfl, c⟩
    replace b := bthen b b.size c
    clear c
    go_wp2_with fail
    refine (H3.out _ (hg.kept b)).mono ?_
    rintro e w3 ⟨rfl, c⟩
    replace b := bthen b b.size c
    clear c
    go_wp2_with fail
    refine (H4.out _ (hg.kept b)).mono ?_
    rintro e w4 ⟨rfl, c⟩
    replace b := bthen b b.size c
    clear c
    go_wp2_with fail
    refine (H2.out _ (hg.kept b)).mono ?_
    rintro e w5 ⟨rfl, c⟩
    replace b := bthen b b.size c
    clear c
    go_wp2_with fail
    refine (HK.out _ (hg.kept b)).mono ?_
    rintro e w6 ⟨rfl, c⟩
    replace b := bthen b b.size c
    clear c
    go_wp2_with fail
    go_ret
    exact Ret.mk rfl b
  · have Sl := Lib.hid (small_no l w hl gl)
    go_enter Tryd.func14, Tryd.ntmps14
    have b : Below w.heap.size w w := Below.refl _ _
    go_wp2_with fail
    refine Sl.out.mono ?_
    rintro e w' ⟨rfl, rfl⟩
    go_wp2_with fail
    refine (HK.out _ (hg.kept b)).mono ?_
    rintro e w1 ⟨rfl, c⟩
    replace b := bthen b b.size c
    clear c
    go_wp2_with fail
    go_ret
    exact Ret.mk rfl b

set_option maxRecDepth 100000 in
set_option maxHeartbeats 4000000 in
theorem TextPieces_any (x : List UInt8) (y : List UInt8) (w : World) (hg : Good w) (hx : x.length ≤ maxLen) (hy : y.length ≤ maxLen) : Calls Tryd.prog 13 #[.string ⟨x.toArray⟩, .string ⟨y.toArray⟩] w (Ret w (.bool true)) := by
  have HK := Lib.hid (fun w hg => known_any w hg)
  by_cases gx : x.length ≤ 65536
  · have Sx := Lib.hid (small_yes x w hx gx)
    by_cases gy : y.length ≤ 65536
    · have Sy := Lib.hid (small_yes y w hy gy)
      have hxl := decL_len x
      have hyl := decL_len y
      have qH1 := fun (w : World) (hg : Good w) => Decode_any x w (by omega)
      have H1 := Lib.hid qH1
      clear qH1
      have qH2 := fun (w : World) (hg : Good w) => Decode_any y w (by omega)
      have H2 := Lib.hid qH2
      clear qH2
      have qH3 := fun (w : World) (hg : Good w) => Decode_any (decL x ++ y) w (by simp only [List.length_append]; omega)
      rw [dec_app] at qH3
      have H3 := Lib.hid qH3
      clear qH3
      have qH4 := fun (w : World) (hg : Good w) => Decode_any (decL x) w (by omega)
      rw [dec_dec] at qH4
      have H4 := Lib.hid qH4
      clear qH4
      have qH5 := fun (w : World) (hg : Good w) => Count_any (decL x ++ decL y) w (by simp only [List.length_append]; omega)
      rw [count_dec_app] at qH5
      rw [pieces_dec] at qH5
      rw [List.length_map] at qH5
      have H5 := Lib.hid qH5
      clear qH5
      have qH6 := fun (w : World) (hg : Good w) => Count_any x w (by omega)
      have H6 := Lib.hid qH6
      clear qH6
      have qH7 := fun (w : World) (hg : Good w) => Count_any y w (by omega)
      have H7 := Lib.hid qH7
      clear qH7
      have cx := pieces_len_le x
      have cy := pieces_len_le y
      generalize (pieces x).length = nx at *
      generalize (pieces y).length = ny at *
      generalize decL x = s at *
      generalize decL y = t at *
      go_enter Tryd.func13, Tryd.ntmps13
      have b : Below w.heap.size w w := Below.refl _ _
      go_wp2_with fail
      refine Sx.out.mono ?_
      rintro e w' ⟨rfl, rfl⟩
      go_wp2_with fail
      refine Sy.out.mono ?_
      rintro e w' ⟨rfl, rfl⟩
      go_wp2_with fail
      refine (H1.out _ (hg.kept b)).mono ?_
      rintro e w1 ⟨rfl, c⟩
      replace b := bthen b b.size c
      clear c
      go_wp2_with fail
      refine (H2.out _ (hg.kept b)).mono ?_
      rintro e w2 ⟨rfl, c⟩
      replace b := bthen b b.size c
      clear c
      go_wp2_with fail
      refine (H3.out _ (hg.kept b)).mono ?_
      rintro e w3 ⟨rfl, c⟩
      replace b := bthen b b.size c
      clear c
      go_wp2_with fail
      refine (H4.out _ (hg.kept b)).mono ?_
      rintro e w4 ⟨rfl, c⟩
      replace b := bthen b b.size c
      clear c
      go_wp2_with fail
      refine (H5.out _ (hg.kept b)).mono ?_
      rintro e w5 ⟨rfl, c⟩
      replace b := bthen b b.size c
      clear c
      go_wp2_with fail
      refine (H6.out _ (hg.kept b)).mono ?_
      rintro e w6 ⟨rfl, c⟩
      replace b := bthen b b.size c
      clear c
      go_wp2_with fail
      refine (H7.out _ (hg.kept b)).mono ?_
      rintro e w7 ⟨rfl, c⟩
      replace b := bthen b b.size c
      clear c
      go_wp2_with fail
      refine (HK.out _ (hg.kept b)).mono ?_
      rintro e w8 ⟨rfl, c⟩
      replace b := bthen b b.size c
      clear c
      go_wp2_with fail
      go_ret
      exact Ret.mk rfl b
    · have Sy := Lib.hid (small_no y w hy gy)
      go_enter Tryd.func13, Tryd.ntmps13
      have b : Below w.heap.size w w := Below.refl _ _
      go_wp2_with fail
      refine Sx.out.mono ?_
      rintro e w' ⟨rfl, rfl⟩
      go_wp2_with fail
      refine Sy.out.mono ?_
      rintro e w' ⟨rfl, rfl⟩
      go_wp2_with fail
      refine (HK.out _ (hg.kept b)).mono ?_
      rintro e w1 ⟨rfl, c⟩
      replace b := bthen b b.size c
      clear c
      go_wp2_with fail
      go_ret
      exact Ret.mk rfl b
  · have Sx := Lib.hid (small_no x w hx gx)
    go_enter Tryd.func13, Tryd.ntmps13
    have b : Below w.heap.size w w := Below.refl _ _
    go_wp2_with fail
    refine Sx.out.mono ?_
    rintro e w' ⟨rfl, rfl⟩
    go_wp2_with fail
    refine (HK.out _ (hg.kept b)).mono ?_
    rintro e w1 ⟨rfl, c⟩
    replace b := bthen b b.size c
    clear c
    go_wp2_with fail
    go_ret
    exact Ret.mk rfl b

set_option maxRecDepth 100000 in
set_option maxHeartbeats 4000000 in
theorem TextInput_any (l : List UInt8) (w : World) (hg : Good w) (hl : l.length ≤ maxLen) : Calls Tryd.prog 16 #[.string ⟨l.toArray⟩] w (Ret w (.bool true)) := by
  have HK := Lib.hid (fun w hg => known_any w hg)
  by_cases gl : l.length ≤ 65536
  · have Sl := Lib.hid (small_yes l w hl gl)
    have hdl := decL_len l
    have hnl := newlines_len (decL l)
    obtain ⟨f1, f2, f3, f4⟩ := input_facts l
    have qH1 := fun (w : World) (hg : Good w) => Input_any l w hg (by omega)
    have H1 := Lib.hid qH1
    clear qH1
    have qH2 := fun (w : World) (hg : Good w) => Valid_any (newlines (decL l)) w (by omega)
    rw [f1] at qH2
    have H2 := Lib.hid qH2
    clear qH2
    have qH3 := fun (w : World) (hg : Good w) => (rHas_any (newlines (decL l)) 13 w (by omega)).mono (fun _ _ h => h.ret)
    rw [hasB_newlines] at qH3
    have H3 := Lib.hid qH3
    clear qH3
    have qH4 := fun (w : World) (hg : Good w) => Input_any (newlines (decL l)) w hg (by omega)
    rw [f2] at qH4
    have H4 := Lib.hid qH4
    clear qH4
    have qH5 := fun (w : World) (hg : Good w) => Count_any (newlines (decL l)) w (by omega)
    have H5 := Lib.hid qH5
    clear qH5
    have qH6 := fun (w : World) (hg : Good w) => Input_any (newlines (decL l) ++ [13, 10]) w hg (by simp; omega)
    rw [f4] at qH6
    have H6 := Lib.hid qH6
    clear qH6
    clear f1 f2 f4
    generalize (pieces (newlines (decL l))).length = cnt at *
    generalize newlines (decL l) = v at *
    go_enter Tryd.func16, Tryd.ntmps16
    have b : Below w.heap.size w w := Below.refl _ _
    go_wp2_with fail
    refine Sl.out.mono ?_
    rintro e w' ⟨rfl, rfl⟩
    go_wp2_with fail
    refine (H1.out _ (hg.kept b)).mono ?_
    rintro e w1 ⟨rfl, c⟩
    replace b := bthen b b.size c
    clear c
    go_wp2_with fail
    refine (H2.out _ (hg.kept b)).mono ?_
    rintro e w2 ⟨rfl, c⟩
    replace b := bthen b b.size c
    clear c
    go_wp2_with fail
    refine (H3.out _ (hg.kept b)).mono ?_
    rintro e w3 ⟨rfl, c⟩
    replace b := bthen b b.size c
    clear c
    go_wp2_with fail
    refine (H4.out _ (hg.kept b)).mono ?_
    rintro e w4 ⟨rfl, c⟩
    replace b := bthen b b.size c
    clear c
    go_wp2_with fail
    refine (H5.out _ (hg.kept b)).mono ?_
    rintro e w5 ⟨rfl, c⟩
    replace b := bthen b b.size c
    clear c
    go_wp2_with fail
    refine (H6.out _ (hg.kept b)).mono ?_
    rintro e w6 ⟨rfl, c⟩
    replace b := bthen b b.size c
    clear c
    go_wp2_with fail
    refine (HK.out _ (hg.kept b)).mono ?_
    rintro e w7 ⟨rfl, c⟩
    replace b := bthen b b.size c
    clear c
    go_wp2_with fail
    go_ret
    exact Ret.mk rfl b
  · have Sl := Lib.hid (small_no l w hl gl)
    go_enter Tryd.func16, Tryd.ntmps16
    have b : Below w.heap.size w w := Below.refl _ _
    go_wp2_with fail
    refine Sl.out.mono ?_
    rintro e w' ⟨rfl, rfl⟩
    go_wp2_with fail
    refine (HK.out _ (hg.kept b)).mono ?_
    rintro e w1 ⟨rfl, c⟩
    replace b := bthen b b.size c
    clear c
    go_wp2_with fail
    go_ret
    exact Ret.mk rfl b

end Go.Proofs.YtpfnakonpledgaaDoor
