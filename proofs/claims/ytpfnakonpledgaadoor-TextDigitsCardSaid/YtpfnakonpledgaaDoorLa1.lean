/- thicketlaw01: TextLowers, TextFolds, TextElements, TextDigits. -/
import Derived.Test.YtpfnakonpledgaaDoorN1
import Derived.Test.YtpfnakonpledgaaDoorRd
import Derived.Test.YtpfnakonpledgaaDoorPl1
namespace Go.Proofs.YtpfnakonpledgaaDoor
open Go.RowKit
attribute [local go_sem] sext
attribute [local go_sem] sapp


set_option maxRecDepth 100000 in
set_option maxHeartbeats 4000000 in
theorem TextLowers_any (l : List UInt8) (w : World) (hg : Good w) (hl : l.length ≤ maxLen) : Calls Tryd.prog 10 #[.string ⟨l.toArray⟩] w (Ret w (.bool true)) := by
  have HK := Lib.hid (fun w hg => known_any w hg)
  by_cases gl : l.length ≤ 65536
  · have Sl := Lib.hid (small_yes l w hl gl)
    have qH1 := fun (w : World) (hg : Good w) => Lower_any l w (by omega)
    have H1 := Lib.hid qH1
    clear qH1
    have qH2 := fun (w : World) (hg : Good w) => rLower_any l w (by omega)
    have H2 := Lib.hid qH2
    clear qH2
    have qH3 := fun (w : World) (hg : Good w) => Lower_any (lowL l) w (by rw [lowL_len]; omega)
    rw [lowL_lowL] at qH3
    have H3 := Lib.hid qH3
    clear qH3
    have qH4 := fun (w : World) (hg : Good w) => AllSpace_any ⟨l.toArray⟩ w hl
    rw [allSpace_eq] at qH4
    have H4 := Lib.hid qH4
    clear qH4
    have qH5 := fun (w : World) (hg : Good w) => (rAllSpace_any l w (by omega)).mono (fun _ _ h => h.ret)
    have H5 := Lib.hid qH5
    clear qH5
    have hlen := lowL_len l
    generalize l.all rSpace = sp at *
    generalize lowL l = t at *
    go_enter Tryd.func10, Tryd.ntmps10
    have b : Below w.heap.size w w := Below.refl _ _
    go_wp2_with fail
    refine Sl.out.mono ?_
    rintro e w' ⟨rfl, rfl⟩
    go_wp2_with fail
    refine (H1.out _ (hg.kept b)).mono ?_
    rintro e w1 ⟨rfl, c⟩
    replace b := bthen b b.size c
    clear c
    go_wp2_with fail
    refine (H2.out _ (hg.kept b)).mono ?_
    rintro e w2 ⟨rfl, c⟩
    replace b := bthen b b.size c
    clear c
    go_wp2_with fail
    refine (H3.out _ (hg.kept b)).mono ?_
    rintro e w3 ⟨rfl, c⟩
    replace b := bthen b b.size c
    clear c
    go_wp2_with fail
    refine (H4.out _ (hg.kept b)).mono ?_
    rintro e w4 ⟨rfl, c⟩
    replace b := bthen b b.size c
    clear c
    go_wp2_with fail
    refine (H5.out _ (hg.kept b)).mono ?_
    rintro e w5 ⟨rfl, c⟩
    replace b := bthen b b.size c
    clear c
    go_wp2_with fail
    refine (HK.out _ (hg.kept b)).mono ?_
    rintro e w6 ⟨rfl, c⟩
    replace b := bthen b b.size c
    clear c
    go_wp2_with fail
    go_ret
    exact Ret.mk rfl b
  · have Sl := Lib.hid (small_no l w hl gl)
    go_enter Tryd.func10, Tryd.ntmps10
    have b : Below w.heap.size w w := Below.refl _ _
    go_wp2_with fail
    refine Sl.out.mono ?_
    rintro e w' ⟨rfl, rfl⟩
    go_wp2_with fail
    refine (HK.out _ (hg.kept b)).mono ?_
    rintro e w1 ⟨rfl, c⟩
    replace b := bthen b b.size c
    clear c
    go_wp2_with fail
    go_ret
    exact Ret.mk rfl b

set_option maxRecDepth 100000 in
set_option maxHeartbeats 4000000 in
theorem TextFolds_any (x : List UInt8) (y : List UInt8) (z : List UInt8) (w : World) (hg : Good w) (hx : x.length ≤ maxLen) (hy : y.length ≤ maxLen) (hz : z.length ≤ maxLen) : Calls Tryd.prog 11 #[.string ⟨x.toArray⟩, .string ⟨y.toArray⟩, .string ⟨z.toArray⟩] w (Ret w (.bool true)) := by
  have HK := Lib.hid (fun w hg => known_any w hg)
  by_cases gx : x.length ≤ 65536
  · have Sx := Lib.hid (small_yes x w hx gx)
    by_cases gy : y.length ≤ 65536
    · have Sy := Lib.hid (small_yes y w hy gy)
      by_cases gz : z.length ≤ 65536
      · have Sz := Lib.hid (small_yes z w hz gz)
        have qH1 := fun (w : World) (hg : Good w) => EqualFold_any x y w (by omega) (by omega)
        have H1 := Lib.hid qH1
        clear qH1
        have qH2 := fun (w : World) (hg : Good w) => EqualFold_any y z w (by omega) (by omega)
        have H2 := Lib.hid qH2
        clear qH2
        have qH3 := fun (w : World) (hg : Good w) => rLower_any x w (by omega)
        have H3 := Lib.hid qH3
        clear qH3
        have qH4 := fun (w : World) (hg : Good w) => rLower_any y w (by omega)
        have H4 := Lib.hid qH4
        clear qH4
        have qH5 := fun (w : World) (hg : Good w) => EqualFold_any y x w (by omega) (by omega)
        rw [fold_symm y x] at qH5
        have H5 := Lib.hid qH5
        clear qH5
        have qH6 := fun (w : World) (hg : Good w) => Lower_any x w (by omega)
        have H6 := Lib.hid qH6
        clear qH6
        have qH7 := fun (w : World) (hg : Good w) => EqualFold_any x (lowL x) w (by omega) (by rw [lowL_len]; omega)
        rw [lowL_lowL] at qH7
        rw [beq_self_eq_true] at qH7
        have H7 := Lib.hid qH7
        clear qH7
        have qH8 := fun (w : World) (hg : Good w) => EqualFold_any (x ++ z) (y ++ z) w (by simp; omega) (by simp; omega)
        rw [fold_app x y z] at qH8
        have H8 := Lib.hid qH8
        clear qH8
        cases hxy : lowL x == lowL y
        · rw [hxy] at H1 H5 H8
          have hb : (lowL x == lowL y) = false := hxy
          clear hxy
          go_enter Tryd.func11, Tryd.ntmps11
          have b : Below w.heap.size w w := Below.refl _ _
          go_wp2_with fail
          refine Sx.out.mono ?_
          rintro e w' ⟨rfl, rfl⟩
          go_wp2_with fail
          refine Sy.out.mono ?_
          rintro e w' ⟨rfl, rfl⟩
          go_wp2_with fail
          refine Sz.out.mono ?_
          rintro e w' ⟨rfl, rfl⟩
          go_wp2_with fail
          refine (H1.out _ (hg.kept b)).mono ?_
          rintro e w1 ⟨rfl, c⟩
          replace b := bthen b b.size c
          clear c
          go_wp2_with fail
          refine (H2.out _ (hg.kept b)).mono ?_
          rintro e w2 ⟨rfl, c⟩
          replace b := bthen b b.size c
          clear c
          go_wp2_with fail
          refine (H3.out _ (hg.kept b)).mono ?_
          rintro e w3 ⟨rfl, c⟩
          replace b := bthen b b.size c
          clear c
          go_wp2_with fail
          refine (H4.out _ (hg.kept b)).mono ?_
          rintro e w4 ⟨rfl, c⟩
          replace b := bthen b b.size c
          clear c
          go_wp2_with fail
          refine (H5.out _ (hg.kept b)).mono ?_
          rintro e w5 ⟨rfl, c⟩
          replace b := bthen b b.size c
          clear c
          go_wp2_with fail
          refine (H6.out _ (hg.kept b)).mono ?_
          rintro e w6 ⟨rfl, c⟩
          replace b := bthen b b.size c
          clear c
          go_wp2_with fail
          refine (H7.out _ (hg.kept b)).mono ?_
          rintro e w7 ⟨rfl, c⟩
          replace b := bthen b b.size c
          clear c
          go_wp2_with fail
          refine (H8.out _ (hg.kept b)).mono ?_
          rintro e w8 ⟨rfl, c⟩
          replace b := bthen b b.size c
          clear c
          go_wp2_with fail
          refine (HK.out _ (hg.kept b)).mono ?_
          rintro e w9 ⟨rfl, c⟩
          replace b := bthen b b.size c
          clear c
          go_wp2_with fail
          go_ret
          exact Ret.mk rfl b
        · have qH9 := fun (w : World) (hg : Good w) => EqualFold_any x z w (by omega) (by omega)
          rw [fold_trans hxy z] at qH9
          have H9 := Lib.hid qH9
          clear qH9
          rw [hxy] at H1 H5 H8
          have hb : (lowL x == lowL y) = true := hxy
          clear hxy
          generalize (lowL y == lowL z) = yz at *
          go_enter Tryd.func11, Tryd.ntmps11
          have b : Below w.heap.size w w := Below.refl _ _
          go_wp2_with fail
          refine Sx.out.mono ?_
          rintro e w' ⟨rfl, rfl⟩
          go_wp2_with fail
          refine Sy.out.mono ?_
          rintro e w' ⟨rfl, rfl⟩
          go_wp2_with fail
          refine Sz.out.mono ?_
          rintro e w' ⟨rfl, rfl⟩
          go_wp2_with fail
          refine (H1.out _ (hg.kept b)).mono ?_
          rintro e w1 ⟨rfl, c⟩
          replace b := bthen b b.size c
          clear c
          go_wp2_with fail
          refine (H2.out _ (hg.kept b)).mono ?_
          rintro e w2 ⟨rfl, c⟩
          replace b := bthen b b.size c
          clear c
          go_wp2_with fail
          refine (H3.out _ (hg.kept b)).mono ?_
          rintro e w3 ⟨rfl, c⟩
          replace b := bthen b b.size c
          clear c
          go_wp2_with fail
          refine (H4.out _ (hg.kept b)).mono ?_
          rintro e w4 ⟨rfl, c⟩
          replace b := bthen b b.size c
          clear c
          go_wp2_with fail
          refine (H5.out _ (hg.kept b)).mono ?_
          rintro e w5 ⟨rfl, c⟩
          replace b := bthen b b.size c
          clear c
          go_wp2_with fail
          refine (H6.out _ (hg.kept b)).mono ?_
          rintro e w6 ⟨rfl, c⟩
          replace b := bthen b b.size c
          clear c
          go_wp2_with fail
          refine (H7.out _ (hg.kept b)).mono ?_
          rintro e w7 ⟨rfl, c⟩
          replace b := bthen b b.size c
          clear c
          go_wp2_with fail
          refine (H9.out _ (hg.kept b)).mono ?_
          rintro e w8 ⟨rfl, c⟩
          replace b := bthen b b.size c
          clear c
          go_wp2_with fail
          refine (H8.out _ (hg.kept b)).mono ?_
          rintro e w9 ⟨rfl, c⟩
          replace b := bthen b b.size c
          clear c
          go_wp2_with fail
          refine (HK.out _ (hg.kept b)).mono ?_
          rintro e w10 ⟨rfl, c⟩
          replace b := bthen b b.size c
          clear c
          go_wp2_with fail
          go_ret
          exact Ret.mk rfl b
      · have Sz := Lib.hid (small_no z w hz gz)
        go_enter Tryd.func11, Tryd.ntmps11
        have b : Below w.heap.size w w := Below.refl _ _
        go_wp2_with fail
        refine Sx.out.mono ?_
        rintro e w' ⟨rfl, rfl⟩
        go_wp2_with fail
        refine Sy.out.mono ?_
        rintro e w' ⟨rfl, rfl⟩
        go_wp2_with fail
        refine Sz.out.mono ?_
        rintro e w' ⟨rfl, rfl⟩
        go_wp2_with fail
        refine (HK.out _ (hg.kept b)).mono ?_
        rintro e w1 ⟨rfl, c⟩
        replace b := bthen b b.size c
        clear c
        go_wp2_with fail
        go_ret
        exact Ret.mk rfl b
    · have Sy := Lib.hid (small_no y w hy gy)
      go_enter Tryd.func11, Tryd.ntmps11
      have b : Below w.heap.size w w := Below.refl _ _
      go_wp2_with fail
      refine Sx.out.mono ?_
      rintro e w' ⟨rfl, rfl⟩
      go_wp2_with fail
      refine Sy.out.mono ?_
      rintro e w' ⟨rfl, rfl⟩
      go_wp2_with fail
      refine (HK.out _ (hg.kept b)).mono ?_
      rintro e w1 ⟨rfl, c⟩
      replace b := bthen b b.size c
      clear c
      go_wp2_with fail
      go_ret
      exact Ret.mk rfl b
  · have Sx := Lib.hid (small_no x w hx gx)
    go_enter Tryd.func11, Tryd.ntmps11
    have b : Below w.heap.size w w := Below.refl _ _
    go_wp2_with fail
    refine Sx.out.mono ?_
    rintro e w' ⟨rfl, rfl⟩
    go_wp2_with fail
    refine (HK.out _ (hg.kept b)).mono ?_
    rintro e w1 ⟨rfl, c⟩
    replace b := bthen b b.size c
    clear c
    go_wp2_with fail
    go_ret
    exact Ret.mk rfl b

set_option maxRecDepth 100000 in
set_option maxHeartbeats 4000000 in
theorem TextElements_any (l : List UInt8) (w : World) (hg : Good w) (hl : l.length ≤ maxLen) : Calls Tryd.prog 6 #[.string ⟨l.toArray⟩] w (Ret w (.bool true)) := by
  have HK := Lib.hid (fun w hg => known_any w hg)
  by_cases gl : l.length ≤ 65536
  · have Sl := Lib.hid (small_yes l w hl gl)
    have qH1 := fun (w : World) (hg : Good w) => ValidElement_any l w hl
    rw [validElem_eq] at qH1
    have H1 := Lib.hid qH1
    clear qH1
    have qH2 := fun (w : World) (hg : Good w) => ValidAttribute_any l w hl
    rw [validAttr_eq] at qH2
    have H2 := Lib.hid qH2
    clear qH2
    have qH3 := fun (w : World) (hg : Good w) => (rValidElement_any l w (by omega)).mono (fun _ _ h => h.ret)
    have H3 := Lib.hid qH3
    clear qH3
    have qH4 := fun (w : World) (hg : Good w) => (rValidAttribute_any l w (by omega)).mono (fun _ _ h => h.ret)
    have H4 := Lib.hid qH4
    clear qH4
    have qH5 := fun (w : World) (hg : Good w) => Lower_any l w (by omega)
    have H5 := Lib.hid qH5
    clear qH5
    have qH6 := fun (w : World) (hg : Good w) => ValidElement_any (lowL l) w (by rw [lowL_len]; exact hl)
    rw [validElem_eq] at qH6
    rw [rValidElem_low] at qH6
    have H6 := Lib.hid qH6
    clear qH6
    have qH7 := fun (w : World) (hg : Good w) => ValidElement_any (l ++ [32]) w (by unfold maxLen; simp; omega)
    rw [validElem_eq] at qH7
    rw [rValidElem_snoc l 32 (by decide)] at qH7
    have H7 := Lib.hid qH7
    clear qH7
    have qH8 := fun (w : World) (hg : Good w) => ValidElement_any (l ++ [62]) w (by unfold maxLen; simp; omega)
    rw [validElem_eq] at qH8
    rw [rValidElem_snoc l 62 (by decide)] at qH8
    have H8 := Lib.hid qH8
    clear qH8
    have qH9 := fun (w : World) (hg : Good w) => ValidAttribute_any (l ++ [61]) w (by unfold maxLen; simp; omega)
    rw [validAttr_eq] at qH9
    rw [rValidAttr_snoc] at qH9
    have H9 := Lib.hid qH9
    clear qH9
    generalize rValidElem l = ve at *
    generalize rValidAttr l = va at *
    go_enter Tryd.func6, Tryd.ntmps6
    have b : Below w.heap.size w w := Below.refl _ _
    go_wp2_with fail
    refine Sl.out.mono ?_
    rintro e w' ⟨rfl, rfl⟩
    go_wp2_with fail
    refine (H1.out _ (hg.kept b)).mono ?_
    rintro e w1 ⟨rfl, c⟩
    replace b := bthen b b.size c
    clear c
    go_wp2_with fail
    refine (H2.out _ (hg.kept b)).mono ?_
    rintro e w2 ⟨rfl, c⟩
    replace b := bthen b b.size c
    clear c
    go_wp2_with fail
    refine (H3.out _ (hg.kept b)).mono ?_
    rintro e w3 ⟨rfl, c⟩
    replace b := bthen b b.size c
    clear c
    go_wp2_with fail
    refine (H4.out _ (hg.kept b)).mono ?_
    rintro e w4 ⟨rfl, c⟩
    replace b := bthen b b.size c
    clear c
    go_wp2_with fail
    refine (H5.out _ (hg.kept b)).mono ?_
    rintro e w5 ⟨rfl, c⟩
    replace b := bthen b b.size c
    clear c
    go_wp2_with fail
    refine (H6.out _ (hg.kept b)).mono ?_
    rintro e w6 ⟨rfl, c⟩
    replace b := bthen b b.size c
    clear c
    go_wp2_with fail
    refine (H7.out _ (hg.kept b)).mono ?_
    rintro e w7 ⟨rfl, c⟩
    replace b := bthen b b.size c
    clear c
    go_wp2_with fail
    refine (H8.out _ (hg.kept b)).mono ?_
    rintro e w8 ⟨rfl, c⟩
    replace b := bthen b b.size c
    clear c
    go_wp2_with fail
    refine (H9.out _ (hg.kept b)).mono ?_
    rintro e w9 ⟨rfl, c⟩
    replace b := bthen b b.size c
    clear c
    go_wp2_with fail
    refine (HK.out _ (hg.kept b)).mono ?_
    rintro e w10 ⟨rfl, c⟩
    replace b := bthen b b.size c
    clear c
    go_wp2_with fail
    go_ret
    exact Ret.mk rfl b
  · have Sl := Lib.hid (small_no l w hl gl)
    go_enter Tryd.func6, Tryd.ntmps6
    have b : Below w.heap.size w w := Below.refl _ _
    go_wp2_with fail
    refine Sl.out.mono ?_
    rintro e w' ⟨rfl, rfl⟩
    go_wp2_with fail
    refine (HK.out _ (hg.kept b)).mono ?_
    rintro e w1 ⟨rfl, c⟩
    replace b := bthen b b.size c
    clear c
    go_wp2_with fail
    go_ret
    exact Ret.mk rfl b

set_option maxRecDepth 100000 in
set_option maxHeartbeats 4000000 in
theorem TextDigits_any (l : List UInt8) (base : Int) (w : World) (hg : Good w) (hl : l.length ≤ maxLen) : Calls Tryd.prog 7 #[.string ⟨l.toArray⟩, .int .i64 base] w (Ret w (.bool true)) := by
  have HK := Lib.hid (fun w hg => known_any w hg)
  by_cases gl : l.length ≤ 65536
  · have Sl := Lib.hid (small_yes l w hl gl)
    have hd := rDig_bd l base
    have ht := rDig_take l base
    have hz := rDig_zeros l base
    have qH1 := fun (w : World) (hg : Good w) => Digits_any l base w (by omega)
    rw [digits_eq] at qH1
    have H1 := Lib.hid qH1
    clear qH1
    have qH2 := fun (w : World) (hg : Good w) => (rDigits_any l base w (by omega)).mono (fun _ _ h => h.ret)
    have H2 := Lib.hid qH2
    clear qH2
    have qH3 := fun (w : World) (hg : Good w) => Digits_any (l.take (rDig l base).2) base w (by simp; omega)
    rw [digits_eq] at qH3
    rw [ht] at qH3
    have H3 := Lib.hid qH3
    clear qH3
    have qH4 := fun (w : World) (hg : Good w) => Digits_any ([48, 48] ++ l.take (rDig l base).2) base w (by simp; omega)
    rw [digits_eq] at qH4
    rw [hz] at qH4
    have H4 := Lib.hid qH4
    clear qH4
    clear ht hz
    generalize rDig l base = cn at *
    obtain ⟨code, n⟩ := cn
    dsimp only at H1 H2 H3 H4 hd
    go_enter Tryd.func7, Tryd.ntmps7
    have b : Below w.heap.size w w := Below.refl _ _
    go_wp2_with fail
    refine Sl.out.mono ?_
    rintro e w' ⟨rfl, rfl⟩
    go_wp2_with fail
    refine (H1.out _ (hg.kept b)).mono ?_
    rintro e w1 ⟨rfl, c⟩
    replace b := bthen b b.size c
    clear c
    go_wp2_with fail
    refine (H2.out _ (hg.kept b)).mono ?_
    rintro e w2 ⟨rfl, c⟩
    replace b := bthen b b.size c
    clear c
    go_wp2_with fail
    refine (H3.out _ (hg.kept b)).mono ?_
    rintro e w3 ⟨rfl, c⟩
    replace b := bthen b b.size c
    clear c
    go_wp2_with fail
    refine (H4.out _ (hg.kept b)).mono ?_
    rintro e w4 ⟨rfl, c⟩
    replace b := bthen b b.size c
    clear c
    go_wp2_with fail
    refine (HK.out _ (hg.kept b)).mono ?_
    rintro e w5 ⟨rfl, c⟩
    replace b := bthen b b.size c
    clear c
    go_wp2_with fail
    go_ret
    exact Ret.mk rfl b
  · have Sl := Lib.hid (small_no l w hl gl)
    go_enter Tryd.func7, Tryd.ntmps7
    have b : Below w.heap.size w w := Below.refl _ _
    go_wp2_with fail
    refine Sl.out.mono ?_
    rintro e w' ⟨rfl, rfl⟩
    go_wp2_with fail
    refine (HK.out _ (hg.kept b)).mono ?_
    rintro e w1 ⟨rfl, c⟩
    replace b := bthen b b.size c
    clear c
    go_wp2_with fail
    go_ret
    exact Ret.mk rfl b

end Go.Proofs.YtpfnakonpledgaaDoor
