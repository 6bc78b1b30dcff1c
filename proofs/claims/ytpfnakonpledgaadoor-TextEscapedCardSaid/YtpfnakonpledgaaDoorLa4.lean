/- thicketlaw01: TextEscapes, TextEscaped. -/
import Derived.Test.YtpfnakonpledgaaDoorPl3
import Derived.Test.YtpfnakonpledgaaDoorKn
import Derived.Test.YtpfnakonpledgaaDoorSpo
namespace Go.Proofs.YtpfnakonpledgaaDoor
open Go.RowKit
attribute [local go_sem] sext
attribute [local go_sem] sapp
attribute [local go_sem] sgetr

set_option maxRecDepth 100000 in
set_option maxHeartbeats 4000000 in
theorem TextEscapes_any (l : List UInt8) (w : World) (hg : Good w) (hl : l.length ≤ maxLen) : Calls Tryd.prog 8 #[.string ⟨l.toArray⟩] w (Ret w (.bool true)) := by
  have HK := Lib.hid (fun w hg => known_any w hg)
  by_cases gl : l.length ≤ 65536
  · have Sl := Lib.hid (small_yes l w hl gl)
    have ht := rEsc_len X1_len _ l (Nat.le_refl _)
    have hv := rEsc_len X2_len _ l (Nat.le_refl _)
    have qH1 := fun (w : World) (hg : Good w) => EscapeText_any l w (by omega)
    rw [escText_eq] at qH1
    have H1 := Lib.hid qH1
    clear qH1
    have qH2 := fun (w : World) (hg : Good w) => EscapeValue_any l w (by omega)
    rw [escValue_eq] at qH2
    have H2 := Lib.hid qH2
    clear qH2
    have qH3 := fun (w : World) (hg : Good w) => (rHas_any (rEsc X1 l) 60 w (by omega)).mono (fun _ _ h => h.ret)
    rw [hasB_no (rEsc_no X1_no60 (by decide) _ l (Nat.le_refl _))] at qH3
    have H3 := Lib.hid qH3
    clear qH3
    have qH4 := fun (w : World) (hg : Good w) => (rHas_any (rEsc X1 l) 62 w (by omega)).mono (fun _ _ h => h.ret)
    rw [hasB_no (rEsc_no X1_no62 (by decide) _ l (Nat.le_refl _))] at qH4
    have H4 := Lib.hid qH4
    clear qH4
    have qH5 := fun (w : World) (hg : Good w) => (rHas_any (rEsc X2 l) 34 w (by omega)).mono (fun _ _ h => h.ret)
    rw [hasB_no (rEsc_no X2_no34 (by decide) _ l (Nat.le_refl _))] at qH5
    have H5 := Lib.hid qH5
    clear qH5
    have qH6 := fun (w : World) (hg : Good w) => back_any (rEsc X1 l) w (by omega)
    rw [bk_text] at qH6
    have H6 := Lib.hid qH6
    clear qH6
    have qH7 := fun (w : World) (hg : Good w) => back_any (rEsc X2 l) w (by omega)
    rw [bk_value] at qH7
    have H7 := Lib.hid qH7
    clear qH7
    generalize rEsc X1 l = t at *
    generalize rEsc X2 l = v at *
    go_enter Tryd.func8, Tryd.ntmps8
    have b : Below w.heap.size w w := Below.refl _ _
    go_wp2_with fail
    refine Sl.out.mono ?_
    rintro e w' ⟨rfl, rfl⟩
    go_wp2_with fail
    refine (H1.out _ (hg.kept b)).mono ?_
    rintro e w1 ⟨rfl, c⟩
    replace b := bthen b b.size c
    clear c
    go_wp2_with fail
    refine (H2.out _ (hg.kept b)).mono ?_
    rintro e w2 ⟨rfl, c⟩
    replace b := bthen b b.size c
    clear c
    go_wp2_with fail
    refine (H3.out _ (hg.kept b)).mono ?_
    rintro e w3 ⟨rfl, c⟩
    replace b := bthen b b.size c
    clear c
    go_wp2_with fail
    refine (H4.out _ (hg.kept b)).mono ?_
    rintro e w4 ⟨rfl, c⟩
    replace b := bthen b b.size c
    clear c
    go_wp2_with fail
    refine (H5.out _ (hg.kept b)).mono ?_
    rintro e w5 ⟨rfl, c⟩
    replace b := bthen b b.size c
    clear c
    go_wp2_with fail
    refine (H6.out _ (hg.kept b)).mono ?_
    rintro e w6 ⟨rfl, c⟩
    replace b := bthen b b.size c
    clear c
    go_wp2_with fail
    refine (H7.out _ (hg.kept b)).mono ?_
    rintro e w7 ⟨rfl, c⟩
    replace b := bthen b b.size c
    clear c
    go_wp2_with fail
    refine (HK.out _ (hg.kept b)).mono ?_
    rintro e w8 ⟨rfl, c⟩
    replace b := bthen b b.size c
    clear c
    go_wp2_with fail
    go_ret
    exact Ret.mk rfl b
  · have Sl := Lib.hid (small_no l w hl gl)
    go_enter Tryd.func8, Tryd.ntmps8
    have b : Below w.heap.size w w := Below.refl _ _
    go_wp2_with fail
    refine Sl.out.mono ?_
    rintro e w' ⟨rfl, rfl⟩
    go_wp2_with fail
    refine (HK.out _ (hg.kept b)).mono ?_
    rintro e w1 ⟨rfl, c⟩
    replace b := bthen b b.size c
    clear c
    go_wp2_with fail
    go_ret
    exact Ret.mk rfl b

set_option maxRecDepth 100000 in
set_option maxHeartbeats 4000000 in
theorem TextEscaped_any (x : List UInt8) (y : List UInt8) (w : World) (hg : Good w) (hx : x.length ≤ maxLen) (hy : y.length ≤ maxLen) : Calls Tryd.prog 9 #[.string ⟨x.toArray⟩, .string ⟨y.toArray⟩] w (Ret w (.bool true)) := by
  have HK := Lib.hid (fun w hg => known_any w hg)
  by_cases gx : x.length ≤ 65536
  · have Sx := Lib.hid (small_yes x w hx gx)
    by_cases gy : y.length ≤ 65536
    · have Sy := Lib.hid (small_yes y w hy gy)
      have qH1 := fun (w : World) (hg : Good w) => EscapeText_any x w (by omega)
      rw [escText_eq] at qH1
      have H1 := Lib.hid qH1
      clear qH1
      have qH2 := fun (w : World) (hg : Good w) => rEscapeText_any x w (by omega)
      have H2 := Lib.hid qH2
      clear qH2
      have qH3 := fun (w : World) (hg : Good w) => EscapeValue_any x w (by omega)
      rw [escValue_eq] at qH3
      have H3 := Lib.hid qH3
      clear qH3
      have qH4 := fun (w : World) (hg : Good w) => rEscapeValue_any x w (by omega)
      have H4 := Lib.hid qH4
      clear qH4
      change Hid (∀ w, Good w → Calls _ _ _ w (Ret w (.string ⟨(rEsc X1 x).toArray⟩))) at H2
      change Hid (∀ w, Good w → Calls _ _ _ w (Ret w (.string ⟨(rEsc X2 x).toArray⟩))) at H4
      by_cases hz : 0 < x.length
      · by_cases hc : x[x.length - 1] = 194
        · have ht : ((x[x.length - 1].toNat : Int) == 194) = true := by rw [hc]; rfl
          clear hc
          generalize rEsc X1 x = tx at *
          generalize rEsc X2 x = vx at *
          go_enter Tryd.func9, Tryd.ntmps9
          have b : Below w.heap.size w w := Below.refl _ _
          go_wp2_with fail
          refine Sx.out.mono ?_
          rintro e w' ⟨rfl, rfl⟩
          go_wp2_with fail
          refine Sy.out.mono ?_
          rintro e w' ⟨rfl, rfl⟩
          go_wp2_with fail
          refine (H1.out _ (hg.kept b)).mono ?_
          rintro e w1 ⟨rfl, c⟩
          replace b := bthen b b.size c
          clear c
          go_wp2_with fail
          refine (H2.out _ (hg.kept b)).mono ?_
          rintro e w2 ⟨rfl, c⟩
          replace b := bthen b b.size c
          clear c
          go_wp2_with fail
          refine (H3.out _ (hg.kept b)).mono ?_
          rintro e w3 ⟨rfl, c⟩
          replace b := bthen b b.size c
          clear c
          go_wp2_with fail
          refine (H4.out _ (hg.kept b)).mono ?_
          rintro e w4 ⟨rfl, c⟩
          replace b := bthen b b.size c
          clear c
          go_wp2_with fail
          refine (HK.out _ (hg.kept b)).mono ?_
          rintro e w5 ⟨rfl, c⟩
          replace b := bthen b b.size c
          clear c
          go_wp2_with fail
          go_ret
          exact Ret.mk rfl b
        · have ht : ((x[x.length - 1].toNat : Int) == 194) = false := by
            have e : ((x[x.length - 1].toNat : Int) == 194) = (x[x.length - 1] == 194) := u8_eq (b := 194)
            rw [e]; simpa using hc
          have hl : x.getLast? ≠ some 194 := by rw [List.getLast?_eq_getElem?, List.getElem?_eq_getElem (by omega)]; simpa using hc
          clear hc
          have H5 := Lib.hid (fun (w : World) (hg : Good w) => (show Calls _ _ _ _ (Ret w (.string ⟨(rEsc X1 x ++ rEsc X1 y).toArray⟩)) from by rw [← rEsc_app _ x y (Nat.le_refl _) hl, ← escText_eq]; exact EscapeText_any (x ++ y) w (by simp only [List.length_append]; omega)))
          have H6 := Lib.hid (fun (w : World) (hg : Good w) => (show Calls _ _ _ _ (Ret w (.string ⟨(rEsc X2 x ++ rEsc X2 y).toArray⟩)) from by rw [← rEsc_app _ x y (Nat.le_refl _) hl, ← escValue_eq]; exact EscapeValue_any (x ++ y) w (by simp only [List.length_append]; omega)))
          have qH7 := fun (w : World) (hg : Good w) => EscapeText_any y w (by omega)
          rw [escText_eq] at qH7
          have H7 := Lib.hid qH7
          clear qH7
          have qH8 := fun (w : World) (hg : Good w) => EscapeValue_any y w (by omega)
          rw [escValue_eq] at qH8
          have H8 := Lib.hid qH8
          clear qH8
          have l1 := rEsc_len X1_len _ x (Nat.le_refl _)
          have l2 := rEsc_len X1_len _ y (Nat.le_refl _)
          have l3 := rEsc_len X2_len _ x (Nat.le_refl _)
          have l4 := rEsc_len X2_len _ y (Nat.le_refl _)
          clear hl
          generalize rEsc X1 x = tx at *
          generalize rEsc X1 y = ty at *
          generalize rEsc X2 x = vx at *
          generalize rEsc X2 y = vy at *
          go_enter Tryd.func9, Tryd.ntmps9
          have b : Below w.heap.size w w := Below.refl _ _
          go_wp2_with fail
          refine Sx.out.mono ?_
          rintro e w' ⟨rfl, rfl⟩
          go_wp2_with fail
          refine Sy.out.mono ?_
          rintro e w' ⟨rfl, rfl⟩
          go_wp2_with fail
          refine (H1.out _ (hg.kept b)).mono ?_
          rintro e w1 ⟨rfl, c⟩
          replace b := bthen b b.size c
          clear c
          go_wp2_with fail
          refine (H2.out _ (hg.kept b)).mono ?_
          rintro e w2 ⟨rfl, c⟩
          replace b := bthen b b.size c
          clear c
          go_wp2_with fail
          refine (H3.out _ (hg.kept b)).mono ?_
          rintro e w3 ⟨rfl, c⟩
          replace b := bthen b b.size c
          clear c
          go_wp2_with fail
          refine (H4.out _ (hg.kept b)).mono ?_
          rintro e w4 ⟨rfl, c⟩
          replace b := bthen b b.size c
          clear c
          go_wp2_with fail
          refine (H5.out _ (hg.kept b)).mono ?_
          rintro e w5 ⟨rfl, c⟩
          replace b := bthen b b.size c
          clear c
          go_wp2_with fail
          refine (H1.out _ (hg.kept b)).mono ?_
          rintro e w6 ⟨rfl, c⟩
          replace b := bthen b b.size c
          clear c
          go_wp2_with fail
          refine (H7.out _ (hg.kept b)).mono ?_
          rintro e w7 ⟨rfl, c⟩
          replace b := bthen b b.size c
          clear c
          go_wp2_with fail
          refine (H6.out _ (hg.kept b)).mono ?_
          rintro e w8 ⟨rfl, c⟩
          replace b := bthen b b.size c
          clear c
          go_wp2_with fail
          refine (H3.out _ (hg.kept b)).mono ?_
          rintro e w9 ⟨rfl, c⟩
          replace b := bthen b b.size c
          clear c
          go_wp2_with fail
          refine (H8.out _ (hg.kept b)).mono ?_
          rintro e w10 ⟨rfl, c⟩
          replace b := bthen b b.size c
          clear c
          go_wp2_with fail
          refine (HK.out _ (hg.kept b)).mono ?_
          rintro e w11 ⟨rfl, c⟩
          replace b := bthen b b.size c
          clear c
          go_wp2_with fail
          go_ret
          exact Ret.mk rfl b
      · have hl : x.getLast? ≠ some 194 := by rw [List.eq_nil_of_length_eq_zero (show x.length = 0 by omega)]; simp
        have H5 := Lib.hid (fun (w : World) (hg : Good w) => (show Calls _ _ _ _ (Ret w (.string ⟨(rEsc X1 x ++ rEsc X1 y).toArray⟩)) from by rw [← rEsc_app _ x y (Nat.le_refl _) hl, ← escText_eq]; exact EscapeText_any (x ++ y) w (by simp only [List.length_append]; omega)))
        have H6 := Lib.hid (fun (w : World) (hg : Good w) => (show Calls _ _ _ _ (Ret w (.string ⟨(rEsc X2 x ++ rEsc X2 y).toArray⟩)) from by rw [← rEsc_app _ x y (Nat.le_refl _) hl, ← escValue_eq]; exact EscapeValue_any (x ++ y) w (by simp only [List.length_append]; omega)))
        have qH7 := fun (w : World) (hg : Good w) => EscapeText_any y w (by omega)
        rw [escText_eq] at qH7
        have H7 := Lib.hid qH7
        clear qH7
        have qH8 := fun (w : World) (hg : Good w) => EscapeValue_any y w (by omega)
        rw [escValue_eq] at qH8
        have H8 := Lib.hid qH8
        clear qH8
        have l1 := rEsc_len X1_len _ x (Nat.le_refl _)
        have l2 := rEsc_len X1_len _ y (Nat.le_refl _)
        have l3 := rEsc_len X2_len _ x (Nat.le_refl _)
        have l4 := rEsc_len X2_len _ y (Nat.le_refl _)
        clear hl
        generalize rEsc X1 x = tx at *
        generalize rEsc X1 y = ty at *
        generalize rEsc X2 x = vx at *
        generalize rEsc X2 y = vy at *
        go_enter Tryd.func9, Tryd.ntmps9
        have b : Below w.heap.size w w := Below.refl _ _
        go_wp2_with fail
        refine Sx.out.mono ?_
        rintro e w' ⟨rfl, rfl⟩
        go_wp2_with fail
        refine Sy.out.mono ?_
        rintro e w' ⟨rfl, rfl⟩
        go_wp2_with fail
        refine (H1.out _ (hg.kept b)).mono ?_
        rintro e w1 ⟨rfl, c⟩
        replace b := bthen b b.size c
        clear c
        go_wp2_with fail
        refine (H2.out _ (hg.kept b)).mono ?_
        rintro e w2 ⟨rfl, c⟩
        replace b := bthen b b.size c
        clear c
        go_wp2_with fail
        refine (H3.out _ (hg.kept b)).mono ?_
        rintro e w3 ⟨rfl, c⟩
        replace b := bthen b b.size c
        clear c
        go_wp2_with fail
        refine (H4.out _ (hg.kept b)).mono ?_
        rintro e w4 ⟨rfl, c⟩
        replace b := bthen b b.size c
        clear c
        go_wp2_with fail
        refine (H5.out _ (hg.kept b)).mono ?_
        rintro e w5 ⟨rfl, c⟩
        replace b := bthen b b.size c
        clear c
        go_wp2_with fail
        refine (H1.out _ (hg.kept b)).mono ?_
        rintro e w6 ⟨rfl, c⟩
        replace b := bthen b b.size c
        clear c
        go_wp2_with fail
        refine (H7.out _ (hg.kept b)).mono ?_
        rintro e w7 ⟨rfl, c⟩
        replace b := bthen b b.size c
        clear c
        go_wp2_with fail
        refine (H6.out _ (hg.kept b)).mono ?_
        rintro e w8 ⟨rfl, c⟩
        replace b := bthen b b.size c
        clear c
        go_wp2_with fail
        refine (H3.out _ (hg.kept b)).mono ?_
        rintro e w9 ⟨rfl, c⟩
        replace b := bthen b b.size c
        clear c
        go_wp2_with fail
        refine (H8.out _ (hg.kept b)).mono ?_
        rintro e w10 ⟨rfl, c⟩
        replace b := bthen b b.size c
        clear c
        go_wp2_with fail
        refine (HK.out _ (hg.kept b)).mono ?_
        rintro e w11 ⟨rfl, c⟩
        replace b := bthen b b.size c
        clear c
        go_wp2_with fail
        go_ret
        exact Ret.mk rfl b
    · have Sy := Lib.hid (small_no y w hy gy)
      go_enter Tryd.func9, Tryd.ntmps9
      have b : Below w.heap.size w w := Below.refl _ _
      go_wp2_with fail
      refine Sx.out.mono ?_
      rintro e w' ⟨rfl, rfl⟩
      go_wp2_with fail
      refine Sy.out.mono ?_
      rintro e w' ⟨rfl, rfl⟩
      go_wp2_with fail
      refine (HK.out _ (hg.kept b)).mono ?_
      rintro e w1 ⟨rfl, c⟩
      replace b := bthen b b.size c
      clear c
      go_wp2_with fail
      go_ret
      exact Ret.mk rfl b
  · have Sx := Lib.hid (small_no x w hx gx)
    go_enter Tryd.func9, Tryd.ntmps9
    have b : Below w.heap.size w w := Below.refl _ _
    go_wp2_with fail
    refine Sx.out.mono ?_
    rintro e w' ⟨rfl, rfl⟩
    go_wp2_with fail
    refine (HK.out _ (hg.kept b)).mono ?_
    rintro e w1 ⟨rfl, c⟩
    replace b := bthen b b.size c
    clear c
    go_wp2_with fail
    go_ret
    exact Ret.mk rfl b

end Go.Proofs.YtpfnakonpledgaaDoor
