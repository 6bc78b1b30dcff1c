/- thicketlaw01: TextClasses. -/
import Derived.Test.YtpfnakonpledgaaDoorPl1
namespace Go.Proofs.YtpfnakonpledgaaDoor
open Go.RowKit
attribute [local go_sem] sext
attribute [local go_sem] sapp

theorem cls_out {r : Int} (h : ¬ (0 ≤ r ∧ r < 128)) : isSpace r = false ∧ isUpper r = false ∧ isLetter r = false ∧ isDigit r = false ∧ isHex r = false ∧ isAlnum r = false := by
  simp [isSpace, isUpper, isLetter, isDigit, isHex, isAlnum, anyC, inR]
  omega


set_option maxRecDepth 100000 in
set_option maxHeartbeats 4000000 in
theorem TextClasses_any (r : Int) (w : World) (hg : Good w) : Calls Tryd.prog 5 #[.int .i32 r] w (Ret w (.bool true)) := by
  have HK := Lib.hid (fun w hg => known_any w hg)
  by_cases hin : 0 ≤ r ∧ r < 128
  · obtain ⟨c, rfl⟩ : ∃ c : UInt8, r = (c.toNat : Int) := ⟨UInt8.ofNat r.toNat, by rw [UInt8.toNat_ofNat']; omega⟩
    obtain ⟨h0, h1⟩ := hin
    have qHSpace := fun (w : World) (hg : Good w) => IsSpace_any (c.toNat : Int) w
    rw [isSpace_eq] at qHSpace
    have HSpace := Lib.hid qHSpace
    clear qHSpace
    have qRSpace := fun (w : World) (hg : Good w) => (rSpace_any c w).mono (fun _ _ h => h.ret)
    have RSpace := Lib.hid qRSpace
    clear qRSpace
    have qHUpper := fun (w : World) (hg : Good w) => IsUpper_any (c.toNat : Int) w
    rw [isUpper_eq] at qHUpper
    have HUpper := Lib.hid qHUpper
    clear qHUpper
    have qRUpper := fun (w : World) (hg : Good w) => (rUpper_any c w).mono (fun _ _ h => h.ret)
    have RUpper := Lib.hid qRUpper
    clear qRUpper
    have qHLetter := fun (w : World) (hg : Good w) => IsLetter_any (c.toNat : Int) w
    rw [isLetter_eq] at qHLetter
    have HLetter := Lib.hid qHLetter
    clear qHLetter
    have qRLetter := fun (w : World) (hg : Good w) => (rLetter_any c w).mono (fun _ _ h => h.ret)
    have RLetter := Lib.hid qRLetter
    clear qRLetter
    have qHDigit := fun (w : World) (hg : Good w) => IsDigit_any (c.toNat : Int) w
    rw [isDigit_eq] at qHDigit
    have HDigit := Lib.hid qHDigit
    clear qHDigit
    have qRDigit := fun (w : World) (hg : Good w) => (rDigit_any c w).mono (fun _ _ h => h.ret)
    have RDigit := Lib.hid qRDigit
    clear qRDigit
    have qHHex := fun (w : World) (hg : Good w) => IsHex_any (c.toNat : Int) w
    rw [isHex_eq] at qHHex
    have HHex := Lib.hid qHHex
    clear qHHex
    have qRHex := fun (w : World) (hg : Good w) => (rHex_any c w).mono (fun _ _ h => h.ret)
    have RHex := Lib.hid qRHex
    clear qRHex
    have qHAlnum := fun (w : World) (hg : Good w) => IsAlnum_any (c.toNat : Int) w
    rw [isAlnum_eq] at qHAlnum
    have HAlnum := Lib.hid qHAlnum
    clear qHAlnum
    have qRAlnum := fun (w : World) (hg : Good w) => (rAlnum_any c w).mono (fun _ _ h => h.ret)
    have RAlnum := Lib.hid qRAlnum
    clear qRAlnum
    generalize rSpace c = x1 at *
    generalize rUpper c = x2 at *
    generalize rLetter c = x3 at *
    generalize rDigit c = x4 at *
    generalize rAlnum c = x5 at *
    obtain ⟨x, hx⟩ : ∃ x, rHex c = x := ⟨_, rfl⟩
    rw [hx] at RHex HHex
    clear hx
    by_cases hp : 0 ≤ x
    · rw [show decide (0 ≤ x) = true from decide_eq_true hp] at HHex
      go_enter Tryd.func5, Tryd.ntmps5
      have b : Below w.heap.size w w := Below.refl _ _
      go_wp2_with fail
      refine (HSpace.out _ (hg.kept b)).mono ?_
      rintro e w1 ⟨rfl, c⟩
      replace b := bthen b b.size c
      clear c
      go_wp2_with fail
      refine (RSpace.out _ (hg.kept b)).mono ?_
      rintro e w2 ⟨rfl, c⟩
      replace b := bthen b b.size c
      clear c
      go_wp2_with fail
      refine (HUpper.out _ (hg.kept b)).mono ?_
      rintro e w3 ⟨rfl, c⟩
      replace b := bthen b b.size c
      clear c
      go_wp2_with fail
      refine (RUpper.out _ (hg.kept b)).mono ?_
      rintro e w4 ⟨rfl, c⟩
      replace b := bthen b b.size c
      clear c
      go_wp2_with fail
      refine (HLetter.out _ (hg.kept b)).mono ?_
      rintro e w5 ⟨rfl, c⟩
      replace b := bthen b b.size c
      clear c
      go_wp2_with fail
      refine (RLetter.out _ (hg.kept b)).mono ?_
      rintro e w6 ⟨rfl, c⟩
      replace b := bthen b b.size c
      clear c
      go_wp2_with fail
      refine (HDigit.out _ (hg.kept b)).mono ?_
      rintro e w7 ⟨rfl, c⟩
      replace b := bthen b b.size c
      clear c
      go_wp2_with fail
      refine (RDigit.out _ (hg.kept b)).mono ?_
      rintro e w8 ⟨rfl, c⟩
      replace b := bthen b b.size c
      clear c
      go_wp2_with fail
      refine (HHex.out _ (hg.kept b)).mono ?_
      rintro e w9 ⟨rfl, c⟩
      replace b := bthen b b.size c
      clear c
      go_wp2_with fail
      refine (RHex.out _ (hg.kept b)).mono ?_
      rintro e w10 ⟨rfl, c⟩
      replace b := bthen b b.size c
      clear c
      go_wp2_with fail
      refine (HAlnum.out _ (hg.kept b)).mono ?_
      rintro e w11 ⟨rfl, c⟩
      replace b := bthen b b.size c
      clear c
      go_wp2_with fail
      refine (RAlnum.out _ (hg.kept b)).mono ?_
      rintro e w12 ⟨rfl, c⟩
      replace b := bthen b b.size c
      clear c
      go_wp2_with fail
      refine (HK.out _ (hg.kept b)).mono ?_
      rintro e w13 ⟨rfl, c⟩
      replace b := bthen b b.size c
      clear c
      go_wp2_with fail
      go_ret
      exact Ret.mk rfl b
    · rw [show decide (0 ≤ x) = false from decide_eq_false hp] at HHex
      have hq : decide (0 ≤ x) = false := decide_eq_false hp
      have hq2 : x < 0 := by omega
      clear hp
      go_enter Tryd.func5, Tryd.ntmps5
      have b : Below w.heap.size w w := Below.refl _ _
      go_wp2_with fail
      refine (HSpace.out _ (hg.kept b)).mono ?_
      rintro e w1 ⟨rfl, c⟩
      replace b := bthen b b.size c
      clear c
      go_wp2_with fail
      refine (RSpace.out _ (hg.kept b)).mono ?_
      rintro e w2 ⟨rfl, c⟩
      replace b := bthen b b.size c
      clear c
      go_wp2_with fail
      refine (HUpper.out _ (hg.kept b)).mono ?_
      rintro e w3 ⟨rfl, c⟩
      replace b := bthen b b.size c
      clear c
      go_wp2_with fail
      refine (RUpper.out _ (hg.kept b)).mono ?_
      rintro e w4 ⟨rfl, c⟩
      replace b := bthen b b.size c
      clear c
      go_wp2_with fail
      refine (HLetter.out _ (hg.kept b)).mono ?_
      rintro e w5 ⟨rfl, c⟩
      replace b := bthen b b.size c
      clear c
      go_wp2_with fail
      refine (RLetter.out _ (hg.kept b)).mono ?_
      rintro e w6 ⟨rfl, c⟩
      replace b := bthen b b.size c
      clear c
      go_wp2_with fail
      refine (HDigit.out _ (hg.kept b)).mono ?_
      rintro e w7 ⟨rfl, c⟩
      replace b := bthen b b.size c
      clear c
      go_wp2_with fail
      refine (RDigit.out _ (hg.kept b)).mono ?_
      rintro e w8 ⟨rfl, c⟩
      replace b := bthen b b.size c
      clear c
      go_wp2_with fail
      refine (HHex.out _ (hg.kept b)).mono ?_
      rintro e w9 ⟨rfl, c⟩
      replace b := bthen b b.size c
      clear c
      go_wp2_with fail
      refine (RHex.out _ (hg.kept b)).mono ?_
      rintro e w10 ⟨rfl, c⟩
      replace b := bthen b b.size c
      clear c
      go_wp2_with fail
      refine (HAlnum.out _ (hg.kept b)).mono ?_
      rintro e w11 ⟨rfl, c⟩
      replace b := bthen b b.size c
      clear c
      go_wp2_with fail
      refine (RAlnum.out _ (hg.kept b)).mono ?_
      rintro e w12 ⟨rfl, c⟩
      replace b := bthen b b.size c
      clear c
      go_wp2_with fail
      refine (HK.out _ (hg.kept b)).mono ?_
      rintro e w13 ⟨rfl, c⟩
      replace b := bthen b b.size c
      clear c
      go_wp2_with fail
      go_ret
      exact Ret.mk rfl b
  · obtain ⟨hSpace, hUpper, hLetter, hDigit, hHex, hAlnum⟩ := cls_out hin
    have qHSpace := fun (w : World) (hg : Good w) => IsSpace_any r w
    rw [hSpace] at qHSpace
    have HSpace := Lib.hid qHSpace
    clear qHSpace
    have qHUpper := fun (w : World) (hg : Good w) => IsUpper_any r w
    rw [hUpper] at qHUpper
    have HUpper := Lib.hid qHUpper
    clear qHUpper
    have qHLetter := fun (w : World) (hg : Good w) => IsLetter_any r w
    rw [hLetter] at qHLetter
    have HLetter := Lib.hid qHLetter
    clear qHLetter
    have qHDigit := fun (w : World) (hg : Good w) => IsDigit_any r w
    rw [hDigit] at qHDigit
    have HDigit := Lib.hid qHDigit
    clear qHDigit
    have qHHex := fun (w : World) (hg : Good w) => IsHex_any r w
    rw [hHex] at qHHex
    have HHex := Lib.hid qHHex
    clear qHHex
    have qHAlnum := fun (w : World) (hg : Good w) => IsAlnum_any r w
    rw [hAlnum] at qHAlnum
    have HAlnum := Lib.hid qHAlnum
    clear qHAlnum
    clear hSpace hUpper hLetter hDigit hHex hAlnum
    by_cases h0 : 0 ≤ r
    · have h1 : decide (r < 128) = false := by simp; omega
      clear hin
      go_enter Tryd.func5, Tryd.ntmps5
      have b : Below w.heap.size w w := Below.refl _ _
      go_wp2_with fail
      refine (HSpace.out _ (hg.kept b)).mono ?_
      rintro e w1 ⟨rfl, c⟩
      replace b := bthen b b.size c
      clear c
      go_wp2_with fail
      refine (HUpper.out _ (hg.kept b)).mono ?_
      rintro e w2 ⟨rfl, c⟩
      replace b := bthen b b.size c
      clear c
      go_wp2_with fail
      refine (HLetter.out _ (hg.kept b)).mono ?_
      rintro e w3 ⟨rfl, c⟩
      replace b := bthen b b.size c
      clear c
      go_wp2_with fail
      refine (HDigit.out _ (hg.kept b)).mono ?_
      rintro e w4 ⟨rfl, c⟩
      replace b := bthen b b.size c
      clear c
      go_wp2_with fail
      refine (HHex.out _ (hg.kept b)).mono ?_
      rintro e w5 ⟨rfl, c⟩
      replace b := bthen b b.size c
      clear c
      go_wp2_with fail
      refine (HAlnum.out _ (hg.kept b)).mono ?_
      rintro e w6 ⟨rfl, c⟩
      replace b := bthen b b.size c
      clear c
      go_wp2_with fail
      refine (HK.out _ (hg.kept b)).mono ?_
      rintro e w7 ⟨rfl, c⟩
      replace b := bthen b b.size c
      clear c
      go_wp2_with fail
      go_ret
      exact Ret.mk rfl b
    · clear hin
      go_enter Tryd.func5, Tryd.ntmps5
      have b : Below w.heap.size w w := Below.refl _ _
      go_wp2_with fail
      refine (HSpace.out _ (hg.kept b)).mono ?_
      rintro e w1 ⟨rfl, c⟩
      replace b := bthen b b.size c
      clear c
      go_wp2_with fail
      refine (HUpper.out _ (hg.kept b)).mono ?_
      rintro e w2 ⟨rfl, c⟩
      replace b := bthen b b.size c
      clear c
      go_wp2_with fail
      refine (HLetter.out _ (hg.kept b)).mono ?_
      rintro e w3 ⟨rfl, c⟩
      replace b := bthen b b.size c
      clear c
      go_wp2_with fail
      refine (HDigit.out _ (hg.kept b)).mono ?_
      rintro e w4 ⟨rfl, c⟩
      replace b := bthen b b.size c
      clear c
      go_wp2_with fail
      refine (HHex.out _ (hg.kept b)).mono ?_
      rintro e w5 ⟨rfl, c⟩
      replace b := bthen b b.size c
      clear c
      go_wp2_with fail
      refine (HAlnum.out _ (hg.kept b)).mono ?_
      rintro e w6 ⟨rfl, c⟩
      replace b := bthen b b.size c
      clear c
      go_wp2_with fail
      refine (HK.out _ (hg.kept b)).mono ?_
      rintro e w7 ⟨rfl, c⟩
      replace b := bthen b b.size c
      clear c
      go_wp2_with fail
      go_ret
      exact Ret.mk rfl b

end Go.Proofs.YtpfnakonpledgaaDoor
