/- ValidElement, at every string. -/
import Derived.Test.YtdapdadcninidaaGreatDoorCls3
namespace Go.Proofs.YtdapdadcninidaaGreatDoor
open Go.RowKit

theorem classes5 {w : World} {f1 f2 f3 f4 f5 : Nat} {c1 c2 c3 c4 c5 : Array Value} {p1 p2 p3 p4 p5 : Int → Bool} (h1 : IsCls w f1 c1 p1) (h2 : IsCls w f2 c2 p2) (h3 : IsCls w f3 c3 p3) (h4 : IsCls w f4 c4 p4) (h5 : IsCls w f5 c5 p5) (t : TypeId) :
    IsClasses (w.alloc (.cells #[.func (.func f1) #[] c1, .func (.func f2) #[] c2, .func (.func f3) #[] c3, .func (.func f4) #[] c4, .func (.func f5) #[] c5] t)) (.slice (some ⟨w.heap.size, 0, none⟩) 5 5) [p1, p2, p3, p4, p5] := by
  have hb := (Below.refl w.heap.size w).alloc (Nat.le_refl _) (.cells #[.func (.func f1) #[] c1, .func (.func f2) #[] c2, .func (.func f3) #[] c3, .func (.func f4) #[] c4, .func (.func f5) #[] c5] t)
  refine ⟨_, _, rfl, fun i hi => ?_⟩
  match i, hi with
  | 0, _ => exact ⟨_, by go_cell, _, _, rfl, h1.later hb⟩
  | 1, _ => exact ⟨_, by go_cell, _, _, rfl, h2.later hb⟩
  | 2, _ => exact ⟨_, by go_cell, _, _, rfl, h3.later hb⟩
  | 3, _ => exact ⟨_, by go_cell, _, _, rfl, h4.later hb⟩
  | 4, _ => exact ⟨_, by go_cell, _, _, rfl, h5.later hb⟩
def validElem : List UInt8 → Bool
  | [] => false
  | c :: t =>
    if isLetter (c.toNat : Int) then allB (noneOf [47, 62]) (c :: t)
    else if anyC [inR 58 58, inR 95 95, inR 128 255] (c.toNat : Int) then allB (anyC [isAlnum, inR 45 46, inR 58 58, inR 95 95, inR 128 255]) t
    else false
set_option maxHeartbeats 2000000 in
theorem ValidElement_any (l : List UInt8) (w : World) (hs : l.length ≤ maxLen) : Calls Tryz.prog 82 #[.string ⟨l.toArray⟩] w (Ret w (.bool (validElem l))) := by
  have HS := Lib.hid hs; clear hs
  cases l with
  | nil =>
    go_enter Tryz.func82, Tryz.ntmps82
    go_wp2_with fail
    go_ret
    exact Ret.mk rfl (Below.refl _ _)
  | cons c t =>
    go_enter Tryz.func82, Tryz.ntmps82
    go_wp2_with fail
    rw [wrap32_byte]
    show Calls _ _ #[.int .i32 (c.toNat : Int)] _ _
    refine (IsLetter_any _ _).mono ?_
    rintro e w1 ⟨rfl, b1⟩
    cases hl : isLetter (c.toNat : Int)
    · have HL := Lib.hid hl; clear hl
      go_wp2_with fail
      refine (from_any 128 255 _).mono ?_
      rintro e w2 ⟨f2, cap2, rfl, c2, b2⟩
      go_wp2_with fail
      refine (from_any 58 58 _).mono ?_
      rintro e w3 ⟨f3, cap3, rfl, c3, b3⟩
      go_wp2_with fail
      refine (from_any 95 95 _).mono ?_
      rintro e w4 ⟨f4, cap4, rfl, c4, b4⟩
      go_wp2_with fail
      refine (either_any _ _ _ (by decide) (classes3 (c3.later b4) c4 ((c2.later b3).later b4) _)).mono ?_
      rintro e w9 ⟨f, cap, rfl, ⟨he, hc⟩, b9⟩
      have h1 := Lib.hid (hc w9 (Below.refl _ _) (c.toNat : Int))
      clear hc
      have B9 : Below w1.heap.size w1 w9 := bthen b2 b2.size (bthen b3 b3.size (bthen (bthen b4 b4.size (balloc _ _)) (Nat.le_trans b4.size (by simp)) b9))
      have C2 : IsCls w9 f2 cap2 (inR 128 255) := c2.later (bthen b3 b3.size (bthen (bthen b4 b4.size (balloc _ _)) (Nat.le_trans b4.size (by simp)) b9))
      clear b2 b3 b4 b9 c2 c3 c4
      go_wp2_with fail
      refine h1.out.mono ?_
      rintro e w10 ⟨rfl, b10⟩
      have B10 : Below w.heap.size w w10 := bthen b1 b1.size (bthen B9 B9.size b10)
      replace C2 := C2.later b10
      clear b1 B9 b10 h1
      cases ha : anyC [inR 58 58, inR 95 95, inR 128 255] (c.toNat : Int)
      · have HA := Lib.hid ha; clear ha
        go_wp2_with fail
        go_ret
        refine Ret.mk ?_ B10
        simp [validElem, HL.out, HA.out]
      · have HA := Lib.hid ha; clear ha
        go_wp2_with fail
        go_region_with (first
          | (go_at_call_of 133 (Value.int .i32 45); refine (from_any 45 46 _).mono ?_; rintro e wa ⟨fa, capa, rfl, ca, ba⟩)
          | (go_at_call_of 133 (Value.int .i32 58); refine (from_any 58 58 _).mono ?_; rintro e wb ⟨fb, capb, rfl, cb, bb⟩)
          | (go_at_call_of 133 (Value.int .i32 95); refine (from_any 95 95 _).mono ?_; rintro e wc ⟨fc, capc, rfl, cc, bc⟩)
          | (go_at_call 134; refine (either_any _ _ _ (by decide) (classes5 (isCls_of enter_IsAlnum IsAlnum_any) ((ca.later bb).later bc) (cb.later bc) cc (((C2.later (bdrew ba)).later bb).later bc) _)).mono ?_; rintro e wd ⟨fd, capd, rfl, cd, bd⟩)
          | (go_at_call 131; refine (all_any _ _ _ _ _ (by have := HS.out; simp at this ⊢; omega) cd).mono ?_; rintro e we ⟨rfl, be⟩))
        all_goals (
          have BB := bthen B10 B10.size (bthen (bdrew ba) (bdrew ba).size (chain2 bb bc bd be))
          clear ba bb bc bd be ca cb cc cd C2 B10 he
          go_wp2
          go_ret
          refine Ret.mk ?_ BB
          simp [validElem, HL.out, HA.out, sext, Act.put])
    · have HL := Lib.hid hl; clear hl
      go_wp2_with fail
      refine (none_any ⟨#[47, 62]⟩ _).mono ?_
      rintro e w2 ⟨f, cap, rfl, hc, b2⟩
      go_wp2_with fail
      refine (all_list _ f cap _ _ HS.out hc).mono ?_
      rintro e w3 ⟨rfl, b3⟩
      go_wp2_with fail
      go_ret
      refine Ret.mk ?_ (bthen b1 b1.size (bthen b2 b2.size b3))
      simp [validElem, HL.out]
end Go.Proofs.YtdapdadcninidaaGreatDoor
