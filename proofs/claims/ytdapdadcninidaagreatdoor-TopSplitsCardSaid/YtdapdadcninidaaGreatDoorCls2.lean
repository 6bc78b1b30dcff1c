/- The public classes of package text (IsSpace, IsUpper, IsLetter, IsDigit, IsHex, IsAlnum), at every rune. -/
import Derived.Test.YtdapdadcninidaaGreatDoorCls
namespace Go.Proofs.YtdapdadcninidaaGreatDoor
open Go.RowKit

def isUpper (r : Int) : Bool := inR 65 90 r
def isDigit (r : Int) : Bool := inR 48 57 r
def isSpace (r : Int) : Bool := anyC [inR 9 10, inR 12 13, inR 32 32] r
def isLetter (r : Int) : Bool := anyC [isUpper, inR 97 122] r
def isHex (r : Int) : Bool := anyC [isDigit, inR 65 70, inR 97 102] r
def isAlnum (r : Int) : Bool := anyC [isLetter, isDigit] r

/-- A class whose function was given by name. -/
theorem isCls_of {w : World} {f : Nat} {p : Int → Bool} (he : ∀ args W, (callFunc f args).run Tryz.prog W = .ok (.enter f args) W) (hc : ∀ r W, Calls Tryz.prog f #[.int .i32 r] W (Ret W (.bool (p r)))) : IsCls w f #[] p :=
  ⟨he, fun W _ r => hc r W⟩
theorem classes2 {w : World} {f1 f2 : Nat} {c1 c2 : Array Value} {p1 p2 : Int → Bool} (h1 : IsCls w f1 c1 p1) (h2 : IsCls w f2 c2 p2) (t : TypeId) :
    IsClasses (w.alloc (.cells #[.func (.func f1) #[] c1, .func (.func f2) #[] c2] t)) (.slice (some ⟨w.heap.size, 0, none⟩) 2 2) [p1, p2] := by
  have hb := (Below.refl w.heap.size w).alloc (Nat.le_refl _) (.cells #[.func (.func f1) #[] c1, .func (.func f2) #[] c2] t)
  refine ⟨_, _, rfl, fun i hi => ?_⟩
  match i, hi with
  | 0, _ => exact ⟨_, by go_cell, _, _, rfl, h1.later hb⟩
  | 1, _ => exact ⟨_, by go_cell, _, _, rfl, h2.later hb⟩
theorem classes3 {w : World} {f1 f2 f3 : Nat} {c1 c2 c3 : Array Value} {p1 p2 p3 : Int → Bool} (h1 : IsCls w f1 c1 p1) (h2 : IsCls w f2 c2 p2) (h3 : IsCls w f3 c3 p3) (t : TypeId) :
    IsClasses (w.alloc (.cells #[.func (.func f1) #[] c1, .func (.func f2) #[] c2, .func (.func f3) #[] c3] t)) (.slice (some ⟨w.heap.size, 0, none⟩) 3 3) [p1, p2, p3] := by
  have hb := (Below.refl w.heap.size w).alloc (Nat.le_refl _) (.cells #[.func (.func f1) #[] c1, .func (.func f2) #[] c2, .func (.func f3) #[] c3] t)
  refine ⟨_, _, rfl, fun i hi => ?_⟩
  match i, hi with
  | 0, _ => exact ⟨_, by go_cell, _, _, rfl, h1.later hb⟩
  | 1, _ => exact ⟨_, by go_cell, _, _, rfl, h2.later hb⟩
  | 2, _ => exact ⟨_, by go_cell, _, _, rfl, h3.later hb⟩

theorem IsUpper_any (r : Int) (w : World) : Calls Tryz.prog 136 #[.int .i32 r] w (Ret w (.bool (isUpper r))) := by
  go_enter Tryz.func136, Tryz.ntmps136
  go_wp2_with fail
  refine (from_any 65 90 _).mono ?_
  rintro e w1 ⟨f, cap, rfl, ⟨he, hc⟩, b1⟩
  have h1 := Lib.hid (hc w1 (Below.refl _ _) r)
  clear hc
  go_wp2_with (refine h1.out.mono ?_; rintro e w2 ⟨rfl, b2⟩)
  go_ret
  exact Ret.mk rfl (bthen b1 b1.size b2)
theorem IsDigit_any (r : Int) (w : World) : Calls Tryz.prog 169 #[.int .i32 r] w (Ret w (.bool (isDigit r))) := by
  go_enter Tryz.func169, Tryz.ntmps169
  go_wp2_with fail
  refine (from_any 48 57 _).mono ?_
  rintro e w1 ⟨f, cap, rfl, ⟨he, hc⟩, b1⟩
  have h1 := Lib.hid (hc w1 (Below.refl _ _) r)
  clear hc
  go_wp2_with (refine h1.out.mono ?_; rintro e w2 ⟨rfl, b2⟩)
  go_ret
  exact Ret.mk rfl (bthen b1 b1.size b2)
theorem enter_IsUpper (args : Array Value) (W : World) : (callFunc 136 args).run Tryz.prog W = .ok (.enter 136 args) W := by simp [go_sem]
theorem enter_IsDigit (args : Array Value) (W : World) : (callFunc 169 args).run Tryz.prog W = .ok (.enter 169 args) W := by simp [go_sem]
theorem chain0 {w w9 w10 : World} {o : Obj} (b9 : Below (w.alloc o).heap.size (w.alloc o) w9) (b10 : Below w9.heap.size w9 w10) : Below w.heap.size w w10 :=
  bthen (bthen (balloc w o) (by simp) b9) (Nat.le_trans (by simp) b9.size) b10
theorem chain1 {w w1 w9 w10 : World} {o : Obj} (b1 : Below w.heap.size w w1) (b9 : Below (w1.alloc o).heap.size (w1.alloc o) w9) (b10 : Below w9.heap.size w9 w10) : Below w.heap.size w w10 :=
  bthen b1 b1.size (chain0 b9 b10)
theorem chain2 {w w1 w2 w9 w10 : World} {o : Obj} (b1 : Below w.heap.size w w1) (b2 : Below w1.heap.size w1 w2) (b9 : Below (w2.alloc o).heap.size (w2.alloc o) w9) (b10 : Below w9.heap.size w9 w10) : Below w.heap.size w w10 :=
  bthen b1 b1.size (chain1 b2 b9 b10)
theorem chain3 {w w1 w2 w3 w9 w10 : World} {o : Obj} (b1 : Below w.heap.size w w1) (b2 : Below w1.heap.size w1 w2) (b3 : Below w2.heap.size w2 w3) (b9 : Below (w3.alloc o).heap.size (w3.alloc o) w9) (b10 : Below w9.heap.size w9 w10) : Below w.heap.size w w10 :=
  bthen b1 b1.size (chain2 b2 b3 b9 b10)
theorem IsSpace_any (r : Int) (w : World) : Calls Tryz.prog 165 #[.int .i32 r] w (Ret w (.bool (isSpace r))) := by
  go_enter Tryz.func165, Tryz.ntmps165
  go_wp2_with fail
  refine (from_any 9 10 _).mono ?_
  rintro e w1 ⟨f1, cap1, rfl, c1, b1⟩
  go_wp2_with fail
  refine (from_any 12 13 _).mono ?_
  rintro e w2 ⟨f2, cap2, rfl, c2, b2⟩
  go_wp2_with fail
  refine (from_any 32 32 _).mono ?_
  rintro e w3 ⟨f3, cap3, rfl, c3, b3⟩
  go_wp2_with fail
  refine (either_any _ _ _ (by decide) (classes3 ((c1.later b2).later b3) (c2.later b3) c3 _)).mono ?_
  rintro e w9 ⟨f, cap, rfl, ⟨he, hc⟩, b9⟩
  have h1 := Lib.hid (hc w9 (Below.refl _ _) r)
  clear hc
  go_wp2_with (refine h1.out.mono ?_; rintro e w10 ⟨rfl, b10⟩)
  go_ret
  exact Ret.mk rfl (chain3 b1 b2 b3 b9 b10)
theorem IsLetter_any (r : Int) (w : World) : Calls Tryz.prog 130 #[.int .i32 r] w (Ret w (.bool (isLetter r))) := by
  go_enter Tryz.func130, Tryz.ntmps130
  go_wp2_with fail
  refine (from_any 97 122 _).mono ?_
  rintro e w1 ⟨f1, cap1, rfl, c1, b1⟩
  go_wp2_with fail
  refine (either_any _ _ _ (by decide) (classes2 (isCls_of enter_IsUpper IsUpper_any) c1 _)).mono ?_
  rintro e w9 ⟨f, cap, rfl, ⟨he, hc⟩, b9⟩
  have h1 := Lib.hid (hc w9 (Below.refl _ _) r)
  clear hc
  go_wp2_with (refine h1.out.mono ?_; rintro e w10 ⟨rfl, b10⟩)
  go_ret
  exact Ret.mk rfl (chain1 b1 b9 b10)
theorem enter_IsLetter (args : Array Value) (W : World) : (callFunc 130 args).run Tryz.prog W = .ok (.enter 130 args) W := by simp [go_sem]
theorem IsAlnum_any (r : Int) (w : World) : Calls Tryz.prog 135 #[.int .i32 r] w (Ret w (.bool (isAlnum r))) := by
  go_enter Tryz.func135, Tryz.ntmps135
  go_wp2_with fail
  refine (either_any _ _ _ (by decide) (classes2 (isCls_of enter_IsLetter IsLetter_any) (isCls_of enter_IsDigit IsDigit_any) _)).mono ?_
  rintro e w9 ⟨f, cap, rfl, ⟨he, hc⟩, b9⟩
  have h1 := Lib.hid (hc w9 (Below.refl _ _) r)
  clear hc
  go_wp2_with (refine h1.out.mono ?_; rintro e w10 ⟨rfl, b10⟩)
  go_ret
  exact Ret.mk rfl (chain0  b9 b10)
theorem enter_IsSpace (args : Array Value) (W : World) : (callFunc 165 args).run Tryz.prog W = .ok (.enter 165 args) W := by simp [go_sem]
theorem enter_IsAlnum (args : Array Value) (W : World) : (callFunc 135 args).run Tryz.prog W = .ok (.enter 135 args) W := by simp [go_sem]
end Go.Proofs.YtdapdadcninidaaGreatDoor
