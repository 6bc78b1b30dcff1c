/- Plain law: replacing the references restores what was escaped. -/
import Derived.Test.YtpfnakonpledgaaDoorPl2
import Derived.Test.YtpfnakonpledgaaDoorBk
namespace Go.Proofs.YtpfnakonpledgaaDoor
open Go.RowKit

theorem bk_other {c : UInt8} {t : List UInt8} (h : c ≠ 38) : bkL (c :: t) = c :: bkL t := by
  have e : bkX bkT (c :: t) = (1, [c]) := by
    have hp : ∀ r : List UInt8, (38 :: r).isPrefixOf (c :: t) = false := fun r => by
      rw [List.isPrefixOf, show (38 == c) = false by simpa using fun e => h e.symm]; rfl
    simp only [bkX, bkT, List.foldl_cons, List.foldl_nil, hp]
    rfl
  rw [bkL_cons (by simp), e]
  rfl
theorem bk_amp (t : List UInt8) : bkL (38 :: 97 :: 109 :: 112 :: 59 :: t) = 38 :: bkL t := by
  have e : bkX bkT (38 :: 97 :: 109 :: 112 :: 59 :: t) = (5, [38]) := by simp [bkX, bkT]
  rw [bkL_cons (by simp), e]; rfl
theorem bk_nb (t : List UInt8) : bkL (38 :: 110 :: 98 :: 115 :: 112 :: 59 :: t) = 194 :: 160 :: bkL t := by
  have e : bkX bkT (38 :: 110 :: 98 :: 115 :: 112 :: 59 :: t) = (6, [194, 160]) := by simp [bkX, bkT]
  rw [bkL_cons (by simp), e]; rfl
theorem bk_lt (t : List UInt8) : bkL (38 :: 108 :: 116 :: 59 :: t) = 60 :: bkL t := by
  have e : bkX bkT (38 :: 108 :: 116 :: 59 :: t) = (4, [60]) := by simp [bkX, bkT]
  rw [bkL_cons (by simp), e]; rfl
theorem bk_gt (t : List UInt8) : bkL (38 :: 103 :: 116 :: 59 :: t) = 62 :: bkL t := by
  have e : bkX bkT (38 :: 103 :: 116 :: 59 :: t) = (4, [62]) := by simp [bkX, bkT]
  rw [bkL_cons (by simp), e]; rfl
theorem bk_quot (t : List UInt8) : bkL (38 :: 113 :: 117 :: 111 :: 116 :: 59 :: t) = 34 :: bkL t := by
  have e : bkX bkT (38 :: 113 :: 117 :: 111 :: 116 :: 59 :: t) = (6, [34]) := by simp [bkX, bkT]
  rw [bkL_cons (by simp), e]; rfl
theorem bk_X1 (c : UInt8) (t : List UInt8) : bkL (X1 c ++ t) = c :: bkL t := by
  rw [X1_eq]
  by_cases h1 : c = 62
  · subst h1; exact bk_gt t
  by_cases h2 : c = 60
  · subst h2; exact bk_lt t
  by_cases h3 : c = 38
  · subst h3; exact bk_amp t
  rw [if_neg h1, if_neg h2, if_neg h3]
  exact bk_other h3
theorem bk_X2 (c : UInt8) (t : List UInt8) : bkL (X2 c ++ t) = c :: bkL t := by
  rw [X2_eq]
  by_cases h1 : c = 34
  · subst h1; exact bk_quot t
  by_cases h3 : c = 38
  · subst h3; exact bk_amp t
  rw [if_neg h1, if_neg h3]
  exact bk_other h3
theorem bk_rEsc {X : UInt8 → List UInt8} (hX : ∀ c t, bkL (X c ++ t) = c :: bkL t) : ∀ (n : Nat) (s : List UInt8), s.length ≤ n → bkL (rEsc X s) = s
  | _, [], _ => rfl
  | 0, c :: t, h => by simp at h
  | n + 1, c :: t, h => by
    by_cases h2 : c = 194 ∧ t.head? = some 160
    · obtain ⟨rfl, h2⟩ := h2
      cases t with
      | nil => simp at h2
      | cons d u =>
        simp at h2
        subst h2
        rw [rEsc_two]
        show bkL (38 :: 110 :: 98 :: 115 :: 112 :: 59 :: rEsc X u) = _
        rw [bk_nb, bk_rEsc hX n u (by simp at h; omega)]
    · rw [rEsc_cons _ _ _ h2, hX, bk_rEsc hX n t (by simpa using h)]
theorem bk_text (s : List UInt8) : bkL (rEsc X1 s) = s := bk_rEsc bk_X1 _ s (Nat.le_refl _)
theorem bk_value (s : List UInt8) : bkL (rEsc X2 s) = s := bk_rEsc bk_X2 _ s (Nat.le_refl _)
end Go.Proofs.YtpfnakonpledgaaDoor
