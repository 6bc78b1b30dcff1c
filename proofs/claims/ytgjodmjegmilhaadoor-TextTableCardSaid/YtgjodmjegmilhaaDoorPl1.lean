/- Plain laws: lower case, names, digits. -/
import Derived.Test.YtgjodmjegmilhaaDoorN1
import Derived.Test.YtgjodmjegmilhaaDoorRd
import Derived.Test.YtgjodmjegmilhaaDoorCls4
namespace Go.Proofs.YtgjodmjegmilhaaDoor
open Go.RowKit

theorem lowB_lowB (c : UInt8) : lowB (lowB c) = lowB c := by
  have h : ∀ n, n < 256 → lowB (lowB (UInt8.ofNat n)) = lowB (UInt8.ofNat n) := by decide +kernel
  have := h c.toNat c.toNat_lt
  rwa [UInt8.ofNat_toNat] at this
theorem lowL_lowL (l : List UInt8) : lowL (lowL l) = lowL l := by
  unfold lowL
  rw [List.map_map]
  exact List.map_congr_left fun c _ => lowB_lowB c
theorem lowL_app (a b : List UInt8) : lowL (a ++ b) = lowL a ++ lowL b := by simp [lowL]
/-- A fact on every byte, from the 256 numbers. -/
theorem byte_all {p : UInt8 → Prop} (h : ∀ n, n < 256 → p (UInt8.ofNat n)) (c : UInt8) : p c := by
  have := h c.toNat c.toNat_lt
  rwa [UInt8.ofNat_toNat] at this
theorem isSpace_eq (c : UInt8) : isSpace (c.toNat : Int) = rSpace c := byte_all (p := fun c => isSpace (c.toNat : Int) = rSpace c) (by decide +kernel) c
theorem isLetter_eq (c : UInt8) : isLetter (c.toNat : Int) = rLetter c := byte_all (p := fun c => isLetter (c.toNat : Int) = rLetter c) (by decide +kernel) c
theorem isAlnum_eq (c : UInt8) : isAlnum (c.toNat : Int) = rAlnum c := byte_all (p := fun c => isAlnum (c.toNat : Int) = rAlnum c) (by decide +kernel) c
theorem isUpper_eq (c : UInt8) : isUpper (c.toNat : Int) = rUpper c := byte_all (p := fun c => isUpper (c.toNat : Int) = rUpper c) (by decide +kernel) c
theorem isDigit_eq (c : UInt8) : isDigit (c.toNat : Int) = rDigit c := byte_all (p := fun c => isDigit (c.toNat : Int) = rDigit c) (by decide +kernel) c
theorem isHex_eq (c : UInt8) : isHex (c.toNat : Int) = decide (0 ≤ rHex c) := byte_all (p := fun c => isHex (c.toNat : Int) = decide (0 ≤ rHex c)) (by decide +kernel) c
theorem allSpace_eq (l : List UInt8) : allB isSpace (⟨l.toArray⟩ : ByteArray).data.toList = l.all rSpace := by
  show l.all _ = _
  exact congrArg l.all (funext isSpace_eq)
theorem fold_symm (a b : List UInt8) : (lowL a == lowL b) = (lowL b == lowL a) := by
  rw [Bool.eq_iff_iff, beq_iff_eq, beq_iff_eq]; exact ⟨Eq.symm, Eq.symm⟩
theorem fold_app (a b c : List UInt8) : (lowL (a ++ c) == lowL (b ++ c)) = (lowL a == lowL b) := by
  rw [Bool.eq_iff_iff, beq_iff_eq, beq_iff_eq, lowL_app, lowL_app]
  exact ⟨List.append_cancel_right, fun h => by rw [h]⟩
theorem fold_trans {a b : List UInt8} (h : (lowL a == lowL b) = true) (c : List UInt8) : (lowL a == lowL c) = (lowL b == lowL c) := by
  rw [beq_iff_eq.1 h]
theorem noneOf_bare (c : UInt8) : noneOf [47, 62] (c.toNat : Int) = rBareB c := byte_all (p := fun c => noneOf [47, 62] (c.toNat : Int) = rBareB c) (by decide +kernel) c
theorem noneOf_attr (c : UInt8) : noneOf [47, 61, 62] (c.toNat : Int) = (rBareB c && !(c == 61)) := byte_all (p := fun c => noneOf [47, 61, 62] (c.toNat : Int) = (rBareB c && !(c == 61))) (by decide +kernel) c
theorem elemF_eq (c : UInt8) : anyC [inR 58 58, inR 95 95, inR 128 255] (c.toNat : Int) = rElemF c := byte_all (p := fun c => anyC [inR 58 58, inR 95 95, inR 128 255] (c.toNat : Int) = rElemF c) (by decide +kernel) c
theorem elemB_eq (c : UInt8) : anyC [isAlnum, inR 45 46, inR 58 58, inR 95 95, inR 128 255] (c.toNat : Int) = rElemB c := byte_all (p := fun c => anyC [isAlnum, inR 45 46, inR 58 58, inR 95 95, inR 128 255] (c.toNat : Int) = rElemB c) (by decide +kernel) c
theorem validElem_eq (l : List UInt8) : validElem l = rValidElem l := by
  cases l with
  | nil => rfl
  | cons c t =>
    rw [validElem, rValidElem, dif_pos (by simp)]
    simp only [List.getElem_cons_zero, List.drop_succ_cons, List.drop_zero]
    rw [isLetter_eq, elemF_eq]
    cases rLetter c
    · simp only [Bool.false_eq_true, if_false]
      cases rElemF c
      · rfl
      · simp only [if_true, Bool.true_and]
        exact congrArg t.all (funext elemB_eq)
    · simp only [if_true]
      exact congrArg (c :: t).all (funext noneOf_bare)
theorem all_and {p q : UInt8 → Bool} (l : List UInt8) : l.all (fun c => p c && q c) = (l.all p && l.all q) := by
  induction l with
  | nil => rfl
  | cons c t ih =>
    rw [List.all_cons, List.all_cons, List.all_cons, ih]
    cases p c <;> cases q c <;> cases t.all p <;> rfl
theorem validAttr_eq (l : List UInt8) : validAttr l = rValidAttr l := by
  rw [validAttr, rValidAttr]
  have e : allB (noneOf [47, 61, 62]) l = (l.all rBareB && !hasB l 61) := by
    have : allB (noneOf [47, 61, 62]) l = l.all fun c => rBareB c && !(c == 61) := congrArg l.all (funext noneOf_attr)
    rw [this, all_and, hasB, List.not_any_eq_all_not]
  rw [e]
  cases l <;> simp
theorem rBareB_low (c : UInt8) : rBareB (lowB c) = rBareB c := byte_all (p := fun c => rBareB (lowB c) = rBareB c) (by decide +kernel) c
theorem rLetter_low (c : UInt8) : rLetter (lowB c) = rLetter c := byte_all (p := fun c => rLetter (lowB c) = rLetter c) (by decide +kernel) c
theorem rElemF_low (c : UInt8) : rElemF (lowB c) = rElemF c := byte_all (p := fun c => rElemF (lowB c) = rElemF c) (by decide +kernel) c
theorem rElemB_low (c : UInt8) : rElemB (lowB c) = rElemB c := byte_all (p := fun c => rElemB (lowB c) = rElemB c) (by decide +kernel) c
theorem rValidElem_low (l : List UInt8) : rValidElem (lowL l) = rValidElem l := by
  cases l with
  | nil => rfl
  | cons c t =>
    rw [rValidElem, rValidElem, dif_pos (by simp [lowL]), dif_pos (by simp)]
    simp only [lowL, List.map_cons, List.getElem_cons_zero, List.drop_succ_cons, List.drop_zero, rLetter_low, rElemF_low, List.all_cons, rBareB_low, List.all_map]
    rw [show (rBareB ∘ lowB) = rBareB from funext rBareB_low, show (rElemB ∘ lowB) = rElemB from funext rElemB_low]
theorem rValidElem_snoc (l : List UInt8) (c : UInt8) (h : rBareB c = false ∧ rElemB c = false ∧ rLetter c = false ∧ rElemF c = false) : rValidElem (l ++ [c]) = false := by
  obtain ⟨h1, h2, h3, h4⟩ := h
  cases l with
  | nil =>
    rw [rValidElem, dif_pos (by simp)]
    simp [h3, h4]
  | cons d t =>
    rw [rValidElem, dif_pos (by simp)]
    simp [h1, h2]
theorem rValidAttr_snoc (l : List UInt8) : rValidAttr (l ++ [61]) = false := by
  rw [rValidAttr, hasB]
  simp
theorem digits_step_hex (c : UInt8) : (isHex (c.toNat : Int) = true ↔ (0 ≤ rHex c ∧ rHex c < 16)) ∧ (isHex (c.toNat : Int) = true → digV c.toNat = rHex c) := byte_all (p := fun c => (isHex (c.toNat : Int) = true ↔ (0 ≤ rHex c ∧ rHex c < 16)) ∧ (isHex (c.toNat : Int) = true → digV c.toNat = rHex c)) (by decide +kernel) c
theorem digits_step_dec (c : UInt8) : (isDigit (c.toNat : Int) = true ↔ (0 ≤ rHex c ∧ rHex c < 10)) ∧ (isDigit (c.toNat : Int) = true → digV c.toNat = rHex c) := byte_all (p := fun c => (isDigit (c.toNat : Int) = true ↔ (0 ≤ rHex c ∧ rHex c < 10)) ∧ (isDigit (c.toNat : Int) = true → digV c.toNat = rHex c)) (by decide +kernel) c
theorem digitsF_eq {p : Int → Bool} {b : Int} (hp : ∀ c : UInt8, (p (c.toNat : Int) = true ↔ (0 ≤ rHex c ∧ rHex c < b)) ∧ (p (c.toNat : Int) = true → digV c.toNat = rHex c)) : ∀ (l : List UInt8) (code : Int) (n : Nat), digitsF p b l code n = rDigF b l code n
  | [], code, n => rfl
  | c :: t, code, n => by
    rw [digitsF, rDigF]
    by_cases h : p (c.toNat : Int) = true
    · rw [if_pos h, if_pos ((hp c).1.1 h), (hp c).2 h, digitsF_eq hp t]
    · rw [if_neg h, if_neg (fun h' => h ((hp c).1.2 h'))]
theorem digits_eq (l : List UInt8) (base : Int) : digitsL l base = rDig l base := by
  unfold digitsL rDig
  split
  · exact digitsF_eq digits_step_hex l 0 0
  · exact digitsF_eq digits_step_dec l 0 0
theorem rDigF_bd {b : Int} : ∀ (l : List UInt8) (code : Int) (n : Nat), n ≤ (rDigF b l code n).2 ∧ (rDigF b l code n).2 ≤ n + l.length ∧ rDigF b (l.take ((rDigF b l code n).2 - n)) code n = rDigF b l code n
  | [], code, n => by simp [rDigF]
  | c :: t, code, n => by
    rw [rDigF]
    split
    · rename_i h
      obtain ⟨h1, h2, h3⟩ := rDigF_bd (b := b) t (min (code * b + rHex c) 1114112) (n + 1)
      refine ⟨by omega, by simp; omega, ?_⟩
      obtain ⟨m, hm⟩ : ∃ m, (rDigF b t (min (code * b + rHex c) 1114112) (n + 1)).2 - n = m + 1 := ⟨(rDigF b t (min (code * b + rHex c) 1114112) (n + 1)).2 - n - 1, by omega⟩
      rw [hm, List.take_succ_cons, rDigF, if_pos h]
      rw [show (rDigF b t (min (code * b + rHex c) 1114112) (n + 1)).2 - (n + 1) = m by omega] at h3
      exact h3
    · refine ⟨Nat.le_refl _, by simp, ?_⟩
      simp [rDigF]
theorem rDigF_shift {b : Int} (d : Nat) : ∀ (l : List UInt8) (code : Int) (n : Nat), rDigF b l code (n + d) = ((rDigF b l code n).1, (rDigF b l code n).2 + d)
  | [], code, n => rfl
  | c :: t, code, n => by
    rw [rDigF, rDigF]
    split
    · rw [show n + d + 1 = n + 1 + d by omega, rDigF_shift d t]
    · rfl
theorem rDig_bd (l : List UInt8) (base : Int) : (rDig l base).2 ≤ l.length := by
  have := (rDigF_bd (b := if base = 16 then 16 else 10) l 0 0).2.1
  unfold rDig; omega
theorem rDig_take (l : List UInt8) (base : Int) : rDig (l.take (rDig l base).2) base = rDig l base := by
  have := (rDigF_bd (b := if base = 16 then 16 else 10) l 0 0).2.2
  exact this
theorem rDig_zeros (l : List UInt8) (base : Int) : rDig ([48, 48] ++ l.take (rDig l base).2) base = ((rDig l base).1, (rDig l base).2 + 2) := by
  have h := rDig_take l base
  unfold rDig at h ⊢
  obtain ⟨b, hb⟩ : ∃ b : Int, (if base = 16 then 16 else 10) = b := ⟨_, rfl⟩
  have hb2 : 0 < b := by rw [← hb]; split <;> decide
  rw [hb] at h ⊢
  show rDigF b (48 :: 48 :: _) 0 0 = _
  have e : rHex 48 = 0 := rfl
  rw [rDigF, rDigF, if_pos (by rw [e]; omega), if_pos (by rw [e]; omega)]
  have e1 : min ((0 : Int) * b + rHex 48) 1114112 = 0 := by rw [e, Int.zero_mul]; rfl
  rw [e1, e1]
  show rDigF b _ 0 (0 + 2) = _
  rw [rDigF_shift 2]
  show ((rDigF b (l.take (rDigF b l 0 0).2) 0 0).1, (rDigF b (l.take (rDigF b l 0 0).2) 0 0).2 + 2) = _
  rw [h]
end Go.Proofs.YtgjodmjegmilhaaDoor
