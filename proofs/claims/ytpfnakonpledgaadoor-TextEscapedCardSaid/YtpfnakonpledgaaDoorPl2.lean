/- Plain laws on escaping. -/
import Derived.Test.YtpfnakonpledgaaDoorRf
namespace Go.Proofs.YtpfnakonpledgaaDoor
open Go.RowKit

theorem rEsc_cons (X : UInt8 → List UInt8) (c : UInt8) (t : List UInt8) (h : ¬ (c = 194 ∧ t.head? = some 160)) : rEsc X (c :: t) = X c ++ rEsc X t := by
  cases t with
  | nil => rw [rEsc, rEsc, List.append_nil]
  | cons d u => rw [rEsc, if_neg (by simpa using h)]
theorem rEsc_two (X : UInt8 → List UInt8) (u : List UInt8) : rEsc X (194 :: 160 :: u) = [38, 110, 98, 115, 112, 59] ++ rEsc X u := by
  rw [rEsc, if_pos ⟨rfl, rfl⟩]
def X1 : UInt8 → List UInt8 := escXk ltGtP
def X2 : UInt8 → List UInt8 := escXk quotP
theorem X1_eq (c : UInt8) : X1 c = if c = 62 then [38, 103, 116, 59] else if c = 60 then [38, 108, 116, 59] else if c = 38 then [38, 97, 109, 112, 59] else [c] := rfl
theorem X2_eq (c : UInt8) : X2 c = if c = 34 then [38, 113, 117, 111, 116, 59] else if c = 38 then [38, 97, 109, 112, 59] else [c] := rfl
theorem bcomm (a b : UInt8) : (a == b) = (b == a) := by rw [Bool.eq_iff_iff, beq_iff_eq, beq_iff_eq]; exact ⟨Eq.symm, Eq.symm⟩
theorem pre1 (a c : UInt8) (t : List UInt8) : [a].isPrefixOf (c :: t) = (c == a) := by
  rw [List.isPrefixOf, List.isPrefixOf, Bool.and_true, bcomm]
theorem pre2 (c : UInt8) (t : List UInt8) : [194, 160].isPrefixOf (c :: t) = (c == 194 && t.head? == some 160) := by
  cases t with
  | nil => simp [List.isPrefixOf]
  | cons d u =>
    rw [List.isPrefixOf, List.isPrefixOf, List.isPrefixOf, Bool.and_true, bcomm, bcomm 160 d]
    rfl
theorem escL_1 : ∀ (n : Nat) (s : List UInt8), s.length ≤ n → escF (ampNb ++ ltGt) n s = rEsc X1 s
  | 0, s, h => by
    obtain rfl : s = [] := List.eq_nil_of_length_eq_zero (by omega)
    rfl
  | n + 1, [], _ => rfl
  | n + 1, c :: t, h => by
    have ih := fun s h => escL_1 n s h
    rw [escF, if_neg (by simp)]
    have hf : firstP (ampNb ++ ltGt) (c :: t) = if c = 38 then some ([38], [38, 97, 109, 112, 59]) else if c = 194 ∧ t.head? = some 160 then some ([194, 160], [38, 110, 98, 115, 112, 59]) else if c = 60 then some ([60], [38, 108, 116, 59]) else if c = 62 then some ([62], [38, 103, 116, 59]) else none := by
      simp only [ampNb, ltGt, List.cons_append, List.nil_append, firstP, pre1, pre2, beq_iff_eq, Bool.and_eq_true]
    rw [hf]
    by_cases h1 : c = 38
    · subst h1
      rw [if_pos rfl, rEsc_cons _ _ _ (by rintro ⟨h, _⟩; cases h)]
      simp only [List.length_cons, List.length_nil, Nat.zero_add, List.drop_succ_cons, List.drop_zero]
      rw [ih t (by simpa using h)]; rfl
    rw [if_neg h1]
    by_cases h2 : c = 194 ∧ t.head? = some 160
    · rw [if_pos h2]
      obtain ⟨rfl, h2⟩ := h2
      cases t with
      | nil => simp at h2
      | cons d u =>
        simp at h2
        subst h2
        rw [rEsc_two]
        simp only [List.length_cons, List.length_nil, Nat.zero_add, Nat.reduceAdd, List.drop_succ_cons, List.drop_zero]
        rw [ih u (by simp at h; omega)]
    rw [if_neg h2, rEsc_cons _ _ _ h2, X1_eq]
    by_cases h3 : c = 60
    · subst h3
      rw [if_pos rfl, if_neg (by decide), if_pos rfl]
      simp only [List.length_cons, List.length_nil, Nat.zero_add, List.drop_succ_cons, List.drop_zero]
      rw [ih t (by simpa using h)]
    by_cases h4 : c = 62
    · subst h4
      rw [if_neg (by decide), if_pos rfl, if_pos rfl]
      simp only [List.length_cons, List.length_nil, Nat.zero_add, List.drop_succ_cons, List.drop_zero]
      rw [ih t (by simpa using h)]
    rw [if_neg h3, if_neg h4, if_neg h4, if_neg h3, if_neg h1]
    simp only [List.take_succ_cons, List.take_zero, List.drop_succ_cons, List.drop_zero]
    rw [ih t (by simpa using h)]
theorem escL_2 : ∀ (n : Nat) (s : List UInt8), s.length ≤ n → escF (ampNb ++ quotL) n s = rEsc X2 s
  | 0, s, h => by
    obtain rfl : s = [] := List.eq_nil_of_length_eq_zero (by omega)
    rfl
  | n + 1, [], _ => rfl
  | n + 1, c :: t, h => by
    have ih := fun s h => escL_2 n s h
    rw [escF, if_neg (by simp)]
    have hf : firstP (ampNb ++ quotL) (c :: t) = if c = 38 then some ([38], [38, 97, 109, 112, 59]) else if c = 194 ∧ t.head? = some 160 then some ([194, 160], [38, 110, 98, 115, 112, 59]) else if c = 34 then some ([34], [38, 113, 117, 111, 116, 59]) else none := by
      simp only [ampNb, quotL, List.cons_append, List.nil_append, firstP, pre1, pre2, beq_iff_eq, Bool.and_eq_true]
    rw [hf]
    by_cases h1 : c = 38
    · subst h1
      rw [if_pos rfl, rEsc_cons _ _ _ (by rintro ⟨h, _⟩; cases h)]
      simp only [List.length_cons, List.length_nil, Nat.zero_add, List.drop_succ_cons, List.drop_zero]
      rw [ih t (by simpa using h)]; rfl
    rw [if_neg h1]
    by_cases h2 : c = 194 ∧ t.head? = some 160
    · rw [if_pos h2]
      obtain ⟨rfl, h2⟩ := h2
      cases t with
      | nil => simp at h2
      | cons d u =>
        simp at h2
        subst h2
        rw [rEsc_two]
        simp only [List.length_cons, List.length_nil, Nat.zero_add, Nat.reduceAdd, List.drop_succ_cons, List.drop_zero]
        rw [ih u (by simp at h; omega)]
    rw [if_neg h2, rEsc_cons _ _ _ h2, X2_eq]
    by_cases h3 : c = 34
    · subst h3
      rw [if_pos rfl, if_pos rfl]
      simp only [List.length_cons, List.length_nil, Nat.zero_add, List.drop_succ_cons, List.drop_zero]
      rw [ih t (by simpa using h)]
    rw [if_neg h3, if_neg h3, if_neg h1]
    simp only [List.take_succ_cons, List.take_zero, List.drop_succ_cons, List.drop_zero]
    rw [ih t (by simpa using h)]
theorem escText_eq (s : List UInt8) : escL ltGt s = rEsc X1 s := escL_1 _ s (Nat.le_refl _)
theorem escValue_eq (s : List UInt8) : escL quotL s = rEsc X2 s := escL_2 _ s (Nat.le_refl _)
theorem rEsc_len {X : UInt8 → List UInt8} (hX : ∀ c, (X c).length ≤ 6) : ∀ (n : Nat) (s : List UInt8), s.length ≤ n → (rEsc X s).length ≤ 6 * s.length
  | _, [], _ => by simp [rEsc]
  | 0, c :: t, h => by simp at h
  | n + 1, c :: t, h => by
    by_cases h2 : c = 194 ∧ t.head? = some 160
    · obtain ⟨rfl, h2⟩ := h2
      cases t with
      | nil => simp at h2
      | cons d u =>
        simp at h2
        subst h2
        have := rEsc_len hX n u (by simp at h; omega)
        rw [rEsc_two]; simp; omega
    · have := rEsc_len hX n t (by simpa using h)
      have := hX c
      rw [rEsc_cons _ _ _ h2]; simp; omega
theorem X1_len (c : UInt8) : (X1 c).length ≤ 6 := escXk_len (ps := ltGtP) (by decide) c
theorem X2_len (c : UInt8) : (X2 c).length ≤ 6 := escXk_len (ps := quotP) (by decide) c
/-- Part by part, where the first part does not end with the byte C2. -/
theorem rEsc_app {X : UInt8 → List UInt8} : ∀ (n : Nat) (a b : List UInt8), a.length ≤ n → a.getLast? ≠ some 194 → rEsc X (a ++ b) = rEsc X a ++ rEsc X b
  | _, [], b, _, _ => by simp [rEsc]
  | 0, c :: t, b, h, _ => by simp at h
  | n + 1, [c], b, h, hl => by
    have hc : c ≠ 194 := by simpa using hl
    rw [List.cons_append, List.nil_append, rEsc_cons _ _ _ (fun h => hc h.1), rEsc]
  | n + 1, c :: d :: u, b, h, hl => by
    have hl' : (d :: u).getLast? ≠ some 194 := by simpa [List.getLast?_cons_cons] using hl
    by_cases h2 : c = 194 ∧ d = 160
    · obtain ⟨rfl, rfl⟩ := h2
      have hu : u.getLast? ≠ some 194 := by
        cases u with
        | nil => simp
        | cons e v => simpa [List.getLast?_cons_cons] using hl'
      rw [List.cons_append, List.cons_append, rEsc_two, rEsc_two, rEsc_app n u b (by simp at h; omega) hu, List.append_assoc]
    · have ih := rEsc_app (X := X) n (d :: u) b (by simp at h ⊢; omega) hl'
      rw [List.cons_append, rEsc_cons _ _ _ (by simpa using h2), ih, rEsc_cons X c (d :: u) (by simpa using h2), List.append_assoc]
theorem rEsc_no {X : UInt8 → List UInt8} {b : UInt8} (hX : ∀ c, b ∉ X c) (hb : b ∉ ([38, 110, 98, 115, 112, 59] : List UInt8)) : ∀ (n : Nat) (s : List UInt8), s.length ≤ n → b ∉ rEsc X s
  | _, [], _ => by simp [rEsc]
  | 0, c :: t, h => by simp at h
  | n + 1, c :: t, h => by
    by_cases h2 : c = 194 ∧ t.head? = some 160
    · obtain ⟨rfl, h2⟩ := h2
      cases t with
      | nil => simp at h2
      | cons d u =>
        simp at h2
        subst h2
        have := rEsc_no hX hb n u (by simp at h; omega)
        rw [rEsc_two, List.mem_append]
        rintro (h | h)
        · exact hb h
        · exact this h
    · have := rEsc_no hX hb n t (by simpa using h)
      rw [rEsc_cons _ _ _ h2, List.mem_append]
      rintro (h | h)
      · exact hX c h
      · exact this h
theorem hasB_no {l : List UInt8} {b : UInt8} (h : b ∉ l) : hasB l b = false := by
  unfold hasB
  rw [List.any_eq_false]
  intro x hx hxb
  simp at hxb
  exact h (hxb ▸ hx)
theorem X1_no60 (c : UInt8) : (60 : UInt8) ∉ X1 c := by
  rw [X1_eq]
  repeat' split
  · decide
  · decide
  · decide
  · rename_i h _; simpa using fun e => h e.symm
theorem X1_no62 (c : UInt8) : (62 : UInt8) ∉ X1 c := by
  rw [X1_eq]
  repeat' split
  · decide
  · decide
  · decide
  · rename_i h _ _; simpa using fun e => h e.symm
theorem X2_no34 (c : UInt8) : (34 : UInt8) ∉ X2 c := by
  rw [X2_eq]
  repeat' split
  · decide
  · decide
  · rename_i h _; simpa using fun e => h e.symm
end Go.Proofs.YtpfnakonpledgaaDoor
