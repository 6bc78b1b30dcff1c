/- Plain laws on lists of bytes: replacing, newlines. No program stands in this text. -/
import Derived.Lib.Replace
import Derived.Lib.ReplaceLaws
namespace Go.Proofs.YtgjodmjegmilhaaDoor
open Go.Lib

theorem index_eq_neg {F : List UInt8 → List UInt8} {old : List UInt8} (h0 : F [] = [])
    (h2 : ∀ c t, old.isPrefixOf (c :: t) = false → F (c :: t) = c :: F t) : ∀ s, index s old = -1 → F s = s
  | [], _ => h0
  | c :: t, h => by
    rw [index] at h
    cases hp : old.isPrefixOf (c :: t)
    · rw [hp] at h
      simp only [Bool.false_eq_true, if_false] at h
      have hge := index_ge t old
      by_cases ht : index t old = -1
      · rw [h2 c t hp, index_eq_neg h0 h2 t ht]
      · rw [if_neg (by simpa using ht)] at h; omega
    · rw [hp] at h; simp at h
theorem index_eq_nat {F : List UInt8 → List UInt8} {old new : List UInt8} (hne : old ≠ [])
    (h1 : ∀ s, s ≠ [] → old.isPrefixOf s = true → F s = new ++ F (s.drop old.length))
    (h2 : ∀ c t, old.isPrefixOf (c :: t) = false → F (c :: t) = c :: F t) : ∀ s (i : Nat), index s old = i → F s = s.take i ++ new ++ F (s.drop (i + old.length))
  | [], i, h => by
    rw [index] at h
    cases old with
    | nil => exact absurd rfl hne
    | cons a t => simp at h
  | c :: t, i, h => by
    rw [index] at h
    cases hp : old.isPrefixOf (c :: t)
    · rw [hp] at h
      simp only [Bool.false_eq_true, if_false] at h
      have hge := index_ge t old
      by_cases ht : index t old = -1
      · rw [if_pos (by simp [ht])] at h; omega
      · rw [if_neg (by simpa using ht)] at h
        obtain ⟨j, hj⟩ : ∃ j : Nat, index t old = j := ⟨(index t old).toNat, by omega⟩
        obtain rfl : i = j + 1 := by omega
        rw [h2 c t hp, index_eq_nat hne h1 h2 t j hj]
        simp [Nat.add_right_comm]
    · rw [hp] at h
      simp at h
      obtain rfl : i = 0 := by omega
      rw [h1 _ (by simp) hp]
      simp
theorem replaceAll_eq {F : List UInt8 → List UInt8} {old new : List UInt8} (hne : old ≠ []) (hno : old ≠ new) (h0 : F [] = [])
    (h1 : ∀ s, s ≠ [] → old.isPrefixOf s = true → F s = new ++ F (s.drop old.length))
    (h2 : ∀ c t, old.isPrefixOf (c :: t) = false → F (c :: t) = c :: F t) (s : List UInt8) : replaceAll s old new = F s := by
  have key : ∀ n s k, s.length ≤ n → s.length < k → replaceK old new (countFrom old k s) s = F s := by
    intro n
    induction n with
    | zero =>
      intro s k hn hk
      obtain rfl : s = [] := List.eq_nil_of_length_eq_zero (by omega)
      obtain ⟨k, rfl⟩ : ∃ j, k = j + 1 := ⟨k - 1, by omega⟩
      have hm : index [] old = -1 := by
        rw [index]
        cases old with
        | nil => exact absurd rfl hne
        | cons a t => simp
      rw [countFrom, if_pos (by simp [hm]), replaceK, h0]
    | succ n ih =>
      intro s k hn hk
      obtain ⟨k, rfl⟩ : ∃ j, k = j + 1 := ⟨k - 1, by omega⟩
      have hge := index_ge s old
      by_cases hm : index s old = -1
      · rw [countFrom, if_pos (by simp [hm]), replaceK, index_eq_neg h0 h2 s hm]
      · obtain ⟨i, hi⟩ : ∃ j : Nat, index s old = j := ⟨(index s old).toNat, by omega⟩
        rw [countFrom, if_neg (by simpa using hm), Nat.add_comm, replaceK_hit old new _ s i hi, index_eq_nat hne h1 h2 s i hi]
        have e : (index s old).toNat = i := by omega
        have hl : 0 < old.length := List.length_pos_iff.2 hne
        have hs : s.length ≠ 0 := by
          intro hs
          obtain rfl : s = [] := List.eq_nil_of_length_eq_zero hs
          apply hm
          rw [index]
          cases old with
          | nil => exact absurd rfl hne
          | cons a t => simp
        rw [e, ih _ k (by simp; omega) (by simp; omega)]
  unfold replaceAll replace
  rw [if_neg (by simpa using hno)]
  unfold replaceNum
  rw [if_pos (Or.inl (by decide))]
  exact key s.length s _ (Nat.le_refl _) (Nat.lt_succ_self _)

def crlf : List UInt8 → List UInt8
  | [] => []
  | 13 :: 10 :: t => 10 :: crlf t
  | c :: t => c :: crlf t
def cr (l : List UInt8) : List UInt8 := l.map fun c => if c = 13 then 10 else c
def newlines (l : List UInt8) : List UInt8 := cr (crlf l)
theorem crlf_pair (t : List UInt8) : crlf (13 :: 10 :: t) = 10 :: crlf t := by rw [crlf]
theorem crlf_one (c : UInt8) (t : List UInt8) (h : [13, 10].isPrefixOf (c :: t) = false) : crlf (c :: t) = c :: crlf t := by
  rw [crlf]
  rintro t' rfl rfl
  simp at h
theorem replace_crlf (l : List UInt8) : replaceAll l [13, 10] [10] = crlf l := by
  refine replaceAll_eq (by decide) (by decide) (by rw [crlf]) ?_ (fun c t h => crlf_one c t h) l
  intro s _ hp
  match s, hp with
  | [], hp => simp at hp
  | [a], hp => simp at hp
  | a :: b :: t, hp =>
    simp at hp
    obtain ⟨rfl, rfl⟩ := hp
    rw [crlf_pair]; rfl
theorem replace_cr (l : List UInt8) : replaceAll l [13] [10] = cr l := by
  refine replaceAll_eq (by decide) (by decide) rfl ?_ ?_ l
  · intro s _ hp
    match s, hp with
    | a :: t, hp =>
      simp at hp
      subst hp
      simp [cr]
  · intro c t h
    have h' : c ≠ 13 := by rintro rfl; simp [List.isPrefixOf] at h
    simp [cr, h']
theorem crlf_len (l : List UInt8) : (crlf l).length ≤ l.length := by
  fun_induction crlf l with
  | case1 => simp
  | case2 t ih => simp; omega
  | case3 c t _ ih => simp; omega
theorem newlines_len (l : List UInt8) : (newlines l).length ≤ l.length := by
  unfold newlines cr; rw [List.length_map]; exact crlf_len l
end Go.Proofs.YtgjodmjegmilhaaDoor
