/- The references' searches through a string: AllSpace, bare, ValidElement, ValidAttribute, Begins, Hex. -/
import Derived.Test.YtgjodmjegmilhaaDoorRa
import Derived.Test.YtgjodmjegmilhaaDoorLow
namespace Go.Proofs.YtgjodmjegmilhaaDoor
open Go.RowKit
attribute [local go_sem] sgetr
attribute [local go_sem] sext

theorem all_true {p : UInt8 → Bool} {l : List UInt8} (h : ∀ k (hk : k < l.length), p l[k] = true) : l.all p = true := by
  rw [List.all_eq_true]
  intro x hx
  obtain ⟨k, hk, rfl⟩ := List.getElem_of_mem hx
  exact h k hk
theorem all_false {p : UInt8 → Bool} {l : List UInt8} {k : Nat} (hk : k < l.length) (h : p l[k] = false) : l.all p = false := by
  rw [Bool.eq_false_iff]
  intro ha
  rw [List.all_eq_true] at ha
  rw [ha _ (List.getElem_mem hk)] at h
  cases h
theorem all_step {p : UInt8 → Bool} {l : List UInt8} {k : Nat} (hk : k < l.length) (h : ∀ j (hj : j < l.length), j < k → p l[j] = true) (hp : p l[k] = true) : ∀ j (hj : j < l.length), j < k + 1 → p l[j] = true := by
  intro j hj hjk
  by_cases e : j = k
  · subst e; exact hp
  · exact h j hj (by omega)

def rBareB (c : UInt8) : Bool := !rSpace c && decide (c.toNat ≠ 0 ∧ c.toNat ≠ 47 ∧ c.toNat ≠ 62)
def rValidAttr (l : List UInt8) : Bool := decide (0 < l.length) && (l.all rBareB && !hasB l 61)
def rElemB (c : UInt8) : Bool := rAlnum c || decide (c.toNat = 45 ∨ c.toNat = 46 ∨ c.toNat = 58 ∨ c.toNat = 95 ∨ 128 ≤ c.toNat)
def rElemF (c : UInt8) : Bool := decide (c.toNat = 58 ∨ c.toNat = 95 ∨ 128 ≤ c.toNat)
def rValidElem (l : List UInt8) : Bool := if h : 0 < l.length then (if rLetter l[0] then l.all rBareB else rElemF l[0] && (l.drop 1).all rElemB) else false
theorem drop_all_true {p : UInt8 → Bool} {l : List UInt8} (h : ∀ k (hk : k < l.length), 1 ≤ k → p l[k] = true) : (l.drop 1).all p = true :=
  all_true fun k hk => by
    rw [List.getElem_drop]
    exact h _ _ (by omega)
theorem drop_all_false {p : UInt8 → Bool} {l : List UInt8} {k : Nat} (hk : k < l.length) (h1 : 1 ≤ k) (h : p l[k] = false) : (l.drop 1).all p = false := by
  obtain ⟨j, rfl⟩ : ∃ j, k = 1 + j := ⟨k - 1, by omega⟩
  refine all_false (k := j) (by simp; omega) ?_
  rw [List.getElem_drop]; exact h
theorem from1_step {p : UInt8 → Bool} {l : List UInt8} {k : Nat} (hk : k < l.length) (h : ∀ j (hj : j < l.length), 1 ≤ j → j < k → p l[j] = true) (hp : p l[k] = true) : ∀ j (hj : j < l.length), 1 ≤ j → j < k + 1 → p l[j] = true := by
  intro j hj h1 hjk
  by_cases e : j = k
  · subst e; exact hp
  · exact h j hj h1 (by omega)
theorem prefix_take (l p : List UInt8) : (List.take p.length l == p) = p.isPrefixOf l := by
  rw [Bool.eq_iff_iff, List.isPrefixOf_iff_prefix, List.prefix_iff_eq_take, beq_iff_eq]
  exact ⟨fun h => h.symm, fun h => h.symm⟩
end Go.Proofs.YtgjodmjegmilhaaDoor
