/- The reference's table entries. -/
import Derived.Test.YtgjodmjegmilhaaDoorRm
import Derived.Test.YtgjodmjegmilhaaDoorRc
import Derived.Test.YtgjodmjegmilhaaDoorLon
import Derived.Deep.RegionHeld3
namespace Go.Proofs.YtgjodmjegmilhaaDoor
open Go.RowKit
attribute [local go_sem] sgetr
attribute [local go_sem] sext

theorem upTo_take (c : UInt8) : ∀ s : List UInt8, (upTo c s).1 = s.take (upTo c s).1.length
  | [] => rfl
  | x :: t => by
    rw [upTo]
    split
    · rfl
    · have := upTo_take c t
      simp only [List.length_cons, List.take_succ_cons]
      rw [← this]
theorem upTo_drop (c : UInt8) : ∀ s : List UInt8, (upTo c s).2 = s.drop ((upTo c s).1.length + 1)
  | [] => rfl
  | x :: t => by
    rw [upTo]
    split
    · simp
    · have := upTo_drop c t
      simp only [List.length_cons, List.drop_succ_cons]
      exact this
theorem upTo_has (c : UInt8) : ∀ s : List UInt8, s.contains c = true → (upTo c s).1.length < s.length
  | [], h => by simp at h
  | x :: t, h => by
    rw [upTo]
    split
    · simp
    · rename_i hx
      have : t.contains c = true := by
        rw [List.contains_cons, Bool.or_eq_true] at h
        rcases h with h | h
        · exact absurd (by rw [beq_iff_eq] at h ⊢; exact h.symm) hx
        · exact h
      have := upTo_has c t this
      simp; omega
/-- What each entry of the table is like. -/
def chkE (e : List UInt8) : Bool :=
  e.contains 61 && (decide ((upTo 61 e).2.length ≤ 12) && ((rvF (upTo 61 e).2 0).all (fun r => decide (0 ≤ r ∧ r ≤ 1114111)) && (rvalL (upTo 61 e).2 == valL (upTo 61 e).2)))
def chkF : Nat → List UInt8 → Bool
  | 0, b => b.isEmpty
  | n + 1, b => if b.isEmpty then true else chkE (upTo 32 b).1 && chkF n (upTo 32 b).2
theorem chk_table : chkF 2231 namesL = true := by decide +kernel
end Go.Proofs.YtgjodmjegmilhaaDoor
