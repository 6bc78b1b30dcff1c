/- thicketlaw01.TextNewlines and TextLowers. -/
import Derived.Test.YtgjodmjegmilhaaDoorSpo
import Derived.Test.YtgjodmjegmilhaaDoorRb
namespace Go.Proofs.YtgjodmjegmilhaaDoor
open Go.RowKit
attribute [local go_sem] sext
attribute [local go_sem] sapp

theorem hasB_newlines (l : List UInt8) : hasB (newlines l) 13 = false := by
  unfold hasB newlines cr
  rw [List.any_eq_false]
  intro x hx
  obtain ⟨c, _, rfl⟩ := List.mem_map.1 hx
  split
  · decide
  · rename_i h; simpa using h
theorem rnl_same : ∀ l : List UInt8, (∀ c ∈ l, c ≠ 13) → rnl l = l
  | [], _ => rfl
  | c :: t, h => by
    rw [rnl, if_neg (h c (List.mem_cons_self ..)), rnl_same t (fun d hd => h d (List.mem_cons_of_mem _ hd))]
theorem newlines_no13 (l : List UInt8) : ∀ c ∈ newlines l, c ≠ 13 := by
  have h := hasB_newlines l
  unfold hasB at h
  rw [List.any_eq_false] at h
  intro c hc
  have := h c hc
  simpa using this
theorem newlines_same {l : List UInt8} (h : ∀ c ∈ l, c ≠ 13) : newlines l = l := by rw [← rnl_eq l.length l (Nat.le_refl _), rnl_same l h]
theorem newlines_twice (l : List UInt8) : newlines (newlines l) = newlines l := newlines_same (newlines_no13 l)

end Go.Proofs.YtgjodmjegmilhaaDoor
