/- thicketlaw01.TextNewlines and TextLowers. -/
import Derived.Test.YtpfnakonpledgaaDoorSpo
import Derived.Test.YtpfnakonpledgaaDoorRb
namespace Go.Proofs.YtpfnakonpledgaaDoor
open Go.RowKit
attribute [local go_sem] sext
attribute [local go_sem] sapp

theorem hasB_newlines (l : List UInt8) : hasB (newlines l) 13 = false := by
  unfold hasB newlines cr
  rw [List.any_eq_false]
  intro x hx
  obtain ⟨c, _, rfl⟩ := List.mem_map.1 hx
  split
  · decide
  · rename_i h; simpa using h
theorem rnl_same : ∀ l : List UInt8, (∀ c ∈ l, c ≠ 13) → rnl l = l
  | [], _ => rfl
  | c :: t, h => by
    rw [rnl, if_neg (h c (List.mem_cons_self ..)), rnl_same t (fun d hd => h d (List.mem_cons_of_mem _ hd))]
theorem newlines_no13 (l : List UInt8) : ∀ c ∈ newlines l, c ≠ 13 := by
  have h := hasB_newlines l
  unfold hasB at h
  rw [List.any_eq_false] at h
  intro c hc
  have := h c hc
  simpa using this
theorem newlines_same {l : List UInt8} (h : ∀ c ∈ l, c ≠ 13) : newlines l = l := by rw [← rnl_eq l.length l (Nat.le_refl _), rnl_same l h]
theorem newlines_twice (l : List UInt8) : newlines (newlines l) = newlines l := newlines_same (newlines_no13 l)

set_option maxRecDepth 100000 in
set_option maxHeartbeats 1000000 in
theorem TextNewlines_any (l : List UInt8) (w : World) (hg : Good w) (hl : l.length ≤ maxLen) : Calls Tryd.prog 3 #[.string ⟨l.toArray⟩] w (Ret w (.bool true)) := by
  have HK := Lib.hid (fun w hg => known_any w hg)
  by_cases h : l.length ≤ 65536
  · have HS := Lib.hid (small_yes l w hl h)
    have hln := newlines_len l
    have H1 := Lib.hid (Newlines_any l w hg (by omega))
    have H2 := Lib.hid (fun w => rNewlines_any l w (by omega))
    have h3 := fun w => rHas_any (newlines l) 13 w (by omega)
    have h4 := fun w hg => Newlines_any (newlines l) w hg (by omega)
    rw [hasB_newlines] at h3
    rw [newlines_twice] at h4
    have H3 := Lib.hid h3
    have H4 := Lib.hid h4
    clear h3 h4
    generalize newlines l = t at *
    go_enter Tryd.func3, Tryd.ntmps3
    go_wp2_with fail
    refine HS.out.mono ?_
    rintro e w' ⟨rfl, rfl⟩
    go_wp2_with fail
    refine H1.out.mono ?_
    rintro e w1 ⟨rfl, b1⟩
    go_wp2_with fail
    refine (H2.out _).mono ?_
    rintro e w2 ⟨rfl, b2⟩
    replace b2 := bthen b1 b1.size b2
    clear b1
    go_wp2_with fail
    refine (H3.out _).mono ?_
    rintro e w' ⟨rfl, rfl⟩
    go_wp2_with fail
    refine (H4.out _ (hg.kept b2)).mono ?_
    rintro e w3 ⟨rfl, b3⟩
    replace b3 := bthen b2 b2.size b3
    clear b2
    go_wp2_with fail
    refine (HK.out _ (hg.kept b3)).mono ?_
    rintro e w4 ⟨rfl, b4⟩
    replace b4 := bthen b3 b3.size b4
    clear b3
    go_wp2_with fail
    go_ret
    exact Ret.mk rfl b4
  · have HS := Lib.hid (small_no l w hl h)
    go_enter Tryd.func3, Tryd.ntmps3
    go_wp2_with fail
    refine HS.out.mono ?_
    rintro e w' ⟨rfl, rfl⟩
    go_wp2_with fail
    refine (HK.out _ hg).mono ?_
    rintro e w1 ⟨rfl, b1⟩
    go_wp2_with fail
    go_ret
    exact Ret.mk rfl b1

end Go.Proofs.YtpfnakonpledgaaDoor
