/- thicketlaw01: TextCodes. -/
import Derived.Test.YtpfnakonpledgaaDoorRe
import Derived.Test.YtpfnakonpledgaaDoorPl1
namespace Go.Proofs.YtpfnakonpledgaaDoor
open Go.RowKit
attribute [local go_sem] sext
attribute [local go_sem] sapp

theorem code_eq (c : Int) : codeL c = rCode c := by
  unfold codeL rCode
  by_cases h : c ≤ 0 ∨ c > 1114111 ∨ (55296 ≤ c ∧ c ≤ 57343)
  · rw [if_pos h, if_pos (by omega)]
  · have h2 : ¬ (c < 1 ∨ c > 1114111 ∨ (55295 < c ∧ c < 57344)) := by omega
    rw [if_neg h, if_neg h2]
    by_cases hr : 128 ≤ c ∧ c ≤ 159
    · obtain ⟨k, hk⟩ : ∃ k : Nat, c = 128 + (k : Int) := ⟨(c - 128).toNat, by omega⟩
      have hall : ∀ k : Nat, k < 32 → (if replL (128 + (k : Int)) ≠ 0 then replL (128 + (k : Int)) else 128 + (k : Int)) = (match winT.find? (fun x => x.1 == 128 + (k : Int)) with | some x => x.2 | none => 128 + (k : Int)) := by decide +kernel
      subst hk
      exact hall k (by omega)
    · have e : replL c = 0 := by rw [replL, if_pos (by omega)]
      have hf : winT.find? (fun x => x.1 == c) = none := by
        rw [List.find?_eq_none]
        intro x hx
        have := winT_rng x hx
        simp; omega
      rw [e, hf]; rfl
theorem code_rng (c : Int) : 0 < codeL c ∧ rScal (codeL c) = true := by
  have hr := replL_rng c
  have hs : ∀ k : Nat, k < 32 → (0 ≤ replL (128 + (k : Int)) ∧ replL (128 + (k : Int)) ≤ 55295) := by decide +kernel
  have h2 : 0 ≤ replL c ∧ replL c ≤ 55295 := by
    by_cases h : 128 ≤ c ∧ c ≤ 159
    · have := hs (c - 128).toNat (by omega)
      rwa [show (128 : Int) + ((c - 128).toNat : Int) = c by omega] at this
    · rw [show replL c = 0 by rw [replL, if_pos (by omega)]]; omega
  have h3 : 0 < codeL c ∧ ((0 ≤ codeL c ∧ codeL c ≤ 55295) ∨ (57344 ≤ codeL c ∧ codeL c ≤ 1114111)) := by
    unfold codeL
    split
    · omega
    · split
      · omega
      · omega
  refine ⟨h3.1, ?_⟩
  rw [rScal, decide_eq_true_eq]
  exact h3.2


set_option maxRecDepth 100000 in
set_option maxHeartbeats 4000000 in
theorem TextCodes_any (c : Int) (w : World) (hg : Good w) : Calls Tryd.prog 18 #[.int .i64 c] w (Ret w (.bool true)) := by
  have HK := Lib.hid (fun w hg => known_any w hg)
  have hcr := code_rng c
  have qH1 := fun (w : World) (hg : Good w) => CodePoint_any c w
  have H1 := Lib.hid qH1
  clear qH1
  have qH2 := fun (w : World) (hg : Good w) => rCode_any c w
  rw [← code_eq] at qH2
  have H2 := Lib.hid qH2
  clear qH2
  have qH3 := fun (w : World) (hg : Good w) => (rScalar_any (codeL c) w).mono (fun _ _ h => h.ret)
  rw [hcr.2] at qH3
  have H3 := Lib.hid qH3
  clear qH3
  have hp := hcr.1
  clear hcr
  generalize codeL c = r at *
  go_enter Tryd.func18, Tryd.ntmps18
  have b : Below w.heap.size w w := Below.refl _ _
  go_wp2_with fail
  refine (H1.out _ (hg.kept b)).mono ?_
  rintro e w1 ⟨rfl, c⟩
  replace b := bthen b b.size c
  clear c
  go_wp2_with fail
  refine (H2.out _ (hg.kept b)).mono ?_
  rintro e w2 ⟨rfl, c⟩
  replace b := bthen b b.size c
  clear c
  go_wp2_with fail
  refine (H3.out _ (hg.kept b)).mono ?_
  rintro e w3 ⟨rfl, c⟩
  replace b := bthen b b.size c
  clear c
  go_wp2_with fail
  refine (HK.out _ (hg.kept b)).mono ?_
  rintro e w4 ⟨rfl, c⟩
  replace b := bthen b b.size c
  clear c
  go_wp2_with fail
  go_ret
  exact Ret.mk rfl b

end Go.Proofs.YtpfnakonpledgaaDoor
