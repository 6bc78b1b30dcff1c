/- The references' predicates on bytes. -/
import Derived.Test.YtpfnakonpledgaaDoorBase
namespace Go.Proofs.YtpfnakonpledgaaDoor
open Go.RowKit
attribute [local go_sem] sgetr

/-- The call returns v and leaves the world alone. -/
def Same (w : World) (v : Value) (e : Ending) (w' : World) : Prop := e = .returned v ∧ w = w'
theorem Same.mk {w : World} {v u : Value} (h : u = v) : Same w v (.returned u) w := ⟨by rw [h], rfl⟩
theorem Same.ret {w : World} {v : Value} {e : Ending} {w' : World} (h : Same w v e w') : Ret w v e w' := by
  obtain ⟨rfl, rfl⟩ := h; exact Ret.mk rfl (Below.refl _ _)
def rSpace (c : UInt8) : Bool := decide (c.toNat = 9 ∨ c.toNat = 10 ∨ c.toNat = 12 ∨ c.toNat = 13 ∨ c.toNat = 32)
def rUpper (c : UInt8) : Bool := decide (65 ≤ c.toNat ∧ c.toNat ≤ 90)
def rLetter (c : UInt8) : Bool := decide ((65 ≤ c.toNat ∧ c.toNat ≤ 90) ∨ (97 ≤ c.toNat ∧ c.toNat ≤ 122))
def rDigit (c : UInt8) : Bool := decide (48 ≤ c.toNat ∧ c.toNat ≤ 57)
def rAlnum (c : UInt8) : Bool := rLetter c || rDigit c
theorem rSpace_any (c : UInt8) (w : World) : Calls Tryd.prog 28 #[.int .u8 (c.toNat : Int)] w (Same w (.bool (rSpace c))) := by
  go_enter Tryd.func28, Tryd.ntmps28
  go_wp2
  all_goals go_ret
  all_goals refine Same.mk (congrArg Value.bool ?_)
  all_goals rw [Bool.eq_iff_iff]; simp only [rSpace, decide_eq_true_eq, Bool.or_eq_true, beq_iff_eq, true_iff]
  all_goals omega
theorem rUpper_any (c : UInt8) (w : World) : Calls Tryd.prog 30 #[.int .u8 (c.toNat : Int)] w (Same w (.bool (rUpper c))) := by
  go_enter Tryd.func30, Tryd.ntmps30
  go_wp2
  all_goals go_ret
  all_goals refine Same.mk (congrArg Value.bool ?_)
  all_goals rw [Bool.eq_iff_iff]; simp only [rUpper, decide_eq_true_eq, Bool.false_eq_true, false_iff]
  all_goals omega
theorem rDigit_any (c : UInt8) (w : World) : Calls Tryd.prog 34 #[.int .u8 (c.toNat : Int)] w (Same w (.bool (rDigit c))) := by
  go_enter Tryd.func34, Tryd.ntmps34
  go_wp2
  all_goals go_ret
  all_goals refine Same.mk (congrArg Value.bool ?_)
  all_goals rw [Bool.eq_iff_iff]; simp only [rDigit, decide_eq_true_eq, Bool.false_eq_true, false_iff]
  all_goals omega
theorem rLetter_any (c : UInt8) (w : World) : Calls Tryd.prog 32 #[.int .u8 (c.toNat : Int)] w (Same w (.bool (rLetter c))) := by
  cases hU : rUpper c
  all_goals
    have HU := Lib.hid (rUpper_any c w)
    rw [hU] at HU
    simp only [rUpper, decide_eq_true_eq, decide_eq_false_iff_not] at hU
    go_enter Tryd.func32, Tryd.ntmps32
    go_wp2_with (refine HU.out.mono ?_; rintro e w' ⟨rfl, rfl⟩)
    all_goals go_ret
    all_goals refine Same.mk (congrArg Value.bool ?_)
    all_goals rw [Bool.eq_iff_iff]; simp only [rLetter, decide_eq_true_eq, Bool.false_eq_true, true_iff, false_iff]
    all_goals omega
theorem rAlnum_any (c : UInt8) (w : World) : Calls Tryd.prog 38 #[.int .u8 (c.toNat : Int)] w (Same w (.bool (rAlnum c))) := by
  have HL := Lib.hid (rLetter_any c w)
  have HD := Lib.hid (rDigit_any c w)
  rw [rAlnum]
  cases hL : rLetter c
  all_goals
    rw [hL] at HL
    clear hL
    go_enter Tryd.func38, Tryd.ntmps38
    go_wp2_with (first | (refine HL.out.mono ?_; rintro e w' ⟨rfl, rfl⟩) | (refine HD.out.mono ?_; rintro e w' ⟨rfl, rfl⟩))
    go_ret
    exact Same.mk (congrArg Value.bool (by simp))

/-- A search through a string, at the byte that it first meets. -/
def hasB (l : List UInt8) (c : UInt8) : Bool := l.any fun x => x == c
theorem hasB_true {l : List UInt8} {c : UInt8} {k : Nat} (h : k < l.length) (hc : l[k] = c) : hasB l c = true :=
  List.any_eq_true.2 ⟨l[k], List.getElem_mem h, by simp [hc]⟩
theorem hasB_false {l : List UInt8} {c : UInt8} (h : ∀ k (hk : k < l.length), l[k] ≠ c) : hasB l c = false := by
  unfold hasB
  rw [List.any_eq_false]
  intro x hx
  obtain ⟨k, hk, rfl⟩ := List.getElem_of_mem hx
  simp [h k hk]
theorem u8_eq {a b : UInt8} : ((a.toNat : Int) == (b.toNat : Int)) = (a == b) := by
  rw [Bool.eq_iff_iff]
  simp only [beq_iff_eq, ← UInt8.toNat_inj]
  omega
theorem rHas_any (l : List UInt8) (c : UInt8) (w : World) (hs : l.length ≤ 1000000000) : Calls Tryd.prog 25 #[.string ⟨l.toArray⟩, .int .u8 (c.toNat : Int)] w (Same w (.bool (hasB l c))) := by
  go_enter Tryd.func25, Tryd.ntmps25
  go_wp2_with fail
  go_loop [5] (fun i => ∃ k : Nat, k ≤ l.length ∧ i = .int .i64 k ∧ ∀ j (hj : j < l.length), j < k → l[j] ≠ c) (fun i => l.length - (intOf i).toNat)
  case atStart => exact ⟨0, Nat.zero_le _, rfl, fun _ _ h => absurd h (Nat.not_lt_zero _)⟩
  case round =>
    obtain ⟨k, hk, rfl, hno⟩ := hrel
    have HNO := Lib.hid hno; clear hno
    by_cases hlt : k < l.length
    · by_cases hc : l[k] = c
      · have hb : ((l[k].toNat : Int) == (c.toNat : Int)) = true := by rw [u8_eq]; simp [hc]
        have HC := Lib.hid hc; clear hc
        go_wp2
        go_ret
        exact Same.mk (congrArg Value.bool (hasB_true hlt HC.out).symm)
      · have hb : ((l[k].toNat : Int) == (c.toNat : Int)) = false := by rw [u8_eq]; simp [hc]
        have HC := Lib.hid hc; clear hc
        go_wp2
        go_round
        case rel =>
          refine ⟨k + 1, by omega, by go_num, fun j hj hjk => ?_⟩
          by_cases e : j = k
          · subst e; exact HC.out
          · exact HNO.out j hj (by omega)
        case measure => simp [intOf]; omega
    · go_wp2
      go_ret
      exact Same.mk (congrArg Value.bool (hasB_false fun k hk => HNO.out k hk (by omega)).symm)
end Go.Proofs.YtpfnakonpledgaaDoor
