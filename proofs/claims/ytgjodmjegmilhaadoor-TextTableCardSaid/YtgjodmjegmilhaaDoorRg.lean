/- The reference's decoder: second, more, want, begins, whole, piece. -/
import Derived.Test.YtgjodmjegmilhaaDoorRc
import Derived.Test.YtgjodmjegmilhaaDoorBk
namespace Go.Proofs.YtgjodmjegmilhaaDoor
open Go.RowKit
attribute [local go_sem] sgetr
attribute [local go_sem] sext

def rMore (c : UInt8) : Bool := decide (128 ≤ c.toNat ∧ c.toNat ≤ 191)
def rSecond (a c : UInt8) : Bool := if a.toNat = 224 then decide (160 ≤ c.toNat ∧ c.toNat ≤ 191) else if a.toNat = 237 then decide (128 ≤ c.toNat ∧ c.toNat ≤ 159) else if a.toNat = 240 then decide (144 ≤ c.toNat ∧ c.toNat ≤ 191) else if a.toNat = 244 then decide (128 ≤ c.toNat ∧ c.toNat ≤ 143) else rMore c
def rWant (a : UInt8) : Nat := if a.toNat < 128 then 1 else if 194 ≤ a.toNat ∧ a.toNat ≤ 223 then 2 else if 224 ≤ a.toNat ∧ a.toNat ≤ 239 then 3 else if 240 ≤ a.toNat ∧ a.toNat ≤ 244 then 4 else 0
theorem rWant_le (a : UInt8) : rWant a ≤ 4 := by
  unfold rWant
  repeat' split
  all_goals omega
/-- The bytes behind a first byte may follow it. -/
def begT (a : UInt8) : List UInt8 → Bool
  | [] => true
  | c :: t => rSecond a c && rMore c && t.all rMore
def begL : List UInt8 → Bool
  | [] => false
  | a :: t => decide (t.length + 1 ≤ rWant a) && begT a t
theorem begL_of {l : List UInt8} (h : 0 < l.length) : begL l = (decide (l.length ≤ rWant l[0]) && begT l[0] (l.drop 1)) := by
  cases l with
  | nil => simp at h
  | cons a t => rfl
theorem begT_false {a : UInt8} {l : List UInt8} {k : Nat} (hk : k < l.length) (h1 : 1 ≤ k) (h : (k = 1 ∧ rSecond a l[k] = false) ∨ rMore l[k] = false) : begT a (l.drop 1) = false := by
  obtain ⟨j, rfl⟩ : ∃ j, k = j + 1 := ⟨k - 1, by omega⟩
  cases l with
  | nil => simp at hk
  | cons b t =>
    simp only [List.drop_succ_cons, List.drop_zero, List.getElem_cons_succ] at h ⊢
    have hj : j < t.length := by simpa using hk
    cases t with
    | nil => simp at hj
    | cons c u =>
      rw [begT]
      cases j with
      | zero =>
        simp only [List.getElem_cons_zero] at h
        rcases h with ⟨_, h⟩ | h <;> rw [h] <;> simp
      | succ j =>
        simp only [List.getElem_cons_succ] at h
        have hj' : j < u.length := by simpa using hj
        rw [all_false hj' (by rcases h with ⟨h, _⟩ | h; omega; exact h)]
        simp
theorem begT_true {a : UInt8} {l : List UInt8} (h : ∀ i (hi : i < l.length), 1 ≤ i → (i = 1 → rSecond a l[i] = true) ∧ rMore l[i] = true) : begT a (l.drop 1) = true := by
  cases l with
  | nil => rfl
  | cons b t =>
    simp only [List.drop_succ_cons, List.drop_zero]
    cases t with
    | nil => rfl
    | cons c u =>
      rw [begT]
      have h1 := h 1 (by simp) (by omega)
      simp only [List.getElem_cons_succ, List.getElem_cons_zero] at h1
      rw [h1.1 trivial, h1.2, all_true fun k hk => ?_]
      · rfl
      · have := (h (k + 2) (by simp; omega) (by omega)).2
        simpa using this
theorem quiet_ret {w W : World} {v : Value} {e : Ending} (h : e = .returned v ∧ ∃ n, W = w.drewN n) : Ret w v e W := by
  obtain ⟨rfl, n, rfl⟩ := h
  exact Ret.mk rfl ⟨rfl, rfl, rfl, Nat.le_refl _, fun _ _ => rfl⟩
theorem below_drewN {n : Nat} {w W : World} (h : Below n w W) (q : Nat) : Below n w (W.drewN q) := ⟨h.os, h.tape, h.output, h.size, h.block⟩
end Go.Proofs.YtgjodmjegmilhaaDoor
