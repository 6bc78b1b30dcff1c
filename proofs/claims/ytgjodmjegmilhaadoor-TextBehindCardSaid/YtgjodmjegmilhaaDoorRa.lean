/- The references' predicates on bytes. -/
import Derived.Test.YtgjodmjegmilhaaDoorBase
namespace Go.Proofs.YtgjodmjegmilhaaDoor
open Go.RowKit
attribute [local go_sem] sgetr

/-- The call returns v and leaves the world alone. -/
def Same (w : World) (v : Value) (e : Ending) (w' : World) : Prop := e = .returned v ∧ w = w'
theorem Same.mk {w : World} {v u : Value} (h : u = v) : Same w v (.returned u) w := ⟨by rw [h], rfl⟩
theorem Same.ret {w : World} {v : Value} {e : Ending} {w' : World} (h : Same w v e w') : Ret w v e w' := by
  obtain ⟨rfl, rfl⟩ := h; exact Ret.mk rfl (Below.refl _ _)
def rSpace (c : UInt8) : Bool := decide (c.toNat = 9 ∨ c.toNat = 10 ∨ c.toNat = 12 ∨ c.toNat = 13 ∨ c.toNat = 32)
def rUpper (c : UInt8) : Bool := decide (65 ≤ c.toNat ∧ c.toNat ≤ 90)
def rLetter (c : UInt8) : Bool := decide ((65 ≤ c.toNat ∧ c.toNat ≤ 90) ∨ (97 ≤ c.toNat ∧ c.toNat ≤ 122))
def rDigit (c : UInt8) : Bool := decide (48 ≤ c.toNat ∧ c.toNat ≤ 57)
def rAlnum (c : UInt8) : Bool := rLetter c || rDigit c
/-- A search through a string, at the byte that it first meets. -/
def hasB (l : List UInt8) (c : UInt8) : Bool := l.any fun x => x == c
theorem hasB_true {l : List UInt8} {c : UInt8} {k : Nat} (h : k < l.length) (hc : l[k] = c) : hasB l c = true :=
  List.any_eq_true.2 ⟨l[k], List.getElem_mem h, by simp [hc]⟩
theorem hasB_false {l : List UInt8} {c : UInt8} (h : ∀ k (hk : k < l.length), l[k] ≠ c) : hasB l c = false := by
  unfold hasB
  rw [List.any_eq_false]
  intro x hx
  obtain ⟨k, hk, rfl⟩ := List.getElem_of_mem hx
  simp [h k hk]
theorem u8_eq {a b : UInt8} : ((a.toNat : Int) == (b.toNat : Int)) = (a == b) := by
  rw [Bool.eq_iff_iff]
  simp only [beq_iff_eq, ← UInt8.toNat_inj]
  omega
end Go.Proofs.YtgjodmjegmilhaaDoor
