/- The reference's decoder: whole, piece, scalar, Bytes, Decode, Text. -/
import Derived.Test.YtgjodmjegmilhaaDoorPl4
import Derived.Test.YtgjodmjegmilhaaDoorOwn
import Derived.Test.YtgjodmjegmilhaaDoorEnt
namespace Go.Proofs.YtgjodmjegmilhaaDoor
open Go.RowKit
attribute [local go_sem] sgetr
attribute [local go_sem] sext

theorem wholeL_of {l : List UInt8} (h : 0 < l.length) : wholeL l = (begL l && decide (rWant l[0] = l.length)) := by
  cases l with
  | nil => simp at h
  | cons a t => rfl
/-- The number that an encoding's bytes are. -/
def scalG (n : Int) : List UInt8 → Int
  | [] => n
  | c :: t => scalG (64 * n + (c.toNat : Int) - 128) t
def scalL (l : List UInt8) : Int := match l with
  | [] => 0
  | a :: t => scalG (if t.length = 1 then (a.toNat : Int) - 192 else if t.length = 2 then (a.toNat : Int) - 224 else if t.length = 3 then (a.toNat : Int) - 240 else a.toNat) t
theorem scalG_drop {n : Int} {l : List UInt8} {k : Nat} (hk : k < l.length) : scalG n (l.drop k) = scalG (64 * n + (l[k].toNat : Int) - 128) (l.drop (k + 1)) := by
  rw [List.drop_eq_getElem_cons hk, scalG]
theorem scalL_of {l : List UInt8} (h : 0 < l.length) : scalL l = scalG (if l.length = 2 then (l[0].toNat : Int) - 192 else if l.length = 3 then (l[0].toNat : Int) - 224 else if l.length = 4 then (l[0].toNat : Int) - 240 else l[0].toNat) (l.drop 1) := by
  cases l with
  | nil => simp at h
  | cons a t =>
    simp only [scalL, List.length_cons, List.getElem_cons_zero, List.drop_succ_cons, List.drop_zero]
    congr 1
    repeat' split
    all_goals first | rfl | omega
theorem scalG_bd : ∀ (t : List UInt8) (n : Int) (_ : Int), t.length ≤ 3 → -255 ≤ n → n ≤ 255 → -70000000 ≤ scalG n t ∧ scalG n t ≤ 134217728
  | [], n, _, _, h1, h2 => by rw [scalG]; omega
  | [c], n, _, _, h1, h2 => by have := c.toNat_lt; rw [scalG, scalG]; omega
  | [c, d], n, _, _, h1, h2 => by have := c.toNat_lt; have := d.toNat_lt; rw [scalG, scalG, scalG]; omega
  | [c, d, e], n, _, _, h1, h2 => by have := c.toNat_lt; have := d.toNat_lt; have := e.toNat_lt; rw [scalG, scalG, scalG, scalG]; omega
  | _ :: _ :: _ :: _ :: _, _, _, h, _, _ => by simp at h
end Go.Proofs.YtgjodmjegmilhaaDoor
