/- ref.Windows, ref.CodePoint, ref.Scalar. -/
import Derived.Test.YtgjodmjegmilhaaDoorRa
import Derived.Test.YtgjodmjegmilhaaDoorCod
namespace Go.Proofs.YtgjodmjegmilhaaDoor
open Go.RowKit

def winT : List (Int × Int) := [(128, 8364), (130, 8218), (131, 402), (132, 8222), (133, 8230), (134, 8224), (135, 8225), (136, 710), (137, 8240), (138, 352), (139, 8249), (140, 338), (142, 381), (145, 8216), (146, 8217), (147, 8220), (148, 8221), (149, 8226), (150, 8211), (151, 8212), (152, 732), (153, 8482), (154, 353), (155, 8250), (156, 339), (158, 382), (159, 376)]
def pairC : List (Int × Int) → List Value
  | [] => []
  | p :: l => .int .i64 p.1 :: .int .i64 p.2 :: pairC l
theorem pairC_at : ∀ (l : List (Int × Int)) (k : Nat) (h : k < l.length), (pairC l)[k * 2]? = some (.int .i64 l[k].1) ∧ (pairC l)[k * 2 + 1]? = some (.int .i64 l[k].2)
  | p :: l, 0, _ => ⟨rfl, rfl⟩
  | p :: l, k + 1, h => by
    have := pairC_at l k (by simpa using h)
    rw [show (k + 1) * 2 = k * 2 + 1 + 1 by omega]
    exact this
def rCode (c : Int) : Int := if c < 1 ∨ c > 1114111 ∨ (55295 < c ∧ c < 57344) then 65533 else match winT.find? (fun x => x.1 == c) with | some x => x.2 | none => c
theorem winT_rng : ∀ x ∈ winT, 128 ≤ x.1 ∧ x.1 ≤ 159 ∧ 0 ≤ x.2 ∧ x.2 ≤ 65535 := by decide
theorem find_hit {l : List (Int × Int)} {c : Int} {k : Nat} (hk : k < l.length) (hno : ∀ j (hj : j < l.length), j < k → (l[j].1 == c) = false) (h : (l[k].1 == c) = true) : l.find? (fun x => x.1 == c) = some l[k] := by
  rw [List.find?_eq_some_iff_getElem]
  exact ⟨h, k, hk, rfl, fun j hj => by rw [hno j _ hj]; rfl⟩
theorem find_miss {l : List (Int × Int)} {c : Int} (hno : ∀ j (hj : j < l.length), (l[j].1 == c) = false) : l.find? (fun x => x.1 == c) = none := by
  rw [List.find?_eq_none]
  intro x hx
  obtain ⟨j, hj, rfl⟩ := List.getElem_of_mem hx
  rw [hno j hj]; decide
def rScal (r : Int) : Bool := decide ((0 ≤ r ∧ r ≤ 55295) ∨ (57344 ≤ r ∧ r ≤ 1114111))
end Go.Proofs.YtgjodmjegmilhaaDoor
