/- text.replaced, CodePoint. -/
import Derived.Test.YtgjodmjegmilhaaDoorBase
import Derived.Test.YtgjodmjegmilhaaDoorTail
import Derived.Test.YtgjodmjegmilhaaDoorBld
namespace Go.Proofs.YtgjodmjegmilhaaDoor
open Go.RowKit

def replT : List Int := [0x20AC, 0, 0x201A, 0x0192, 0x201E, 0x2026, 0x2020, 0x2021, 0x02C6, 0x2030, 0x0160, 0x2039, 0x0152, 0, 0x017D, 0,
  0, 0x2018, 0x2019, 0x201C, 0x201D, 0x2022, 0x2013, 0x2014, 0x02DC, 0x2122, 0x0161, 0x203A, 0x0153, 0, 0x017E, 0x0178]
def replL (c : Int) : Int := if c < 128 ∨ c > 159 then 0 else replT.getD (c - 128).toNat 0
def codeL (c : Int) : Int := if c ≤ 0 ∨ c > 1114111 ∨ (55296 ≤ c ∧ c ≤ 57343) then 65533 else if replL c ≠ 0 then replL c else c

def replC : Array Value := #[.int .i32 8364, .int .i32 0, .int .i32 8218, .int .i32 402, .int .i32 8222, .int .i32 8230, .int .i32 8224, .int .i32 8225, .int .i32 710, .int .i32 8240, .int .i32 352, .int .i32 8249, .int .i32 338, .int .i32 0, .int .i32 381, .int .i32 0, .int .i32 0, .int .i32 8216, .int .i32 8217, .int .i32 8220, .int .i32 8221, .int .i32 8226, .int .i32 8211, .int .i32 8212, .int .i32 732, .int .i32 8482, .int .i32 353, .int .i32 8250, .int .i32 339, .int .i32 0, .int .i32 382, .int .i32 376]
theorem replC_at (k : Nat) (hk : k < 32) : replC[k]? = some (.int .i32 (replT.getD k 0)) := by
  have h : replC = (replT.map fun x => Value.int .i32 x).toArray := rfl
  have hl : replT.length = 32 := rfl
  rw [h, List.getElem?_toArray, List.getElem?_map, List.getElem?_eq_getElem (by omega), List.getD, List.getElem?_eq_getElem (by omega)]
  rfl

theorem replL_rng (c : Int) : 0 ≤ replL c ∧ replL c ≤ 65535 := by
  rw [replL]
  split
  · decide
  · have h : ∀ x ∈ replT, 0 ≤ x ∧ x ≤ 65535 := by decide
    rw [List.getD]
    rcases hx : replT[(c - 128).toNat]? with _ | x
    · decide
    · exact h x (List.mem_of_getElem? hx)
end Go.Proofs.YtgjodmjegmilhaaDoor
