/- The references that write their result byte by byte: Newlines, Lower. -/
import Derived.Test.YtgjodmjegmilhaaDoorRa
import Derived.Test.YtgjodmjegmilhaaDoorOwn
import Derived.Test.YtgjodmjegmilhaaDoorLow
import Derived.Test.YtgjodmjegmilhaaDoorLib
namespace Go.Proofs.YtgjodmjegmilhaaDoor
open Go.RowKit
attribute [local go_sem] sgetr

/-- What ref.Newlines writes, from an offset on. -/
def rnl : List UInt8 → List UInt8
  | [] => []
  | c :: t => if c = 13 then (if t.head? = some 10 then rnl t else 10 :: rnl t) else c :: rnl t
theorem cr_cons (c : UInt8) (t : List UInt8) : cr (c :: t) = (if c = 13 then 10 else c) :: cr t := rfl
theorem rnl_eq : ∀ (n : Nat) (l : List UInt8), l.length ≤ n → rnl l = newlines l
  | _, [], _ => rfl
  | 0, c :: t, h => by simp at h
  | n + 1, c :: t, h => by
    have ih := rnl_eq n t (by simpa using h)
    unfold newlines at ih ⊢
    rw [rnl]
    by_cases hc : c = 13
    · subst hc
      rw [if_pos rfl]
      cases t with
      | nil => rfl
      | cons d t =>
        by_cases hd : d = 10
        · subst hd
          rw [if_pos (show (10 :: t).head? = some 10 from rfl), crlf_pair, ih, crlf_one 10 t (by simp [List.isPrefixOf])]
        · rw [if_neg (by simpa using hd), ih, crlf_one 13 (d :: t) (by simp [List.isPrefixOf]; exact fun h => hd h.symm), cr_cons, if_pos rfl]
    · rw [if_neg hc, ih, crlf_one c t (by simp [List.isPrefixOf]; intro h; exact absurd h.symm hc), cr_cons, if_neg hc]
theorem rnl_len : ∀ l : List UInt8, (rnl l).length ≤ l.length
  | [] => by simp [rnl]
  | c :: t => by
    have := rnl_len t
    rw [rnl]
    repeat' split
    all_goals simp; omega

end Go.Proofs.YtgjodmjegmilhaaDoor
