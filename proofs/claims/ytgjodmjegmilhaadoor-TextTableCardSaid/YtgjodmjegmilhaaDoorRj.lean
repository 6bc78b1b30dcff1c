/- The reference's Decode, Input and Valid. -/
import Derived.Test.YtgjodmjegmilhaaDoorRi
import Derived.Test.YtgjodmjegmilhaaDoorDec
import Derived.Test.YtgjodmjegmilhaaDoorPl4
namespace Go.Proofs.YtgjodmjegmilhaaDoor
open Go.RowKit
attribute [local go_sem] sgetr
attribute [local go_sem] sext

def runeP (x : Piece) : Int := if x.2 then scalL x.1 else 65533
def decR (l : List UInt8) : List Int := (pieces l).map runeP
theorem decR_nil : decR [] = [] := rfl
theorem decR_cons (b : List UInt8) (h : b ≠ []) : decR b = runeP (b.take (pieceL b).1, (pieceL b).2) :: decR (b.drop (pieceL b).1) := by
  unfold decR
  rw [pieces_cons b h, List.map_cons]
theorem pieceL_le4 (b : List UInt8) (h : b ≠ []) : (pieceL b).1 ≤ 4 := by
  cases b with
  | nil => exact absurd rfl h
  | cons a t =>
    have h4 := rWant_le a
    have := mt_le (spanOf a :: List.replicate (rWant a - 2) (128, 191)) t
    simp only [List.length_cons, List.length_replicate] at this
    rw [pieceL_want]
    repeat' split
    all_goals simp
    all_goals omega
theorem decR_len (l : List UInt8) : (decR l).length ≤ l.length := by
  unfold decR; rw [List.length_map]; exact pieces_len_le l
def RetRunes (w : World) (rs : List Int) (e : Ending) (w' : World) : Prop := ∃ v, e = .returned v ∧ OwnR w.heap.size w' v rs ∧ Below w.heap.size w w'
end Go.Proofs.YtgjodmjegmilhaaDoor
