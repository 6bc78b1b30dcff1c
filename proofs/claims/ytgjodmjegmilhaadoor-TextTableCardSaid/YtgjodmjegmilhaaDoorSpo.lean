/- thicketlaw01.TextSpoilt: bytes with one between them that belongs to no encoding decode apart. -/
import Derived.Test.YtgjodmjegmilhaaDoorKn
import Derived.Lib.SlBytesRow
namespace Go.Proofs.YtgjodmjegmilhaaDoor
open Go.RowKit
attribute [local go_sem] sext
attribute [local go_sem] sapp

theorem decL_nil : decL [] = [] := rfl
theorem decL_cons (b : List UInt8) (h : b ≠ []) : decL b = pieceOut (b.take (pieceL b).1, (pieceL b).2) ++ decL (b.drop (pieceL b).1) := by
  unfold decL
  rw [pieces_cons b h, List.flatMap_cons]
theorem pieceRest_spoilt {c : UInt8} {t : List UInt8} : ∀ (r : List Span) (x : List UInt8) (i : Nat), (∀ s ∈ r, holdsS s c = false) → pieceRest r (x ++ c :: t) i = pieceRest r x i
  | [], x, i, _ => by rw [pieceRest, pieceRest]
  | s :: r, [], i, h => by
    rw [List.nil_append, pieceRest, pieceRest, h s (List.mem_cons_self ..)]; rfl
  | s :: r, a :: x, i, h => by
    rw [List.cons_append, pieceRest, pieceRest, pieceRest_spoilt r x (i + 1) (fun s hs => h s (List.mem_cons_of_mem _ hs))]
theorem pieceF_spoilt {c : UInt8} {t : List UInt8} : ∀ (fs : List (Span × List Span)) (a : UInt8) (x : List UInt8), (∀ f ∈ fs, ∀ s ∈ f.2, holdsS s c = false) → pieceF fs (a :: x ++ c :: t) = pieceF fs (a :: x)
  | [], a, x, _ => by rw [pieceF, pieceF]
  | f :: fs, a, x, h => by
    rw [List.cons_append, pieceF, pieceF, pieceRest_spoilt f.2 x 0 (h f (List.mem_cons_self ..))]
    have := pieceF_spoilt fs a x (fun g hg => h g (List.mem_cons_of_mem _ hg)) (c := c) (t := t)
    rw [List.cons_append] at this
    rw [this]
theorem pieceF_bad {c : UInt8} {t : List UInt8} : ∀ (fs : List (Span × List Span)), (∀ f ∈ fs, holdsS f.1 c = false) → pieceF fs (c :: t) = (1, false)
  | [], _ => by rw [pieceF]
  | f :: fs, h => by
    rw [pieceF, h f (List.mem_cons_self ..), pieceF_bad fs (fun g hg => h g (List.mem_cons_of_mem _ hg))]; rfl
/-- A byte of no encoding. -/
def spoils (c : UInt8) : Prop := c.toNat = 192 ∨ c.toNat = 193 ∨ 245 ≤ c.toNat
theorem spoils_first {c : UInt8} (h : spoils c) : ∀ f ∈ formsL, holdsS f.1 c = false := by
  intro f hf
  simp only [formsL, List.mem_cons, List.not_mem_nil, or_false] at hf
  unfold spoils at h
  rcases hf with rfl | rfl | rfl | rfl | rfl | rfl | rfl | rfl | rfl <;> simp [holdsS] <;> omega
theorem spoils_rest {c : UInt8} (h : spoils c) : ∀ f ∈ formsL, ∀ s ∈ f.2, holdsS s c = false := by
  intro f hf s hs
  simp only [formsL, List.mem_cons, List.not_mem_nil, or_false] at hf
  unfold spoils at h
  rcases hf with rfl | rfl | rfl | rfl | rfl | rfl | rfl | rfl | rfl <;> simp only [List.mem_cons, List.not_mem_nil, or_false] at hs <;>
    first
    | exact hs.elim
    | (rcases hs with rfl | rfl | rfl <;> simp [holdsS] <;> omega)
    | (rcases hs with rfl | rfl <;> simp [holdsS] <;> omega)
    | (subst hs; simp [holdsS]; omega)
theorem dec_spoilt {c : UInt8} (hc : spoils c) (b : List UInt8) : ∀ (n : Nat) (a : List UInt8), a.length ≤ n → decL (a ++ c :: b) = decL a ++ ([239, 191, 189] ++ decL b) := by
  intro n
  induction n with
  | zero =>
    intro a ha
    obtain rfl : a = [] := List.eq_nil_of_length_eq_zero (by omega)
    rw [List.nil_append, decL_nil, List.nil_append, decL_cons _ (by simp)]
    have e : pieceL (c :: b) = (1, false) := pieceF_bad formsL (spoils_first hc)
    rw [e]
    rfl
  | succ n ih =>
    intro a ha
    cases a with
    | nil =>
      rw [List.nil_append, decL_nil, List.nil_append, decL_cons _ (by simp)]
      have e : pieceL (c :: b) = (1, false) := pieceF_bad formsL (spoils_first hc)
      rw [e]
      rfl
    | cons x a =>
      have hb := pieceL_bd (x :: a) (by simp)
      have e : pieceL (x :: a ++ c :: b) = pieceL (x :: a) := pieceF_spoilt formsL x a (spoils_rest hc)
      rw [decL_cons _ (by simp), decL_cons (x :: a) (by simp), e, List.take_append_of_le_length hb.2, List.drop_append_of_le_length hb.2, ih _ (by simp at ha ⊢; omega), List.append_assoc]

/-- A block of one byte reads as a string of it. -/
theorem one_byte (w : World) (c : UInt8) (t : TypeId) : Lib.Bytes (w.alloc (.cells #[.int .u8 (c.toNat : Int)] t)) w.heap.size 0 ⟨[c].toArray⟩ := by
  intro i hi
  have hi : i < 1 := hi
  obtain rfl : i = 0 := by omega
  have h : (w.alloc (.cells #[.int .u8 (c.toNat : Int)] t)).cell? ⟨w.heap.size, 0, none⟩ = some (.int .u8 (c.toNat : Int)) := by go_cell
  exact h
end Go.Proofs.YtgjodmjegmilhaaDoor
