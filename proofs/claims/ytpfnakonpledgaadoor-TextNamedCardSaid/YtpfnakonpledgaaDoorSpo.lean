/- thicketlaw01.TextSpoilt: bytes with one between them that belongs to no encoding decode apart. -/
import Derived.Test.YtpfnakonpledgaaDoorKn
import Derived.Lib.SlBytesRow
namespace Go.Proofs.YtpfnakonpledgaaDoor
open Go.RowKit
attribute [local go_sem] sext
attribute [local go_sem] sapp

theorem decL_nil : decL [] = [] := rfl
theorem decL_cons (b : List UInt8) (h : b ≠ []) : decL b = pieceOut (b.take (pieceL b).1, (pieceL b).2) ++ decL (b.drop (pieceL b).1) := by
  unfold decL
  rw [pieces_cons b h, List.flatMap_cons]
theorem pieceRest_spoilt {c : UInt8} {t : List UInt8} : ∀ (r : List Span) (x : List UInt8) (i : Nat), (∀ s ∈ r, holdsS s c = false) → pieceRest r (x ++ c :: t) i = pieceRest r x i
  | [], x, i, _ => by rw [pieceRest, pieceRest]
  | s :: r, [], i, h => by
    rw [List.nil_append, pieceRest, pieceRest, h s (List.mem_cons_self ..)]; rfl
  | s :: r, a :: x, i, h => by
    rw [List.cons_append, pieceRest, pieceRest, pieceRest_spoilt r x (i + 1) (fun s hs => h s (List.mem_cons_of_mem _ hs))]
theorem pieceF_spoilt {c : UInt8} {t : List UInt8} : ∀ (fs : List (Span × List Span)) (a : UInt8) (x : List UInt8), (∀ f ∈ fs, ∀ s ∈ f.2, holdsS s c = false) → pieceF fs (a :: x ++ c :: t) = pieceF fs (a :: x)
  | [], a, x, _ => by rw [pieceF, pieceF]
  | f :: fs, a, x, h => by
    rw [List.cons_append, pieceF, pieceF, pieceRest_spoilt f.2 x 0 (h f (List.mem_cons_self ..))]
    have := pieceF_spoilt fs a x (fun g hg => h g (List.mem_cons_of_mem _ hg)) (c := c) (t := t)
    rw [List.cons_append] at this
    rw [this]
theorem pieceF_bad {c : UInt8} {t : List UInt8} : ∀ (fs : List (Span × List Span)), (∀ f ∈ fs, holdsS f.1 c = false) → pieceF fs (c :: t) = (1, false)
  | [], _ => by rw [pieceF]
  | f :: fs, h => by
    rw [pieceF, h f (List.mem_cons_self ..), pieceF_bad fs (fun g hg => h g (List.mem_cons_of_mem _ hg))]; rfl
/-- A byte of no encoding. -/
def spoils (c : UInt8) : Prop := c.toNat = 192 ∨ c.toNat = 193 ∨ 245 ≤ c.toNat
theorem spoils_first {c : UInt8} (h : spoils c) : ∀ f ∈ formsL, holdsS f.1 c = false := by
  intro f hf
  simp only [formsL, List.mem_cons, List.not_mem_nil, or_false] at hf
  unfold spoils at h
  rcases hf with rfl | rfl | rfl | rfl | rfl | rfl | rfl | rfl | rfl <;> simp [holdsS] <;> omega
theorem spoils_rest {c : UInt8} (h : spoils c) : ∀ f ∈ formsL, ∀ s ∈ f.2, holdsS s c = false := by
  intro f hf s hs
  simp only [formsL, List.mem_cons, List.not_mem_nil, or_false] at hf
  unfold spoils at h
  rcases hf with rfl | rfl | rfl | rfl | rfl | rfl | rfl | rfl | rfl <;> simp only [List.mem_cons, List.not_mem_nil, or_false] at hs <;>
    first
    | exact hs.elim
    | (rcases hs with rfl | rfl | rfl <;> simp [holdsS] <;> omega)
    | (rcases hs with rfl | rfl <;> simp [holdsS] <;> omega)
    | (subst hs; simp [holdsS]; omega)
theorem dec_spoilt {c : UInt8} (hc : spoils c) (b : List UInt8) : ∀ (n : Nat) (a : List UInt8), a.length ≤ n → decL (a ++ c :: b) = decL a ++ ([239, 191, 189] ++ decL b) := by
  intro n
  induction n with
  | zero =>
    intro a ha
    obtain rfl : a = [] := List.eq_nil_of_length_eq_zero (by omega)
    rw [List.nil_append, decL_nil, List.nil_append, decL_cons _ (by simp)]
    have e : pieceL (c :: b) = (1, false) := pieceF_bad formsL (spoils_first hc)
    rw [e]
    rfl
  | succ n ih =>
    intro a ha
    cases a with
    | nil =>
      rw [List.nil_append, decL_nil, List.nil_append, decL_cons _ (by simp)]
      have e : pieceL (c :: b) = (1, false) := pieceF_bad formsL (spoils_first hc)
      rw [e]
      rfl
    | cons x a =>
      have hb := pieceL_bd (x :: a) (by simp)
      have e : pieceL (x :: a ++ c :: b) = pieceL (x :: a) := pieceF_spoilt formsL x a (spoils_rest hc)
      rw [decL_cons _ (by simp), decL_cons (x :: a) (by simp), e, List.take_append_of_le_length hb.2, List.drop_append_of_le_length hb.2, ih _ (by simp at ha ⊢; omega), List.append_assoc]

/-- A block of one byte reads as a string of it. -/
theorem one_byte (w : World) (c : UInt8) (t : TypeId) : Lib.Bytes (w.alloc (.cells #[.int .u8 (c.toNat : Int)] t)) w.heap.size 0 ⟨[c].toArray⟩ := by
  intro i hi
  have hi : i < 1 := hi
  obtain rfl : i = 0 := by omega
  have h : (w.alloc (.cells #[.int .u8 (c.toNat : Int)] t)).cell? ⟨w.heap.size, 0, none⟩ = some (.int .u8 (c.toNat : Int)) := by go_cell
  exact h
theorem small_any (l : List UInt8) (w : World) (hs : l.length ≤ maxLen) : Calls Tryd.prog 21 #[.string ⟨l.toArray⟩] w (Same w (.bool (decide (l.length ≤ 65536)))) := by
  unfold maxLen at hs
  go_enter Tryd.func21, Tryd.ntmps21
  go_wp2
  go_ret
  refine Same.mk (congrArg Value.bool ?_)
  rw [Bool.eq_iff_iff]; simp; omega
theorem small_yes (l : List UInt8) (w : World) (hs : l.length ≤ maxLen) (h : l.length ≤ 65536) : Calls Tryd.prog 21 #[.string ⟨l.toArray⟩] w (Same w (.bool true)) := by
  have := small_any l w hs
  rwa [show decide (l.length ≤ 65536) = true by simpa using h] at this
theorem small_no (l : List UInt8) (w : World) (hs : l.length ≤ maxLen) (h : ¬ l.length ≤ 65536) : Calls Tryd.prog 21 #[.string ⟨l.toArray⟩] w (Same w (.bool false)) := by
  have := small_any l w hs
  rwa [show decide (l.length ≤ 65536) = false by simpa using h] at this

set_option maxRecDepth 100000 in
set_option maxHeartbeats 2000000 in
theorem TextSpoilt_any (a b : List UInt8) (c : UInt8) (w : World) (hg : Good w) (ha : a.length ≤ maxLen) (hb : b.length ≤ maxLen) :
    Calls Tryd.prog 4 #[.string ⟨a.toArray⟩, .string ⟨b.toArray⟩, .int .u8 (c.toNat : Int)] w (Ret w (.bool true)) := by
  have HK := Lib.hid (fun w hg => known_any w hg)
  by_cases hc : spoils c
  · have hcs : (decide ((c.toNat : Int) < 245) = true ∧ ((c.toNat : Int) != 192) = false) ∨ (decide ((c.toNat : Int) < 245) = true ∧ ((c.toNat : Int) != 192) = true ∧ ((c.toNat : Int) != 193) = false) ∨ decide ((c.toNat : Int) < 245) = false := by
      rcases hc with h | h | h
      · exact .inl ⟨by simp; omega, by simp; omega⟩
      · exact .inr (.inl ⟨by simp; omega, by simp; omega, by simp; omega⟩)
      · exact .inr (.inr (by simp; omega))
    rcases hcs with ⟨e1, e2⟩ | ⟨e1, e2, e3⟩ | e1
    all_goals
      by_cases ha1 : a.length ≤ 65536
      · have HA := Lib.hid (small_yes a w ha ha1)
        by_cases hb1 : b.length ≤ 65536
        · have HB := Lib.hid (small_yes b w hb hb1)
          have hd : decL (a ++ c :: b) = decL a ++ 239 :: 191 :: 189 :: decL b := dec_spoilt hc b _ a (Nat.le_refl _)
          have hla := decL_len a
          have hlb := decL_len b
          have h1 := fun w => Decode_any (a ++ c :: b) w (by simp; omega)
          rw [hd] at h1
          have H1 := Lib.hid h1
          clear h1 hd
          have H2 := Lib.hid (fun w => Decode_any a w (by omega))
          have H3 := Lib.hid (fun w => Decode_any b w (by omega))
          have kc := Lib.run_convert_whole (P := Tryd.prog) (w.alloc (.cells #[.int .u8 (c.toNat : Int)] 5)) 26 5 9 Tryd.underlying26 Tryd.underlying5 Tryd.underlying9 w.heap.size 0 ⟨[c].toArray⟩
            (one_byte _ c _) 1
          rw [show (⟨[c].toArray⟩ : ByteArray).size = 1 from rfl] at kc
          go_enter Tryd.func4, Tryd.ntmps4
          go_wp2_with fail
          refine HA.out.mono ?_
          rintro e w' ⟨rfl, rfl⟩
          go_wp2_with fail
          refine HB.out.mono ?_
          rintro e w' ⟨rfl, rfl⟩
          go_wp2_with fail
          refine (H1.out _).mono ?_
          rintro e w1 ⟨rfl, b1⟩
          go_wp2_with fail
          refine (H2.out _).mono ?_
          rintro e w2 ⟨rfl, b2⟩
          go_wp2_with fail
          refine (H3.out _).mono ?_
          rintro e w3 ⟨rfl, b3⟩
          have b4 := bthen (bthen (bthen (balloc _ _) (by simp) b1) (by have := b1.size; simp at this; omega) b2) (by have := b1.size; have := b2.size; simp at *; omega) b3
          clear b1 b2 b3
          go_wp2_with fail
          refine (HK.out _ (hg.kept b4)).mono ?_
          rintro e w5 ⟨rfl, b5⟩
          go_wp2_with fail
          go_ret
          exact Ret.mk rfl (bthen b4 b4.size b5)
        · have HB := Lib.hid (small_no b w hb hb1)
          go_enter Tryd.func4, Tryd.ntmps4
          go_wp2_with fail
          refine HA.out.mono ?_
          rintro e w' ⟨rfl, rfl⟩
          go_wp2_with fail
          refine HB.out.mono ?_
          rintro e w' ⟨rfl, rfl⟩
          go_wp2_with fail
          refine (HK.out _ hg).mono ?_
          rintro e w1 ⟨rfl, b1⟩
          go_wp2_with fail
          go_ret
          exact Ret.mk rfl b1
      · have HA := Lib.hid (small_no a w ha ha1)
        go_enter Tryd.func4, Tryd.ntmps4
        go_wp2_with fail
        refine HA.out.mono ?_
        rintro e w' ⟨rfl, rfl⟩
        go_wp2_with fail
        refine (HK.out _ hg).mono ?_
        rintro e w1 ⟨rfl, b1⟩
        go_wp2_with fail
        go_ret
        exact Ret.mk rfl b1
  · unfold spoils at hc
    have e1 : ((c.toNat : Int) != 192) = true := by simp; omega
    have e2 : ((c.toNat : Int) != 193) = true := by simp; omega
    have e3 : decide ((c.toNat : Int) < 245) = true := by simp; omega
    clear hc
    go_enter Tryd.func4, Tryd.ntmps4
    go_wp2_with fail
    refine (HK.out _ hg).mono ?_
    rintro e w1 ⟨rfl, b1⟩
    go_wp2_with fail
    go_ret
    exact Ret.mk rfl b1
end Go.Proofs.YtpfnakonpledgaaDoor
