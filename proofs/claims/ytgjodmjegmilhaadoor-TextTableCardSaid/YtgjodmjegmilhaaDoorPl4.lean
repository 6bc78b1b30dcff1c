/- Plain law: the reference's pieces are the program's. -/
import Derived.Test.YtgjodmjegmilhaaDoorRg
import Derived.Test.YtgjodmjegmilhaaDoorPl1
import Derived.Test.YtgjodmjegmilhaaDoorPcs
namespace Go.Proofs.YtgjodmjegmilhaaDoor
open Go.RowKit

def wholeL : List UInt8 → Bool
  | [] => false
  | a :: t => begL (a :: t) && decide (rWant a = t.length + 1)
/-- The best length among those below k. -/
def pcK (l : List UInt8) : Nat → Nat
  | 0 => 1
  | k + 1 => if 2 ≤ k ∧ begL (l.take k) = true then k else pcK l k
def restOf (a : UInt8) : List Span := ((formsL.find? fun f => holdsS f.1 a).map (·.2)).getD []
theorem pieceF_find (a : UInt8) (t : List UInt8) : ∀ fs : List (Span × List Span), pieceF fs (a :: t) = match fs.find? (fun f => holdsS f.1 a) with | some f => pieceRest f.2 t 0 | none => (1, false)
  | [] => rfl
  | f :: fs => by
    rw [pieceF, List.find?_cons]
    cases h : holdsS f.1 a
    · simp only [Bool.false_eq_true, if_false]; exact pieceF_find a t fs
    · simp
def spanOf (a : UInt8) : Span := if a.toNat = 224 then (160, 191) else if a.toNat = 237 then (128, 159) else if a.toNat = 240 then (144, 191) else if a.toNat = 244 then (128, 143) else (128, 191)
theorem forms_at (a : UInt8) : ((formsL.find? fun f => holdsS f.1 a).map (·.2)) = if rWant a = 0 then none else if rWant a = 1 then some [] else some (spanOf a :: List.replicate (rWant a - 2) (128, 191)) :=
  byte_all (p := fun a => ((formsL.find? fun f => holdsS f.1 a).map (·.2)) = if rWant a = 0 then none else if rWant a = 1 then some [] else some (spanOf a :: List.replicate (rWant a - 2) (128, 191))) (by decide +kernel) a
theorem span_second (a c : UInt8) : holdsS (spanOf a) c = (rSecond a c && rMore c) := by
  unfold spanOf rSecond rMore holdsS
  rw [Bool.eq_iff_iff]
  repeat' split
  all_goals simp
  all_goals omega
theorem span_more (c : UInt8) : holdsS (128, 191) c = rMore c := by
  unfold holdsS rMore
  rw [Bool.eq_iff_iff]; simp
/-- How many bytes ahead are held by the spans, one after the other. -/
def mt : List Span → List UInt8 → Nat
  | [], _ => 0
  | _ :: _, [] => 0
  | s :: r, c :: t => if holdsS s c then mt r t + 1 else 0
theorem mt_le : ∀ (r : List Span) (t : List UInt8), mt r t ≤ r.length ∧ mt r t ≤ t.length
  | [], t => by simp [mt]
  | s :: r, [] => by simp [mt]
  | s :: r, c :: t => by
    have := mt_le r t
    rw [mt]; split <;> simp <;> omega
theorem pieceRest_mt : ∀ (r : List Span) (t : List UInt8) (i : Nat), pieceRest r t i = (i + 1 + mt r t, decide (mt r t = r.length))
  | [], t, i => by simp [pieceRest, mt]
  | s :: r, [], i => by simp [pieceRest, mt]
  | s :: r, c :: t, i => by
    rw [pieceRest, mt]
    cases h : holdsS s c
    · simp
    · simp only [if_true]
      rw [pieceRest_mt r t (i + 1)]
      simp; omega
theorem mt_take : ∀ (r : List Span) (t : List UInt8) (k : Nat), k ≤ t.length → (mt r (t.take k) = k ↔ k ≤ mt r t)
  | [], t, k, _ => by simp [mt]; omega
  | s :: r, [], k, h => by
    obtain rfl : k = 0 := by simpa using h
    simp [mt]
  | s :: r, c :: t, 0, _ => by simp [mt]
  | s :: r, c :: t, k + 1, h => by
    have := mt_take r t k (by simpa using h)
    rw [List.take_succ_cons, mt, mt]
    split
    · omega
    · omega
theorem begT_mt (a : UInt8) : ∀ (t : List UInt8) (m : Nat), t.length ≤ m + 1 → begT a t = decide (mt (spanOf a :: List.replicate m (128, 191)) t = t.length)
  | [], m, _ => by simp [begT, mt]
  | c :: u, m, h => by
    have key : ∀ (u : List UInt8) (m : Nat), u.length ≤ m → u.all rMore = decide (mt (List.replicate m (128, 191)) u = u.length) := by
      intro u
      induction u with
      | nil => intro m _; cases m <;> simp [mt, List.replicate]
      | cons d u ih =>
        intro m hm
        obtain ⟨m, rfl⟩ : ∃ k, m = k + 1 := ⟨m - 1, by simp at hm; omega⟩
        rw [List.replicate_succ, mt, List.all_cons, ih m (by simpa using hm), span_more]
        cases rMore d <;> simp
    rw [begT, mt, span_second, key u m (by simpa using h)]
    cases rSecond a c <;> cases rMore c <;> simp
theorem pieceL_want (a : UInt8) (t : List UInt8) : pieceL (a :: t) = if rWant a = 0 then (1, false) else if rWant a = 1 then (1, true) else (1 + mt (spanOf a :: List.replicate (rWant a - 2) (128, 191)) t, decide (mt (spanOf a :: List.replicate (rWant a - 2) (128, 191)) t = rWant a - 1)) := by
  have hf := forms_at a
  unfold pieceL
  rw [pieceF_find]
  have h4 := rWant_le a
  by_cases h0 : rWant a = 0
  · rw [if_pos h0] at hf ⊢
    rw [Option.map_eq_none_iff] at hf
    rw [hf]
  · rw [if_neg h0] at hf ⊢
    by_cases h1 : rWant a = 1
    · rw [if_pos h1] at hf ⊢
      obtain ⟨f, hff, hf2⟩ := Option.map_eq_some_iff.1 hf
      rw [hff]
      simp only []
      rw [hf2]; rfl
    · rw [if_neg h1] at hf ⊢
      obtain ⟨f, hff, hf2⟩ := Option.map_eq_some_iff.1 hf
      rw [hff]
      simp only []
      rw [hf2, pieceRest_mt]
      refine Prod.ext ?_ ?_
      · show 0 + 1 + _ = 1 + _; omega
      · show decide _ = decide _
        rw [Bool.eq_iff_iff]
        simp only [List.length_cons, List.length_replicate, decide_eq_true_eq]
        omega
theorem begL_take (a : UInt8) (t : List UInt8) (k : Nat) (hk : k ≤ t.length) (h1 : 1 ≤ k) : begL ((a :: t).take (k + 1)) = decide (k + 1 ≤ rWant a ∧ k ≤ mt (spanOf a :: List.replicate (rWant a - 2) (128, 191)) t) := by
  rw [List.take_succ_cons, begL]
  have hl : (t.take k).length = k := by simp; omega
  rw [hl, Bool.eq_iff_iff]
  by_cases hw : k + 1 ≤ rWant a
  · rw [begT_mt a (t.take k) (rWant a - 2) (by omega), hl]
    simp only [Bool.and_eq_true, decide_eq_true_eq]
    rw [mt_take _ _ _ hk]
  · simp [hw]
theorem pcK_eq (l : List UInt8) (m : Nat) (h1 : 1 ≤ m) : ∀ k, (∀ j, 2 ≤ j → j < k → (begL (l.take j) = true ↔ j ≤ m)) → m < k → pcK l k = m
  | 0, _, h => by omega
  | k + 1, hb, h => by
    rw [pcK]
    by_cases hk : 2 ≤ k
    · by_cases hm : k = m
      · rw [if_pos ⟨hk, (hb k hk (by omega)).2 (by omega)⟩, hm]
      · rw [if_neg (fun h' => hm (by have := (hb k hk (by omega)).1 h'.2; omega)), pcK_eq l m h1 k (fun j h2 h3 => hb j h2 (by omega)) (by omega)]
    · rw [if_neg (fun h' => hk h'.1)]
      obtain rfl : k = 1 := by omega
      obtain rfl : m = 1 := by omega
      rw [pcK, if_neg (by omega)]; rfl
/-- The reference's piece: the program's. -/
theorem piece_eq (l : List UInt8) (h : l ≠ []) : pcK l (min 4 l.length + 1) = (pieceL l).1 ∧ wholeL (l.take (pieceL l).1) = (pieceL l).2 := by
  cases l with
  | nil => exact absurd rfl h
  | cons a t =>
    have h4 := rWant_le a
    have hp := pieceL_want a t
    by_cases h0 : rWant a = 0
    · rw [if_pos h0] at hp
      rw [hp]
      refine ⟨pcK_eq _ 1 (Nat.le_refl _) _ (fun j h2 hj => ?_) (by simp; omega), ?_⟩
      · obtain ⟨k, rfl⟩ : ∃ k, j = k + 1 := ⟨j - 1, by omega⟩
        rw [begL_take a t k (by simp at hj; omega) (by omega), decide_eq_true_eq]
        omega
      · show wholeL [a] = false
        rw [wholeL]; simp [h0]
    · rw [if_neg h0] at hp
      by_cases h1 : rWant a = 1
      · rw [if_pos h1] at hp
        rw [hp]
        refine ⟨pcK_eq _ 1 (Nat.le_refl _) _ (fun j h2 hj => ?_) (by simp; omega), ?_⟩
        · obtain ⟨k, rfl⟩ : ∃ k, j = k + 1 := ⟨j - 1, by omega⟩
          rw [begL_take a t k (by simp at hj; omega) (by omega), decide_eq_true_eq]
          omega
        · show wholeL [a] = true
          rw [wholeL, begL]; simp [h1, begT]
      · rw [if_neg h1] at hp
        obtain ⟨M, hM⟩ : ∃ M, mt (spanOf a :: List.replicate (rWant a - 2) (128, 191)) t = M := ⟨_, rfl⟩
        have hle := mt_le (spanOf a :: List.replicate (rWant a - 2) (128, 191)) t
        rw [hM] at hp hle
        simp only [List.length_cons, List.length_replicate] at hle
        rw [hp]
        refine ⟨pcK_eq _ (1 + M) (by omega) _ (fun j h2 hj => ?_) (by simp; omega), ?_⟩
        · obtain ⟨k, rfl⟩ : ∃ k, j = k + 1 := ⟨j - 1, by omega⟩
          rw [begL_take a t k (by simp at hj; omega) (by omega), decide_eq_true_eq, hM]
          omega
        · show wholeL ((a :: t).take (1 + M)) = decide (M = rWant a - 1)
          rw [Nat.add_comm 1 M]
          by_cases hM0 : 1 ≤ M
          · have hb := begL_take a t M hle.2 hM0
            rw [List.take_succ_cons] at hb ⊢
            rw [wholeL, hb, hM, show (t.take M).length = M by simp; omega, Bool.eq_iff_iff]
            simp only [Bool.and_eq_true, decide_eq_true_eq]
            omega
          · obtain rfl : M = 0 := by omega
            show wholeL [a] = _
            rw [wholeL, Bool.eq_iff_iff]
            simp only [Bool.and_eq_true, decide_eq_true_eq, List.length_nil]
            omega
end Go.Proofs.YtgjodmjegmilhaaDoor
