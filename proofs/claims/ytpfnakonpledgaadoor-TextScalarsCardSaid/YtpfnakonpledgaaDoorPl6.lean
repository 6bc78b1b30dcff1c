/- Plain law: input is made of encodings. -/
import Derived.Test.YtpfnakonpledgaaDoorPl5
namespace Go.Proofs.YtpfnakonpledgaaDoor
open Go.RowKit

theorem pieces_encs : ∀ (ps : List (List UInt8)) (y : List UInt8), (∀ p ∈ ps, wholeL p = true) → pieces (ps.flatten ++ y) = (ps.map fun p => (p, true)) ++ pieces y
  | [], y, _ => rfl
  | p :: ps, y, h => by
    rw [List.flatten_cons, List.append_assoc, pieces_whole_app (h p (List.mem_cons_self ..)), pieces_encs ps y fun q hq => h q (List.mem_cons_of_mem _ hq)]
    rfl
theorem dec_encs {ps : List (List UInt8)} (h : ∀ p ∈ ps, wholeL p = true) (y : List UInt8) : decL (ps.flatten ++ y) = ps.flatten ++ decL y := by
  show (pieces _).flatMap pieceOut = _
  rw [pieces_encs ps y h, List.flatMap_append, List.flatMap_map]
  show ps.flatMap (fun p => p) ++ decL y = _
  rw [List.flatMap_id']
def nlP : List (List UInt8) → List (List UInt8)
  | [] => []
  | p :: ps => if p = [13] then (if ps.head? = some [10] then nlP ps else [10] :: nlP ps) else p :: nlP ps
theorem nlP_len : ∀ ps, (nlP ps).length ≤ ps.length
  | [] => by simp [nlP]
  | p :: ps => by
    have := nlP_len ps
    rw [nlP]; repeat' split
    all_goals simp
    all_goals omega
theorem nlP_whole : ∀ ps : List (List UInt8), (∀ p ∈ ps, wholeL p = true) → ∀ p ∈ nlP ps, wholeL p = true
  | [], _, p, hp => by simp [nlP] at hp
  | q :: ps, h, p, hp => by
    have ih := nlP_whole ps fun r hr => h r (List.mem_cons_of_mem _ hr)
    rw [nlP] at hp
    repeat' split at hp
    · exact ih p hp
    · rcases List.mem_cons.1 hp with rfl | hp
      · decide
      · exact ih p hp
    · rcases List.mem_cons.1 hp with rfl | hp
      · exact h _ (List.mem_cons_self ..)
      · exact ih p hp
/-- An encoding of one byte is one from 00 to 7F; in a longer one all bytes are from 80 on. -/
theorem whole_cases {p : List UInt8} (h : wholeL p = true) : (∃ a : UInt8, p = [a] ∧ a.toNat < 128) ∨ ∀ c ∈ p, 128 ≤ c.toNat := by
  cases p with
  | nil => cases h
  | cons a t =>
    simp only [wholeL, begL, Bool.and_eq_true, decide_eq_true_eq] at h
    obtain ⟨⟨_, hb⟩, hw⟩ := h
    cases t with
    | nil => exact .inl ⟨a, rfl, want1 hw⟩
    | cons c u =>
      refine .inr ?_
      simp only [begT, Bool.and_eq_true, more_iff, List.all_eq_true] at hb
      intro d hd
      rcases List.mem_cons.1 hd with rfl | hd
      · have : rWant d ≠ 1 ∧ rWant d ≠ 0 := by simp at hw; omega
        unfold rWant at this
        repeat' split at this
        all_goals omega
      · rcases List.mem_cons.1 hd with rfl | hd
        · exact hb.1.2.1
        · exact (hb.2 d hd).1
theorem rnl_app : ∀ (p y : List UInt8), (∀ c ∈ p, c ≠ 13) → rnl (p ++ y) = p ++ rnl y
  | [], y, _ => rfl
  | c :: p, y, h => by
    rw [List.cons_append, rnl, if_neg (h c (List.mem_cons_self ..)), rnl_app p y fun d hd => h d (List.mem_cons_of_mem _ hd)]
    rfl
theorem rnl_encs : ∀ ps : List (List UInt8), (∀ p ∈ ps, wholeL p = true) → rnl ps.flatten = (nlP ps).flatten
  | [], _ => rfl
  | p :: ps, h => by
    have ih := rnl_encs ps fun r hr => h r (List.mem_cons_of_mem _ hr)
    have hp := h p (List.mem_cons_self ..)
    rw [List.flatten_cons, nlP]
    by_cases h13 : p = [13]
    · subst h13
      rw [if_pos rfl, List.cons_append, List.nil_append, rnl, if_pos rfl, ih]
      have e : ps.flatten.head? = some 10 ↔ ps.head? = some [10] := by
        cases ps with
        | nil => simp
        | cons q qs =>
          have hq := h q (by simp)
          rw [List.flatten_cons]
          rcases whole_cases hq with ⟨a, rfl, _⟩ | hq2
          · simp
          · cases q with
            | nil => cases hq
            | cons d u =>
              have := hq2 d (List.mem_cons_self ..)
              simp only [List.cons_append, List.head?_cons, Option.some.injEq]
              constructor
              · rintro rfl; simp at this
              · intro e; cases e; simp at this
      by_cases hh : ps.head? = some [10]
      · rw [if_pos (e.2 hh), if_pos hh]
      · rw [if_neg (fun h => hh (e.1 h)), if_neg hh]; rfl
    · rw [if_neg h13, List.flatten_cons, ← ih]
      refine rnl_app p _ ?_
      intro c hc
      rcases whole_cases hp with ⟨a, rfl, _⟩ | hp2
      · simp at hc; subst hc
        intro e; subst e; exact h13 rfl
      · intro e; subst e
        have := hp2 _ hc
        simp at this
theorem newlines_app {p y : List UInt8} (h : ∀ c ∈ p, c ≠ 13) : newlines (p ++ y) = p ++ newlines y := by
  rw [← rnl_eq _ _ (Nat.le_refl _), ← rnl_eq _ _ (Nat.le_refl _), rnl_app p y h]
/-- What input is like. -/
theorem input_law (b : List UInt8) : ∃ qs : List (List UInt8), (∀ p ∈ qs, wholeL p = true) ∧ newlines (decL b) = qs.flatten ∧ qs.length ≤ (pieces b).length := by
  refine ⟨nlP ((pieces b).map pieceOut), ?_, ?_, ?_⟩
  · refine nlP_whole _ fun p hp => ?_
    obtain ⟨x, hx, rfl⟩ := List.mem_map.1 hp
    exact pieceOut_whole x hx
  · rw [← rnl_eq _ _ (Nat.le_refl _), decL, List.flatMap_def]
    refine rnl_encs _ fun p hp => ?_
    obtain ⟨x, hx, rfl⟩ := List.mem_map.1 hp
    exact pieceOut_whole x hx
  · have := nlP_len ((pieces b).map pieceOut); rwa [List.length_map] at this
theorem input_facts (b : List UInt8) : validL (newlines (decL b)) = true ∧ newlines (decL (newlines (decL b))) = newlines (decL b) ∧ (pieces (newlines (decL b))).length ≤ b.length ∧
    newlines (decL (newlines (decL b) ++ [13, 10])) = newlines (decL b) ++ [10] := by
  obtain ⟨qs, hq, he, hl⟩ := input_law b
  have h13 := newlines_no13 (decL b)
  have hd := dec_encs hq []
  rw [List.append_nil, decL_nil, List.append_nil] at hd
  have hp := pieces_encs qs [] hq
  rw [List.append_nil, pieces_nil, List.append_nil] at hp
  have hd2 := dec_encs hq [13, 10]
  rw [← he] at hd hp hd2
  have hb := pieces_len_le b
  refine ⟨?_, ?_, ?_, ?_⟩
  · unfold validL; rw [hp, List.all_map]; simp
  · rw [hd]; exact newlines_same h13
  · rw [hp, List.length_map]; omega
  · rw [hd2, show decL [13, 10] = [13, 10] from by decide, newlines_app h13]
    rfl
end Go.Proofs.YtpfnakonpledgaaDoor
