/- Plain laws: encodings are read back; what is decoded is made of whole encodings. -/
import Derived.Test.YtpfnakonpledgaaDoorRj
import Derived.Test.YtpfnakonpledgaaDoorSpo
import Derived.Test.YtpfnakonpledgaaDoorN1
import Derived.Test.YtpfnakonpledgaaDoorRe
namespace Go.Proofs.YtpfnakonpledgaaDoor
open Go.RowKit

theorem bOf_eq {n : Int} {a : UInt8} (h : n = (a.toNat : Int)) : bOf n = a := by
  rw [h, bOf]; simp
theorem want1 {a : UInt8} (h : rWant a = 1) : a.toNat < 128 := by
  unfold rWant at h
  repeat' split at h
  all_goals omega
theorem want2 {a : UInt8} (h : rWant a = 2) : 194 ≤ a.toNat ∧ a.toNat ≤ 223 := by
  unfold rWant at h
  repeat' split at h
  all_goals omega
theorem want3 {a : UInt8} (h : rWant a = 3) : 224 ≤ a.toNat ∧ a.toNat ≤ 239 := by
  unfold rWant at h
  repeat' split at h
  all_goals omega
theorem want4 {a : UInt8} (h : rWant a = 4) : 240 ≤ a.toNat ∧ a.toNat ≤ 244 := by
  unfold rWant at h
  repeat' split at h
  all_goals omega
theorem more_iff {c : UInt8} : rMore c = true ↔ 128 ≤ c.toNat ∧ c.toNat ≤ 191 := by simp [rMore]
theorem second_rng {a c : UInt8} (h : rSecond a c = true) : (a.toNat = 224 → 160 ≤ c.toNat) ∧ (a.toNat = 237 → c.toNat ≤ 159) ∧ (a.toNat = 240 → 144 ≤ c.toNat) ∧ (a.toNat = 244 → c.toNat ≤ 143) := by
  unfold rSecond rMore at h
  repeat' split at h
  all_goals simp at h
  all_goals omega
/-- A whole encoding is what its number is written as; the number is a scalar value. -/
theorem whole_bytes : ∀ p : List UInt8, wholeL p = true → rBytes (scalL p) = p ∧ rScal (scalL p) = true ∧ 0 ≤ scalL p ∧ scalL p ≤ 1114111
  | [], h => by cases h
  | [a], h => by
    simp only [wholeL, begL, Bool.and_eq_true, decide_eq_true_eq, List.length_nil] at h
    have ha := want1 h.2
    have e : scalL [a] = a.toNat := rfl
    rw [e, rBytes, if_pos (by omega), bOf_eq rfl, rScal]
    refine ⟨rfl, by simp; omega, by omega, by omega⟩
  | [a, b], h => by
    simp only [wholeL, begL, begT, Bool.and_eq_true, decide_eq_true_eq, List.length_nil, List.length_cons, more_iff] at h
    obtain ⟨⟨_, ⟨_, hb⟩, _⟩, hw⟩ := h
    have ha := want2 hw
    have e : scalL [a, b] = 64 * ((a.toNat : Int) - 192) + b.toNat - 128 := rfl
    rw [e, rBytes, if_neg (by omega), if_pos (by omega), bOf_eq (a := a) (by omega), bOf_eq (a := b) (by omega), rScal]
    refine ⟨rfl, by simp; omega, by omega, by omega⟩
  | [a, b, c], h => by
    simp only [wholeL, begL, begT, Bool.and_eq_true, decide_eq_true_eq, List.length_nil, List.length_cons, more_iff, List.all_cons, List.all_nil] at h
    obtain ⟨⟨_, ⟨hs, hb⟩, hc, _⟩, hw⟩ := h
    have ha := want3 hw
    obtain ⟨s1, s2, _, _⟩ := second_rng hs
    have e : scalL [a, b, c] = 64 * (64 * ((a.toNat : Int) - 224) + b.toNat - 128) + c.toNat - 128 := rfl
    rw [e, rBytes, if_neg (by omega), if_neg (by omega), if_pos (by omega), bOf_eq (a := a) (by omega), bOf_eq (a := b) (by omega), bOf_eq (a := c) (by omega), rScal]
    refine ⟨rfl, by simp; omega, by omega, by omega⟩
  | [a, b, c, d], h => by
    simp only [wholeL, begL, begT, Bool.and_eq_true, decide_eq_true_eq, List.length_nil, List.length_cons, more_iff, List.all_cons, List.all_nil] at h
    obtain ⟨⟨_, ⟨hs, hb⟩, hc, hd, _⟩, hw⟩ := h
    have ha := want4 hw
    obtain ⟨_, _, s3, s4⟩ := second_rng hs
    have e : scalL [a, b, c, d] = 64 * (64 * (64 * ((a.toNat : Int) - 240) + b.toNat - 128) + c.toNat - 128) + d.toNat - 128 := rfl
    rw [e, rBytes, if_neg (by omega), if_neg (by omega), if_neg (by omega), bOf_eq (a := a) (by omega), bOf_eq (a := b) (by omega), bOf_eq (a := c) (by omega), bOf_eq (a := d) (by omega), rScal]
    refine ⟨rfl, by simp; omega, by omega, by omega⟩
  | a :: b :: c :: d :: e :: t, h => by
    simp only [wholeL, Bool.and_eq_true, decide_eq_true_eq, List.length_cons] at h
    have := rWant_le a
    omega
theorem piece_whole {l : List UInt8} : ∀ x ∈ pieces l, x.2 = true → wholeL x.1 = true := by
  have key : ∀ (n : Nat) (l : List UInt8), ∀ x ∈ piecesF n l, x.2 = true → wholeL x.1 = true := by
    intro n
    induction n with
    | zero => intro l x hx; simp [piecesF] at hx
    | succ n ih =>
      intro l x hx h
      rw [piecesF] at hx
      by_cases hl : l = []
      · simp [hl] at hx
      · rw [if_neg (by simpa using hl)] at hx
        rcases List.mem_cons.1 hx with rfl | hx
        · rw [(piece_eq l hl).2]; exact h
        · exact ih _ x hx h
  exact key _ l
theorem runeP_ok {l : List UInt8} (x : Piece) (hx : x ∈ pieces l) : rBytes (runeP x) = pieceOut x ∧ 0 ≤ runeP x ∧ runeP x ≤ 1114111 := by
  unfold runeP pieceOut
  by_cases h : x.2 = true
  · rw [if_pos h, if_pos h]
    obtain ⟨h1, _, h3, h4⟩ := whole_bytes x.1 (piece_whole x hx h)
    exact ⟨h1, h3, h4⟩
  · rw [if_neg h, if_neg h]
    exact ⟨by decide, by decide, by decide⟩
theorem text_decR (l : List UInt8) : textL (decR l) = decL l := by
  unfold textL decR decL
  rw [List.flatMap_map]
  have : ∀ ps : List Piece, (∀ x ∈ ps, x ∈ pieces l) → ps.flatMap (fun x => rBytes (runeP x)) = ps.flatMap pieceOut := by
    intro ps
    induction ps with
    | nil => intro _; rfl
    | cons x ps ih =>
      intro h
      rw [List.flatMap_cons, List.flatMap_cons, (runeP_ok x (h x (List.mem_cons_self ..))).1, ih fun y hy => h y (List.mem_cons_of_mem _ hy)]
  exact this _ fun _ h => h
theorem decR_rng (l : List UInt8) : ∀ r ∈ decR l, 0 ≤ r ∧ r ≤ 1114111 := by
  intro r hr
  obtain ⟨x, hx, rfl⟩ := List.mem_map.1 hr
  exact (runeP_ok x hx).2

/-- Encodings behind each other are read apart. -/
theorem pieceRest_app : ∀ (r : List Span) (x y : List UInt8) (i n : Nat), pieceRest r x i = (n, true) → pieceRest r (x ++ y) i = (n, true)
  | [], x, y, i, n, h => by rw [pieceRest] at h ⊢; exact h
  | s :: r, [], y, i, n, h => by rw [pieceRest] at h; cases h
  | s :: r, c :: x, y, i, n, h => by
    rw [List.cons_append, pieceRest]
    rw [pieceRest] at h
    split at h
    · rw [if_pos (by assumption)]; exact pieceRest_app r x y (i + 1) n h
    · cases h
theorem pieceF_app : ∀ (fs : List (Span × List Span)) (x y : List UInt8) (n : Nat), pieceF fs x = (n, true) → pieceF fs (x ++ y) = (n, true)
  | [], x, y, n, h => by rw [pieceF] at h; cases h
  | f :: fs, [], y, n, h => by rw [pieceF] at h; cases h
  | f :: fs, c :: x, y, n, h => by
    rw [List.cons_append, pieceF]
    rw [pieceF] at h
    split at h
    · rw [if_pos (by assumption)]; exact pieceRest_app _ x y 0 n h
    · rw [if_neg (by assumption)]
      have := pieceF_app fs (c :: x) y n h
      rwa [List.cons_append] at this
theorem whole_piece {p : List UInt8} (h : wholeL p = true) : pieceL p = (p.length, true) := by
  cases p with
  | nil => cases h
  | cons a t =>
    simp only [wholeL, Bool.and_eq_true, decide_eq_true_eq] at h
    obtain ⟨hb, hw⟩ := h
    rw [pieceL_want, if_neg (by omega)]
    by_cases h1 : rWant a = 1
    · have : t = [] := List.eq_nil_of_length_eq_zero (by omega)
      subst this
      rw [if_pos h1]; rfl
    · have ht : 1 ≤ t.length := by omega
      have := begL_take a t t.length (Nat.le_refl _) ht
      rw [show (a :: t).take (t.length + 1) = a :: t from by rw [List.take_of_length_le (by simp)], hb] at this
      have := of_decide_eq_true this.symm
      have hm := (mt_le (spanOf a :: List.replicate (rWant a - 2) (128, 191)) t).2
      rw [if_neg h1, show mt (spanOf a :: List.replicate (rWant a - 2) (128, 191)) t = t.length by omega]
      rw [Prod.mk.injEq]
      refine ⟨by simp; omega, ?_⟩
      rw [decide_eq_true_eq]; omega
theorem pieces_whole_app {p : List UInt8} (h : wholeL p = true) (y : List UInt8) : pieces (p ++ y) = (p, true) :: pieces y := by
  have h1 := pieceF_app formsL p y p.length (whole_piece h)
  have hp : p ≠ [] := by intro e; subst e; cases h
  have e : pieceL (p ++ y) = (p.length, true) := h1
  rw [pieces_cons _ (by simp [hp]), e]
  simp
theorem pieceOut_whole {l : List UInt8} (x : Piece) (hx : x ∈ pieces l) : wholeL (pieceOut x) = true := by
  unfold pieceOut
  split
  · exact piece_whole x hx (by assumption)
  · decide
/-- What was decoded, with anything behind it, has the pieces that it was made of, then those behind. -/
theorem pieces_dec_app (l y : List UInt8) : pieces (decL l ++ y) = ((pieces l).map fun x => (pieceOut x, true)) ++ pieces y := by
  unfold decL
  have key : ∀ ps : List Piece, (∀ x ∈ ps, x ∈ pieces l) → pieces (ps.flatMap pieceOut ++ y) = (ps.map fun x => (pieceOut x, true)) ++ pieces y := by
    intro ps
    induction ps with
    | nil => intro _; rfl
    | cons x ps ih =>
      intro h
      rw [List.flatMap_cons, List.append_assoc, pieces_whole_app (pieceOut_whole x (h x (List.mem_cons_self ..))), ih fun y hy => h y (List.mem_cons_of_mem _ hy)]
      rfl
  exact key _ fun _ h => h
theorem pieces_dec (l : List UInt8) : pieces (decL l) = (pieces l).map fun x => (pieceOut x, true) := by
  have := pieces_dec_app l []
  rwa [List.append_nil, pieces_nil, List.append_nil] at this
theorem dec_app (l y : List UInt8) : decL (decL l ++ y) = decL l ++ decL y := by
  show (pieces (decL l ++ y)).flatMap pieceOut = _
  rw [pieces_dec_app, List.flatMap_append, List.flatMap_map]
  show (pieces l).flatMap (fun x => pieceOut (pieceOut x, true)) ++ decL y = _
  rfl
theorem dec_dec (l : List UInt8) : decL (decL l) = decL l := by
  have := dec_app l []
  rwa [List.append_nil, decL_nil, List.append_nil] at this
theorem valid_dec (l : List UInt8) : validL (decL l) = true := by
  unfold validL
  rw [pieces_dec, List.all_map]
  simp
theorem count_dec_app (l y : List UInt8) : (pieces (decL l ++ y)).length = (pieces l).length + (pieces y).length := by
  rw [pieces_dec_app]; simp
theorem pieces_join (n : Nat) : ∀ l : List UInt8, l.length ≤ n → (piecesF n l).flatMap (·.1) = l := by
  induction n with
  | zero =>
    intro l h
    obtain rfl : l = [] := List.eq_nil_of_length_eq_zero (by omega)
    rfl
  | succ n ih =>
    intro l h
    rw [piecesF]
    by_cases hl : l = []
    · simp [hl]
    · have hb := pieceL_bd l hl
      rw [if_neg (by simpa using hl), List.flatMap_cons, ih _ (by simp; omega)]
      exact List.take_append_drop _ _
theorem valid_iff (l : List UInt8) : (decL l == l) = validL l := by
  rw [Bool.eq_iff_iff, beq_iff_eq]
  constructor
  · intro h
    have := valid_dec l
    rwa [h] at this
  · intro h
    unfold validL at h
    rw [List.all_eq_true] at h
    have hj := pieces_join l.length l (Nat.le_refl _)
    unfold decL
    have : ∀ ps : List Piece, (∀ x ∈ ps, x ∈ pieces l) → ps.flatMap pieceOut = ps.flatMap (·.1) := by
      intro ps
      induction ps with
      | nil => intro _; rfl
      | cons x ps ih =>
        intro hm
        rw [List.flatMap_cons, List.flatMap_cons, ih fun y hy => hm y (List.mem_cons_of_mem _ hy), pieceOut, if_pos (h x (hm x (List.mem_cons_self ..)))]
    rw [this _ fun _ h => h]
    exact hj
end Go.Proofs.YtpfnakonpledgaaDoor
