/- Plain law: the bytes of numbers, and which of them are valid. -/
import Derived.Test.YtpfnakonpledgaaDoorPl6
import Derived.Test.YtpfnakonpledgaaDoorRk
namespace Go.Proofs.YtpfnakonpledgaaDoor
open Go.RowKit

theorem bOf_nat {n : Int} (h0 : 0 ≤ n) (h1 : n < 256) : (bOf n).toNat = n.toNat := by
  have := bOf_val h0 h1; omega
theorem want_of {a : UInt8} : (a.toNat < 128 → rWant a = 1) ∧ (194 ≤ a.toNat ∧ a.toNat ≤ 223 → rWant a = 2) ∧ (224 ≤ a.toNat ∧ a.toNat ≤ 239 → rWant a = 3) ∧ (240 ≤ a.toNat ∧ a.toNat ≤ 244 → rWant a = 4) ∧ (245 ≤ a.toNat → rWant a = 0) := by
  unfold rWant
  refine ⟨fun h => by rw [if_pos h], fun h => by rw [if_neg (by omega), if_pos h], fun h => by rw [if_neg (by omega), if_neg (by omega), if_pos h], fun h => by rw [if_neg (by omega), if_neg (by omega), if_neg (by omega), if_pos h], fun h => by rw [if_neg (by omega), if_neg (by omega), if_neg (by omega), if_neg (by omega)]⟩
theorem second_of {a c : UInt8} (h1 : a.toNat = 224 → 160 ≤ c.toNat) (h2 : a.toNat = 237 → c.toNat ≤ 159) (h3 : a.toNat = 240 → 144 ≤ c.toNat) (h4 : a.toNat = 244 → c.toNat ≤ 143) (hc : 128 ≤ c.toNat ∧ c.toNat ≤ 191) : rSecond a c = true := by
  unfold rSecond rMore
  repeat' split
  all_goals simp
  all_goals omega
theorem scal_whole {z : Int} (h : rScal z = true) : wholeL (rBytes z) = true := by
  simp only [rScal, decide_eq_true_eq] at h
  unfold rBytes
  by_cases c1 : z < 128
  · rw [if_pos c1]
    have ha := bOf_nat (n := z) (by omega) (by omega)
    have := (want_of (a := bOf z)).1 (by omega)
    simp [wholeL, begL, begT, this]
  by_cases c2 : z < 2048
  · rw [if_neg c1, if_pos c2]
    have ha := bOf_nat (n := 192 + z / 64) (by omega) (by omega)
    have hb := bOf_nat (n := 128 + z % 64) (by omega) (by omega)
    have hw := (want_of (a := bOf (192 + z / 64))).2.1 (by omega)
    simp only [wholeL, begL, begT, List.length_nil, List.length_cons, List.all_nil, Bool.and_eq_true, decide_eq_true_eq, more_iff]
    exact ⟨⟨by omega, ⟨second_of (by omega) (by omega) (by omega) (by omega) (by omega), by omega⟩, trivial⟩, by omega⟩
  by_cases c3 : z < 65536
  · rw [if_neg c1, if_neg c2, if_pos c3]
    have ha := bOf_nat (n := 224 + z / 4096) (by omega) (by omega)
    have hb := bOf_nat (n := 128 + z / 64 % 64) (by omega) (by omega)
    have hc := bOf_nat (n := 128 + z % 64) (by omega) (by omega)
    have hw := (want_of (a := bOf (224 + z / 4096))).2.2.1 (by omega)
    simp only [wholeL, begL, begT, List.length_nil, List.length_cons, List.all_nil, List.all_cons, Bool.and_eq_true, decide_eq_true_eq, more_iff]
    exact ⟨⟨by omega, ⟨second_of (by omega) (by omega) (by omega) (by omega) (by omega), by omega⟩, by omega, trivial⟩, by omega⟩
  · rw [if_neg c1, if_neg c2, if_neg c3]
    have ha := bOf_nat (n := 240 + z / 262144) (by omega) (by omega)
    have hb := bOf_nat (n := 128 + z / 4096 % 64) (by omega) (by omega)
    have hc := bOf_nat (n := 128 + z / 64 % 64) (by omega) (by omega)
    have hd := bOf_nat (n := 128 + z % 64) (by omega) (by omega)
    have hw := (want_of (a := bOf (240 + z / 262144))).2.2.2.1 (by omega)
    simp only [wholeL, begL, begT, List.length_nil, List.length_cons, List.all_nil, List.all_cons, Bool.and_eq_true, decide_eq_true_eq, more_iff]
    exact ⟨⟨by omega, ⟨second_of (by omega) (by omega) (by omega) (by omega) (by omega), by omega⟩, by omega, by omega, trivial⟩, by omega⟩
theorem bad_first {a c : UInt8} {t : List UInt8} (h : rWant a = 0 ∨ rSecond a c = false) (h1 : rWant a ≠ 1) : (pieceL (a :: c :: t)).2 = false := by
  rw [pieceL_want]
  by_cases h0 : rWant a = 0
  · rw [if_pos h0]
  · rw [if_neg h0, if_neg h1]
    have hs : rSecond a c = false := h.resolve_left h0
    have : mt (spanOf a :: List.replicate (rWant a - 2) (128, 191)) (c :: t) = 0 := by rw [mt, span_second, hs]; rfl
    rw [this]
    show decide (0 = rWant a - 1) = false
    rw [decide_eq_false_iff_not]; omega
theorem scal_bad {z : Int} (h0 : 0 ≤ z) (h1 : z ≤ 2097151) (h : rScal z = false) (y : List UInt8) : validL (rBytes z ++ y) = false := by
  simp only [rScal, decide_eq_false_iff_not] at h
  unfold rBytes
  rw [if_neg (by omega), if_neg (by omega)]
  by_cases c3 : z < 65536
  · rw [if_pos c3]
    have ha := bOf_nat (n := 224 + z / 4096) (by omega) (by omega)
    have hb := bOf_nat (n := 128 + z / 64 % 64) (by omega) (by omega)
    have hw := (want_of (a := bOf (224 + z / 4096))).2.2.1 (by omega)
    have hs : rSecond (bOf (224 + z / 4096)) (bOf (128 + z / 64 % 64)) = false := by
      unfold rSecond
      rw [if_neg (by omega), if_pos (by omega)]
      simp; omega
    simp only [List.cons_append, List.nil_append]
    rw [validL_cons _ (by simp), bad_first (.inr hs) (by omega)]; rfl
  · rw [if_neg c3]
    have ha := bOf_nat (n := 240 + z / 262144) (by omega) (by omega)
    have hb := bOf_nat (n := 128 + z / 4096 % 64) (by omega) (by omega)
    simp only [List.cons_append, List.nil_append]
    by_cases h5 : 245 ≤ (bOf (240 + z / 262144)).toNat
    · have hw := (want_of (a := bOf (240 + z / 262144))).2.2.2.2 h5
      rw [validL_cons _ (by simp), bad_first (.inl hw) (by omega)]; rfl
    · have hw := (want_of (a := bOf (240 + z / 262144))).2.2.2.1 (by omega)
      have hs : rSecond (bOf (240 + z / 262144)) (bOf (128 + z / 4096 % 64)) = false := by
        unfold rSecond
        rw [if_neg (by omega), if_neg (by omega), if_neg (by omega), if_pos (by omega)]
        simp; omega
      rw [validL_cons _ (by simp), bad_first (.inr hs) (by omega)]; rfl
theorem valid_whole_app {p : List UInt8} (h : wholeL p = true) (y : List UInt8) : validL (p ++ y) = validL y := by
  unfold validL; rw [pieces_whole_app h]; rfl
theorem valid_text : ∀ zs : List Int, (∀ z ∈ zs, 0 ≤ z ∧ z ≤ 2097151) → validL (textL zs) = zs.all rScal
  | [], _ => rfl
  | z :: zs, h => by
    have ih := valid_text zs fun y hy => h y (List.mem_cons_of_mem _ hy)
    have hz := h z (List.mem_cons_self ..)
    show validL (rBytes z ++ textL zs) = _
    rw [List.all_cons]
    cases hs : rScal z
    · rw [scal_bad hz.1 hz.2 hs]; rfl
    · rw [valid_whole_app (scal_whole hs), ih]; rfl
theorem count_text : ∀ zs : List Int, (zs.all rScal) = true → (pieces (textL zs)).length = zs.length
  | [], _ => rfl
  | z :: zs, h => by
    rw [List.all_cons, Bool.and_eq_true] at h
    have ih := count_text zs h.2
    show (pieces (rBytes z ++ textL zs)).length = _
    rw [pieces_whole_app (scal_whole h.1), List.length_cons, ih]; rfl
end Go.Proofs.YtpfnakonpledgaaDoor
