/- The reference's Input and Valid. -/
import Derived.Test.YtpfnakonpledgaaDoorPl5
namespace Go.Proofs.YtpfnakonpledgaaDoor
open Go.RowKit
attribute [local go_sem] sgetr
attribute [local go_sem] sext

theorem rInput_any (l : List UInt8) (w : World) (hs : l.length ≤ 10000000) : Calls Tryd.prog 58 #[.string ⟨l.toArray⟩] w (Ret w (.string ⟨(newlines (decL l)).toArray⟩)) := by
  have hl := decR_len l
  have hd := decL_len l
  have H1 := Lib.hid (rDecode_any l w (by omega))
  have HR := Lib.hid (decR_rng l)
  have HT := Lib.hid (text_decR l)
  have H3 := Lib.hid (fun w => rNewlines_any (decL l) w (by omega))
  go_enter Tryd.func58, Tryd.ntmps58
  go_wp2_with fail
  refine H1.out.mono ?_
  rintro e w1 ⟨v, rfl, hv, b1⟩
  have h2 := rText_any (decR l) v _ w1 hv (by omega) (fun r hr => ⟨(HR.out r hr).1, by have := (HR.out r hr).2; omega⟩)
  rw [HT.out] at h2
  have H2 := Lib.hid h2
  clear h2 hv
  go_wp2_with fail
  refine H2.out.mono ?_
  rintro e w2 ⟨rfl, b2⟩
  go_wp2_with fail
  refine (H3.out _).mono ?_
  rintro e w3 ⟨rfl, b3⟩
  go_wp2_with fail
  go_ret
  exact Ret.mk rfl (bthen (bthen b1 b1.size b2) (by have := b1.size; have := b2.size; omega) b3)
theorem validL_cons (b : List UInt8) (h : b ≠ []) : validL b = ((pieceL b).2 && validL (b.drop (pieceL b).1)) := by
  unfold validL
  rw [pieces_cons b h, List.all_cons]
/-- The reference's test on the first encoding is the program's. -/
theorem valid_first {l : List UInt8} (h : 0 < l.length) : (rWant l[0] ≠ 0 ∧ rWant l[0] ≤ l.length ∧ wholeL (l.take (rWant l[0])) = true) ↔ (pieceL l).2 = true := by
  have hp := piece_eq l (List.length_pos_iff.1 h)
  have hbd := pieceL_bd l (List.length_pos_iff.1 h)
  constructor
  · rintro ⟨h0, h1, h2⟩
    have := pieceF_app formsL _ (l.drop (rWant l[0])) _ (whole_piece h2)
    rw [List.take_append_drop] at this
    show (pieceF formsL l).2 = true
    rw [this]
  · intro h2
    rw [h2] at hp
    have hl : (l.take (pieceL l).1).length = (pieceL l).1 := by simp; omega
    have hw := wholeL_of (l := l.take (pieceL l).1) (by omega)
    rw [hp.2] at hw
    have hw2 := hw.symm
    simp only [Bool.and_eq_true, decide_eq_true_eq, List.getElem_take] at hw2
    have e : rWant l[0] = (pieceL l).1 := hw2.2.trans hl
    rw [e]
    exact ⟨by omega, by omega, hp.2⟩
theorem valid_len {l : List UInt8} (h : 0 < l.length) (h2 : (pieceL l).2 = true) : (pieceL l).1 = rWant l[0] := by
  have hp := piece_eq l (List.length_pos_iff.1 h)
  have hbd := pieceL_bd l (List.length_pos_iff.1 h)
  rw [h2] at hp
  have hl : (l.take (pieceL l).1).length = (pieceL l).1 := by simp; omega
  have hw := wholeL_of (l := l.take (pieceL l).1) (by omega)
  rw [hp.2] at hw
  have hw2 := hw.symm
  simp only [Bool.and_eq_true, decide_eq_true_eq, List.getElem_take] at hw2
  exact (hw2.2.trans hl).symm
set_option maxRecDepth 100000 in
set_option maxHeartbeats 1000000 in
theorem rValid_any (l : List UInt8) (w : World) (hs : l.length ≤ 1000000000) : Calls Tryd.prog 61 #[.string ⟨l.toArray⟩] w (Ret w (.bool (validL l))) := by
  go_enter Tryd.func61, Tryd.ntmps61
  go_wp2_with fail
  go_loopw [0] (fun s0 wr => ∃ rest : List UInt8, s0 = .string ⟨rest.toArray⟩ ∧ rest.length ≤ l.length ∧ Below w.heap.size w wr ∧ validL l = validL rest) (fun s0 _ => slen s0)
  case atStart => exact ⟨l, rfl, Nat.le_refl _, Below.refl _ _, rfl⟩
  case round =>
    obtain ⟨rest, rfl, hrl, hb, hV⟩ := hrel
    have HV := Lib.hid hV; have HB := Lib.hid hb
    clear hV hb
    by_cases hpos : 0 < rest.length
    · have hcons := validL_cons rest (List.length_pos_iff.1 hpos)
      have hvf := valid_first hpos
      have hvl := fun h => valid_len hpos h
      have hwa := fun w => rWant_any rest[0] w
      obtain ⟨n, hn⟩ : ∃ n, rWant rest[0] = n := ⟨_, rfl⟩
      rw [hn] at hvf hvl hwa
      have HW := Lib.hid hwa
      have HVF := Lib.hid hvf; have HVL := Lib.hid hvl; have HC := Lib.hid hcons
      clear hwa hn hvf hvl hcons
      by_cases h0 : n = 0
      · subst h0
        have HE : Hid (validL l = false) := Lib.hid (by
          rw [HV.out, HC.out]
          cases hx : (pieceL rest).2
          · rfl
          · exact absurd (HVF.out.2 hx).1 (by simp))
        go_wp2_with (refine (HW.out _).mono ?_; rintro e w' ⟨rfl, rfl⟩)
        go_ret
        exact Ret.mk (by rw [HE.out]; rfl) HB.out
      · have e0 : ((n : Int) == 0) = false := by rw [beq_eq_false_iff_ne]; omega
        by_cases h1 : n ≤ rest.length
        · have h2 := rwhole_any (rest.take n) wr (by simp; omega)
          obtain ⟨b, hbq⟩ : ∃ b, wholeL (rest.take n) = b := ⟨_, rfl⟩
          rw [hbq] at h2
          have H2 := Lib.hid h2
          have HQ := Lib.hid hbq
          clear h2 hbq
          cases b
          · have HE : Hid (validL l = false) := Lib.hid (by
              rw [HV.out, HC.out]
              cases hx : (pieceL rest).2
              · rfl
              · have := (HVF.out.2 hx).2.2
                rw [HQ.out] at this; cases this)
            go_wp2_with (refine (HW.out _).mono ?_; rintro e w' ⟨rfl, rfl⟩)
            refine H2.out.mono ?_
            rintro e w1 ⟨rfl, b1⟩
            go_wp2_with fail
            go_ret
            exact Ret.mk (by rw [HE.out]; rfl) (bthen HB.out HB.out.size b1)
          · have HX : Hid ((pieceL rest).2 = true) := Lib.hid (HVF.out.1 ⟨h0, h1, HQ.out⟩)
            have HE : Hid (validL l = validL (rest.drop n)) := Lib.hid (by
              rw [HV.out, HC.out, HX.out, Bool.true_and, HVL.out HX.out])
            have htl : Hid ((rest.drop n).take (rest.length - n) = rest.drop n) := Lib.hid (List.take_of_length_le (by simp))
            have hn1 : 0 < n := by omega
            go_wp2_with (refine (HW.out _).mono ?_; rintro e w' ⟨rfl, rfl⟩)
            refine H2.out.mono ?_
            rintro e w1 ⟨rfl, b1⟩
            go_wp2_with fail
            go_roundw
            case rel => exact ⟨rest.drop n, by rw [htl.out], by simp; omega, bthen HB.out HB.out.size b1, HE.out⟩
            case measure => rw [htl.out]; show (rest.drop n).length < rest.length; simp; omega
        · have HE : Hid (validL l = false) := Lib.hid (by
            rw [HV.out, HC.out]
            cases hx : (pieceL rest).2
            · rfl
            · exact absurd (HVF.out.2 hx).2.1 h1)
          go_wp2_with (refine (HW.out _).mono ?_; rintro e w' ⟨rfl, rfl⟩)
          go_ret
          exact Ret.mk (by rw [HE.out]; rfl) HB.out
    · obtain rfl : rest = [] := List.eq_nil_of_length_eq_zero (by omega)
      have HE : Hid (validL l = true) := Lib.hid (by rw [HV.out]; rfl)
      go_wp2_with fail
      go_ret
      exact Ret.mk (by rw [HE.out]; rfl) HB.out
end Go.Proofs.YtpfnakonpledgaaDoor
