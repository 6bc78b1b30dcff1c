/- text.digit, text.Digits. -/
import Derived.Test.YtgjodmjegmilhaaDoorCls2
import Derived.WalkLawsBesides
namespace Go.Proofs.YtgjodmjegmilhaaDoor
open Go.RowKit

def digV (c : Nat) : Int := if c ≤ 57 then (c : Int) - 48 else if c ≤ 70 then (c : Int) - 55 else (c : Int) - 87
def hexB (c : Nat) : Prop := (48 ≤ c ∧ c ≤ 57) ∨ (65 ≤ c ∧ c ≤ 70) ∨ (97 ≤ c ∧ c ≤ 102)
theorem digV_bd {c : Nat} (h : hexB c) : 0 ≤ digV c ∧ digV c ≤ 15 := by
  unfold hexB at h; unfold digV
  split
  · omega
  · split <;> omega
theorem hexB_of {c : UInt8} (h : isHex (c.toNat : Int) = true) : hexB c.toNat := by
  simp [isHex, anyC, isDigit, inR] at h; unfold hexB; omega
theorem decB_of {c : UInt8} (h : isDigit (c.toNat : Int) = true) : hexB c.toNat := by
  simp [isDigit, inR] at h; unfold hexB; omega
theorem digit_any (c : UInt8) (w : World) (h : hexB c.toNat) : Calls Tryd.prog 34 #[.int .u8 (c.toNat : Int)] w (Ret w (.int .i64 (digV c.toNat))) := by
  obtain ⟨k, hk⟩ : ∃ k, k = c.toNat := ⟨_, rfl⟩
  rw [← hk] at h ⊢
  clear hk
  unfold hexB at h
  have e1 : k ≤ 57 → digV k = (k : Int) - 48 := fun h => by unfold digV; rw [if_pos h]
  have e2 : ¬ k ≤ 57 → k ≤ 70 → digV k = (k : Int) - 55 := fun h h' => by unfold digV; rw [if_neg h, if_pos h']
  have e3 : ¬ k ≤ 57 → ¬ k ≤ 70 → digV k = (k : Int) - 87 := fun h h' => by unfold digV; rw [if_neg h, if_neg h']
  have E1 := Lib.hid e1; have E2 := Lib.hid e2; have E3 := Lib.hid e3
  clear e1 e2 e3
  rcases h with ⟨h1, h2⟩ | ⟨h1, h2⟩ | ⟨h1, h2⟩
  · go_enter Tryd.func34, Tryd.ntmps34
    go_wp2
    go_ret
    refine Ret.mk ?_ (Below.refl _ _)
    rw [E1.out (by omega)]; rfl
  · go_enter Tryd.func34, Tryd.ntmps34
    go_wp2
    go_ret
    refine Ret.mk ?_ (Below.refl _ _)
    rw [E2.out (by omega) (by omega)]
    show Value.int .i64 _ = Value.int .i64 _
    congr 1; omega
  · go_enter Tryd.func34, Tryd.ntmps34
    go_wp2
    go_ret
    refine Ret.mk ?_ (Below.refl _ _)
    rw [E3.out (by omega) (by omega)]
    show Value.int .i64 _ = Value.int .i64 _
    congr 1; omega

def digitsF (p : Int → Bool) (base : Int) : List UInt8 → Int → Nat → Int × Nat
  | [], code, n => (code, n)
  | c :: t, code, n => if p (c.toNat : Int) then digitsF p base t (min (code * base + digV c.toNat) 1114112) (n + 1) else (code, n)
def digitsL (l : List UInt8) (base : Int) : Int × Nat := if base = 16 then digitsF isHex 16 l 0 0 else digitsF isDigit 10 l 0 0
theorem digitsF_end {p : Int → Bool} {b : Int} {l : List UInt8} {code : Int} {n : Nat} (h : l.length ≤ n) : digitsF p b (l.drop n) code n = (code, n) := by
  rw [List.drop_of_length_le h, digitsF]
theorem digitsF_no {p : Int → Bool} {b : Int} {l : List UInt8} {code : Int} {n : Nat} (h : n < l.length) (hp : p (l[n].toNat : Int) = false) : digitsF p b (l.drop n) code n = (code, n) := by
  rw [List.drop_eq_getElem_cons h, digitsF, hp]; rfl
theorem digitsF_yes {p : Int → Bool} {b : Int} {l : List UInt8} {code : Int} {n : Nat} (h : n < l.length) (hp : p (l[n].toNat : Int) = true) : digitsF p b (l.drop n) code n = digitsF p b (l.drop (n + 1)) (min (code * b + digV l[n].toNat) 1114112) (n + 1) := by
  rw [List.drop_eq_getElem_cons h, digitsF, hp]; rfl
theorem dig_mul10 (code : Int) (h0 : 0 ≤ code) (h1 : code ≤ 1114112) : 0 ≤ code * 10 ∧ code * 10 ≤ 17825792 := by omega
theorem dig_mul16 (code : Int) (h0 : 0 ≤ code) (h1 : code ≤ 1114112) : 0 ≤ code * 16 ∧ code * 16 ≤ 17825792 := by omega

set_option maxHeartbeats 1000000 in
theorem Digits_16 (l : List UInt8) (w : World) (hs : l.length ≤ 1000000000) : Calls Tryd.prog 18 #[.string ⟨l.toArray⟩, .int .i64 16] w (Ret w (.tuple #[.int .i64 (digitsF isHex 16 l 0 0).1, .int .i64 ((digitsF isHex 16 l 0 0).2 : Nat)])) := by
  go_enter Tryd.func18, Tryd.ntmps18
  go_wp2_with fail
  go_loopw [4, 5] (fun v i wr => ∃ (code : Int) (k : Nat), v = .int .i64 code ∧ i = .int .i64 k ∧ k ≤ l.length ∧ 0 ≤ code ∧ code ≤ 1114112 ∧ Below w.heap.size w wr ∧ digitsF isHex 16 l 0 0 = digitsF isHex 16 (l.drop k) code k) (fun _ i _ => l.length - (intOf i).toNat)
  case atStart => exact ⟨0, 0, rfl, rfl, Nat.zero_le _, by omega, by omega, Below.refl _ _, rfl⟩
  case round =>
    obtain ⟨code, k, rfl, rfl, hk, hc0, hc1, hb, hD⟩ := hrel
    have HD := Lib.hid hD; clear hD
    by_cases hlt : k < l.length
    · obtain ⟨c, hc⟩ : ∃ c, c = (⟨l.toArray⟩ : ByteArray)[k]'hlt := ⟨_, rfl⟩
      have hm := dig_mul16 code hc0 hc1
      cases hp : isHex (c.toNat : Int)
      · have HE := Lib.hid (HD.out.trans (digitsF_no hlt (by rw [hc] at hp; exact hp)))
        have HP := Lib.hid hp; have HC := Lib.hid hc
        clear HD hp hc
        go_wp2_with fail
        rw [wrap32_byte, ← HC.out]
        refine (IsHex_any _ _).mono ?_
        rintro e w1 ⟨rfl, b1⟩
        rw [HP.out]
        go_wp2_with fail
        go_ret2
        refine Ret.mk ?_ (bthen hb hb.size b1)
        rw [HE.out]; rfl
      · have hx := hexB_of hp
        have hv := digV_bd hx
        have HE := Lib.hid (HD.out.trans (digitsF_yes hlt (by rw [hc] at hp; exact hp)))
        have HP := Lib.hid hp; have HC := Lib.hid hc; have HX := Lib.hid hx
        clear HD hp hc hx
        go_wp2_with fail
        rw [wrap32_byte, ← HC.out]
        refine (IsHex_any _ _).mono ?_
        rintro e w1 ⟨rfl, b1⟩
        rw [HP.out]
        go_wp2_with fail
        rw [← HC.out]
        refine (digit_any _ _ HX.out).mono ?_
        rintro e w2 ⟨rfl, b2⟩
        go_wp2_with fail
        refine ⟨⟨_, k + 1, rfl, by go_num, by omega, by omega, by omega, bthen hb hb.size (bthen b1 b1.size b2), ?_⟩, by simp [intOf]; omega⟩
        rw [HC.out]; exact HE.out
    · have HE := Lib.hid (HD.out.trans (digitsF_end (by omega)))
      clear HD
      go_wp2_with fail
      go_ret2
      refine Ret.mk ?_ hb
      rw [HE.out]; rfl

set_option maxHeartbeats 1000000 in
theorem Digits_10 (l : List UInt8) (base : Int) (hb10 : (base == 16) = false) (w : World) (hs : l.length ≤ 1000000000) : Calls Tryd.prog 18 #[.string ⟨l.toArray⟩, .int .i64 base] w (Ret w (.tuple #[.int .i64 (digitsF isDigit 10 l 0 0).1, .int .i64 ((digitsF isDigit 10 l 0 0).2 : Nat)])) := by
  go_enter Tryd.func18, Tryd.ntmps18
  go_wp2_with fail
  go_loopw [4, 5] (fun v i wr => ∃ (code : Int) (k : Nat), v = .int .i64 code ∧ i = .int .i64 k ∧ k ≤ l.length ∧ 0 ≤ code ∧ code ≤ 1114112 ∧ Below w.heap.size w wr ∧ digitsF isDigit 10 l 0 0 = digitsF isDigit 10 (l.drop k) code k) (fun _ i _ => l.length - (intOf i).toNat)
  case atStart => exact ⟨0, 0, rfl, rfl, Nat.zero_le _, by omega, by omega, Below.refl _ _, rfl⟩
  case round =>
    obtain ⟨code, k, rfl, rfl, hk, hc0, hc1, hb, hD⟩ := hrel
    have HD := Lib.hid hD; clear hD
    by_cases hlt : k < l.length
    · obtain ⟨c, hc⟩ : ∃ c, c = (⟨l.toArray⟩ : ByteArray)[k]'hlt := ⟨_, rfl⟩
      have hm := dig_mul10 code hc0 hc1
      cases hp : isDigit (c.toNat : Int)
      · have HE := Lib.hid (HD.out.trans (digitsF_no hlt (by rw [hc] at hp; exact hp)))
        have HP := Lib.hid hp; have HC := Lib.hid hc
        clear HD hp hc
        go_wp2_with fail
        rw [wrap32_byte, ← HC.out]
        refine (IsDigit_any _ _).mono ?_
        rintro e w1 ⟨rfl, b1⟩
        rw [HP.out]
        go_wp2_with fail
        go_ret2
        refine Ret.mk ?_ (bthen hb hb.size b1)
        rw [HE.out]; rfl
      · have hx := decB_of hp
        have hv := digV_bd hx
        have HE := Lib.hid (HD.out.trans (digitsF_yes hlt (by rw [hc] at hp; exact hp)))
        have HP := Lib.hid hp; have HC := Lib.hid hc; have HX := Lib.hid hx
        clear HD hp hc hx
        go_wp2_with fail
        rw [wrap32_byte, ← HC.out]
        refine (IsDigit_any _ _).mono ?_
        rintro e w1 ⟨rfl, b1⟩
        rw [HP.out]
        go_wp2_with fail
        rw [← HC.out]
        refine (digit_any _ _ HX.out).mono ?_
        rintro e w2 ⟨rfl, b2⟩
        go_wp2_with fail
        refine ⟨⟨_, k + 1, rfl, by go_num, by omega, by omega, by omega, bthen hb hb.size (bthen b1 b1.size b2), ?_⟩, by simp [intOf]; omega⟩
        rw [HC.out]; exact HE.out
    · have HE := Lib.hid (HD.out.trans (digitsF_end (by omega)))
      clear HD
      go_wp2_with fail
      go_ret2
      refine Ret.mk ?_ hb
      rw [HE.out]; rfl

theorem Digits_any (l : List UInt8) (base : Int) (w : World) (hs : l.length ≤ 1000000000) : Calls Tryd.prog 18 #[.string ⟨l.toArray⟩, .int .i64 base] w (Ret w (.tuple #[.int .i64 (digitsL l base).1, .int .i64 ((digitsL l base).2 : Nat)])) := by
  unfold digitsL
  by_cases h : base = 16
  · subst h; exact Digits_16 l w hs
  · rw [if_neg h]; exact Digits_10 l base (by simpa using h) w hs
end Go.Proofs.YtgjodmjegmilhaaDoor
