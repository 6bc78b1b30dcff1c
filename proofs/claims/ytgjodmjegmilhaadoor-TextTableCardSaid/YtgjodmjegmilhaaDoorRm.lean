/- The reference's value of a table entry. -/
import Derived.Test.YtgjodmjegmilhaaDoorRl
import Derived.Test.YtgjodmjegmilhaaDoorRd
import Derived.Test.YtgjodmjegmilhaaDoorRj
import Derived.Test.YtgjodmjegmilhaaDoorRe
import Derived.Test.YtgjodmjegmilhaaDoorVal
namespace Go.Proofs.YtgjodmjegmilhaaDoor
open Go.RowKit
attribute [local go_sem] sgetr
attribute [local go_sem] sext

/-- The numbers that a list of code points in hexadecimal says. -/
def rvF : List UInt8 → Int → List Int
  | [], n => [n]
  | c :: t, n => if c = 44 then n :: rvF t 0 else rvF t (16 * n + rHex c)
def rvalL (s : List UInt8) : List UInt8 := textL (rvF s 0)
theorem rvF_comma {s : List UInt8} {k : Nat} {n : Int} (h : k < s.length) (hc : s[k] = 44) : rvF (s.drop k) n = n :: rvF (s.drop (k + 1)) 0 := by
  rw [List.drop_eq_getElem_cons h, rvF, if_pos hc]
theorem rvF_digit {s : List UInt8} {k : Nat} {n : Int} (h : k < s.length) (hc : s[k] ≠ 44) : rvF (s.drop k) n = rvF (s.drop (k + 1)) (16 * n + rHex s[k]) := by
  rw [List.drop_eq_getElem_cons h, rvF, if_neg hc]
theorem rvF_len : ∀ (s : List UInt8) (n : Int), (rvF s n).length ≤ s.length + 1
  | [], n => by simp [rvF]
  | c :: t, n => by
    rw [rvF]
    split
    · have := rvF_len t 0; simp; omega
    · have := rvF_len t (16 * n + rHex c); simp; omega
theorem pow16_step (k : Nat) (n h : Int) (h0 : -(16 ^ k : Int) < n) (h1 : n < 16 ^ k) (h2 : -1 ≤ h) (h3 : h ≤ 15) : -(16 ^ (k + 1) : Int) < 16 * n + h ∧ 16 * n + h < 16 ^ (k + 1) := by
  have e : (16 : Int) ^ (k + 1) = 16 * 16 ^ k := by rw [Int.pow_succ]; omega
  rw [e]; omega
theorem pow16_le {k : Nat} (h : k ≤ 12) : (16 : Int) ^ k ≤ 281474976710656 ∧ 1 ≤ (16 : Int) ^ k := by
  have : ∀ k, k ≤ 12 → (16 : Int) ^ k ≤ 281474976710656 ∧ 1 ≤ (16 : Int) ^ k := by decide
  exact this k h
set_option maxRecDepth 100000 in
set_option maxHeartbeats 4000000 in
theorem rvalue_any (s : List UInt8) (w : World) (hs : s.length ≤ 12) (hr : ∀ r ∈ rvF s 0, 0 ≤ r ∧ r ≤ 1114111) : Calls Tryd.prog 17 #[.string ⟨s.toArray⟩] w (Ret w (.string ⟨(rvalL s).toArray⟩)) := by
  have HRN := Lib.hid hr
  have hfl := rvF_len s 0
  clear hr
  unfold rvalL
  go_enter Tryd.func17, Tryd.ntmps17
  go_wp2_with fail
  go_loopw [3, 4, 5] (fun s3 s4 s5 wr => ∃ (k : Nat) (n : Int) (done : List Int), k ≤ s.length + 1 ∧ s5 = .int .i64 k ∧ s4 = .int .i64 n ∧ OwnR w.heap.size wr s3 done ∧ Below w.heap.size w wr ∧ done.length ≤ k ∧
    ((k ≤ s.length ∧ rvF s 0 = done ++ rvF (s.drop k) n ∧ -(16 ^ k : Int) < n ∧ n < 16 ^ k) ∨ (k = s.length + 1 ∧ rvF s 0 = done))) (fun _ _ s5 _ => s.length + 1 - (intOf s5).toNat)
  case atStart => exact ⟨0, 0, [], by omega, rfl, rfl, OwnV.nil _ _ _, Below.refl _ _, Nat.le_refl _, .inl ⟨Nat.zero_le _, rfl, by decide, by decide⟩⟩
  case round =>
    obtain ⟨k, n, done, hk, rfl, rfl, hown, hb, hdl, hor⟩ := hrel
    have HO := Lib.hid hown; have HB := Lib.hid hb
    have hbs := hb.size
    clear hown hb
    rcases hor with ⟨hkl, hR, hn0, hn1⟩ | ⟨hk2, hR⟩
    · have hp := pow16_le (k := k) (by omega)
      have HR := Lib.hid hR; have HN := Lib.hid (And.intro hn0 hn1)
      have hn2 : -281474976710656 ≤ n := by omega
      have hn3 : n ≤ 281474976710656 := by omega
      clear hR hp hn0 hn1
      by_cases hlt : k < s.length
      · have heq : ((k : Int) == (s.length : Int)) = false := by rw [beq_eq_false_iff_ne]; omega
        by_cases hc : s[k] = 44
        · have ht : ((s[k].toNat : Int) == 44) = true := by rw [hc]; rfl
          have HR2 : Hid (rvF s 0 = (done ++ [n]) ++ rvF (s.drop (k + 1)) 0) := Lib.hid (by rw [HR.out, rvF_comma hlt hc, List.append_assoc]; rfl)
          have hrn := HRN.out n (by rw [HR2.out]; simp)
          have hw : wrap32 n = n := IntWalk.wrap32_in _ ⟨by omega, by omega⟩
          clear hc hrn
          go_wp2_with (at_builtin; refine append_rune rfl _ _ rfl w.heap.size _ done rfl HO.out n _ rfl (by omega) hbs ?_; intro v' w' hown' hb')
          go_roundw
          case rel => exact ⟨k + 1, 0, done ++ [n], by omega, by go_num, rfl, hown', HB.out.trans hb', by simp; omega, .inl ⟨by omega, HR2.out, by have := (pow16_le (k := k + 1) (by omega)).2; omega, by have := (pow16_le (k := k + 1) (by omega)).2; omega⟩⟩
          case measure => simp [intOf]; omega
        · have ht : ((s[k].toNat : Int) == 44) = false := by
            have e : ((s[k].toNat : Int) == 44) = (s[k] == 44) := u8_eq (b := 44)
            rw [e]; simpa using hc
          have HR2 : Hid (rvF s 0 = done ++ rvF (s.drop (k + 1)) (16 * n + rHex s[k])) := Lib.hid (by rw [HR.out, rvF_digit hlt hc])
          have hxr := rHex_rng s[k]
          have HP := Lib.hid (pow16_step k n (rHex s[k]) HN.out.1 HN.out.2 hxr.1 hxr.2)
          have h1 := fun w => rHex_any s[k] w
          obtain ⟨x, hx⟩ : ∃ x, rHex s[k] = x := ⟨_, rfl⟩
          rw [hx] at HR2 hxr HP h1
          have H1 := Lib.hid h1
          clear hc hx h1
          obtain ⟨hx1, hx2⟩ := hxr
          go_wp2_with (refine (H1.out _).mono ?_; rintro e w' ⟨rfl, rfl⟩)
          go_roundw
          case rel => exact ⟨k + 1, 16 * n + x, done, by omega, by go_num, rfl, HO.out, HB.out, by omega, .inl ⟨by omega, HR2.out, HP.out.1, HP.out.2⟩⟩
          case measure => simp [intOf]; omega
      · obtain rfl : k = s.length := by omega
        have heq : ((s.length : Int) == (s.length : Int)) = true := by simp
        have HR2 : Hid (rvF s 0 = done ++ [n]) := Lib.hid (by rw [HR.out, List.drop_length, rvF])
        have hrn := HRN.out n (by rw [HR2.out]; simp)
        have hw : wrap32 n = n := IntWalk.wrap32_in _ ⟨by omega, by omega⟩
        clear hrn
        go_wp2_with (at_builtin; refine append_rune rfl _ _ rfl w.heap.size _ done rfl HO.out n _ rfl (by omega) hbs ?_; intro v' w' hown' hb')
        go_roundw
        case rel => exact ⟨s.length + 1, 0, done ++ [n], by omega, by go_num, rfl, hown', HB.out.trans hb', by rw [List.length_append]; show done.length + 1 ≤ _; omega, .inr ⟨rfl, HR2.out⟩⟩
        case measure => simp [intOf]
    · subst hk2
      have HR := Lib.hid hR
      clear hR
      have h2 := rText_any done _ _ wr HO.out (by omega) (fun r hr => ⟨(HRN.out r (by rw [HR.out]; exact hr)).1, by have := (HRN.out r (by rw [HR.out]; exact hr)).2; omega⟩)
      have H2 := Lib.hid h2
      clear h2
      go_wp2_with fail
      refine H2.out.mono ?_
      rintro e w2 ⟨rfl, b2⟩
      go_wp2_with fail
      go_ret
      exact Ret.mk (by rw [HR.out]; rfl) (bthen HB.out HB.out.size b2)
end Go.Proofs.YtgjodmjegmilhaaDoor
