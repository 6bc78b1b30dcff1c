/- ref.Hex, ref.Digits. -/
import Derived.Test.YtpfnakonpledgaaDoorRc
import Derived.Test.YtpfnakonpledgaaDoorDig
namespace Go.Proofs.YtpfnakonpledgaaDoor
open Go.RowKit
attribute [local go_sem] sgetr
attribute [local go_sem] sext

def hexT : List UInt8 := [48, 49, 50, 51, 52, 53, 54, 55, 56, 57, 97, 98, 99, 100, 101, 102, 48, 49, 50, 51, 52, 53, 54, 55, 56, 57, 65, 66, 67, 68, 69, 70]
def rHex (c : UInt8) : Int := if (48 ≤ c.toNat ∧ c.toNat ≤ 57) ∨ (65 ≤ c.toNat ∧ c.toNat ≤ 70) ∨ (97 ≤ c.toNat ∧ c.toNat ≤ 102) then digV c.toNat else -1
theorem hexT_val : ∀ k (h : k < hexT.length), rHex hexT[k] = ((k % 16 : Nat) : Int) := by decide
theorem hexT_in : ∀ n, n < 256 → (∀ k (h : k < hexT.length), hexT[k] ≠ UInt8.ofNat n) → rHex (UInt8.ofNat n) = -1 := by decide +kernel
theorem rHex_no {c : UInt8} (h : ∀ k (h : k < hexT.length), hexT[k] ≠ c) : rHex c = -1 := by
  have := hexT_in c.toNat c.toNat_lt
  rw [UInt8.ofNat_toNat] at this
  exact this h
set_option maxRecDepth 100000 in
theorem rHex_any (c : UInt8) (w : World) : Calls Tryd.prog 36 #[.int .u8 (c.toNat : Int)] w (Same w (.int .i64 (rHex c))) := by
  have hval := hexT_val
  have hno := fun h => rHex_no (c := c) h
  have hlen : hexT.length = 32 := rfl
  go_enter Tryd.func36, Tryd.ntmps36
  go_wp2_with fail
  rw [show (⟨#[48, 49, 50, 51, 52, 53, 54, 55, 56, 57, 97, 98, 99, 100, 101, 102, 48, 49, 50, 51, 52, 53, 54, 55, 56, 57, 65, 66, 67, 68, 69, 70]⟩ : ByteArray) = ⟨hexT.toArray⟩ from rfl]
  generalize hexT = T at *
  have HVAL := Lib.hid hval; have HNO := Lib.hid hno; have HLEN := Lib.hid hlen
  have hl1 : T.length ≤ 32 := by omega
  clear hval hno hlen
  go_loop [4] (fun i => ∃ k : Nat, k ≤ T.length ∧ i = .int .i64 k ∧ ∀ j (hj : j < T.length), j < k → T[j] ≠ c) (fun i => T.length - (intOf i).toNat)
  case atStart => exact ⟨0, Nat.zero_le _, rfl, fun _ _ h => absurd h (Nat.not_lt_zero _)⟩
  case round =>
    obtain ⟨k, hk, rfl, hno⟩ := hrel
    have HN := Lib.hid hno; clear hno
    by_cases hlt : k < T.length
    · by_cases hc : T[k] = c
      · have hb : ((T[k].toNat : Int) == (c.toNat : Int)) = true := by rw [u8_eq]; simp [hc]
        have HC := Lib.hid hc; clear hc
        go_wp2
        go_ret
        refine Same.mk ?_
        rw [← HC.out, HVAL.out k hlt]
        rfl
      · have hb : ((T[k].toNat : Int) == (c.toNat : Int)) = false := by rw [u8_eq]; simp [hc]
        have HC := Lib.hid hc; clear hc
        go_wp2
        go_round
        case rel =>
          refine ⟨k + 1, by omega, by go_num, fun j hj hjk => ?_⟩
          by_cases e : j = k
          · subst e; exact HC.out
          · exact HN.out j hj (by omega)
        case measure => simp [intOf]; omega
    · go_wp2
      go_ret
      exact Same.mk (by rw [HNO.out fun k hk => HN.out k hk (by omega)]; rfl)
theorem rHex_rng (c : UInt8) : -1 ≤ rHex c ∧ rHex c ≤ 15 := by
  unfold rHex
  split
  · have := digV_bd (c := c.toNat) (by unfold hexB; omega); omega
  · omega

/-- What the digits ahead come to: the code and how many there are. -/
def rDigF (b : Int) : List UInt8 → Int → Nat → Int × Nat
  | [], code, n => (code, n)
  | c :: t, code, n => if 0 ≤ rHex c ∧ rHex c < b then rDigF b t (min (code * b + rHex c) 1114112) (n + 1) else (code, n)
def rDig (l : List UInt8) (b : Int) : Int × Nat := rDigF (if b = 16 then 16 else 10) l 0 0
theorem rDigF_end {b : Int} {l : List UInt8} {code : Int} {n : Nat} (h : l.length ≤ n) : rDigF b (l.drop n) code n = (code, n) := by
  rw [List.drop_of_length_le h]; rfl
theorem rDigF_no {b : Int} {l : List UInt8} {code : Int} {n : Nat} (h : n < l.length) (hp : ¬ (0 ≤ rHex l[n] ∧ rHex l[n] < b)) : rDigF b (l.drop n) code n = (code, n) := by
  rw [List.drop_eq_getElem_cons h, rDigF, if_neg hp]
theorem rDigF_yes {b : Int} {l : List UInt8} {code : Int} {n : Nat} (h : n < l.length) (hp : 0 ≤ rHex l[n] ∧ rHex l[n] < b) : rDigF b (l.drop n) code n = rDigF b (l.drop (n + 1)) (min (code * b + rHex l[n]) 1114112) (n + 1) := by
  rw [List.drop_eq_getElem_cons h, rDigF, if_pos hp]
set_option maxRecDepth 100000 in
set_option maxHeartbeats 1000000 in
theorem rDig_go (l : List UInt8) (base : Int) (b : Int) (hb : (base = 16 ∧ b = 16) ∨ (base ≠ 16 ∧ b = 10)) (w : World) (hs : l.length ≤ 1000000000) : Calls Tryd.prog 45 #[.string ⟨l.toArray⟩, .int .i64 base] w (Same w (.tuple #[.int .i64 (rDigF b l 0 0).1, .int .i64 ((rDigF b l 0 0).2 : Nat)])) := by
  rcases hb with ⟨rfl, rfl⟩ | ⟨hn, rfl⟩
  · go_enter Tryd.func45, Tryd.ntmps45
    go_wp2_with fail
    go_loop [6, 7] (fun u i => ∃ (k : Nat) (code : Int), k ≤ l.length ∧ i = .int .i64 k ∧ u = .int .i64 code ∧ 0 ≤ code ∧ code ≤ 1114112 ∧ rDigF 16 l 0 0 = rDigF 16 (l.drop k) code k) (fun _ i => l.length - (intOf i).toNat)
    case atStart => exact ⟨0, 0, Nat.zero_le _, rfl, rfl, by omega, by omega, rfl⟩
    case round =>
      obtain ⟨k, code, hk, rfl, rfl, hc0, hc1, hR⟩ := hrel
      have HR := Lib.hid hR; clear hR
      by_cases hlt : k < l.length
      · have h1 := rHex_any l[k] w
        have hrng := rHex_rng l[k]
        obtain ⟨x, hx⟩ : ∃ x, rHex l[k] = x := ⟨_, rfl⟩
        rw [hx] at h1 hrng
        obtain ⟨hr1, hr2⟩ := hrng
        have HX := Lib.hid hx; have H1 := Lib.hid h1
        clear hx h1
        by_cases hp : 0 ≤ x
        · have HR2 : Hid (rDigF 16 l 0 0 = rDigF 16 (l.drop (k + 1)) (min (code * 16 + x) 1114112) (k + 1)) := Lib.hid (by
            rw [HR.out, rDigF_yes hlt (by rw [HX.out]; omega), HX.out])
          have hmul := dig_mul16 code hc0 hc1
          go_wp2_with (refine H1.out.mono ?_; rintro e w' ⟨rfl, rfl⟩)
          all_goals
            go_round
            case rel => exact ⟨k + 1, min (code * 16 + x) 1114112, by omega, by go_num, (by first | rfl | (congr 1; omega) | (rw [Int.min_def]; congr 1; split <;> omega)), by omega, by omega, HR2.out⟩
            case measure => simp [intOf]; omega
        · have HR2 : Hid (rDigF 16 l 0 0 = (code, k)) := Lib.hid (by
            rw [HR.out, rDigF_no hlt (by rw [HX.out]; omega)])
          go_wp2_with (refine H1.out.mono ?_; rintro e w' ⟨rfl, rfl⟩)
          go_ret2
          exact Same.mk (by rw [HR2.out]; rfl)
      · have HR2 : Hid (rDigF 16 l 0 0 = (code, k)) := Lib.hid (by
          rw [HR.out, rDigF_end (by omega)])
        go_wp2
        go_ret2
        exact Same.mk (by rw [HR2.out]; rfl)
  · have hne : ((base : Int) != 16) = true := by simp [hn]
    clear hn
    go_enter Tryd.func45, Tryd.ntmps45
    go_wp2_with fail
    clear hne
    go_loop [6, 7] (fun u i => ∃ (k : Nat) (code : Int), k ≤ l.length ∧ i = .int .i64 k ∧ u = .int .i64 code ∧ 0 ≤ code ∧ code ≤ 1114112 ∧ rDigF 10 l 0 0 = rDigF 10 (l.drop k) code k) (fun _ i => l.length - (intOf i).toNat)
    case atStart => exact ⟨0, 0, Nat.zero_le _, rfl, rfl, by omega, by omega, rfl⟩
    case round =>
      obtain ⟨k, code, hk, rfl, rfl, hc0, hc1, hR⟩ := hrel
      have HR := Lib.hid hR; clear hR
      by_cases hlt : k < l.length
      · have h1 := rHex_any l[k] w
        have hrng := rHex_rng l[k]
        obtain ⟨x, hx⟩ : ∃ x, rHex l[k] = x := ⟨_, rfl⟩
        rw [hx] at h1 hrng
        obtain ⟨hr1, hr2⟩ := hrng
        have HX := Lib.hid hx; have H1 := Lib.hid h1
        clear hx h1
        by_cases hp : 0 ≤ x
        · by_cases hp2 : x < 10
          · have HR2 : Hid (rDigF 10 l 0 0 = rDigF 10 (l.drop (k + 1)) (min (code * 10 + x) 1114112) (k + 1)) := Lib.hid (by
              rw [HR.out, rDigF_yes hlt (by rw [HX.out]; omega), HX.out])
            have hmul := dig_mul10 code hc0 hc1
            go_wp2_with (refine H1.out.mono ?_; rintro e w' ⟨rfl, rfl⟩)
            all_goals
              go_round
              case rel => exact ⟨k + 1, min (code * 10 + x) 1114112, by omega, by go_num, (by first | rfl | (congr 1; omega) | (rw [Int.min_def]; congr 1; split <;> omega)), by omega, by omega, HR2.out⟩
              case measure => simp [intOf]; omega
          · have HR2 : Hid (rDigF 10 l 0 0 = (code, k)) := Lib.hid (by
              rw [HR.out, rDigF_no hlt (by rw [HX.out]; omega)])
            go_wp2_with (refine H1.out.mono ?_; rintro e w' ⟨rfl, rfl⟩)
            go_ret2
            exact Same.mk (by rw [HR2.out]; rfl)
        · have HR2 : Hid (rDigF 10 l 0 0 = (code, k)) := Lib.hid (by
            rw [HR.out, rDigF_no hlt (by rw [HX.out]; omega)])
          go_wp2_with (refine H1.out.mono ?_; rintro e w' ⟨rfl, rfl⟩)
          go_ret2
          exact Same.mk (by rw [HR2.out]; rfl)
      · have HR2 : Hid (rDigF 10 l 0 0 = (code, k)) := Lib.hid (by
          rw [HR.out, rDigF_end (by omega)])
        go_wp2
        go_ret2
        exact Same.mk (by rw [HR2.out]; rfl)
theorem rDigits_any (l : List UInt8) (base : Int) (w : World) (hs : l.length ≤ 1000000000) : Calls Tryd.prog 45 #[.string ⟨l.toArray⟩, .int .i64 base] w (Same w (.tuple #[.int .i64 (rDig l base).1, .int .i64 ((rDig l base).2 : Nat)])) := by
  unfold rDig
  split
  · exact rDig_go l base 16 (.inl ⟨by assumption, rfl⟩) w hs
  · exact rDig_go l base 10 (.inr ⟨by assumption, rfl⟩) w hs
end Go.Proofs.YtpfnakonpledgaaDoor
