/- ref.Hex, ref.Digits. -/
import Derived.Test.YtgjodmjegmilhaaDoorRc
import Derived.Test.YtgjodmjegmilhaaDoorDig
namespace Go.Proofs.YtgjodmjegmilhaaDoor
open Go.RowKit
attribute [local go_sem] sgetr
attribute [local go_sem] sext

def hexT : List UInt8 := [48, 49, 50, 51, 52, 53, 54, 55, 56, 57, 97, 98, 99, 100, 101, 102, 48, 49, 50, 51, 52, 53, 54, 55, 56, 57, 65, 66, 67, 68, 69, 70]
def rHex (c : UInt8) : Int := if (48 ≤ c.toNat ∧ c.toNat ≤ 57) ∨ (65 ≤ c.toNat ∧ c.toNat ≤ 70) ∨ (97 ≤ c.toNat ∧ c.toNat ≤ 102) then digV c.toNat else -1
theorem hexT_val : ∀ k (h : k < hexT.length), rHex hexT[k] = ((k % 16 : Nat) : Int) := by decide
theorem hexT_in : ∀ n, n < 256 → (∀ k (h : k < hexT.length), hexT[k] ≠ UInt8.ofNat n) → rHex (UInt8.ofNat n) = -1 := by decide +kernel
theorem rHex_no {c : UInt8} (h : ∀ k (h : k < hexT.length), hexT[k] ≠ c) : rHex c = -1 := by
  have := hexT_in c.toNat c.toNat_lt
  rw [UInt8.ofNat_toNat] at this
  exact this h
set_option maxRecDepth 100000 in
theorem rHex_any (c : UInt8) (w : World) : Calls Tryd.prog 30 #[.int .u8 (c.toNat : Int)] w (Same w (.int .i64 (rHex c))) := by
  have hval := hexT_val
  have hno := fun h => rHex_no (c := c) h
  have hlen : hexT.length = 32 := rfl
  go_enter Tryd.func30, Tryd.ntmps30
  go_wp2_with fail
  rw [show (⟨#[48, 49, 50, 51, 52, 53, 54, 55, 56, 57, 97, 98, 99, 100, 101, 102, 48, 49, 50, 51, 52, 53, 54, 55, 56, 57, 65, 66, 67, 68, 69, 70]⟩ : ByteArray) = ⟨hexT.toArray⟩ from rfl]
  generalize hexT = T at *
  have HVAL := Lib.hid hval; have HNO := Lib.hid hno; have HLEN := Lib.hid hlen
  have hl1 : T.length ≤ 32 := by omega
  clear hval hno hlen
  go_loop [4] (fun i => ∃ k : Nat, k ≤ T.length ∧ i = .int .i64 k ∧ ∀ j (hj : j < T.length), j < k → T[j] ≠ c) (fun i => T.length - (intOf i).toNat)
  case atStart => exact ⟨0, Nat.zero_le _, rfl, fun _ _ h => absurd h (Nat.not_lt_zero _)⟩
  case round =>
    obtain ⟨k, hk, rfl, hno⟩ := hrel
    have HN := Lib.hid hno; clear hno
    by_cases hlt : k < T.length
    · by_cases hc : T[k] = c
      · have hb : ((T[k].toNat : Int) == (c.toNat : Int)) = true := by rw [u8_eq]; simp [hc]
        have HC := Lib.hid hc; clear hc
        go_wp2
        go_ret
        refine Same.mk ?_
        rw [← HC.out, HVAL.out k hlt]
        rfl
      · have hb : ((T[k].toNat : Int) == (c.toNat : Int)) = false := by rw [u8_eq]; simp [hc]
        have HC := Lib.hid hc; clear hc
        go_wp2
        go_round
        case rel =>
          refine ⟨k + 1, by omega, by go_num, fun j hj hjk => ?_⟩
          by_cases e : j = k
          · subst e; exact HC.out
          · exact HN.out j hj (by omega)
        case measure => simp [intOf]; omega
    · go_wp2
      go_ret
      exact Same.mk (by rw [HNO.out fun k hk => HN.out k hk (by omega)]; rfl)
theorem rHex_rng (c : UInt8) : -1 ≤ rHex c ∧ rHex c ≤ 15 := by
  unfold rHex
  split
  · have := digV_bd (c := c.toNat) (by unfold hexB; omega); omega
  · omega

/-- What the digits ahead come to: the code and how many there are. -/
def rDigF (b : Int) : List UInt8 → Int → Nat → Int × Nat
  | [], code, n => (code, n)
  | c :: t, code, n => if 0 ≤ rHex c ∧ rHex c < b then rDigF b t (min (code * b + rHex c) 1114112) (n + 1) else (code, n)
def rDig (l : List UInt8) (b : Int) : Int × Nat := rDigF (if b = 16 then 16 else 10) l 0 0
theorem rDigF_end {b : Int} {l : List UInt8} {code : Int} {n : Nat} (h : l.length ≤ n) : rDigF b (l.drop n) code n = (code, n) := by
  rw [List.drop_of_length_le h]; rfl
theorem rDigF_no {b : Int} {l : List UInt8} {code : Int} {n : Nat} (h : n < l.length) (hp : ¬ (0 ≤ rHex l[n] ∧ rHex l[n] < b)) : rDigF b (l.drop n) code n = (code, n) := by
  rw [List.drop_eq_getElem_cons h, rDigF, if_neg hp]
theorem rDigF_yes {b : Int} {l : List UInt8} {code : Int} {n : Nat} (h : n < l.length) (hp : 0 ≤ rHex l[n] ∧ rHex l[n] < b) : rDigF b (l.drop n) code n = rDigF b (l.drop (n + 1)) (min (code * b + rHex l[n]) 1114112) (n + 1) := by
  rw [List.drop_eq_getElem_cons h, rDigF, if_pos hp]
end Go.Proofs.YtgjodmjegmilhaaDoor
