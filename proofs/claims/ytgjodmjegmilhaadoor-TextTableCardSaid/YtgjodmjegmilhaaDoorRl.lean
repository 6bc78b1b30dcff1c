/- The reference's walk through the table: word, sign. -/
import Derived.Test.YtgjodmjegmilhaaDoorEnt
import Derived.Test.YtgjodmjegmilhaaDoorRa
namespace Go.Proofs.YtgjodmjegmilhaaDoor
open Go.RowKit
attribute [local go_sem] sgetr
attribute [local go_sem] sext

theorem upTo_nil (c : UInt8) : upTo c [] = ([], []) := rfl
theorem upTo_hit {c : UInt8} {l : List UInt8} {k : Nat} (hk : k < l.length) (h : l[k] = c) : (upTo c (l.drop k)).1.length = 0 := by
  rw [List.drop_eq_getElem_cons hk, upTo, if_pos (by simpa using h)]; rfl
theorem upTo_miss {c : UInt8} {l : List UInt8} {k : Nat} (hk : k < l.length) (h : l[k] ≠ c) : (upTo c (l.drop k)).1.length = (upTo c (l.drop (k + 1))).1.length + 1 := by
  rw [List.drop_eq_getElem_cons hk, upTo, if_neg (by simpa using h)]; rfl
theorem upTo_end {c : UInt8} {l : List UInt8} {k : Nat} (hk : l.length ≤ k) : (upTo c (l.drop k)).1.length = 0 := by
  rw [List.drop_of_length_le hk]; rfl
theorem upTo_len1 (c : UInt8) (l : List UInt8) : (upTo c l).1.length ≤ l.length := (upTo_len c l).1
set_option maxRecDepth 100000 in
set_option maxHeartbeats 1000000 in
theorem rword_any (a : Nat) (w : World) (h : a ≤ namesL.length) : Calls Tryd.prog 15 #[.int .i64 a] w (Same w (.int .i64 (a + (upTo 32 (namesL.drop a)).1.length : Nat))) := by
  have hlen := namesL_len
  refine calls_of_wp Tryd.func15 rfl ?_
  conv in (ByteArray.mk (List.toArray (List.append _ _))) => change (⟨namesL.toArray⟩ : ByteArray)
  generalize namesL = ns at *
  simp only [Tryd.ntmps15, List.size_toArray, List.length_cons, List.length_nil, Nat.reduceAdd, Nat.reduceSub, Array.replicate_succ, Array.replicate_zero, List.push_toArray, List.append_toArray, List.nil_append, List.cons_append]
  have h1 : ns.length ≤ 30000 := by omega
  have HL := Lib.hid hlen
  clear hlen
  obtain ⟨r, hr⟩ : ∃ r, a + (upTo 32 (ns.drop a)).1.length = r := ⟨_, rfl⟩
  rw [hr]
  have HS := Lib.hid hr
  clear hr
  go_wp2_with fail
  go_loop [0] (fun s0 => ∃ k : Nat, k ≤ ns.length ∧ s0 = .int .i64 k ∧ r = k + (upTo 32 (ns.drop k)).1.length) (fun s0 => ns.length - (intOf s0).toNat)
  case atStart => exact ⟨a, h, rfl, HS.out.symm⟩
  case round =>
    obtain ⟨k, hk, rfl, hR⟩ := hrel
    have HR := Lib.hid hR; clear hR
    by_cases hlt : k < ns.length
    · have hlt2 : decide ((k : Int) < 29726) = true := by rw [decide_eq_true_eq]; have := HL.out; omega
      by_cases hc : ns[k] = 32
      · have ht : ((ns[k].toNat : Int) != 32) = false := by rw [hc]; rfl
        have HE : Hid (r = k) := Lib.hid (by rw [HR.out, upTo_hit hlt hc]; rfl)
        clear hc
        go_wp2
        go_ret
        exact Same.mk (by rw [HE.out]; rfl)
      · have ht : ((ns[k].toNat : Int) != 32) = true := by
          have e : ((ns[k].toNat : Int) == 32) = (ns[k] == 32) := u8_eq (b := 32)
          rw [bne, e]; simpa using hc
        have HE : Hid (r = k + 1 + (upTo 32 (ns.drop (k + 1))).1.length) := Lib.hid (by rw [HR.out, upTo_miss hlt hc]; omega)
        clear hc
        go_wp2
        go_round
        case rel => exact ⟨k + 1, by omega, by go_num, HE.out⟩
        case measure => simp [intOf]; omega
    · have hge : decide ((k : Int) < 29726) = false := by rw [decide_eq_false_iff_not]; have := HL.out; omega
      have HE : Hid (r = k) := Lib.hid (by rw [HR.out, upTo_end (by omega)]; rfl)
      go_wp2
      go_ret
      exact Same.mk (by rw [HE.out]; rfl)
set_option maxRecDepth 100000 in
set_option maxHeartbeats 1000000 in
theorem rsign_any (a b : Nat) (w : World) (hab : a ≤ b) (h : b ≤ namesL.length) : Calls Tryd.prog 16 #[.int .i64 a, .int .i64 b] w (Same w (.int .i64 (a + (upTo 61 ((namesL.take b).drop a)).1.length : Nat))) := by
  have hlen := namesL_len
  refine calls_of_wp Tryd.func16 rfl ?_
  conv in (ByteArray.mk (List.toArray (List.append _ _))) => change (⟨namesL.toArray⟩ : ByteArray)
  generalize namesL = ns at *
  simp only [Tryd.ntmps16, List.size_toArray, List.length_cons, List.length_nil, Nat.reduceAdd, Nat.reduceSub, Array.replicate_succ, Array.replicate_zero, List.push_toArray, List.append_toArray, List.nil_append, List.cons_append]
  have h1 : ns.length ≤ 29726 := by omega
  clear hlen
  have htl : (ns.take b).length = b := by simp; omega
  have HTL := Lib.hid htl
  have hget : ∀ k (h1 : k < (ns.take b).length) (h2 : k < ns.length), (ns.take b)[k] = ns[k] := fun k _ _ => List.getElem_take
  have HG := Lib.hid hget
  clear htl hget
  generalize ns.take b = m at *
  obtain ⟨r, hr⟩ : ∃ r, a + (upTo 61 (m.drop a)).1.length = r := ⟨_, rfl⟩
  rw [hr]
  have HS := Lib.hid hr
  clear hr
  go_wp2_with fail
  go_loop [0] (fun s0 => ∃ k : Nat, k ≤ b ∧ s0 = .int .i64 k ∧ r = k + (upTo 61 (m.drop k)).1.length) (fun s0 => b - (intOf s0).toNat)
  case atStart => exact ⟨a, hab, rfl, HS.out.symm⟩
  case round =>
    obtain ⟨k, hk, rfl, hR⟩ := hrel
    have HR := Lib.hid hR; clear hR
    by_cases hlt : k < b
    · have hlt2 : k < ns.length := by omega
      have hlm : k < m.length := by have := HTL.out; omega
      have hmk := HG.out k hlm hlt2
      by_cases hc : ns[k] = 61
      · have ht : ((ns[k].toNat : Int) != 61) = false := by rw [hc]; rfl
        have HE : Hid (r = k) := Lib.hid (by rw [HR.out, upTo_hit hlm (hmk.trans hc)]; rfl)
        clear hc hmk
        go_wp2
        go_ret
        exact Same.mk (by rw [HE.out]; rfl)
      · have ht : ((ns[k].toNat : Int) != 61) = true := by
          have e : ((ns[k].toNat : Int) == 61) = (ns[k] == 61) := u8_eq (b := 61)
          rw [bne, e]; simpa using hc
        have HE : Hid (r = k + 1 + (upTo 61 (m.drop (k + 1))).1.length) := Lib.hid (by rw [HR.out, upTo_miss hlm (by rw [hmk]; exact hc)]; omega)
        clear hc hmk
        go_wp2
        go_round
        case rel => exact ⟨k + 1, by omega, by go_num, HE.out⟩
        case measure => simp [intOf]; omega
    · have HE : Hid (r = k) := Lib.hid (by rw [HR.out, upTo_end (by have := HTL.out; omega)]; rfl)
      go_wp2
      go_ret
      exact Same.mk (by rw [HE.out]; rfl)
end Go.Proofs.YtgjodmjegmilhaaDoor
