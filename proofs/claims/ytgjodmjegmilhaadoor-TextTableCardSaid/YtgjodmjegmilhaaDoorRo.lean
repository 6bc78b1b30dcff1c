/- ref.Entry. -/
import Derived.Test.YtgjodmjegmilhaaDoorRn
namespace Go.Proofs.YtgjodmjegmilhaaDoor
open Go.RowKit
attribute [local go_sem] sgetr
attribute [local go_sem] sext

set_option maxRecDepth 100000 in
set_option maxHeartbeats 4000000 in
theorem rEntry_any (a : Nat) (e x1 x2 : List UInt8) (w : World) (ha : a < namesL.length) (he : (upTo 32 (namesL.drop a)).1 = e) (hx : upTo 61 e = (x1, x2)) (hc : chkE e = true) :
    Calls Tryd.prog 6 #[.int .i64 a] w (Ret w (.tuple #[.string ⟨x1.toArray⟩, .string ⟨(valL x2).toArray⟩, .int .i64 (a + e.length + 1 : Nat)])) := by
  have hlen := namesL_len
  have hword := fun w => rword_any a w (by omega)
  have hel := upTo_len1 32 (namesL.drop a)
  have het := upTo_take 32 (namesL.drop a)
  rw [he] at hword hel het
  rw [List.length_drop] at hel
  have htd : (namesL.take (a + e.length)).drop a = e := by rw [List.drop_take, Nat.add_sub_cancel_left]; exact het.symm
  have hsign := fun w => rsign_any a (a + e.length) w (by omega) (by omega)
  rw [htd, hx] at hsign
  simp only [chkE, hx, Bool.and_eq_true, decide_eq_true_eq, beq_iff_eq, List.all_eq_true] at hc
  obtain ⟨hc1, hc2, hc3, hc4⟩ := hc
  have hval := fun w => rvalue_any x2 w hc2 hc3
  rw [hc4] at hval
  have hx1 := upTo_take 61 e
  have hx2 := upTo_drop 61 e
  have hx3 := upTo_has 61 e hc1
  rw [hx] at hx1 hx2 hx3
  dsimp only at hx1 hx2 hx3 hsign
  have s1 : (namesL.drop a).take (a + x1.length - a) = x1 := by
    rw [Nat.add_sub_cancel_left]
    have h1 : (namesL.drop a).take x1.length = ((namesL.drop a).take e.length).take x1.length := by rw [List.take_take, Nat.min_eq_left (by omega)]
    exact (h1.trans (congrArg (List.take x1.length) het.symm)).trans hx1.symm
  have s2 : (namesL.drop (a + x1.length + 1)).take (a + e.length - (a + x1.length + 1)) = x2 := by
    rw [hx2]
    conv => rhs; rw [het]
    rw [List.drop_take, List.drop_drop, show a + e.length - (a + x1.length + 1) = e.length - (x1.length + 1) by omega, Nat.add_assoc]
  clear hc1 hc2 hc3 hc4 hx1 hx2 htd het he hx
  refine calls_of_wp Tryd.func6 rfl ?_
  conv in (occs := *) (ByteArray.mk (List.toArray (List.append _ _))) => all_goals change (⟨namesL.toArray⟩ : ByteArray)
  generalize namesL = ns at *
  have HL := Lib.hid hlen
  have hl2 : ns.length ≤ 30000 := by omega
  clear hlen
  generalize x1.length = m1 at *
  generalize e.length = m2 at *
  obtain ⟨k, hk⟩ : ∃ k, a + m1 = k := ⟨_, rfl⟩
  obtain ⟨t, ht⟩ : ∃ t, a + m2 = t := ⟨_, rfl⟩
  rw [hk] at s1 s2 hsign
  rw [ht] at hword hsign s2 ⊢
  have hak : a ≤ k := by omega
  have hkt : k < t := by omega
  have htl : t ≤ ns.length := by omega
  have H1 := Lib.hid hword; have H2 := Lib.hid hsign; have H3 := Lib.hid hval
  clear hword hsign hval hk ht hel hx3
  simp only [Tryd.ntmps6, List.size_toArray, List.length_cons, List.length_nil, Nat.reduceAdd, Nat.reduceSub, Array.replicate_succ, Array.replicate_zero, List.push_toArray, List.append_toArray, List.nil_append, List.cons_append]
  go_wp2_with (first | (go_at_call 15; refine (H1.out _).mono ?_; rintro e w' ⟨rfl, rfl⟩) | (go_at_call 16; refine (H2.out _).mono ?_; rintro e w' ⟨rfl, rfl⟩))
  have hkl : k ≤ ns.length := by omega
  have htl2 : k + 1 ≤ ns.length := by omega
  have hkt2 : k + 1 ≤ t := by omega
  have w1 : IntKind.i64.wrap ((k : Int) + 1) = (k : Int) + 1 := IntWalk.i64_in _ (by omega)
  have w2 : (0 : Int) ≤ (k : Int) + 1 := by omega
  have w3 : ((k : Int) + 1).toNat = k + 1 := by omega
  have w4 : (k : Int) + 1 ≤ (t : Int) := by omega
  have w5 : (k : Int) + 1 ≤ (ns.length : Int) := by omega
  have w6 : IntKind.i64.wrap ((t : Int) + 1) = (t : Int) + 1 := IntWalk.i64_in _ (by omega)
  go_region_held3 (fun _ => True) (trivial) (first | (go_at_call 17; refine (H3.out _).mono ?_; rintro e w1 ⟨rfl, b1⟩))
  go_wp2_with fail
  go_ret3
  exact Ret.mk rfl (by first | exact b1 | exact bdrew b1)
end Go.Proofs.YtgjodmjegmilhaaDoor
