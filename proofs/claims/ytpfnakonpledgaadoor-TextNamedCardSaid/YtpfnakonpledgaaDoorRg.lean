/- The reference's decoder: second, more, want, begins, whole, piece. -/
import Derived.Test.YtpfnakonpledgaaDoorRc
import Derived.Test.YtpfnakonpledgaaDoorBk
namespace Go.Proofs.YtpfnakonpledgaaDoor
open Go.RowKit
attribute [local go_sem] sgetr
attribute [local go_sem] sext

def rMore (c : UInt8) : Bool := decide (128 ≤ c.toNat ∧ c.toNat ≤ 191)
def rSecond (a c : UInt8) : Bool := if a.toNat = 224 then decide (160 ≤ c.toNat ∧ c.toNat ≤ 191) else if a.toNat = 237 then decide (128 ≤ c.toNat ∧ c.toNat ≤ 159) else if a.toNat = 240 then decide (144 ≤ c.toNat ∧ c.toNat ≤ 191) else if a.toNat = 244 then decide (128 ≤ c.toNat ∧ c.toNat ≤ 143) else rMore c
def rWant (a : UInt8) : Nat := if a.toNat < 128 then 1 else if 194 ≤ a.toNat ∧ a.toNat ≤ 223 then 2 else if 224 ≤ a.toNat ∧ a.toNat ≤ 239 then 3 else if 240 ≤ a.toNat ∧ a.toNat ≤ 244 then 4 else 0
theorem rMore_any (c : UInt8) (w : World) : Calls Tryd.prog 125 #[.int .u8 (c.toNat : Int)] w (Same w (.bool (rMore c))) := by
  go_enter Tryd.func125, Tryd.ntmps125
  go_wp2
  all_goals go_ret
  all_goals refine Same.mk (congrArg Value.bool ?_)
  all_goals rw [Bool.eq_iff_iff]; simp only [rMore, decide_eq_true_eq, Bool.false_eq_true, false_iff]
  all_goals omega
set_option maxHeartbeats 1000000 in
theorem rSecond_any (a c : UInt8) (w : World) : Calls Tryd.prog 124 #[.int .u8 (a.toNat : Int), .int .u8 (c.toNat : Int)] w (Same w (.bool (rSecond a c))) := by
  have H1 := Lib.hid (rMore_any c w)
  go_enter Tryd.func124, Tryd.ntmps124
  go_wp2_with (refine H1.out.mono ?_; rintro e w' ⟨rfl, rfl⟩)
  all_goals go_ret
  all_goals refine Same.mk (congrArg Value.bool ?_)
  all_goals (rw [rSecond]; repeat' split)
  all_goals first | rfl | omega | (rw [Bool.eq_iff_iff]; simp [rMore]; omega) | (simp [rMore] at *; omega)
set_option maxRecDepth 100000 in
theorem rWant_any (a : UInt8) (w : World) : Calls Tryd.prog 91 #[.int .u8 (a.toNat : Int)] w (Same w (.int .i64 (rWant a : Nat))) := by
  go_enter Tryd.func91, Tryd.ntmps91
  go_wp2
  all_goals go_ret
  all_goals refine Same.mk ?_
  all_goals (rw [rWant]; repeat' split)
  all_goals first | rfl | (simp at *; omega)
theorem rWant_le (a : UInt8) : rWant a ≤ 4 := by
  unfold rWant
  repeat' split
  all_goals omega
/-- The bytes behind a first byte may follow it. -/
def begT (a : UInt8) : List UInt8 → Bool
  | [] => true
  | c :: t => rSecond a c && rMore c && t.all rMore
def begL : List UInt8 → Bool
  | [] => false
  | a :: t => decide (t.length + 1 ≤ rWant a) && begT a t
theorem begL_of {l : List UInt8} (h : 0 < l.length) : begL l = (decide (l.length ≤ rWant l[0]) && begT l[0] (l.drop 1)) := by
  cases l with
  | nil => simp at h
  | cons a t => rfl
theorem begT_false {a : UInt8} {l : List UInt8} {k : Nat} (hk : k < l.length) (h1 : 1 ≤ k) (h : (k = 1 ∧ rSecond a l[k] = false) ∨ rMore l[k] = false) : begT a (l.drop 1) = false := by
  obtain ⟨j, rfl⟩ : ∃ j, k = j + 1 := ⟨k - 1, by omega⟩
  cases l with
  | nil => simp at hk
  | cons b t =>
    simp only [List.drop_succ_cons, List.drop_zero, List.getElem_cons_succ] at h ⊢
    have hj : j < t.length := by simpa using hk
    cases t with
    | nil => simp at hj
    | cons c u =>
      rw [begT]
      cases j with
      | zero =>
        simp only [List.getElem_cons_zero] at h
        rcases h with ⟨_, h⟩ | h <;> rw [h] <;> simp
      | succ j =>
        simp only [List.getElem_cons_succ] at h
        have hj' : j < u.length := by simpa using hj
        rw [all_false hj' (by rcases h with ⟨h, _⟩ | h; omega; exact h)]
        simp
theorem begT_true {a : UInt8} {l : List UInt8} (h : ∀ i (hi : i < l.length), 1 ≤ i → (i = 1 → rSecond a l[i] = true) ∧ rMore l[i] = true) : begT a (l.drop 1) = true := by
  cases l with
  | nil => rfl
  | cons b t =>
    simp only [List.drop_succ_cons, List.drop_zero]
    cases t with
    | nil => rfl
    | cons c u =>
      rw [begT]
      have h1 := h 1 (by simp) (by omega)
      simp only [List.getElem_cons_succ, List.getElem_cons_zero] at h1
      rw [h1.1 trivial, h1.2, all_true fun k hk => ?_]
      · rfl
      · have := (h (k + 2) (by simp; omega) (by omega)).2
        simpa using this
theorem quiet_ret {w W : World} {v : Value} {e : Ending} (h : e = .returned v ∧ ∃ n, W = w.drewN n) : Ret w v e W := by
  obtain ⟨rfl, n, rfl⟩ := h
  exact Ret.mk rfl ⟨rfl, rfl, rfl, Nat.le_refl _, fun _ _ => rfl⟩
theorem below_drewN {n : Nat} {w W : World} (h : Below n w W) (q : Nat) : Below n w (W.drewN q) := ⟨h.os, h.tape, h.output, h.size, h.block⟩
set_option maxRecDepth 100000 in
set_option maxHeartbeats 4000000 in
theorem rbegins_any (l : List UInt8) (w : World) (hs : l.length ≤ 1000000000) : Calls Tryd.prog 112 #[.string ⟨l.toArray⟩] w (Ret w (.bool (begL l))) := by
  have hmx : Tryd.prog.follows .mixedOrders = true := by kernel_rfl
  by_cases hpos : 0 < l.length
  · have hbl := begL_of hpos
    have hw4 := rWant_le l[0]
    have hwa := rWant_any l[0] w
    obtain ⟨n, hn⟩ : ∃ n, rWant l[0] = n := ⟨_, rfl⟩
    rw [hn] at hwa hbl hw4
    have HW := Lib.hid hwa
    clear hwa hn
    have hne : ((l.length : Int) == 0) = false := by rw [beq_eq_false_iff_ne]; omega
    by_cases hle : l.length ≤ n
    · rw [show decide (l.length ≤ n) = true by simpa using hle, Bool.true_and] at hbl
      have HBL := Lib.hid hbl
      clear hbl
      go_enter Tryd.func112, Tryd.ntmps112
      go_wp2_with (refine HW.out.mono ?_; rintro e w' ⟨rfl, rfl⟩)
      go_loopw [3] (fun s3 wr => ∃ k : Nat, 1 ≤ k ∧ k ≤ l.length ∧ s3 = .int .i64 k ∧ Below w.heap.size w wr ∧ ∀ i (hi : i < l.length), 1 ≤ i → i < k → (i = 1 → rSecond l[0] l[i] = true) ∧ rMore l[i] = true) (fun s3 _ => l.length - (intOf s3).toNat)
      case atStart => exact ⟨1, Nat.le_refl _, hpos, rfl, Below.refl _ _, fun _ _ h1 h => absurd h (by omega)⟩
      case round =>
        obtain ⟨k, hk1, hk, rfl, hb, hall⟩ := hrel
        have HALL := Lib.hid hall; have HB := Lib.hid hb
        clear hall hb hne
        by_cases hlt : k < l.length
        · have hm := fun w => rMore_any l[k] w
          have hse := fun w => rSecond_any l[0] l[k] w
          obtain ⟨m, hmm⟩ : ∃ m, rMore l[k] = m := ⟨_, rfl⟩
          obtain ⟨s, hss⟩ : ∃ s, rSecond l[0] l[k] = s := ⟨_, rfl⟩
          rw [hmm] at hm
          rw [hss] at hse
          have HM := Lib.hid hm; have HS := Lib.hid hse; have HMM := Lib.hid hmm; have HSS := Lib.hid hss
          clear hm hse hmm hss
          by_cases hk0 : k = 1
          · subst hk0
            cases s
            · have hf := Lib.hid (begT_false (a := l[0]) hlt hk1 (.inl ⟨rfl, HSS.out⟩))
              go_wp2_with fail
              go_quiet ((go_at_call 124; exact quiet_left (HS.out _)))
              go_wp2_with fail
              go_ret
              exact Ret.mk (by rw [HBL.out, hf.out]; rfl) (below_drewN HB.out _)
            · cases m
              · have hf := Lib.hid (begT_false (a := l[0]) hlt hk1 (.inr HMM.out))
                go_wp2_with fail
                go_quiet ((first | (go_at_call 124; exact quiet_left (HS.out _)) | (go_at_call 125; exact quiet_left (HM.out _))))
                go_wp2_with fail
                go_ret
                exact Ret.mk (by rw [HBL.out, hf.out]; rfl) (below_drewN HB.out _)
              · go_wp2_with fail
                go_quiet ((first | (go_at_call 124; exact quiet_left (HS.out _)) | (go_at_call 125; exact quiet_left (HM.out _))))
                go_wp2_with fail
                go_roundw
                case rel =>
                  refine ⟨2, by omega, by omega, by go_num, below_drewN HB.out _, fun i hi h1 h2 => ?_⟩
                  obtain rfl : i = 1 := by omega
                  exact ⟨fun _ => HSS.out, HMM.out⟩
                case measure => simp [intOf]; omega
          · have hk1f : ((k : Int) == 1) = false := by simp; omega
            cases m
            · have hf := Lib.hid (begT_false (a := l[0]) hlt hk1 (.inr HMM.out))
              go_wp2_with fail
              go_quiet ((first | (go_at_call 125; exact quiet_left (HM.out _))))
              go_wp2_with fail
              go_ret
              exact Ret.mk (by rw [HBL.out, hf.out]; rfl) (below_drewN HB.out _)
            · go_wp2_with fail
              go_quiet ((first | (go_at_call 125; exact quiet_left (HM.out _))))
              go_wp2_with fail
              go_roundw
              case rel =>
                refine ⟨k + 1, by omega, by omega, by go_num, below_drewN HB.out _, fun i hi h1 h2 => ?_⟩
                by_cases e : i = k
                · subst e; exact ⟨fun h => absurd h hk0, HMM.out⟩
                · exact HALL.out i hi h1 (by omega)
              case measure => simp [intOf]; omega
        · have hf := Lib.hid (begT_true (a := l[0]) fun i hi h1 => HALL.out i hi h1 (by omega))
          go_wp2_with fail
          go_ret
          exact Ret.mk (by rw [HBL.out, hf.out]; rfl) HB.out
    · rw [show decide (l.length ≤ n) = false by simpa using hle, Bool.false_and] at hbl
      have HBL := Lib.hid hbl
      clear hbl
      go_enter Tryd.func112, Tryd.ntmps112
      go_wp2_with (refine HW.out.mono ?_; rintro e w' ⟨rfl, rfl⟩)
      go_ret
      exact Ret.mk (by rw [HBL.out]; rfl) (Below.refl _ _)
  · obtain rfl : l = [] := List.eq_nil_of_length_eq_zero (by omega)
    go_enter Tryd.func112, Tryd.ntmps112
    go_wp2_with fail
    go_ret
    exact Ret.mk rfl (Below.refl _ _)
end Go.Proofs.YtpfnakonpledgaaDoor
