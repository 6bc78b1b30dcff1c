/- The references' searches through a string: AllSpace, bare, ValidElement, ValidAttribute, Begins, Hex. -/
import Derived.Test.YtpfnakonpledgaaDoorRa
import Derived.Test.YtpfnakonpledgaaDoorLow
namespace Go.Proofs.YtpfnakonpledgaaDoor
open Go.RowKit
attribute [local go_sem] sgetr
attribute [local go_sem] sext

theorem all_true {p : UInt8 → Bool} {l : List UInt8} (h : ∀ k (hk : k < l.length), p l[k] = true) : l.all p = true := by
  rw [List.all_eq_true]
  intro x hx
  obtain ⟨k, hk, rfl⟩ := List.getElem_of_mem hx
  exact h k hk
theorem all_false {p : UInt8 → Bool} {l : List UInt8} {k : Nat} (hk : k < l.length) (h : p l[k] = false) : l.all p = false := by
  rw [Bool.eq_false_iff]
  intro ha
  rw [List.all_eq_true] at ha
  rw [ha _ (List.getElem_mem hk)] at h
  cases h
theorem all_step {p : UInt8 → Bool} {l : List UInt8} {k : Nat} (hk : k < l.length) (h : ∀ j (hj : j < l.length), j < k → p l[j] = true) (hp : p l[k] = true) : ∀ j (hj : j < l.length), j < k + 1 → p l[j] = true := by
  intro j hj hjk
  by_cases e : j = k
  · subst e; exact hp
  · exact h j hj (by omega)

theorem rAllSpace_any (l : List UInt8) (w : World) (hs : l.length ≤ 1000000000) : Calls Tryd.prog 53 #[.string ⟨l.toArray⟩] w (Same w (.bool (l.all rSpace))) := by
  go_enter Tryd.func53, Tryd.ntmps53
  go_wp2_with fail
  go_loop [3] (fun i => ∃ k : Nat, k ≤ l.length ∧ i = .int .i64 k ∧ ∀ j (hj : j < l.length), j < k → rSpace l[j] = true) (fun i => l.length - (intOf i).toNat)
  case atStart => exact ⟨0, Nat.zero_le _, rfl, fun _ _ h => absurd h (Nat.not_lt_zero _)⟩
  case round =>
    obtain ⟨k, hk, rfl, hno⟩ := hrel
    have HNO := Lib.hid hno; clear hno
    by_cases hlt : k < l.length
    · have h1 := rSpace_any l[k] w
      cases hc : rSpace l[k]
      · rw [hc] at h1
        have HC := Lib.hid hc; have H1 := Lib.hid h1; clear hc h1
        go_wp2_with (refine H1.out.mono ?_; rintro e w' ⟨rfl, rfl⟩)
        go_ret
        exact Same.mk (congrArg Value.bool (all_false hlt HC.out).symm)
      · rw [hc] at h1
        have HC := Lib.hid hc; have H1 := Lib.hid h1; clear hc h1
        go_wp2_with (refine H1.out.mono ?_; rintro e w' ⟨rfl, rfl⟩)
        go_round
        case rel => exact ⟨k + 1, by omega, by go_num, all_step hlt HNO.out HC.out⟩
        case measure => simp [intOf]; omega
    · go_wp2
      go_ret
      exact Same.mk (congrArg Value.bool (all_true fun k hk => HNO.out k hk (by omega)).symm)

def rBareB (c : UInt8) : Bool := !rSpace c && decide (c.toNat ≠ 0 ∧ c.toNat ≠ 47 ∧ c.toNat ≠ 62)
theorem rBare_any (l : List UInt8) (w : World) (hs : l.length ≤ 1000000000) : Calls Tryd.prog 83 #[.string ⟨l.toArray⟩] w (Same w (.bool (l.all rBareB))) := by
  go_enter Tryd.func83, Tryd.ntmps83
  go_wp2_with fail
  go_loop [3] (fun i => ∃ k : Nat, k ≤ l.length ∧ i = .int .i64 k ∧ ∀ j (hj : j < l.length), j < k → rBareB l[j] = true) (fun i => l.length - (intOf i).toNat)
  case atStart => exact ⟨0, Nat.zero_le _, rfl, fun _ _ h => absurd h (Nat.not_lt_zero _)⟩
  case round =>
    obtain ⟨k, hk, rfl, hno⟩ := hrel
    have HNO := Lib.hid hno; clear hno
    by_cases hlt : k < l.length
    · have h1 := rSpace_any l[k] w
      cases hc : rSpace l[k]
      · rw [hc] at h1
        have HC := Lib.hid hc; have H1 := Lib.hid h1; clear hc h1
        have hb : rBareB l[k] = decide (l[k].toNat ≠ 0 ∧ l[k].toNat ≠ 47 ∧ l[k].toNat ≠ 62) := by rw [rBareB, HC.out]; rfl
        have HB := Lib.hid hb; clear hb
        go_wp2_with (refine H1.out.mono ?_; rintro e w' ⟨rfl, rfl⟩)
        all_goals first
          | (go_ret; refine Same.mk (congrArg Value.bool (all_false hlt ?_).symm); rw [HB.out, decide_eq_false_iff_not]; simp at *; omega)
          | (go_round
             case rel => exact ⟨k + 1, by omega, by go_num, all_step hlt HNO.out (by rw [HB.out, decide_eq_true_eq]; simp at *; omega)⟩
             case measure => simp [intOf]; omega)
      · rw [hc] at h1
        have HC : Hid (rBareB l[k] = false) := Lib.hid (by rw [rBareB, hc]; rfl)
        have H1 := Lib.hid h1; clear hc h1
        go_wp2_with (refine H1.out.mono ?_; rintro e w' ⟨rfl, rfl⟩)
        go_ret
        exact Same.mk (congrArg Value.bool (all_false hlt HC.out).symm)
    · go_wp2
      go_ret
      exact Same.mk (congrArg Value.bool (all_true fun k hk => HNO.out k hk (by omega)).symm)

def rValidAttr (l : List UInt8) : Bool := decide (0 < l.length) && (l.all rBareB && !hasB l 61)
theorem rValidAttribute_any (l : List UInt8) (w : World) (hs : l.length ≤ 1000000000) : Calls Tryd.prog 42 #[.string ⟨l.toArray⟩] w (Same w (.bool (rValidAttr l))) := by
  have H1 := Lib.hid (rBare_any l w hs)
  have H2 := Lib.hid (rHas_any l 61 w hs)
  rw [rValidAttr]
  obtain ⟨b1, hb1⟩ : ∃ b, l.all rBareB = b := ⟨_, rfl⟩
  obtain ⟨b2, hb2⟩ : ∃ b, hasB l 61 = b := ⟨_, rfl⟩
  rw [hb1] at H1
  rw [hb2] at H2
  rw [hb1, hb2]
  clear hb1 hb2
  by_cases hl : 0 < l.length
  · cases b1
    all_goals
      go_enter Tryd.func42, Tryd.ntmps42
      go_wp2_with (first | (refine H1.out.mono ?_; rintro e w' ⟨rfl, rfl⟩) | (refine H2.out.mono ?_; rintro e w' ⟨rfl, rfl⟩))
      go_ret
      exact Same.mk (congrArg Value.bool (by simp [hl]))
  · obtain rfl : l = [] := List.eq_nil_of_length_eq_zero (by omega)
    go_enter Tryd.func42, Tryd.ntmps42
    go_wp2_with fail
    go_ret
    exact Same.mk (congrArg Value.bool (by simp))

def rElemB (c : UInt8) : Bool := rAlnum c || decide (c.toNat = 45 ∨ c.toNat = 46 ∨ c.toNat = 58 ∨ c.toNat = 95 ∨ 128 ≤ c.toNat)
def rElemF (c : UInt8) : Bool := decide (c.toNat = 58 ∨ c.toNat = 95 ∨ 128 ≤ c.toNat)
def rValidElem (l : List UInt8) : Bool := if h : 0 < l.length then (if rLetter l[0] then l.all rBareB else rElemF l[0] && (l.drop 1).all rElemB) else false
theorem drop_all_true {p : UInt8 → Bool} {l : List UInt8} (h : ∀ k (hk : k < l.length), 1 ≤ k → p l[k] = true) : (l.drop 1).all p = true :=
  all_true fun k hk => by
    rw [List.getElem_drop]
    exact h _ _ (by omega)
theorem drop_all_false {p : UInt8 → Bool} {l : List UInt8} {k : Nat} (hk : k < l.length) (h1 : 1 ≤ k) (h : p l[k] = false) : (l.drop 1).all p = false := by
  obtain ⟨j, rfl⟩ : ∃ j, k = 1 + j := ⟨k - 1, by omega⟩
  refine all_false (k := j) (by simp; omega) ?_
  rw [List.getElem_drop]; exact h
theorem from1_step {p : UInt8 → Bool} {l : List UInt8} {k : Nat} (hk : k < l.length) (h : ∀ j (hj : j < l.length), 1 ≤ j → j < k → p l[j] = true) (hp : p l[k] = true) : ∀ j (hj : j < l.length), 1 ≤ j → j < k + 1 → p l[j] = true := by
  intro j hj h1 hjk
  by_cases e : j = k
  · subst e; exact hp
  · exact h j hj h1 (by omega)
set_option maxRecDepth 100000 in
set_option maxHeartbeats 1000000 in
theorem rValidElement_any (l : List UInt8) (w : World) (hs : l.length ≤ 1000000000) : Calls Tryd.prog 41 #[.string ⟨l.toArray⟩] w (Same w (.bool (rValidElem l))) := by
  by_cases hpos : 0 < l.length
  · have h1 := rLetter_any l[0] w
    cases hl : rLetter l[0]
    · rw [hl] at h1
      have H1 := Lib.hid h1
      have HV : Hid (rValidElem l = (rElemF l[0] && (l.drop 1).all rElemB)) := Lib.hid (by rw [rValidElem, dif_pos hpos, hl]; rfl)
      clear h1 hl
      go_enter Tryd.func41, Tryd.ntmps41
      go_wp2_with (refine H1.out.mono ?_; rintro e w' ⟨rfl, rfl⟩)
      all_goals first
        | (go_ret; refine Same.mk (congrArg Value.bool ?_); rw [HV.out, show rElemF l[0] = false by (rw [rElemF, decide_eq_false_iff_not]; simp at *; omega)]; rfl)
        | skip
      all_goals
        have HF : Hid (rElemF l[0] = true) := Lib.hid (by rw [rElemF, decide_eq_true_eq]; simp at *; omega)
        go_loop [3] (fun i => ∃ k : Nat, 1 ≤ k ∧ k ≤ l.length ∧ i = .int .i64 k ∧ ∀ j (hj : j < l.length), 1 ≤ j → j < k → rElemB l[j] = true) (fun i => l.length - (intOf i).toNat)
        case atStart => exact ⟨1, Nat.le_refl _, hpos, rfl, fun _ _ h1 h => absurd h (by omega)⟩
        case round =>
          obtain ⟨k, hk1, hk, rfl, hno⟩ := hrel
          have HNO := Lib.hid hno; clear hno
          by_cases hlt : k < l.length
          · have h1 := rAlnum_any l[k] w
            cases hc : rAlnum l[k]
            · rw [hc] at h1
              have HB : Hid (rElemB l[k] = decide (l[k].toNat = 45 ∨ l[k].toNat = 46 ∨ l[k].toNat = 58 ∨ l[k].toNat = 95 ∨ 128 ≤ l[k].toNat)) := Lib.hid (by rw [rElemB, hc]; rfl)
              have H2 := Lib.hid h1; clear h1 hc
              go_wp2_with (refine H2.out.mono ?_; rintro e w' ⟨rfl, rfl⟩)
              all_goals first
                | (go_ret; refine Same.mk (congrArg Value.bool ?_); rw [HV.out, HF.out, drop_all_false hlt hk1 (by rw [HB.out, decide_eq_false_iff_not]; simp at *; omega)]; rfl)
                | (go_round
                   case rel => exact ⟨k + 1, by omega, by omega, by go_num, from1_step hlt HNO.out (by rw [HB.out, decide_eq_true_eq]; simp at *; omega)⟩
                   case measure => simp [intOf]; omega)
            · rw [hc] at h1
              have HB : Hid (rElemB l[k] = true) := Lib.hid (by rw [rElemB, hc]; rfl)
              have H2 := Lib.hid h1; clear h1 hc
              go_wp2_with (refine H2.out.mono ?_; rintro e w' ⟨rfl, rfl⟩)
              go_round
              case rel => exact ⟨k + 1, by omega, by omega, by go_num, from1_step hlt HNO.out HB.out⟩
              case measure => simp [intOf]; omega
          · go_wp2
            go_ret
            refine Same.mk (congrArg Value.bool ?_)
            rw [HV.out, HF.out, drop_all_true fun j hj h1 => HNO.out j hj h1 (by omega)]; rfl
    · rw [hl] at h1
      have H1 := Lib.hid h1
      have H2 := Lib.hid (rBare_any l w hs)
      have HV : Hid (rValidElem l = l.all rBareB) := Lib.hid (by rw [rValidElem, dif_pos hpos, hl]; rfl)
      clear h1 hl
      go_enter Tryd.func41, Tryd.ntmps41
      go_wp2_with fail
      refine H1.out.mono ?_; rintro e w' ⟨rfl, rfl⟩
      go_wp2_with fail
      refine H2.out.mono ?_; rintro e w' ⟨rfl, rfl⟩
      go_wp2_with fail
      go_ret
      exact Same.mk (congrArg Value.bool HV.out.symm)
  · obtain rfl : l = [] := List.eq_nil_of_length_eq_zero (by omega)
    go_enter Tryd.func41, Tryd.ntmps41
    go_wp2_with fail
    go_ret
    exact Same.mk rfl
theorem prefix_take (l p : List UInt8) : (List.take p.length l == p) = p.isPrefixOf l := by
  rw [Bool.eq_iff_iff, List.isPrefixOf_iff_prefix, List.prefix_iff_eq_take, beq_iff_eq]
  exact ⟨fun h => h.symm, fun h => h.symm⟩
set_option maxRecDepth 100000 in
theorem rBegins_any (l p : List UInt8) (w : World) (_ : l.length ≤ 1000000000) (_ : p.length ≤ 1000000000) : Calls Tryd.prog 86 #[.string ⟨l.toArray⟩, .string ⟨p.toArray⟩] w (Same w (.bool (p.isPrefixOf l))) := by
  by_cases h : p.length ≤ l.length
  · go_enter Tryd.func86, Tryd.ntmps86
    go_wp2_with fail
    go_ret
    exact Same.mk (congrArg Value.bool (prefix_take l p))
  · have hf : p.isPrefixOf l = false := by
      rw [Bool.eq_false_iff]
      intro hp
      exact h (List.isPrefixOf_iff_prefix.1 hp).length_le
    rw [hf]
    clear hf
    go_enter Tryd.func86, Tryd.ntmps86
    go_wp2_with fail
    go_ret
    exact Same.mk rfl
end Go.Proofs.YtpfnakonpledgaaDoor
