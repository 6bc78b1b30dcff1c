/- ref.Windows, ref.CodePoint, ref.Scalar. -/
import Derived.Test.YtpfnakonpledgaaDoorRa
import Derived.Test.YtpfnakonpledgaaDoorCod
namespace Go.Proofs.YtpfnakonpledgaaDoor
open Go.RowKit

def winT : List (Int × Int) := [(128, 8364), (130, 8218), (131, 402), (132, 8222), (133, 8230), (134, 8224), (135, 8225), (136, 710), (137, 8240), (138, 352), (139, 8249), (140, 338), (142, 381), (145, 8216), (146, 8217), (147, 8220), (148, 8221), (149, 8226), (150, 8211), (151, 8212), (152, 732), (153, 8482), (154, 353), (155, 8250), (156, 339), (158, 382), (159, 376)]
def pairC : List (Int × Int) → List Value
  | [] => []
  | p :: l => .int .i64 p.1 :: .int .i64 p.2 :: pairC l
theorem pairC_at : ∀ (l : List (Int × Int)) (k : Nat) (h : k < l.length), (pairC l)[k * 2]? = some (.int .i64 l[k].1) ∧ (pairC l)[k * 2 + 1]? = some (.int .i64 l[k].2)
  | p :: l, 0, _ => ⟨rfl, rfl⟩
  | p :: l, k + 1, h => by
    have := pairC_at l k (by simpa using h)
    rw [show (k + 1) * 2 = k * 2 + 1 + 1 by omega]
    exact this
set_option maxRecDepth 100000 in
set_option maxHeartbeats 4000000 in
theorem Windows_any (w : World) : Calls Tryd.prog 99 #[] w fun e w' => e = .returned (.slice (some ⟨w.heap.size, 0, none⟩) 27 27) ∧ w' = w.alloc (.cells (pairC winT).toArray 84) := by
  go_enter Tryd.func99, Tryd.ntmps99
  go_wp2_with fail
  go_ret
  exact ⟨rfl, rfl⟩
def rCode (c : Int) : Int := if c < 1 ∨ c > 1114111 ∨ (55295 < c ∧ c < 57344) then 65533 else match winT.find? (fun x => x.1 == c) with | some x => x.2 | none => c
theorem winT_rng : ∀ x ∈ winT, 128 ≤ x.1 ∧ x.1 ≤ 159 ∧ 0 ≤ x.2 ∧ x.2 ≤ 65535 := by decide
theorem find_hit {l : List (Int × Int)} {c : Int} {k : Nat} (hk : k < l.length) (hno : ∀ j (hj : j < l.length), j < k → (l[j].1 == c) = false) (h : (l[k].1 == c) = true) : l.find? (fun x => x.1 == c) = some l[k] := by
  rw [List.find?_eq_some_iff_getElem]
  exact ⟨h, k, hk, rfl, fun j hj => by rw [hno j _ hj]; rfl⟩
theorem find_miss {l : List (Int × Int)} {c : Int} (hno : ∀ j (hj : j < l.length), (l[j].1 == c) = false) : l.find? (fun x => x.1 == c) = none := by
  rw [List.find?_eq_none]
  intro x hx
  obtain ⟨j, hj, rfl⟩ := List.getElem_of_mem hx
  rw [hno j hj]; decide
set_option maxRecDepth 100000 in
set_option maxHeartbeats 4000000 in
theorem rCode_any (c : Int) (w : World) : Calls Tryd.prog 71 #[.int .i64 c] w (Ret w (.int .i32 (rCode c))) := by
  by_cases hb : c < 1 ∨ c > 1114111 ∨ (55295 < c ∧ c < 57344)
  · have hv : rCode c = 65533 := by rw [rCode, if_pos hb]
    rw [hv]
    clear hv
    by_cases h1 : c < 1
    · go_enter Tryd.func71, Tryd.ntmps71
      go_wp2_with fail
      go_ret
      exact Ret.mk rfl (Below.refl _ _)
    · by_cases h2 : c > 1114111
      · go_enter Tryd.func71, Tryd.ntmps71
        go_wp2_with fail
        go_ret
        exact Ret.mk rfl (Below.refl _ _)
      · obtain ⟨h3, h4⟩ : 55295 < c ∧ c < 57344 := by omega
        clear hb
        go_enter Tryd.func71, Tryd.ntmps71
        go_wp2_with fail
        go_ret
        exact Ret.mk rfl (Below.refl _ _)
  · have HV : Hid (rCode c = match winT.find? (fun x => x.1 == c) with | some x => x.2 | none => c) := Lib.hid (by rw [rCode, if_neg hb])
    have h1 : 1 ≤ c := by omega
    have h2 : c ≤ 1114111 := by omega
    have h3 : (decide (55295 < c) = true ∧ decide (c < 57344) = false) ∨ decide (55295 < c) = false := by
      by_cases h : 55295 < c
      · exact .inl ⟨by simpa using h, by simp; omega⟩
      · exact .inr (by simpa using h)
    have hw : wrap32 c = c := IntWalk.wrap32_in _ ⟨by omega, by omega⟩
    clear hb
    have hrng := winT_rng
    have hcl := pairC_at winT
    have hlen : winT.length = 27 := rfl
    have hwin := fun w => Windows_any w
    generalize winT = T at *
    have HCL := Lib.hid hcl; have HRNG := Lib.hid hrng; have HW := Lib.hid hwin; have HLEN := Lib.hid hlen
    have hl1 : T.length ≤ 27 := by omega
    have hl2 : 27 ≤ T.length := by omega
    clear hcl hrng hwin hlen
    rcases h3 with ⟨h3, h4⟩ | h3
    all_goals
      go_enter Tryd.func71, Tryd.ntmps71
      go_wp2_with fail
      refine (HW.out _).mono ?_
      rintro e w1 ⟨rfl, hw1⟩
      have hcells : ∀ k (hk : k < T.length), w1.cell? ⟨w.heap.size, k * 2, none⟩ = some (.int .i64 T[k].1) ∧ w1.cell? ⟨w.heap.size, k * 2 + 1, none⟩ = some (.int .i64 T[k].2) := fun k hk => by
        have hh : w1.heap[w.heap.size]? = some (.cells (pairC T).toArray 84) := by rw [hw1]; exact World.alloc_heap_new w _
        obtain ⟨a1, a2⟩ := HCL.out k hk
        rw [Lib.cell_of_heap hh, Lib.cell_of_heap hh, List.getElem?_toArray, List.getElem?_toArray]
        exact ⟨a1, a2⟩
      have hb1 : Below w.heap.size w w1 := hw1 ▸ balloc w _
      have HC := Lib.hid hcells; have HB1 := Lib.hid hb1
      clear hw1 hcells hb1
      go_wp2_with fail
      go_loop [4] (fun i => ∃ k : Nat, k ≤ 27 ∧ i = .int .i64 k ∧ ∀ j (hj : j < T.length), j < k → (T[j].1 == c) = false) (fun i => 27 - (intOf i).toNat)
      case atStart => exact ⟨0, by omega, rfl, fun _ _ h => absurd h (Nat.not_lt_zero _)⟩
      case round =>
        obtain ⟨k, hk, rfl, hno⟩ := hrel
        have HN := Lib.hid hno; clear hno
        by_cases hlt : k < 27
        · have hlt' : k < T.length := by omega
          obtain ⟨a1, a2⟩ := HC.out k hlt'
          have hr := HRNG.out T[k] (List.getElem_mem hlt')
          obtain ⟨x, hx⟩ : ∃ x, T[k] = x := ⟨_, rfl⟩
          rw [hx] at a1 a2 hr
          have HX := Lib.hid hx; clear hx
          obtain ⟨x1, x2⟩ := x
          dsimp only at a1 a2 hr
          obtain ⟨r1, r2, r3, r4⟩ := hr
          have hw2 : wrap32 x2 = x2 := IntWalk.wrap32_in _ ⟨by omega, by omega⟩
          by_cases hc : x1 = c
          · have hbt : (x1 == c) = true := by simp [hc]
            have HF := Lib.hid (find_hit hlt' HN.out (by rw [HX.out]; exact hbt))
            clear hc
            go_wp2
            go_ret
            exact Ret.mk (by rw [HV.out, HF.out, HX.out]; rfl) HB1.out
          · have hbt : (x1 == c) = false := by simp [hc]
            clear hc
            go_wp2
            go_round
            case rel =>
              refine ⟨k + 1, by omega, by go_num, fun j hj hjk => ?_⟩
              by_cases e : j = k
              · subst e; rw [HX.out]; exact hbt
              · exact HN.out j hj (by omega)
            case measure => simp [intOf]; omega
        · have HF := Lib.hid (find_miss (l := T) (c := c) fun j hj => HN.out j hj (by omega))
          go_wp2
          go_ret
          exact Ret.mk (by rw [HV.out, HF.out]; rfl) HB1.out
def rScal (r : Int) : Bool := decide ((0 ≤ r ∧ r ≤ 55295) ∨ (57344 ≤ r ∧ r ≤ 1114111))
theorem rScalar_any (r : Int) (w : World) : Calls Tryd.prog 62 #[.int .i32 r] w (Same w (.bool (rScal r))) := by
  go_enter Tryd.func62, Tryd.ntmps62
  go_wp2
  all_goals go_ret
  all_goals refine Same.mk (congrArg Value.bool ?_)
  all_goals rw [Bool.eq_iff_iff]; simp [rScal]
  all_goals omega
end Go.Proofs.YtpfnakonpledgaaDoor
