/- The references that write their result byte by byte: Newlines, Lower. -/
import Derived.Test.YtpfnakonpledgaaDoorRa
import Derived.Test.YtpfnakonpledgaaDoorOwn
import Derived.Test.YtpfnakonpledgaaDoorLow
import Derived.Test.YtpfnakonpledgaaDoorLib
namespace Go.Proofs.YtpfnakonpledgaaDoor
open Go.RowKit
attribute [local go_sem] sgetr

/-- What ref.Newlines writes, from an offset on. -/
def rnl : List UInt8 → List UInt8
  | [] => []
  | c :: t => if c = 13 then (if t.head? = some 10 then rnl t else 10 :: rnl t) else c :: rnl t
theorem cr_cons (c : UInt8) (t : List UInt8) : cr (c :: t) = (if c = 13 then 10 else c) :: cr t := rfl
theorem rnl_eq : ∀ (n : Nat) (l : List UInt8), l.length ≤ n → rnl l = newlines l
  | _, [], _ => rfl
  | 0, c :: t, h => by simp at h
  | n + 1, c :: t, h => by
    have ih := rnl_eq n t (by simpa using h)
    unfold newlines at ih ⊢
    rw [rnl]
    by_cases hc : c = 13
    · subst hc
      rw [if_pos rfl]
      cases t with
      | nil => rfl
      | cons d t =>
        by_cases hd : d = 10
        · subst hd
          rw [if_pos (show (10 :: t).head? = some 10 from rfl), crlf_pair, ih, crlf_one 10 t (by simp [List.isPrefixOf])]
        · rw [if_neg (by simpa using hd), ih, crlf_one 13 (d :: t) (by simp [List.isPrefixOf]; exact fun h => hd h.symm), cr_cons, if_pos rfl]
    · rw [if_neg hc, ih, crlf_one c t (by simp [List.isPrefixOf]; intro h; exact absurd h.symm hc), cr_cons, if_neg hc]
theorem rnl_len : ∀ l : List UInt8, (rnl l).length ≤ l.length
  | [] => by simp [rnl]
  | c :: t => by
    have := rnl_len t
    rw [rnl]
    repeat' split
    all_goals simp; omega

set_option maxRecDepth 100000 in
set_option maxHeartbeats 1000000 in
theorem rNewlines_any (l : List UInt8) (w : World) (hs : l.length ≤ 1000000000) : Calls Tryd.prog 24 #[.string ⟨l.toArray⟩] w (Ret w (.string ⟨(newlines l).toArray⟩)) := by
  rw [← rnl_eq l.length l (Nat.le_refl _)]
  go_enter Tryd.func24, Tryd.ntmps24
  go_wp2_with fail
  go_loopw [3, 4] (fun v i wr => ∃ (k : Nat) (out : List UInt8), k ≤ l.length ∧ i = .int .i64 k ∧ OwnB w.heap.size wr v out ∧ Below w.heap.size w wr ∧ rnl l = out ++ rnl (l.drop k) ∧ out.length ≤ k) (fun _ i _ => l.length - (intOf i).toNat)
  case atStart => exact ⟨0, [], Nat.zero_le _, rfl, OwnB.nil _ _, Below.refl _ _, rfl, Nat.le_refl _⟩
  case round =>
    obtain ⟨k, out, hk, rfl, hown, hb, hR, hol⟩ := hrel
    have HR := Lib.hid hR; have HO := Lib.hid hown
    have hbs := hb.size
    clear hR hown
    by_cases hlt : k < l.length
    · have hdrop := List.drop_eq_getElem_cons hlt
      by_cases hc : l[k] = 13
      · have ht : ((l[k].toNat : Int) == 13) = true := by rw [hc]; rfl
        by_cases hn : k + 1 < l.length
        · by_cases hd : l[k + 1] = 10
          · have ht2 : ((l[k + 1].toNat : Int) == 10) = true := by rw [hd]; rfl
            have HR2 : Hid (rnl l = out ++ rnl (l.drop (k + 1))) := Lib.hid (by
              rw [HR.out, hdrop, rnl, if_pos hc, if_pos (by rw [List.head?_drop, List.getElem?_eq_getElem hn, hd])])
            clear hdrop hc hd HR
            go_wp2_with fail
            go_roundw
            case rel => exact ⟨k + 1, out, by omega, by go_num, HO.out, hb, HR2.out, by omega⟩
            case measure => simp [intOf]; omega
          · have ht2 : ((l[k + 1].toNat : Int) == 10) = false := by
              rw [Bool.eq_false_iff]; intro h; apply hd; rw [← UInt8.toNat_inj]; simp at h; exact Int.ofNat.inj h
            have HR2 : Hid (rnl l = (out ++ [10]) ++ rnl (l.drop (k + 1))) := Lib.hid (by
              rw [HR.out, hdrop, rnl, if_pos hc, if_neg (by rw [List.head?_drop, List.getElem?_eq_getElem hn]; simpa using hd), List.append_assoc]; rfl)
            clear hdrop hc hd HR
            go_wp2_with (at_builtin; refine append_byte rfl _ _ rfl w.heap.size _ out rfl HO.out 10 _ rfl (by omega) hbs ?_; intro v' w' hown' hb')
            go_roundw
            case rel => exact ⟨k + 1, out ++ [10], by omega, by go_num, hown', hb.trans hb', HR2.out, by simp; omega⟩
            case measure => simp [intOf]; omega
        · have HR2 : Hid (rnl l = (out ++ [10]) ++ rnl (l.drop (k + 1))) := Lib.hid (by
            rw [HR.out, hdrop, rnl, if_pos hc, if_neg (by rw [List.drop_of_length_le (by omega)]; simp), List.append_assoc]; rfl)
          clear hdrop hc HR
          go_wp2_with (at_builtin; refine append_byte rfl _ _ rfl w.heap.size _ out rfl HO.out 10 _ rfl (by omega) hbs ?_; intro v' w' hown' hb')
          go_roundw
          case rel => exact ⟨k + 1, out ++ [10], by omega, by go_num, hown', hb.trans hb', HR2.out, by simp; omega⟩
          case measure => simp [intOf]; omega
      · have ht : ((l[k].toNat : Int) == 13) = false := by
          rw [Bool.eq_false_iff]; intro h; apply hc; rw [← UInt8.toNat_inj]; simp at h; exact Int.ofNat.inj h
        have HR2 : Hid (rnl l = (out ++ [l[k]]) ++ rnl (l.drop (k + 1))) := Lib.hid (by
          rw [HR.out, hdrop, rnl, if_neg hc, List.append_assoc]; rfl)
        clear hdrop hc HR
        go_wp2_with (at_builtin; refine append_byte rfl _ _ rfl w.heap.size _ out rfl HO.out l[k] _ rfl (by omega) hbs ?_; intro v' w' hown' hb')
        go_roundw
        case rel => exact ⟨k + 1, out ++ [l[k]], by omega, by go_num, hown', hb.trans hb', HR2.out, by simp; omega⟩
        case measure => simp [intOf]; omega
    · obtain rfl : k = l.length := by omega
      have kc := own_convert HO.out
      have HR2 : Hid (rnl l = out) := Lib.hid (by rw [HR.out, List.drop_length, rnl, List.append_nil])
      clear HR
      go_wp2_with fail
      go_ret
      exact Ret.mk (by rw [HR2.out]; rfl) hb

set_option maxRecDepth 100000 in
set_option maxHeartbeats 1000000 in
/-- ref.Lower. -/
theorem rLower_any (l : List UInt8) (w : World) (hs : l.length ≤ 1000000000) : Calls Tryd.prog 51 #[.string ⟨l.toArray⟩] w (Ret w (.string ⟨(lowL l).toArray⟩)) := by
  go_enter Tryd.func51, Tryd.ntmps51
  go_wp2_with fail
  go_loopw [3, 4] (fun v i wr => ∃ k : Nat, k ≤ l.length ∧ i = .int .i64 k ∧ OwnB w.heap.size wr v (lowL (l.take k)) ∧ Below w.heap.size w wr) (fun _ i _ => l.length - (intOf i).toNat)
  case atStart => exact ⟨0, Nat.zero_le _, rfl, OwnB.nil _ _, Below.refl _ _⟩
  case round =>
    obtain ⟨k, hk, rfl, hown, hb⟩ := hrel
    have HO := Lib.hid hown
    have hbs := hb.size
    clear hown
    by_cases hlt : k < l.length
    · have HT : Hid (lowL (l.take (k + 1)) = lowL (l.take k) ++ [lowB l[k]]) := Lib.hid (by
        rw [List.take_succ_eq_append_getElem hlt]; simp only [lowL, List.map_append, List.map_cons, List.map_nil])
      have hlen : (lowL (l.take k)).length + 1 ≤ 100000000000 := by simp [lowL]; omega
      have h1 := rUpper_any l[k] wr
      cases hu : rUpper l[k]
      · rw [hu] at h1
        have H1 := Lib.hid h1
        have HB : Hid (lowB l[k] = l[k]) := Lib.hid (by
          simp only [rUpper, decide_eq_false_iff_not] at hu
          rw [lowB, if_neg]
          rw [UInt8.le_iff_toNat_le, UInt8.le_iff_toNat_le]; exact hu)
        clear h1 hu
        go_wp2_with (first | (at_builtin; refine append_byte rfl _ _ rfl w.heap.size _ _ rfl HO.out l[k] _ rfl hlen hbs ?_; intro v' w' hown' hb') | (refine H1.out.mono ?_; rintro e w' ⟨rfl, rfl⟩))
        go_roundw
        case rel => exact ⟨k + 1, by omega, by go_num, by rw [HT.out, HB.out]; exact hown', hb.trans hb'⟩
        case measure => simp [intOf]; omega
      · rw [hu] at h1
        have H1 := Lib.hid h1
        simp only [rUpper, decide_eq_true_eq] at hu
        have HV : Hid ((l[k].toNat : Int) + 32 = ((lowB l[k]).toNat : Int)) := Lib.hid <| by
          rw [lowB, if_pos (by rw [UInt8.le_iff_toNat_le, UInt8.le_iff_toNat_le]; exact hu), UInt8.toNat_add]
          have : (32 : UInt8).toNat = 32 := rfl
          rw [this]; omega
        clear h1
        go_wp2_with (first | (at_builtin; rw [HV.out]; refine append_byte rfl _ _ rfl w.heap.size _ _ rfl HO.out (lowB l[k]) _ rfl hlen hbs ?_; intro v' w' hown' hb') | (refine H1.out.mono ?_; rintro e w' ⟨rfl, rfl⟩))
        go_roundw
        case rel => exact ⟨k + 1, by omega, by go_num, by rw [HT.out]; exact hown', hb.trans hb'⟩
        case measure => simp [intOf]; omega
    · obtain rfl : k = l.length := by omega
      have kc := own_convert HO.out
      rw [List.take_length] at kc
      go_wp2_with fail
      go_ret
      exact Ret.mk rfl hb
end Go.Proofs.YtpfnakonpledgaaDoor
