/- text.piece: the piece that a string begins with. -/
import Derived.Test.YtgjodmjegmilhaaDoorDec1
import Derived.Test.YtgjodmjegmilhaaDoorTail
namespace Go.Proofs.YtgjodmjegmilhaaDoor
open Go.RowKit

theorem IsRest.at {w : World} {a : Option Addr} {n c : Nat} {r : List Span} (h : IsRest w (.slice a n c) r) : n = r.length ∧ ∀ j (hj : j < r.length), ∃ b, a = some ⟨b, 0, none⟩ ∧ w.cell? ⟨b, j * 2, none⟩ = some (.int .u8 (r[j].1 : Int)) ∧ w.cell? ⟨b, j * 2 + 1, none⟩ = some (.int .u8 (r[j].2 : Int)) := by
  rcases h with ⟨rfl, h⟩ | ⟨b, cap, h, hc⟩
  · cases h
    exact ⟨rfl, fun j hj => absurd hj (Nat.not_lt_zero _)⟩
  · cases h
    exact ⟨rfl, fun j hj => ⟨b, rfl, hc j hj⟩⟩
theorem formsL_rest {k : Nat} {f : Span × List Span} (hk : k < formsL.length) (hf : f = formsL[k]) : f.2.length ≤ 3 := by
  have : ∀ f ∈ formsL, f.2.length ≤ 3 := by decide
  exact this f (hf ▸ List.getElem_mem hk)
theorem pieceF_skip {fs : List (Span × List Span)} {k : Nat} {l : List UInt8} (hl : 0 < l.length) (hk : k < fs.length) {f : Span × List Span} (hf : f = fs[k]) (h : holdsS f.1 (l[0]'hl) = false) : pieceF (fs.drop k) l = pieceF (fs.drop (k + 1)) l := by
  cases l with
  | nil => simp at hl
  | cons c t =>
    rw [List.drop_eq_getElem_cons hk, pieceF]
    simp at h
    rw [← hf, h]; rfl
theorem pieceF_take {fs : List (Span × List Span)} {k : Nat} {l : List UInt8} (hl : 0 < l.length) (hk : k < fs.length) {f : Span × List Span} (hf : f = fs[k]) (h : holdsS f.1 (l[0]'hl) = true) : pieceF (fs.drop k) l = pieceRest (f.2.drop 0) (l.drop (0 + 1)) 0 := by
  cases l with
  | nil => simp at hl
  | cons c t =>
    rw [List.drop_eq_getElem_cons hk, pieceF]
    simp at h
    rw [← hf, h]; rfl
theorem pieceRest_end {r : List Span} {l : List UInt8} {i : Nat} (h : r.length ≤ i) : pieceRest (r.drop i) (l.drop (i + 1)) i = (i + 1, true) := by
  rw [List.drop_of_length_le h, pieceRest]
theorem pieceRest_short {r : List Span} {l : List UInt8} {i : Nat} (h : i < r.length) (hl : ¬ i + 1 < l.length) : pieceRest (r.drop i) (l.drop (i + 1)) i = (i + 1, false) := by
  rw [List.drop_eq_getElem_cons h, List.drop_of_length_le (show l.length ≤ i + 1 by omega), pieceRest]
theorem pieceRest_no {r : List Span} {l : List UInt8} {i : Nat} (h : i < r.length) (hl : i + 1 < l.length) (hh : holdsS r[i] l[i + 1] = false) : pieceRest (r.drop i) (l.drop (i + 1)) i = (i + 1, false) := by
  rw [List.drop_eq_getElem_cons h, List.drop_eq_getElem_cons hl, pieceRest]
  simp [hh]
theorem pieceRest_yes {r : List Span} {l : List UInt8} {i : Nat} (h : i < r.length) (hl : i + 1 < l.length) (hh : holdsS r[i] l[i + 1] = true) : pieceRest (r.drop i) (l.drop (i + 1)) i = pieceRest (r.drop (i + 1)) (l.drop (i + 1 + 1)) (i + 1) := by
  rw [List.drop_eq_getElem_cons h, List.drop_eq_getElem_cons hl, pieceRest]
  simp [hh]

set_option maxRecDepth 100000 in
set_option maxHeartbeats 4000000 in
theorem piece_any (v : Value) (l : List UInt8) (w : World) (hl : 0 < l.length) (hs : l.length ≤ 1000000000) (hv : IsForms w v formsL) :
    Calls Tryd.prog 51 #[v, .string ⟨l.toArray⟩] w (Ret w (.tuple #[.int .i64 (pieceL l).1, .bool (pieceL l).2])) := by
  have HV := Lib.hid hv; clear hv
  obtain ⟨b, cap, rfl, -⟩ := HV.out
  go_enter Tryd.func51, Tryd.ntmps51
  go_wp2_with fail
  go_loopw [12] (fun i wr => ∃ k : Nat, k ≤ formsL.length ∧ i = .int .i64 k ∧ Below w.heap.size w wr ∧ pieceL l = pieceF (formsL.drop k) l) (fun i _ => formsL.length - (intOf i).toNat)
  case atStart => exact ⟨0, Nat.zero_le _, rfl, Below.refl _ _, rfl⟩
  case round =>
    obtain ⟨wo, rfl⟩ : ∃ wo : World, wo = wr := ⟨_, rfl⟩
    obtain ⟨k, hk, rfl, hb, hP⟩ := hrel
    have HP := Lib.hid hP; clear hP
    have hk9 : formsL.length ≤ 9 := by decide
    by_cases hlt : k < formsL.length
    · obtain ⟨b', cap', hf, hc⟩ := HV.out.kept hb
      cases hf
      obtain ⟨h1, h2, r, h3, h4⟩ := hc k hlt
      clear hc
      obtain ⟨f, hf⟩ : ∃ f, f = formsL[k] := ⟨_, rfl⟩
      rw [← hf] at h1 h2 h4
      have h3r := formsL_rest hlt hf
      have HF := Lib.hid hf; clear hf
      obtain ⟨⟨lo, hi⟩, rs⟩ := f
      dsimp only at h3r
      have h4' : ∃ a n c, r = .slice a n c := by
        rcases h4 with ⟨-, rfl⟩ | ⟨c, cp, rfl, -⟩
        · exact ⟨_, _, _, rfl⟩
        · exact ⟨_, _, _, rfl⟩
      obtain ⟨ra, rn, rc, rfl⟩ := h4'
      obtain ⟨hrn, hat⟩ := h4.at
      clear h4
      subst hrn
      have H4 := Lib.hid hat; clear hat
      go_upto_region 4 with (fail)
      go_cut [21] (fun s21 wx => s21 = .bool (!holdsS (lo, hi) (l[0]'hl)) ∧ Below wo.heap.size wo wx ∧ wx.cell? ⟨wo.heap.size, 2, none⟩ = some (.slice ra rs.length rc))
      case first =>
        refine region_tail 4 mixed (by kernel_rfl) ?_
        intro W hW
        have hWb : Below wo.heap.size wo W := by subst hW; exact (balloc wo _).drew
        have g0 : W.cell? ⟨wo.heap.size, 0, none⟩ = some (.int .u8 lo) := by subst hW; go_cell
        have g1 : W.cell? ⟨wo.heap.size, 1, none⟩ = some (.int .u8 hi) := by subst hW; go_cell
        have g2 : W.cell? ⟨wo.heap.size, 2, none⟩ = some (.slice ra rs.length rc) := by subst hW; go_cell
        clear hW
        simp only [List.take_succ_cons, List.take_zero, List.drop_succ_cons, List.drop_zero]
        repeat still_step
        refine wpStill_nil ?_
        go_wp2_with (go_at_call 62; refine (holds_any _ _ _ _).mono ?_; rintro e w1 ⟨rfl, b1⟩)
        go_meet
        exact ⟨rfl, bthen hWb hWb.size b1, (b1.cell (p := ⟨wo.heap.size, 2, none⟩) (World.block_lt_of_cell? W _ g2)).trans g2⟩
      case rest =>
        obtain ⟨rfl, hbx, hcx⟩ := hcut
        clear h1 h2 h3
        cases hh : holdsS (lo, hi) (l[0]'hl)
        · have HH := Lib.hid hh; clear hh
          go_wp2_with fail
          go_roundw
          case rel => exact ⟨k + 1, by omega, by go_num, bthen hb hb.size hbx, HP.out.trans (pieceF_skip hl hlt HF.out HH.out)⟩
          case measure => simp [intOf]; omega
        · have HH := Lib.hid hh; clear hh
          have HQ : Hid (pieceL l = pieceRest (rs.drop 0) (l.drop (0 + 1)) 0) := Lib.hid (HP.out.trans (pieceF_take hl hlt HF.out HH.out))
          clear HP HF HH
          have B1 : Below w.heap.size w wc := bthen hb hb.size hbx
          have hwc : wo.heap.size ≤ wc.heap.size := hbx.size
          have HX := Lib.hid hbx
          have HC := Lib.hid hcx
          clear hb hbx
          go_wp2_with fail
          clear hcx
          go_loopw [25] (fun i w2 => ∃ j : Nat, j ≤ rs.length ∧ i = .int .i64 j ∧ Below wc.heap.size wc w2 ∧ pieceL l = pieceRest (rs.drop j) (l.drop (j + 1)) j) (fun i _ => rs.length - (intOf i).toNat)
          case atStart => exact ⟨0, Nat.zero_le _, rfl, Below.refl _ _, HQ.out⟩
          case round =>
            obtain ⟨j, hj, rfl, hb2, hQ⟩ := hrel
            have HQ2 := Lib.hid hQ; clear hQ HQ
            by_cases hjl : j < rs.length
            · obtain ⟨c, rfl, g1, g2⟩ := H4.out j hjl
              have hc := World.block_lt_of_cell? wo _ g1
              have g1' := ((HX.out.cell (p := ⟨c, j * 2, none⟩) hc).trans g1)
              have g2' := ((HX.out.cell (p := ⟨c, j * 2 + 1, none⟩) hc).trans g2)
              have e1 := (hb2.cell (p := ⟨c, j * 2, none⟩) (Nat.lt_of_lt_of_le hc hwc)).trans g1'
              have e2 := (hb2.cell (p := ⟨c, j * 2 + 1, none⟩) (Nat.lt_of_lt_of_le hc hwc)).trans g2'
              clear g1 g2 g1' g2'
              obtain ⟨sp, hsp⟩ : ∃ sp, sp = rs[j] := ⟨_, rfl⟩
              rw [← hsp] at e1 e2
              have HSP := Lib.hid hsp; clear hsp
              obtain ⟨p, q⟩ := sp
              by_cases hjn : j + 1 < l.length
              · have ht : decide ((l.length : Int) ≤ (j : Int) + 1) = false := by simp; omega
                have ht2 : decide (l.length ≤ j + 1) = false := by simp; omega
                go_upto_region 8 with (fail)
                go_cut [43] (fun s43 wx => s43 = .bool (!holdsS (p, q) (l[j + 1]'hjn)) ∧ Below wr.heap.size wr wx)
                case first =>
                  have hjn2 : (j : Int) + 1 < (l.length : Int) := by omega
                  have hw2 : 0 ≤ (j : Int) + 1 := by omega
                  have hw3 : ((j : Int) + 1).toNat = j + 1 := by omega
                  have hw : IntKind.i64.wrap ((j : Int) + 1) = (j : Int) + 1 := IntWalk.i64_in _ (by omega)
                  refine region_tail 11 mixed (by kernel_rfl) ?_
                  intro W hW
                  have hWb : Below wr.heap.size wr W := by subst hW; exact (balloc wr _).drew
                  have g0 : W.cell? ⟨wr.heap.size, 0, none⟩ = some (.int .u8 p) := by subst hW; go_cell
                  have g1 : W.cell? ⟨wr.heap.size, 1, none⟩ = some (.int .u8 q) := by subst hW; go_cell
                  clear hW
                  simp only [List.take_succ_cons, List.take_zero, List.drop_succ_cons, List.drop_zero]
                  repeat still_step
                  refine wpStill_nil ?_
                  go_wp2_with (go_at_call 62; refine (holds_any _ _ _ _).mono ?_; rintro e w1 ⟨rfl, b1⟩)
                  go_meet
                  exact ⟨rfl, bthen hWb hWb.size b1⟩
                case rest =>
                  obtain ⟨rfl, hb3⟩ := hcut
                  clear e1 e2 ht ht2
                  cases hh : holdsS (p, q) (l[j + 1]'hjn)
                  · have HE : Hid (pieceL l = (j + 1, false)) := Lib.hid (HQ2.out.trans (pieceRest_no hjl hjn (by rw [← HSP.out]; exact hh)))
                    clear hh
                    go_wp2_with fail
                    go_ret2
                    refine Ret.mk ?_ (bthen B1 B1.size (bthen hb2 hb2.size hb3))
                    rw [HE.out]; rfl
                  · have HE := Lib.hid (HQ2.out.trans (pieceRest_yes hjl hjn (by rw [← HSP.out]; exact hh)))
                    clear hh
                    go_wp2_with fail
                    go_roundw
                    case rel => exact ⟨j + 1, by omega, by go_num, bthen hb2 hb2.size hb3, HE.out⟩
                    case measure => simp [intOf]; omega
              · have ht : decide ((l.length : Int) ≤ (j : Int) + 1) = true := by simp; omega
                have ht2 : decide (l.length ≤ j + 1) = true := by simp; omega
                have HE : Hid (pieceL l = (j + 1, false)) := Lib.hid (HQ2.out.trans (pieceRest_short hjl hjn))
                go_upto_region 8 with (fail)
                go_cut [43] (fun s43 wx => s43 = .bool true ∧ Below wr.heap.size wr wx)
                case first =>
                  have hw2 : 0 ≤ (j : Int) + 1 := by omega
                  have hw3 : ((j : Int) + 1).toNat = j + 1 := by omega
                  have hw : IntKind.i64.wrap ((j : Int) + 1) = (j : Int) + 1 := IntWalk.i64_in _ (by omega)
                  refine region_tail 11 mixed (by kernel_rfl) ?_
                  intro W hW
                  have hWb : Below wr.heap.size wr W := by subst hW; exact (balloc wr _).drew
                  clear hW
                  simp only [List.take_succ_cons, List.take_zero, List.drop_succ_cons, List.drop_zero]
                  repeat still_step
                  refine wpStill_nil ?_
                  go_wp2_with fail
                  go_meet
                  exact ⟨rfl, hWb⟩
                case rest =>
                  obtain ⟨rfl, hb3⟩ := hcut
                  clear e1 e2 ht ht2
                  go_wp2_with fail
                  go_ret2
                  refine Ret.mk ?_ (bthen B1 B1.size (bthen hb2 hb2.size hb3))
                  rw [HE.out]; rfl
            · have HE : Hid (pieceL l = (j + 1, true)) := Lib.hid (HQ2.out.trans (pieceRest_end (by omega)))
              have HJ : Hid (rs.length = j) := Lib.hid (by omega)
              have hjl2 : ¬ (j : Int) < (rs.length : Int) := by omega
              have hcr : wr.cell? ⟨wo.heap.size, 2, none⟩ = some (.slice ra rs.length rc) := (hb2.cell (p := ⟨wo.heap.size, 2, none⟩) (World.block_lt_of_cell? _ _ HC.out)).trans HC.out
              go_wp2_with fail
              go_ret2
              refine Ret.mk ?_ (bthen B1 B1.size hb2)
              rw [HE.out, ← HJ.out]; rfl
    · have HE : Hid (pieceL l = (1, false)) := Lib.hid (HP.out.trans (by rw [List.drop_of_length_le (by omega)]; rfl))
      go_wp2_with fail
      go_ret2
      refine Ret.mk ?_ hb
      rw [HE.out]; rfl
end Go.Proofs.YtgjodmjegmilhaaDoor
