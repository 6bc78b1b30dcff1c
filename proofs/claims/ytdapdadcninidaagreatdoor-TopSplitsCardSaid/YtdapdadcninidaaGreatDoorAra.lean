/- Package arena: cut and Cut. -/
import Derived.Test.YtdapdadcninidaaGreatDoorAr9
namespace Go.Proofs.YtdapdadcninidaaGreatDoor
open Go.RowKit
attribute [local go_sem ↓] Go.wp_at_zero Go.wp_at_succ

/-- A node whose parent has it among its children. -/
structure CutOk (ns : List Nd) (h : Int) : Prop where
  here : isH ns.length h = true
  par : (ndAt ns h).parent ≠ 0 → isH ns.length (ndAt ns h).parent = true ∧ h.toNat ∈ (ndAt ns (ndAt ns h).parent).kids ∧ (ndAt ns (ndAt ns h).parent).kids.length ≤ 1000000 ∧ ((ndAt ns h).parent : Int) ≠ h
theorem AStep.refl (O : List Nat) (w : World) : AStep O w O w := ⟨Mod.refl _ _, fun _ hk => .inl hk⟩
set_option maxRecDepth 100000 in
set_option maxHeartbeats 400000 in
theorem cut_any (h : Int) (w : World) {B : Nat} {O : List Nat} {ns : List Nd} (hA : ArW B O ns w) (hl : ns.length ≤ 1000000) (hc : CutOk ns h) :
    Calls Tryz.prog 47 #[.pointer (some ⟨B, 0, none⟩), .int .i64 h] w fun e w' => e = .returned (.tuple #[]) ∧ w'.cell? ⟨B, 0, none⟩ = w.cell? ⟨B, 0, none⟩ ∧ ∃ O', ArW B O' (cutL ns h) w' ∧ AStep O w O' w' := by
  obtain ⟨hh, hpar⟩ := hc
  obtain ⟨g, cap, kv, av, i, hi, hx, c0, hn, -, -, hat⟩ := atW_any h w hA hh hl
  have c1 := hn.c1
  by_cases hp0 : (ndAt ns h).parent = 0
  · rw [hp0] at c1
    have H1 := Lib.hid (hat w rfl)
    have HF := Lib.hid (show w.cell? ⟨B, 0, none⟩ = w.cell? ⟨B, 0, none⟩ ∧ ∃ O', ArW B O' (cutL ns h) w ∧ AStep O w O' w from ⟨rfl, O, by rw [cutL, if_pos hp0]; exact hA, AStep.refl O w⟩)
    clear hh hpar hn c0 hat hx hi hA hp0 hl
    go_enter Tryz.func47, Tryz.ntmps47
    go_wp2_with (go_at_call 37; refine H1.out.mono ?_; rintro e w1 ⟨rfl, rfl⟩)
    refine bodyPost_ret (results_none rfl _ _ _) rfl ?_
    exact ⟨rfl, rfl, HF.out.2⟩
  · obtain ⟨hph, hmem, hkl, hne⟩ := hpar hp0
    obtain ⟨p, hpe⟩ : ∃ p : Int, ((ndAt ns h).parent : Int) = p := ⟨_, rfl⟩
    have hcut : cutL ns h = setNd (setNd ns p { ndAt ns p with kids := (ndAt ns p).kids.erase h.toNat }) h { ndAt (setNd ns p { ndAt ns p with kids := (ndAt ns p).kids.erase h.toNat }) h with parent := 0 } := by rw [cutL, if_neg hp0, hpe]
    have hpz : p ≠ 0 := by omega
    rw [hpe] at hph hmem hkl hne c1
    clear hpar
    obtain ⟨g', cap', kvp, avp, ip, hip, hxp, c0', hnp, hkp, -, hatp⟩ := atW_any p w hA hph hl
    have hgg : g' = g ∧ cap' = cap := by
      rw [c0] at c0'
      injection c0' with c0'
      injection c0' with e1 e2 e3
      injection e1 with e1
      injection e1 with e1
      exact ⟨e1.symm, e3.symm⟩
    obtain ⟨rfl, rfl⟩ := hgg
    have hil : i < ns.length := (List.getElem?_eq_some_iff.1 hx).1
    have hipl : ip < ns.length := (List.getElem?_eq_some_iff.1 hxp).1
    have hii : i ≠ ip := by rintro rfl; exact hne (by rw [hi, hip])
    have c2 := hnp.c2
    obtain ⟨far1, far2, far3⟩ := hA.far hipl c0 c2
    obtain ⟨q, hq1, hq2, hq3⟩ := kidIdx_mem hmem
    have hht : ((h.toNat : Nat) : Int) = h := by omega
    rw [hht] at hq2
    have HX := kidIndex_any (ndAt ns p).kids h kvp w hkp
    rw [hq2] at HX
    have HDl := kidDelete_any (ndAt ns p).kids q kvp w hkp hq1 (by omega)
    rw [hq3] at HDl
    have hgw : g' < w.heap.size := by
      have := hn.c1
      exact World.block_lt_of_cell? _ _ this
    have hBw : B < w.heap.size := World.block_lt_of_cell? _ _ c0
    have fp2 := hnp.fz 2 (by omega)
    have fi1 := hn.fz 1 (by omega)
    have HKids := Lib.hid (fun (v' : Value) (w1 : World) (hr : w1.ownsRow 0 3 1 v' ((ndAt ns p).kids.erase h.toNat).length (kidCells ((ndAt ns p).kids.erase h.toNat))) (hb : v'.ownBlock = kvp.ownBlock) (hm : Mod (fun k => kvp.ownBlock = some k) w w1) =>
      show w1.cell? ⟨g', i * 13 + 1, none⟩ = some (.int .i64 p) ∧ w1.cell? ⟨g', ip * 13 + 2, none⟩ = some kvp ∧ w1.frozen? ⟨g', ip * 13 + 2, none⟩ = false ∧ w1.frozen? ⟨g', i * 13 + 1, none⟩ = false ∧ v'.oneCell' = true ∧
        ((w1.setCell ⟨g', ip * 13 + 2, none⟩ v').setCell ⟨g', i * 13 + 1, none⟩ (.int .i64 0)).cell? ⟨B, 0, none⟩ = w.cell? ⟨B, 0, none⟩ ∧ ∃ O', ArW B O' (cutL ns h) ((w1.setCell ⟨g', ip * 13 + 2, none⟩ v').setCell ⟨g', i * 13 + 1, none⟩ (.int .i64 0)) ∧ AStep O w O' ((w1.setCell ⟨g', ip * 13 + 2, none⟩ v').setCell ⟨g', i * 13 + 1, none⟩ (.int .i64 0)) from by
      refine ⟨(hm.cell (p := ⟨g', _, none⟩) hgw far1).trans c1, (hm.cell (p := ⟨g', _, none⟩) hgw far1).trans c2, (hm.frozen (p := ⟨g', _, none⟩) hgw far1).trans fp2, (hm.frozen (p := ⟨g', _, none⟩) hgw far1).trans fi1, ownsRow_one hr, ?_⟩
      obtain ⟨O2, hA2, hS2⟩ := hA.kids hxp c0 c2 hm hr (.inl hb)
      have hs1 : ns.set ip { ndAt ns p with kids := (ndAt ns p).kids.erase h.toNat } = setNd ns p { ndAt ns p with kids := (ndAt ns p).kids.erase h.toNat } := by rw [setNd, hip]; congr 1; omega
      rw [hs1] at hA2
      rw [hcut]
      generalize hN : setNd ns p { ndAt ns p with kids := (ndAt ns p).kids.erase h.toNat } = N at *
      have hxi : N[i]? = some (ndAt N h) := by
        have hiN : i < N.length := by rw [← hN, setNd, List.length_set]; exact hil
        rw [List.getElem?_eq_getElem hiN, hi, ndAt_at (List.getElem?_eq_getElem hiN)]
      have hc0 : (w1.setCell ⟨g', ip * 13 + 2, none⟩ v').cell? ⟨B, 0, none⟩ = some (.slice (some ⟨g', 0, none⟩) ns.length cap') := by
        rw [World.cell?_setCell_far _ _ _ _ far3]; exact (hm.cell (p := ⟨B, 0, none⟩) hBw far2).trans c0
      have hp := hA2.put (j := 1) (d' := { ndAt N h with parent := 0 }) (v := .int .i64 0) hxi hc0 (by omega) (fun _ _ => rfl) rfl rfl
      have hs2 : N.set i { ndAt N h with parent := 0 } = setNd N h { ndAt N h with parent := 0 } := by rw [setNd, hi]; congr 1; omega
      rw [hs2] at hp
      exact ⟨by rw [World.cell?_setCell_far _ _ _ _ far3, World.cell?_setCell_far _ _ _ _ far3]; exact hm.cell (p := ⟨B, 0, none⟩) hBw far2, O2, hp.1, hS2.trans hp.2⟩)
    have hslot : ¬ (i * 13 + 1 = ip * 13 + 2) := by omega
    have H1 := Lib.hid (hat w rfl)
    have H2 := Lib.hid (hatp w rfl)
    obtain ⟨y, hy⟩ : ∃ y : Int, (q : Int) = y := ⟨_, rfl⟩
    have hy1 : ((q + 1 : Nat) : Int) = y + 1 := by omega
    have hy0 : 0 ≤ y ∧ y ≤ 1000000 := by omega
    rw [hy, hy1] at HDl
    rw [hy] at HX
    replace HX := Lib.hid HX
    replace HDl := Lib.hid HDl
    have hpq : (p == 0) = false := by simpa using hpz
    obtain ⟨ka, kc, rfl⟩ := ownsRow_slice hkp
    clear hh hph hmem hkl hne hn hnp c0 c0' hat hatp hx hxp hi hip hA hkp hl hp0 hpe hcut hil hipl hii far1 far2 far3 hq1 hq2 hq3 hht hgw hBw hy hy1 hpz fp2 fi1
    go_enter Tryz.func47, Tryz.ntmps47
    go_wp2_with fail
    refine H1.out.mono ?_
    rintro e w1 ⟨rfl, rfl⟩
    go_wp2_with fail
    refine H2.out.mono ?_
    rintro e w1 ⟨rfl, rfl⟩
    go_wp2_with fail
    refine HX.out.mono ?_
    rintro e w1 ⟨rfl, rfl⟩
    clear H1 H2 HX
    go_wp2_with (go_at_call 89; refine HDl.out.mono ?_; rintro e w1 ⟨v', rfl, hr1, hb1, hm1⟩; obtain ⟨k1, k2, k3, k4, k5, k6⟩ := HKids.out v' w1 hr1 hb1 hm1; obtain ⟨va, vc, rfl⟩ := ownsRow_slice hr1; have K6 := Lib.hid k6; clear k6 hr1 hb1 hm1)
    go_end0
    exact ⟨rfl, K6.out⟩
/-- The error of Cut. -/
def cutE (ns : List Nd) (h : Int) : Int := if isH ns.length h then 0 else 3
set_option maxRecDepth 100000 in
set_option maxHeartbeats 400000 in
theorem Cut_any (h : Int) (w : World) {B : Nat} {O : List Nat} {ns : List Nd} (hA : ArW B O ns w) (hl : ns.length ≤ 1000000) (hc : isH ns.length h = true → CutOk ns h) :
    Calls Tryz.prog 32 #[.pointer (some ⟨B, 0, none⟩), .int .i64 h] w (Did B O w (cutE ns h) (cutL ns h)) := by
  obtain ⟨W0, hW0⟩ : ∃ W0, w.alloc (.cells #[.int .i64 h] 3) = W0 := ⟨_, rfl⟩
  have b0 : Below w.heap.size w W0 := by rw [← hW0]; exact balloc w _
  have hbx : W0.heap[w.heap.size]? = some (.cells #[.int .i64 h] 3) := by rw [← hW0]; exact World.alloc_heap_new w _
  have hA0 := hA.later b0
  have H1 := check_any (B := B) (H := w.heap.size) (c := 1) [h] W0 hA0 (by intro j v hj; match j, hj with | 0, hj => simp at hj; subst hj; rw [cell_of_row _ _ _ _ _ _ hbx]; rfl) (by simp)
  have HW := Lib.hid hW0
  cases hh : isH ns.length h
  · rw [show chkH ns.length [h] = 3 by simp [chkH, hh]] at H1
    have he : cutE ns h = 3 := by simp [cutE, hh]
    have HF := Lib.hid (show Did B O w (cutE ns h) (cutL ns h) (.returned (.int .i64 3)) W0 from ⟨by rw [he], .inl ⟨by rw [he]; decide, b0⟩⟩)
    replace H1 := Lib.hid H1
    clear hh he hA hA0 b0 hbx hW0 hc
    go_enter Tryz.func32, Tryz.ntmps32
    go_wp2_with fail
    rw [HW.out]
    refine H1.out.mono ?_
    rintro e w1 ⟨rfl, rfl⟩
    go_wp2_with fail
    go_ret
    exact HF.out
  · rw [show chkH ns.length [h] = 0 by simp [chkH, hh]] at H1
    have he : cutE ns h = 0 := by simp [cutE, hh]
    have H2 := Lib.hid (cut_any h W0 hA0 hl (hc hh))
    have HF := Lib.hid (fun (w' : World) (hr : w'.cell? ⟨B, 0, none⟩ = W0.cell? ⟨B, 0, none⟩ ∧ ∃ O', ArW B O' (cutL ns h) w' ∧ AStep O W0 O' w') => show Did B O w (cutE ns h) (cutL ns h) (.returned (.int .i64 0)) w' from by
      obtain ⟨-, O', h1, h2⟩ := hr
      exact ⟨by rw [he], .inr ⟨he, O', h1, astep_pre b0 h2⟩⟩)
    replace H1 := Lib.hid H1
    clear hh he hA hA0 b0 hbx hW0 hc
    go_enter Tryz.func32, Tryz.ntmps32
    go_wp2_with fail
    rw [HW.out]
    refine H1.out.mono ?_
    rintro e w1 ⟨rfl, rfl⟩
    go_wp2_with fail
    refine H2.out.mono ?_
    rintro e w2 ⟨rfl, hr⟩
    have HR := Lib.hid hr
    clear hr
    go_wp2_with fail
    go_ret
    exact HF.out _ HR.out
end Go.Proofs.YtdapdadcninidaaGreatDoor
