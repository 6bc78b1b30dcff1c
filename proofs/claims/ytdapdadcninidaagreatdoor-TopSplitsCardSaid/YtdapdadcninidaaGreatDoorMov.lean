/- Package dom: adopt, of a node of the same document; insert, of one node; Insert, Append. No condition but that the nodes are linked well. -/
import Derived.Test.YtdapdadcninidaaGreatDoorRul
import Derived.Test.YtdapdadcninidaaGreatDoorLoc
namespace Go.Proofs.YtdapdadcninidaaGreatDoor
open Go.RowKit
attribute [local go_sem ↓] Go.wp_at_zero Go.wp_at_succ

def cutQ (ns : List Nd) (h : Int) : List Nd := if cutE ns h = 0 then cutL ns h else ns
/-- adopt's two boxes, in a later world. -/
structure AdAt (B : Nat) (O O1 : List Nat) (ns1 : List Nd) (doc : Nat) (w w1 : World) : Prop where
  x0 : w1.heap[w.heap.size]? = some (.cells #[.pointer (some ⟨B, 0, none⟩)] 23 (0, 0))
  x1 : w1.heap[w.heap.size + 1]? = some (.cells #[.int .i64 (doc : Int)] 3 (0, 0))
  l : Loc B 2 O w O1 ns1 w1
theorem AdAt.cells {B : Nat} {O O1 : List Nat} {ns1 : List Nd} {doc : Nat} {w w1 : World} (h : AdAt B O O1 ns1 doc w w1) : w1.cell? ⟨w.heap.size, 0, none⟩ = some (.pointer (some ⟨B, 0, none⟩)) ∧ w1.cell? ⟨w.heap.size + 1, 0, none⟩ = some (.int .i64 (doc : Int)) :=
  ⟨by rw [cell_of_row _ _ _ _ _ _ h.x0]; rfl, by rw [cell_of_row _ _ _ _ _ _ h.x1]; rfl⟩
theorem AdAt.step {B : Nat} {O O1 : List Nat} {ns1 : List Nd} {doc : Nat} {w w1 w2 : World} (h : AdAt B O O1 ns1 doc w w1) (hb : Below w1.heap.size w1 w2) : AdAt B O O1 ns1 doc w w2 :=
  ⟨(hb.block _ (Array.getElem?_eq_some_iff.1 h.x0).1).trans h.x0, (hb.block _ (Array.getElem?_eq_some_iff.1 h.x1).1).trans h.x1, h.l.below hb⟩
set_option maxRecDepth 100000 in
set_option maxHeartbeats 2000000 in
theorem adopt_same (h : Int) (doc : Nat) (w : World) {B : Nat} {O : List Nat} {ns : List Nd} (hA : ArW B O ns w) (hf : Fit ns) (hc : isH ns.length h = true → CutOk ns h) (hf1 : Fit (cutQ ns h)) (hd : (descAt (cutQ ns h) h).doc = doc) :
    Calls Tryz.prog 119 #[.pointer (some ⟨B, 0, none⟩), .int .i64 h, .int .i64 (doc : Int)] w fun e w' => e = .returned (.tuple #[]) ∧ ∃ O', ArW B O' (cutQ ns h) w' ∧ AStep O w O' w' := by
  obtain ⟨W0, hW0⟩ : ∃ W0, (w.alloc (.cells #[.pointer (some ⟨B, 0, none⟩)] 23)).alloc (.cells #[.int .i64 (doc : Int)] 3) = W0 := ⟨_, rfl⟩
  obtain ⟨x0, x1, hs0, b0⟩ := two_new hW0
  have hL0 := Loc.start (n := 2) hA b0 hs0
  have H1 := Lib.hid (Cut_any h W0 hL0.ar hf.len hc)
  have H2 := Lib.hid (fun O1 w' (hb : ArW B O1 (cutQ ns h) w') => docOf_any h w' hb hf1)
  rw [hd] at H2
  have c0 : W0.cell? ⟨w.heap.size, 0, none⟩ = some (.pointer (some ⟨B, 0, none⟩)) := by rw [cell_of_row _ _ _ _ _ _ x0]; rfl
  have HW := Lib.hid hW0; have HL0 := Lib.hid hL0; have X0 := Lib.hid x0; have X1 := Lib.hid x1
  clear hA hf hc hf1 hd hW0 hL0 x0 x1 b0 hs0
  go_enter Tryz.func119, Tryz.ntmps119
  go_wp2_with fail
  rw [HW.out]
  go_wp2_with fail
  refine H1.out.mono ?_
  rintro e w1 hd
  obtain ⟨O1, hA1, hs1⟩ := hd.step HL0.out.ar
  obtain ⟨rfl, -⟩ := hd
  rw [show (if cutE ns h = 0 then cutL ns h else ns) = cutQ ns h from rfl] at hA1
  have hL1 := HL0.out.call hA1 hs1
  have y0 := (HL0.out.keep hs1 (b := w.heap.size) (by omega)).trans X0.out
  have y1 := (HL0.out.keep hs1 (b := w.heap.size + 1) (by omega)).trans X1.out
  have d0 : w1.cell? ⟨w.heap.size, 0, none⟩ = some (.pointer (some ⟨B, 0, none⟩)) := by rw [cell_of_row _ _ _ _ _ _ y0]; rfl
  have d1 : w1.cell? ⟨w.heap.size + 1, 0, none⟩ = some (.int .i64 (doc : Int)) := by rw [cell_of_row _ _ _ _ _ _ y1]; rfl
  have hC0 : AdAt B O O1 (cutQ ns h) doc w w1.drew := ⟨y0, y1, hL1.drew⟩
  obtain ⟨C, hC⟩ : ∃ C : World → Prop, C = AdAt B O O1 (cutQ ns h) doc w := ⟨_, rfl⟩
  rw [← hC] at hC0
  have HCC := Lib.hid hC
  clear hC hA1 hs1 hL1 y0 y1 H1 c0
  go_wp2_with fail
  refine region_class C (by kernel_rfl) (by kernel_rfl) hC0 ?_
  iterate 2
    refine wpQuiet_step (fun K hK => ?_)
    go_simp
    apply Exists.intro
    refine ⟨fun W hW => ?_, hK _ ?_⟩
    · first
        | exact rfl
        | (rw [HCC.out] at hW; obtain ⟨m0, m1⟩ := hW.cells; go_simp; exact rfl)
    clear hK K
  refine wpQuiet_step (fun K hK => ?_)
  go_simp
  apply Exists.intro
  refine ⟨fun W hW => ?_, hK _ ?_⟩
  · rw [HCC.out] at hW
    refine (H2.out O1 _ hW.l.ar).mono ?_
    rintro e w2 ⟨rfl, b2⟩
    exact ⟨rfl, by rw [HCC.out]; exact hW.step b2⟩
  clear hK K
  iterate 2
    refine wpQuiet_step (fun K hK => ?_)
    go_simp
    apply Exists.intro
    refine ⟨fun W hW => ?_, hK _ ?_⟩
    · first
        | exact rfl
        | (rw [HCC.out] at hW; obtain ⟨m0, m1⟩ := hW.cells; go_simp; exact rfl)
    clear hK K
  refine wpQuiet_nil ?_
  intro W2 hW2
  rw [HCC.out] at hW2
  have HF := Lib.hid (show ∃ O', ArW B O' (cutQ ns h) W2 ∧ AStep O w O' W2 from ⟨O1, hW2.l.ar, hW2.l.step⟩)
  clear hW2 HCC hC0 H2
  go_wp2_with fail
  refine bodyPost_ret (results_none rfl _ _ _) rfl ?_
  exact ⟨rfl, HF.out⟩
/-- insert, of a node that is no fragment. -/
noncomputable def insL (ns : List Nd) (p n c : Int) : List Nd := if putE (cutQ ns n) p n c = 0 then putL (cutQ ns n) p n c else cutQ ns n
structure InsOk (ns : List Nd) (p n c : Int) : Prop where
  fit : Fit ns
  kd : (descAt ns n).kind ≠ 2
  cut : isH ns.length n = true → CutOk ns n
  f1 : Fit (cutQ ns n)
  doc : (descAt (cutQ ns n) n).doc = (descAt ns p).doc
  put : PutOk (cutQ ns n) p n c
set_option maxRecDepth 100000 in
theorem nodes_one (h : Int) (w : World) {B : Nat} {O : List Nat} {ns : List Nd} (hA : ArW B O ns w) (hf : Fit ns) (hk : (descAt ns h).kind ≠ 2) :
    Calls Tryz.prog 160 #[.pointer (some ⟨B, 0, none⟩), .int .i64 h] w fun e w' => ∃ g, e = .returned (.slice (some ⟨g, 0, none⟩) 1 1) ∧ w.heap.size ≤ g ∧ g < w'.heap.size ∧ w'.cell? ⟨g, 0, none⟩ = some (.int .i64 h) ∧ Below w.heap.size w w' := by
  have H1 := Lib.hid (kind_any h w hA hf)
  generalize (descAt ns h).kind = k at *
  have hkb : (k == 2) = false := by simpa using hk
  clear hA hf hk
  go_enter Tryz.func160, Tryz.ntmps160
  go_wp2_with (go_at_call 81; refine H1.out.mono ?_; rintro e w1 ⟨rfl, b1⟩)
  go_ret
  exact ⟨w1.heap.size, rfl, b1.size, by simp, by simp, b1.alloc b1.size _⟩
set_option maxRecDepth 100000 in
set_option maxHeartbeats 2000000 in
theorem insert_one (p n c : Int) (w : World) {B : Nat} {O : List Nat} {ns : List Nd} (hA : ArW B O ns w) (hok : InsOk ns p n c) :
    Calls Tryz.prog 117 #[.pointer (some ⟨B, 0, none⟩), .int .i64 p, .int .i64 n, .int .i64 c] w fun e w' => e = .returned (.tuple #[]) ∧ ∃ O', ArW B O' (insL ns p n c) w' ∧ AStep O w O' w' := by
  obtain ⟨hf, hk, hc, hf1, hd, hp⟩ := hok
  have H1 := Lib.hid (docOf_any p w hA hf)
  have H2 := Lib.hid (fun w' (hb : Below w.heap.size w w') => nodes_one n w' (hA.later hb) hf hk)
  have H3 := Lib.hid (fun w' (hb : ArW B O ns w') => adopt_same n (descAt ns p).doc w' hb hf hc hf1 hd)
  have H4 := Lib.hid (fun O1 w' (hb : ArW B O1 (cutQ ns n) w') => Put_any p n c w' hb hf1 hp)
  generalize (descAt ns p).doc = doc at *
  have HA := Lib.hid hA
  have HE : Hid (insL ns p n c = if putE (cutQ ns n) p n c = 0 then putL (cutQ ns n) p n c else cutQ ns n) := Lib.hid rfl
  clear hA hf hk hc hf1 hd hp
  generalize insL ns p n c = res at *
  go_enter Tryz.func117, Tryz.ntmps117
  go_wp2_with fail
  refine H1.out.mono ?_
  rintro e w1 ⟨rfl, b1⟩
  have H5 := Lib.hid (H2.out w1 b1)
  have HB1 := Lib.hid b1
  clear H1 H2 b1
  go_wp2_with fail
  refine H5.out.mono ?_
  rintro e w2 ⟨g, rfl, hg1, hg2, hgc, b2⟩
  have HB2 := Lib.hid (bthen HB1.out HB1.out.size b2)
  have HAg := Lib.hid (HA.out.later (bthen HB1.out HB1.out.size b2))
  have HG := Lib.hid (show w.heap.size ≤ g ∧ g < w2.heap.size from ⟨Nat.le_trans HB1.out.size hg1, hg2⟩)
  clear b2 hg1 hg2 H5
  go_wp2_with fail
  go_loopw [18] (fun i wr => (i = .int .i64 0 ∧ wr = w2) ∨ (i = .int .i64 1 ∧ ∃ O', ArW B O' res wr ∧ AStep O w O' wr)) (fun i _ => 1 - (intOf i).toNat)
  case atStart => exact .inl ⟨rfl, rfl⟩
  case round =>
    rcases hrel with ⟨rfl, rfl⟩ | ⟨rfl, hfin⟩
    · have H6 := Lib.hid (H3.out _ HAg.out)
      go_wp2_with fail
      refine H6.out.mono ?_
      rintro e w3 ⟨rfl, O1, hA1, hs1⟩
      have H7 := Lib.hid (H4.out O1 w3 hA1)
      have HA1 := Lib.hid hA1; have HS1 := Lib.hid hs1
      clear hA1 hs1 H6
      go_wp2_with fail
      refine H7.out.mono ?_
      rintro e w4 hd
      obtain ⟨O2, hA2, hs2⟩ := hd.step HA1.out
      obtain ⟨rfl, -⟩ := hd
      rw [← HE.out] at hA2
      have HF := Lib.hid (show ∃ O', ArW B O' res w4 ∧ AStep O w O' w4 from ⟨O2, hA2, (astep_pre HB2.out HS1.out).trans hs2⟩)
      clear hA2 hs2 H7
      go_wp2_with fail
      go_roundw
      case rel => exact .inr ⟨rfl, HF.out⟩
      case measure => simp [intOf]
    · have HF := Lib.hid hfin
      clear hfin
      go_wp2_with fail
      go_end0
      exact ⟨rfl, HF.out⟩
end Go.Proofs.YtdapdadcninidaaGreatDoor
/- Package dom: Validate, Insert, Append, of one node. No condition but that the nodes are linked well. -/
namespace Go.Proofs.YtdapdadcninidaaGreatDoor
open Go.RowKit
attribute [local go_sem ↓] Go.wp_at_zero Go.wp_at_succ

theorem RulB.later {b1 b2 b3 b4 b5 b6 : Bool} {m : Value} {w w1 : World} (h : RulB b1 b2 b3 b4 b5 b6 m w) (hb : Below w.heap.size w w1) : RulB b1 b2 b3 b4 b5 b6 m w1 :=
  ⟨fun w' h' => h.h1 w' (bthen hb hb.size h'), fun w' h' => h.h2 w' (bthen hb hb.size h'), fun w' h' => h.h3 w' (bthen hb hb.size h'), fun w' h' => h.h4 w' (bthen hb hb.size h'), fun w' h' => h.h5 w' (bthen hb hb.size h'), fun w' h' => h.h6 w' (bthen hb hb.size h')⟩
/-- Validate's answer: the handles' error, or the rules' word. -/
def valE (n : Nat) (p k c er : Int) : Int := if chkD n 2 [p, k, c] = 0 then er else chkD n 2 [p, k, c]
set_option maxRecDepth 100000 in
set_option maxHeartbeats 1000000 in
theorem Validate_any (p n c : Int) (w : World) {B : Nat} {O : List Nat} {ns : List Nd} {b1 b2 b3 b4 b5 b6 : Bool} (hA : ArW B O ns w) (hf : Fit ns) (hR : chkD ns.length 2 [p, n, c] = 0 → RulB b1 b2 b3 b4 b5 b6 (mvV B p n c false) w) :
    Calls Tryz.prog 116 #[.pointer (some ⟨B, 0, none⟩), .int .i64 p, .int .i64 n, .int .i64 c] w (Ret w (.int .i64 (valE ns.length p n c (firstE b1 b2 b3 b4 b5 b6)))) := by
  obtain ⟨W0, hW0⟩ : ∃ W0, w.alloc (.cells #[.int .i64 p, .int .i64 n, .int .i64 c] 3) = W0 := ⟨_, rfl⟩
  have b0 : Below w.heap.size w W0 := by rw [← hW0]; exact balloc w _
  have hbx : W0.heap[w.heap.size]? = some (.cells #[.int .i64 p, .int .i64 n, .int .i64 c] 3 (0, 0)) := by rw [← hW0]; exact World.alloc_heap_new w _
  have hs0 : W0.heap.size = w.heap.size + 1 := by rw [← hW0]; simp
  have H1 := checkD_any (B := B) (H := w.heap.size) (c := 3) 2 [p, n, c] W0 (hA.later b0) hf (by
    intro j v hj
    match j, hj with
    | 0, hj => simp at hj; subst hj; rw [cell_of_row _ _ _ _ _ _ hbx]; rfl
    | 1, hj => simp at hj; subst hj; rw [cell_of_row _ _ _ _ _ _ hbx]; rfl
    | 2, hj => simp at hj; subst hj; rw [cell_of_row _ _ _ _ _ _ hbx]; rfl) (by simp) (by omega)
  have HV : Hid (valE ns.length p n c (firstE b1 b2 b3 b4 b5 b6) = if chkD ns.length 2 [p, n, c] = 0 then firstE b1 b2 b3 b4 b5 b6 else chkD ns.length 2 [p, n, c]) := Lib.hid rfl
  generalize valE ns.length p n c (firstE b1 b2 b3 b4 b5 b6) = res at *
  generalize chkD ns.length 2 [p, n, c] = ce at *
  have H1 := Lib.hid H1; have HW := Lib.hid hW0; have HB0 := Lib.hid b0
  clear hA hf hbx hs0 hW0 b0
  by_cases hce : ce = 0
  · have HR := Lib.hid (hR hce)
    subst hce
    have HV2 := Lib.hid (HV.out.trans (if_pos rfl))
    clear hR HV
    unfold mvV at *
    go_enter Tryz.func116, Tryz.ntmps116
    go_wp2_with fail
    rw [HW.out]
    refine H1.out.mono ?_
    rintro e w1 ⟨rfl, b1⟩
    have HB1 := Lib.hid (bthen HB0.out HB0.out.size b1)
    have H2 := Lib.hid (refused_any p n c false w1 (B := B) (HR.out.later HB1.out))
    unfold mvV at *
    clear b1 H1
    go_wp2_with fail
    refine H2.out.mono ?_
    rintro e w2 ⟨rfl, b2⟩
    have HB2 := Lib.hid (bthen HB1.out HB1.out.size b2)
    clear b2 H2
    go_wp2_with fail
    go_ret
    exact Ret.mk (by rw [HV2.out]; rfl) HB2.out
  · have HV2 := Lib.hid (HV.out.trans (if_neg hce))
    have hcb : (ce != 0) = true := by simpa using hce
    clear hR HV hce
    go_enter Tryz.func116, Tryz.ntmps116
    go_wp2_with fail
    rw [HW.out]
    refine H1.out.mono ?_
    rintro e w1 ⟨rfl, b1⟩
    have HB1 := Lib.hid (bthen HB0.out HB0.out.size b1)
    clear b1 H1
    go_wp2_with fail
    go_ret
    exact Ret.mk (by rw [HV2.out]; rfl) HB1.out
set_option maxRecDepth 100000 in
set_option maxHeartbeats 1000000 in
/-- Insert, where nothing refuses. -/
theorem Insert_one (p n c : Int) (w : World) {B : Nat} {O : List Nat} {ns : List Nd} (hA : ArW B O ns w) (hc : chkD ns.length 2 [p, n, c] = 0) (hR : RulB false false false false false false (mvV B p n c false) w) (hne : c ≠ n) (hok : InsOk ns p n c) :
    Calls Tryz.prog 67 #[.pointer (some ⟨B, 0, none⟩), .int .i64 p, .int .i64 n, .int .i64 c] w fun e w' => e = .returned (.int .i64 0) ∧ ∃ O', ArW B O' (insL ns p n c) w' ∧ AStep O w O' w' := by
  have H1 := Validate_any p n c w hA hok.fit (fun _ => hR)
  rw [show valE ns.length p n c (firstE false false false false false false) = 0 by rw [valE, if_pos hc]; rfl] at H1
  have H1 := Lib.hid H1
  have H2 := Lib.hid (fun w' (hb : Below w.heap.size w w') => insert_one p n c w' (hA.later hb) hok)
  have hnb : (c == n) = false := by simpa using hne
  clear hA hc hR hne hok
  generalize insL ns p n c = res at *
  go_enter Tryz.func67, Tryz.ntmps67
  go_wp2_with fail
  refine H1.out.mono ?_
  rintro e w1 ⟨rfl, b1⟩
  have H3 := Lib.hid (H2.out w1 b1)
  have HB1 := Lib.hid b1
  clear b1 H1 H2
  go_wp2_with fail
  refine H3.out.mono ?_
  rintro e w2 ⟨rfl, O2, hA2, hs2⟩
  have HF := Lib.hid (show ∃ O', ArW B O' res w2 ∧ AStep O w O' w2 from ⟨O2, hA2, astep_pre HB1.out hs2⟩)
  clear hA2 hs2 H3
  go_wp2_with fail
  go_ret
  exact ⟨rfl, HF.out⟩
set_option maxRecDepth 100000 in
theorem Append_one (p n : Int) (w : World) {B : Nat} {O : List Nat} {ns : List Nd} (hA : ArW B O ns w) (hc : chkD ns.length 2 [p, n, 0] = 0) (hR : RulB false false false false false false (mvV B p n 0 false) w) (hne : (0 : Int) ≠ n) (hok : InsOk ns p n 0) :
    Calls Tryz.prog 34 #[.pointer (some ⟨B, 0, none⟩), .int .i64 p, .int .i64 n] w fun e w' => e = .returned (.int .i64 0) ∧ ∃ O', ArW B O' (insL ns p n 0) w' ∧ AStep O w O' w' := by
  have H1 := Lib.hid (Insert_one p n 0 w hA hc hR hne hok)
  clear hA hc hR hne hok
  generalize insL ns p n 0 = res at *
  go_enter Tryz.func34, Tryz.ntmps34
  go_wp2_with fail
  refine H1.out.mono ?_
  rintro e w1 ⟨rfl, hfin⟩
  have HF := Lib.hid hfin
  clear hfin H1
  go_wp2_with fail
  go_ret
  exact ⟨rfl, HF.out⟩
end Go.Proofs.YtdapdadcninidaaGreatDoor
