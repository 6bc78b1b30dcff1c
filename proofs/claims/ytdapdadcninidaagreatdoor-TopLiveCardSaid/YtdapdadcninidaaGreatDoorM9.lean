/- Package dom: adopt, of a node of the same document; insert, of one node; Insert, Append. No condition but that the nodes are linked well. Package dom: what adopt leans on, plain: the cut state, ranks below it, what its loop keeps. Package dom: join. No condition but that each node's parent has it. Package dom: Split. No condition but that the nodes are linked well at the text. Package dom: TextContent, of an element. No condition but that the tree below it ends and the texts fit. Package dom: adopt, in all cases. No condition but the invariant. -/
import Derived.Test.YtdapdadcninidaaGreatDoorM8
import Derived.Test.YtdapdadcninidaaGreatDoorM6
import Derived.Test.YtdapdadcninidaaGreatDoorM3
import Derived.Sort.QuietTacIn
set_option linter.unusedSimpArgs false
set_option linter.unusedVariables false
namespace Go.Proofs.YtdapdadcninidaaGreatDoor
open Go.RowKit
attribute [local go_sem ↓] Go.wp_at_zero Go.wp_at_succ

def cutQ (ns : List Nd) (h : Int) : List Nd := if cutE ns h = 0 then cutL ns h else ns
/-- adopt's two boxes, in a later world. -/
structure AdAt (B : AB) (O O1 : List Nat) (ns1 : List Nd) (doc : Nat) (w w1 : World) : Prop where
  x0 : w1.heap[w.heap.size]? = some (.cells #[.pointer (some ⟨B, 0, none⟩)] 23 (0, 0))
  x1 : w1.heap[w.heap.size + 1]? = some (.cells #[.int .i64 (doc : Int)] 3 (0, 0))
  l : Loc B 2 O w O1 ns1 w1
theorem AdAt.cells {B : AB} {O O1 : List Nat} {ns1 : List Nd} {doc : Nat} {w w1 : World} (h : AdAt B O O1 ns1 doc w w1) : w1.cell? ⟨w.heap.size, 0, none⟩ = some (.pointer (some ⟨B, 0, none⟩)) ∧ w1.cell? ⟨w.heap.size + 1, 0, none⟩ = some (.int .i64 (doc : Int)) :=
  ⟨by rw [cell_of_row _ _ _ _ _ _ h.x0]; rfl, by rw [cell_of_row _ _ _ _ _ _ h.x1]; rfl⟩
theorem AdAt.step {B : AB} {O O1 : List Nat} {ns1 : List Nd} {doc : Nat} {w w1 w2 : World} (h : AdAt B O O1 ns1 doc w w1) (hb : Below w1.heap.size w1 w2) : AdAt B O O1 ns1 doc w w2 :=
  ⟨(hb.block _ (Array.getElem?_eq_some_iff.1 h.x0).1).trans h.x0, (hb.block _ (Array.getElem?_eq_some_iff.1 h.x1).1).trans h.x1, h.l.below hb⟩
set_option maxRecDepth 100000 in
set_option maxHeartbeats 2000000 in
theorem adopt_same (h : Int) (doc : Nat) (w : World) {B : AB} {O : List Nat} {ns : List Nd} (hA : ArW B O ns w) (hf : Fit ns) (hc : isH ns.length h = true → CutOk ns h) (hf1 : Fit (cutQ ns h)) (hd : (descAt (cutQ ns h) h).doc = doc) :
    Calls Tryz.prog 119 #[.pointer (some ⟨B, 0, none⟩), .int .i64 h, .int .i64 (doc : Int)] w fun e w' => e = .returned (.tuple #[]) ∧ ∃ O', ArW B O' (cutQ ns h) w' ∧ AStep O w O' w' := by
  obtain ⟨W0, hW0⟩ : ∃ W0, (w.alloc (.cells #[.pointer (some ⟨B, 0, none⟩)] 23)).alloc (.cells #[.int .i64 (doc : Int)] 3) = W0 := ⟨_, rfl⟩
  obtain ⟨x0, x1, hs0, b0⟩ := two_new hW0
  have hL0 := Loc.start (n := 2) hA b0 hs0
  have H1 := Lib.hid (Cut_any h W0 hL0.ar hf.len hc)
  have H2 := Lib.hid (fun O1 w' (hb : ArW B O1 (cutQ ns h) w') => docOf_any h w' hb hf1)
  rw [hd] at H2
  have c0 : W0.cell? ⟨w.heap.size, 0, none⟩ = some (.pointer (some ⟨B, 0, none⟩)) := by rw [cell_of_row _ _ _ _ _ _ x0]; rfl
  have HW := Lib.hid hW0; have HL0 := Lib.hid hL0; have X0 := Lib.hid x0; have X1 := Lib.hid x1
  clear hA hf hc hf1 hd hW0 hL0 x0 x1 b0 hs0
  go_enter Tryz.func119, Tryz.ntmps119
  go_wp2_with fail
  rw [HW.out]
  go_wp2_with fail
  refine H1.out.mono ?_
  rintro e w1 hd
  obtain ⟨O1, hA1, hs1⟩ := hd.step HL0.out.ar
  obtain ⟨rfl, -⟩ := hd
  rw [show (if cutE ns h = 0 then cutL ns h else ns) = cutQ ns h from rfl] at hA1
  have hL1 := HL0.out.call hA1 hs1
  have y0 := (HL0.out.keep hs1 (b := w.heap.size) (by omega)).trans X0.out
  have y1 := (HL0.out.keep hs1 (b := w.heap.size + 1) (by omega)).trans X1.out
  have d0 : w1.cell? ⟨w.heap.size, 0, none⟩ = some (.pointer (some ⟨B, 0, none⟩)) := by rw [cell_of_row _ _ _ _ _ _ y0]; rfl
  have d1 : w1.cell? ⟨w.heap.size + 1, 0, none⟩ = some (.int .i64 (doc : Int)) := by rw [cell_of_row _ _ _ _ _ _ y1]; rfl
  have hC0 : AdAt B O O1 (cutQ ns h) doc w w1.drew := ⟨y0, y1, hL1.drew⟩
  obtain ⟨C, hC⟩ : ∃ C : World → Prop, C = AdAt B O O1 (cutQ ns h) doc w := ⟨_, rfl⟩
  rw [← hC] at hC0
  have HCC := Lib.hid hC
  clear hC hA1 hs1 hL1 y0 y1 H1 c0
  go_wp2_with fail
  refine region_class C (by kernel_rfl) (by kernel_rfl) hC0 ?_
  iterate 2
    refine wpQuiet_step (fun K hK => ?_)
    go_simp
    apply Exists.intro
    refine ⟨fun W hW => ?_, hK _ ?_⟩
    · first
        | exact rfl
        | (rw [HCC.out] at hW; obtain ⟨m0, m1⟩ := hW.cells; go_simp; exact rfl)
    clear hK K
  refine wpQuiet_step (fun K hK => ?_)
  go_simp
  apply Exists.intro
  refine ⟨fun W hW => ?_, hK _ ?_⟩
  · rw [HCC.out] at hW
    refine (H2.out O1 _ hW.l.ar).mono ?_
    rintro e w2 ⟨rfl, b2⟩
    exact ⟨rfl, by rw [HCC.out]; exact hW.step b2⟩
  clear hK K
  iterate 2
    refine wpQuiet_step (fun K hK => ?_)
    go_simp
    apply Exists.intro
    refine ⟨fun W hW => ?_, hK _ ?_⟩
    · first
        | exact rfl
        | (rw [HCC.out] at hW; obtain ⟨m0, m1⟩ := hW.cells; go_simp; exact rfl)
    clear hK K
  refine wpQuiet_nil ?_
  intro W2 hW2
  rw [HCC.out] at hW2
  have HF := Lib.hid (show ∃ O', ArW B O' (cutQ ns h) W2 ∧ AStep O w O' W2 from ⟨O1, hW2.l.ar, hW2.l.step⟩)
  clear hW2 HCC hC0 H2
  go_wp2_with fail
  refine bodyPost_ret (results_none rfl _ _ _) rfl ?_
  exact ⟨rfl, HF.out⟩
/-- insert, of a node that is no fragment. -/
noncomputable def insL (ns : List Nd) (p n c : Int) : List Nd := if putE (cutQ ns n) p n c = 0 then putL (cutQ ns n) p n c else cutQ ns n
structure InsOk (ns : List Nd) (p n c : Int) : Prop where
  fit : Fit ns
  kd : (descAt ns n).kind ≠ 2
  cut : isH ns.length n = true → CutOk ns n
  f1 : Fit (cutQ ns n)
  doc : (descAt (cutQ ns n) n).doc = (descAt ns p).doc
  put : PutOk (cutQ ns n) p n c
set_option maxRecDepth 100000 in
theorem nodes_one (h : Int) (w : World) {B : AB} {O : List Nat} {ns : List Nd} (hA : ArW B O ns w) (hf : Fit ns) (hk : (descAt ns h).kind ≠ 2) :
    Calls Tryz.prog 160 #[.pointer (some ⟨B, 0, none⟩), .int .i64 h] w fun e w' => ∃ g, e = .returned (.slice (some ⟨g, 0, none⟩) 1 1) ∧ w.heap.size ≤ g ∧ g < w'.heap.size ∧ w'.cell? ⟨g, 0, none⟩ = some (.int .i64 h) ∧ Below w.heap.size w w' := by
  have H1 := Lib.hid (kind_any h w hA hf)
  generalize (descAt ns h).kind = k at *
  have hkb : (k == 2) = false := by simpa using hk
  clear hA hf hk
  go_enter Tryz.func160, Tryz.ntmps160
  go_wp2_with (go_at_call 81; refine H1.out.mono ?_; rintro e w1 ⟨rfl, b1⟩)
  go_ret
  exact ⟨w1.heap.size, rfl, b1.size, by simp, by simp, b1.alloc b1.size _⟩
set_option maxRecDepth 100000 in
set_option maxHeartbeats 2000000 in
theorem insert_one (p n c : Int) (w : World) {B : AB} {O : List Nat} {ns : List Nd} (hA : ArW B O ns w) (hok : InsOk ns p n c) :
    Calls Tryz.prog 117 #[.pointer (some ⟨B, 0, none⟩), .int .i64 p, .int .i64 n, .int .i64 c] w fun e w' => e = .returned (.tuple #[]) ∧ ∃ O', ArW B O' (insL ns p n c) w' ∧ AStep O w O' w' := by
  obtain ⟨hf, hk, hc, hf1, hd, hp⟩ := hok
  have H1 := Lib.hid (docOf_any p w hA hf)
  have H2 := Lib.hid (fun w' (hb : Below w.heap.size w w') => nodes_one n w' (hA.later hb) hf hk)
  have H3 := Lib.hid (fun w' (hb : ArW B O ns w') => adopt_same n (descAt ns p).doc w' hb hf hc hf1 hd)
  have H4 := Lib.hid (fun O1 w' (hb : ArW B O1 (cutQ ns n) w') => Put_any p n c w' hb hf1 hp)
  generalize (descAt ns p).doc = doc at *
  have HA := Lib.hid hA
  have HE : Hid (insL ns p n c = if putE (cutQ ns n) p n c = 0 then putL (cutQ ns n) p n c else cutQ ns n) := Lib.hid rfl
  clear hA hf hk hc hf1 hd hp
  generalize insL ns p n c = res at *
  go_enter Tryz.func117, Tryz.ntmps117
  go_wp2_with fail
  refine H1.out.mono ?_
  rintro e w1 ⟨rfl, b1⟩
  have H5 := Lib.hid (H2.out w1 b1)
  have HB1 := Lib.hid b1
  clear H1 H2 b1
  go_wp2_with fail
  refine H5.out.mono ?_
  rintro e w2 ⟨g, rfl, hg1, hg2, hgc, b2⟩
  have HB2 := Lib.hid (bthen HB1.out HB1.out.size b2)
  have HAg := Lib.hid (HA.out.later (bthen HB1.out HB1.out.size b2))
  have HG := Lib.hid (show w.heap.size ≤ g ∧ g < w2.heap.size from ⟨Nat.le_trans HB1.out.size hg1, hg2⟩)
  clear b2 hg1 hg2 H5
  go_wp2_with fail
  go_loopw [18] (fun i wr => (i = .int .i64 0 ∧ wr = w2) ∨ (i = .int .i64 1 ∧ ∃ O', ArW B O' res wr ∧ AStep O w O' wr)) (fun i _ => 1 - (intOf i).toNat)
  case atStart => exact .inl ⟨rfl, rfl⟩
  case round =>
    rcases hrel with ⟨rfl, rfl⟩ | ⟨rfl, hfin⟩
    · have H6 := Lib.hid (H3.out _ HAg.out)
      go_wp2_with fail
      refine H6.out.mono ?_
      rintro e w3 ⟨rfl, O1, hA1, hs1⟩
      have H7 := Lib.hid (H4.out O1 w3 hA1)
      have HA1 := Lib.hid hA1; have HS1 := Lib.hid hs1
      clear hA1 hs1 H6
      go_wp2_with fail
      refine H7.out.mono ?_
      rintro e w4 hd
      obtain ⟨O2, hA2, hs2⟩ := hd.step HA1.out
      obtain ⟨rfl, -⟩ := hd
      rw [← HE.out] at hA2
      have HF := Lib.hid (show ∃ O', ArW B O' res w4 ∧ AStep O w O' w4 from ⟨O2, hA2, (astep_pre HB2.out HS1.out).trans hs2⟩)
      clear hA2 hs2 H7
      go_wp2_with fail
      go_roundw
      case rel => exact .inr ⟨rfl, HF.out⟩
      case measure => simp [intOf]
    · have HF := Lib.hid hfin
      clear hfin
      go_wp2_with fail
      go_end0
      exact ⟨rfl, HF.out⟩
end Go.Proofs.YtdapdadcninidaaGreatDoor
/- Package dom: Validate, Insert, Append, of one node. No condition but that the nodes are linked well. -/
namespace Go.Proofs.YtdapdadcninidaaGreatDoor
open Go.RowKit
attribute [local go_sem ↓] Go.wp_at_zero Go.wp_at_succ

theorem RulB.later {b1 b2 b3 b4 b5 b6 : Bool} {m : Value} {w w1 : World} (h : RulB b1 b2 b3 b4 b5 b6 m w) (hb : Below w.heap.size w w1) : RulB b1 b2 b3 b4 b5 b6 m w1 :=
  ⟨fun w' h' => h.h1 w' (bthen hb hb.size h'), fun w' h' => h.h2 w' (bthen hb hb.size h'), fun w' h' => h.h3 w' (bthen hb hb.size h'), fun w' h' => h.h4 w' (bthen hb hb.size h'), fun w' h' => h.h5 w' (bthen hb hb.size h'), fun w' h' => h.h6 w' (bthen hb hb.size h')⟩
/-- Validate's answer: the handles' error, or the rules' word. -/
def valE (n : Nat) (p k c er : Int) : Int := if chkD n 2 [p, k, c] = 0 then er else chkD n 2 [p, k, c]
set_option maxRecDepth 100000 in
set_option maxHeartbeats 1000000 in
theorem Validate_any (p n c : Int) (w : World) {B : AB} {O : List Nat} {ns : List Nd} {b1 b2 b3 b4 b5 b6 : Bool} (hA : ArW B O ns w) (hf : Fit ns) (hR : chkD ns.length 2 [p, n, c] = 0 → RulB b1 b2 b3 b4 b5 b6 (mvV B p n c false) w) :
    Calls Tryz.prog 116 #[.pointer (some ⟨B, 0, none⟩), .int .i64 p, .int .i64 n, .int .i64 c] w (Ret w (.int .i64 (valE ns.length p n c (firstE b1 b2 b3 b4 b5 b6)))) := by
  obtain ⟨W0, hW0⟩ : ∃ W0, w.alloc (.cells #[.int .i64 p, .int .i64 n, .int .i64 c] 3) = W0 := ⟨_, rfl⟩
  have b0 : Below w.heap.size w W0 := by rw [← hW0]; exact balloc w _
  have hbx : W0.heap[w.heap.size]? = some (.cells #[.int .i64 p, .int .i64 n, .int .i64 c] 3 (0, 0)) := by rw [← hW0]; exact World.alloc_heap_new w _
  have hs0 : W0.heap.size = w.heap.size + 1 := by rw [← hW0]; simp
  have H1 := checkD_any (B := B) (H := w.heap.size) (c := 3) 2 [p, n, c] W0 (hA.later b0) hf (by
    intro j v hj
    match j, hj with
    | 0, hj => simp at hj; subst hj; rw [cell_of_row _ _ _ _ _ _ hbx]; rfl
    | 1, hj => simp at hj; subst hj; rw [cell_of_row _ _ _ _ _ _ hbx]; rfl
    | 2, hj => simp at hj; subst hj; rw [cell_of_row _ _ _ _ _ _ hbx]; rfl) (by simp) (by omega)
  have HV : Hid (valE ns.length p n c (firstE b1 b2 b3 b4 b5 b6) = if chkD ns.length 2 [p, n, c] = 0 then firstE b1 b2 b3 b4 b5 b6 else chkD ns.length 2 [p, n, c]) := Lib.hid rfl
  generalize valE ns.length p n c (firstE b1 b2 b3 b4 b5 b6) = res at *
  generalize chkD ns.length 2 [p, n, c] = ce at *
  have H1 := Lib.hid H1; have HW := Lib.hid hW0; have HB0 := Lib.hid b0
  clear hA hf hbx hs0 hW0 b0
  by_cases hce : ce = 0
  · have HR := Lib.hid (hR hce)
    subst hce
    have HV2 := Lib.hid (HV.out.trans (if_pos rfl))
    clear hR HV
    unfold mvV at *
    go_enter Tryz.func116, Tryz.ntmps116
    go_wp2_with fail
    rw [HW.out]
    refine H1.out.mono ?_
    rintro e w1 ⟨rfl, b1⟩
    have HB1 := Lib.hid (bthen HB0.out HB0.out.size b1)
    have H2 := Lib.hid (refused_any p n c false w1 (B := B) (HR.out.later HB1.out))
    unfold mvV at *
    clear b1 H1
    go_wp2_with fail
    refine H2.out.mono ?_
    rintro e w2 ⟨rfl, b2⟩
    have HB2 := Lib.hid (bthen HB1.out HB1.out.size b2)
    clear b2 H2
    go_wp2_with fail
    go_ret
    exact Ret.mk (by rw [HV2.out]; rfl) HB2.out
  · have HV2 := Lib.hid (HV.out.trans (if_neg hce))
    have hcb : (ce != 0) = true := by simpa using hce
    clear hR HV hce
    go_enter Tryz.func116, Tryz.ntmps116
    go_wp2_with fail
    rw [HW.out]
    refine H1.out.mono ?_
    rintro e w1 ⟨rfl, b1⟩
    have HB1 := Lib.hid (bthen HB0.out HB0.out.size b1)
    clear b1 H1
    go_wp2_with fail
    go_ret
    exact Ret.mk (by rw [HV2.out]; rfl) HB1.out
set_option maxRecDepth 100000 in
set_option maxHeartbeats 1000000 in
/-- Insert, where nothing refuses. -/
theorem Insert_one (p n c : Int) (w : World) {B : AB} {O : List Nat} {ns : List Nd} (hA : ArW B O ns w) (hc : chkD ns.length 2 [p, n, c] = 0) (hR : RulB false false false false false false (mvV B p n c false) w) (hne : c ≠ n) (hok : InsOk ns p n c) :
    Calls Tryz.prog 67 #[.pointer (some ⟨B, 0, none⟩), .int .i64 p, .int .i64 n, .int .i64 c] w fun e w' => e = .returned (.int .i64 0) ∧ ∃ O', ArW B O' (insL ns p n c) w' ∧ AStep O w O' w' := by
  have H1 := Validate_any p n c w hA hok.fit (fun _ => hR)
  rw [show valE ns.length p n c (firstE false false false false false false) = 0 by rw [valE, if_pos hc]; rfl] at H1
  have H1 := Lib.hid H1
  have H2 := Lib.hid (fun w' (hb : Below w.heap.size w w') => insert_one p n c w' (hA.later hb) hok)
  have hnb : (c == n) = false := by simpa using hne
  clear hA hc hR hne hok
  generalize insL ns p n c = res at *
  go_enter Tryz.func67, Tryz.ntmps67
  go_wp2_with fail
  refine H1.out.mono ?_
  rintro e w1 ⟨rfl, b1⟩
  have H3 := Lib.hid (H2.out w1 b1)
  have HB1 := Lib.hid b1
  clear b1 H1 H2
  go_wp2_with fail
  refine H3.out.mono ?_
  rintro e w2 ⟨rfl, O2, hA2, hs2⟩
  have HF := Lib.hid (show ∃ O', ArW B O' res w2 ∧ AStep O w O' w2 from ⟨O2, hA2, astep_pre HB1.out hs2⟩)
  clear hA2 hs2 H3
  go_wp2_with fail
  go_ret
  exact ⟨rfl, HF.out⟩
set_option maxRecDepth 100000 in
theorem Append_one (p n : Int) (w : World) {B : AB} {O : List Nat} {ns : List Nd} (hA : ArW B O ns w) (hc : chkD ns.length 2 [p, n, 0] = 0) (hR : RulB false false false false false false (mvV B p n 0 false) w) (hne : (0 : Int) ≠ n) (hok : InsOk ns p n 0) :
    Calls Tryz.prog 34 #[.pointer (some ⟨B, 0, none⟩), .int .i64 p, .int .i64 n] w fun e w' => e = .returned (.int .i64 0) ∧ ∃ O', ArW B O' (insL ns p n 0) w' ∧ AStep O w O' w' := by
  have H1 := Lib.hid (Insert_one p n 0 w hA hc hR hne hok)
  clear hA hc hR hne hok
  generalize insL ns p n 0 = res at *
  go_enter Tryz.func34, Tryz.ntmps34
  go_wp2_with fail
  refine H1.out.mono ?_
  rintro e w1 ⟨rfl, hfin⟩
  have HF := Lib.hid hfin
  clear hfin H1
  go_wp2_with fail
  go_ret
  exact ⟨rfl, HF.out⟩
end Go.Proofs.YtdapdadcninidaaGreatDoor
namespace Go.Proofs.YtdapdadcninidaaGreatDoor
open Go.RowKit

/-- The state with a node cut. -/
def cutS (s : St) (h : Int) : St := ⟨cutQ s.ns h, s.mp⟩
theorem cutQ_or (ns : List Nd) (h : Int) : (∃ x : Nat, h = ((x : Nat) : Int) ∧ inR ns x ∧ cutQ ns h = cutL ns ((x : Nat) : Int)) ∨ (isH ns.length h = false ∧ cutQ ns h = ns) := by
  cases hh : isH ns.length h
  · exact .inr ⟨rfl, by unfold cutQ cutE; rw [hh]; rfl⟩
  · obtain ⟨x, rfl, hx⟩ := isH_nat hh
    exact .inl ⟨x, rfl, hx, by unfold cutQ cutE; rw [hh]; rfl⟩
theorem cutQ_len (ns : List Nd) (h : Int) : (cutQ ns h).length = ns.length := by
  rcases cutQ_or ns h with ⟨x, _, _, e⟩ | ⟨_, e⟩
  · rw [e, cutL_len]
  · rw [e]
theorem Snd.cutQ {ns : List Nd} {r : Nat → Nat} (hs : Snd ns r) (h : Int) : Snd (Proofs.YtdapdadcninidaaGreatDoor.cutQ ns h) r := by
  rcases cutQ_or ns h with ⟨x, _, hx, e⟩ | ⟨_, e⟩
  · rw [e]; exact hs.cut hx
  · rw [e]; exact hs
theorem Mv.cutQ {ns : List Nd} {r : Nat → Nat} (hs : Snd ns r) (h : Int) : Mv ns (Proofs.YtdapdadcninidaaGreatDoor.cutQ ns h) := by
  rcases cutQ_or ns h with ⟨x, _, hx, e⟩ | ⟨_, e⟩
  · rw [e]; exact Mv.cut hs hx
  · rw [e]; exact Mv.refl _
theorem attS_cutQ {ns : List Nd} {r : Nat → Nat} (hs : Snd ns r) (h : Int) : attS (cutQ ns h) ≤ attS ns := by
  rcases cutQ_or ns h with ⟨x, _, hx, e⟩ | ⟨_, e⟩
  · rw [e]; have := attS_cut hs hx; omega
  · rw [e]; exact Nat.le_refl _
theorem Gd.cutS {L : Lim} {s : St} (hg : Gd L s) (h : Int) : Gd L (Proofs.YtdapdadcninidaaGreatDoor.cutS s h) := by
  obtain ⟨r, hr⟩ := hg.snd
  exact hg.mv (Mv.cutQ hr h) (cutQ_len _ _) ⟨r, hr.cutQ h⟩ (Nat.le_trans (attS_cutQ hr h) hg.ax)
/-- A bound of the ranks that counts only what hangs somewhere. -/
def Bnd (K : Nat) (r : Nat → Nat) (ns : List Nd) : Prop := ∀ z, inR ns z → (nd ns z).parent ≠ 0 ∨ (nd ns z).host ≠ 0 → r z ≤ K
theorem bnd_ex (ns : List Nd) (r : Nat → Nat) : ∃ K, Bnd K r ns := by
  obtain ⟨K, hK⟩ := rank_bound ns r
  exact ⟨K, fun z hz _ => hK z hz⟩
theorem Bnd.cutQ {K : Nat} {r : Nat → Nat} {ns : List Nd} (hb : Bnd K r ns) (hs : Snd ns r) (h : Int) : Bnd K r (Proofs.YtdapdadcninidaaGreatDoor.cutQ ns h) := by
  rcases cutQ_or ns h with ⟨x, _, hx, e⟩ | ⟨_, e⟩
  · rw [e]
    intro z hz hp
    have hz' := inR_cut.1 hz
    refine hb z hz' ?_
    rw [nd_cut hs hx hz'] at hp
    by_cases e1 : z = x
    · rw [if_pos e1] at hp
      rcases hp with hp | hp
      · exact absurd rfl hp
      · rw [e1]; exact .inr hp
    · rw [if_neg e1] at hp
      split at hp <;> exact hp
  · rw [e]; exact hb
theorem Dq.bnd {K : Nat} {r : Nat → Nat} {s s' : St} (hq : Dq s s') (hb : Bnd K r s.ns) : Bnd K r s'.ns := by
  intro z hz hp
  by_cases h : Proofs.YtdapdadcninidaaGreatDoor.inR s.ns z
  · have e := hq.old h
    have e1 := noDoc_parent e
    have e2 : (nd s'.ns z).host = (nd s.ns z).host := by
      have h1 : (noDoc (nd s'.ns z)).host = (noDoc (nd s.ns z)).host := by rw [e]
      exact h1
    rw [e1, e2] at hp
    exact hb z h hp
  · have e := hq.new hz h
    have h1 : (noDoc (nd s'.ns z)).parent = 0 := by rw [e]
    have h2 : (noDoc (nd s'.ns z)).host = 0 := by rw [e]
    exact hp.elim (fun hp => absurd h1 hp) fun hp => absurd h2 hp
/-- What stands below a node, in preorder. -/
theorem below_data {ns : List Nd} {r : Nat → Nat} (hs : Snd ns r) (h : Int) : ∃ xs, Sub (kidsAt ns) (kidsAt ns h) xs ∧ ∀ x ∈ xs, inR ns x ∧ ∃ y : Nat, h = ((y : Nat) : Int) ∧ inR ns y ∧ r y < r x := by
  have hd := hs.downKids
  cases hh : isH ns.length h
  · refine ⟨[], ?_, fun x hx => by cases hx⟩
    rw [kidsAt, hh]
    exact .nil
  · obtain ⟨y, rfl, hy⟩ := isH_nat hh
    have hk := hd.lt hs y hy
    obtain ⟨xs, hx⟩ := sub_ex (fun x hx k hk => hd.lt hs x hx k hk) _ fun k h => (hk k h).1
    refine ⟨xs, hx, fun x hxm => ?_⟩
    obtain ⟨h1, k, hkm, ha⟩ := sub_anc hd hx (fun k h => (hk k h).1) x hxm
    refine ⟨h1, y, rfl, hy, ?_⟩
    have h2 := (hk k hkm).2
    rcases ha.rank hs h1 with e | e
    · rw [← e]; exact h2
    · omega
/-- A template's contents hang deeper; nothing hangs on them but their host. -/
theorem cts_rank {ns : List Nd} {r : Nat → Nat} (hs : Snd ns r) {x : Nat} (hx : inR ns x) (hc : (nd ns x).contents ≠ 0) : inR ns (nd ns x).contents ∧ r x < r (nd ns x).contents ∧ (nd ns (nd ns x).contents).host ≠ 0 ∧ (nd ns (nd ns x).contents).parent = 0 := by
  obtain ⟨h1, h2, h3⟩ := hs.cts x hx hc
  have hx0 : x ≠ 0 := by have := hx.1; omega
  have h4 := hs.rh _ h1 (by rw [h2]; exact hx0)
  rw [h2] at h4
  exact ⟨h1, h4, by rw [h2]; exact hx0, hs.top _ h1 (.inr h3)⟩
theorem cutQ_still {ns : List Nd} {x : Nat} (h : (nd ns x).parent = 0) : cutQ ns ((x : Nat) : Int) = ns := by
  unfold cutQ
  split
  · have h' : (ndAt ns ((x : Nat) : Int)).parent = 0 := h
    unfold cutL
    rw [if_pos h']
  · rfl
/-- What adopt's loop keeps. -/
structure AdJ (T : Nat) (O : List Nat) (w : World) (s1 : St) (bs : List (Nat × Value)) (G : Nat → Prop) (W : World) : Prop where
  ex : ∃ s' O1, ArM T O1 s' W ∧ Dq s1 s' ∧ AStep O w O1 W ∧ (∀ k ∈ O1, ¬ G k) ∧ ∀ b ∈ bs, Bx b.1 O1 W b.2 ∧ ¬ G b.1
  fg : ∀ k, G k → w.heap.size ≤ k ∧ k < W.heap.size
theorem AdJ.kept {T : Nat} {O : List Nat} {w : World} {s1 : St} {bs : List (Nat × Value)} {G G' : Nat → Prop} {A C : World} (h : AdJ T O w s1 bs G A) (hm : Mod G A C) (hg : ∀ k, G' k → G k ∨ (A.heap.size ≤ k ∧ k < C.heap.size)) : AdJ T O w s1 bs G' C := by
  obtain ⟨⟨s', O1, h1, h2, h3, h4, h5⟩, h6⟩ := h
  have hsz := h3.mod.size
  refine ⟨⟨s', O1, h1.kept hm h4, h2, ⟨⟨hm.os.trans h3.mod.os, hm.tape.trans h3.mod.tape, hm.output.trans h3.mod.output, Nat.le_trans hsz hm.size, fun k hk hO => ?_⟩, h3.own⟩, fun k hk hG => ?_, fun b hb => ?_⟩, fun k hG => ?_⟩
  · exact (hm.block k (by omega) fun hG => by have := h6 k hG; omega).trans (h3.mod.block k hk hO)
  · have := h1.lt k hk
    exact (hg k hG).elim (h4 k hk) (by omega)
  · obtain ⟨hb1, hb2⟩ := h5 b hb
    have hl := hb1.lt
    exact ⟨⟨(heap_cell (hm.block b.1 hl hb2) 0).trans hb1.c, hb1.o⟩, fun hG => (hg _ hG).elim hb2 (by omega)⟩
  · exact (hg k hG).elim (fun h => ⟨(h6 k h).1, by have := (h6 k h).2; have := hm.size; omega⟩) fun h => ⟨by omega, h.2⟩
/-- A call has gone on. -/
theorem AdJ.go {T : Nat} {O O1 O2 : List Nat} {w : World} {s1 s' s2 : St} {bs : List (Nat × Value)} {G : Nat → Prop} {A C : World} (h3 : AStep O w O1 A) (h4 : ∀ k ∈ O1, ¬ G k) (h5 : ∀ b ∈ bs, Bx b.1 O1 A b.2 ∧ ¬ G b.1) (fg : ∀ k, G k → w.heap.size ≤ k ∧ k < A.heap.size)
    (hA : ArM T O2 s2 C) (hq : Dq s1 s') (hq2 : Dq s' s2) (hs : AStep O1 A O2 C) : AdJ T O w s1 bs G C ∧ Mod (fun k => ¬ G k) A C :=
  ⟨⟨⟨s2, O2, hA, hq.trans hq2, h3.trans hs, fun k hk hG => (hs.own k hk).elim (fun h => h4 k h hG) fun h => by have := (fg k hG).2; omega, fun b hb => ⟨(h5 b hb).1.step hs, (h5 b hb).2⟩⟩, fun k hG => ⟨(fg k hG).1, by have := (fg k hG).2; have := hs.mod.size; omega⟩⟩, hs.mod.mono fun k _ hk => h4 k hk⟩
end Go.Proofs.YtdapdadcninidaaGreatDoor
namespace Go.Proofs.YtdapdadcninidaaGreatDoor
open Go.RowKit
attribute [local go_sem ↓] Go.wp_at_zero Go.wp_at_succ
attribute [local go_sem] sapp

theorem row_someJ {w : World} {b : Nat} {ka : Option Addr} {n kc : Nat} {xs : List Value} (h : w.ownsRow b 3 1 (.slice ka n kc) n xs) (hn : 0 < n) : ∃ gk, ka = some ⟨gk, 0, none⟩ := by
  rcases row_cells h with ⟨_, h0, _⟩ | ⟨gk, cap, cur, hv, _⟩
  · omega
  · cases hv; exact ⟨gk, rfl⟩
theorem row_keep {w w' : World} {b n s : Nat} {e : TypeId} {v : Value} {xs : List Value} (h : w.ownsRow b e s v n xs) (hk : ∀ g, v.ownBlock = some g → w'.heap[g]? = w.heap[g]?) : w'.ownsRow b e s v n xs := by
  refine ⟨h.1, ?_⟩
  rcases h.2 with h | ⟨g, cap, cur, hv, hg, hgg, r⟩
  · exact .inl h
  · exact .inr ⟨g, cap, cur, hv, hg, (hk g (by rw [hv]; rfl)).trans hgg, r⟩
structure JS where
  ns : List Nd
  first : Nat
  data : List UInt8
def setD (ns : List Nd) (h : Int) (l : List UInt8) : List Nd := if setDataE ns h = 0 then setNd ns h { ndAt ns h with data := l } else ns
def cutR (ns : List Nd) (h : Int) : List Nd := if cutE ns h = 0 then cutL ns h else ns
def jEnd (s : JS) : JS := ⟨if s.first = 0 then s.ns else setD s.ns s.first s.data, 0, []⟩
def jStep (s : JS) (k : Nat) : JS :=
  if (descAt s.ns k).kind = 5 then (if s.first = 0 ∧ (descAt s.ns k).data ≠ [] then ⟨s.ns, k, (descAt s.ns k).data⟩ else ⟨cutR s.ns k, s.first, s.data ++ (descAt s.ns k).data⟩) else jEnd s
def joinL (ns : List Nd) (ks : List Nat) : List Nd := (jEnd (ks.foldl jStep ⟨ns, 0, []⟩)).ns
def JOk : JS → List Nat → Prop
  | s, [] => Fit s.ns
  | s, k :: ks => Fit s.ns ∧ (s.data.length : Int) + ((descAt s.ns k).data.length : Int) ≤ 4611686018427387904 ∧ (isH s.ns.length k = true → CutOk s.ns k) ∧ JOk (jStep s k) ks
theorem JOk.fit {s : JS} {ks : List Nat} (h : JOk s ks) : Fit s.ns := by
  cases ks with
  | nil => exact h
  | cons k ks => exact h.1
/-- join's three local blocks. -/
structure JCells (B : Nat) (w : World) (first : Nat) (data : List UInt8) (w1 : World) : Prop where
  a : w1.heap[w.heap.size]? = some (.cells #[.pointer (some ⟨B, 0, none⟩)] 23 (0, 0))
  f : w1.heap[w.heap.size + 1]? = some (.cells #[.int .i64 (first : Nat)] 3 (0, 0))
  d : w1.heap[w.heap.size + 2]? = some (.cells #[.string ⟨data.toArray⟩] 9 (0, 0))
theorem JCells.keep {B : Nat} {w w1 w2 : World} {first : Nat} {data : List UInt8} (h : JCells B w first data w1) (hk : ∀ b, w.heap.size ≤ b ∧ b < w.heap.size + 3 → w2.heap[b]? = w1.heap[b]?) : JCells B w first data w2 :=
  ⟨(hk _ (by omega)).trans h.a, (hk _ (by omega)).trans h.f, (hk _ (by omega)).trans h.d⟩
/-- The two variables are set. -/
theorem JCells.set {B : Nat} {w w1 : World} {first : Nat} {data : List UInt8} (h : JCells B w first data w1) (f' : Nat) (d' : List UInt8) :
    JCells B w f' d' ((w1.setCell ⟨w.heap.size + 1, 0, none⟩ (.int .i64 (f' : Nat))).setCell ⟨w.heap.size + 2, 0, none⟩ (.string ⟨d'.toArray⟩)) ∧
    JCells B w f' d' ((w1.setCell ⟨w.heap.size + 2, 0, none⟩ (.string ⟨d'.toArray⟩)).setCell ⟨w.heap.size + 1, 0, none⟩ (.int .i64 (f' : Nat))) := by
  obtain ⟨h1, h2, h3⟩ := h
  have far : ∀ (W : World) (b c : Nat) (v : Value), c ≠ b → (W.setCell ⟨b, 0, none⟩ v).heap[c]? = W.heap[c]? := fun W b c v hn => Below.heap_setCell W ⟨b, 0, none⟩ v c hn
  have set1 : ∀ (W : World), W.heap[w.heap.size + 1]? = some (.cells #[.int .i64 (first : Nat)] 3 (0, 0)) → (W.setCell ⟨w.heap.size + 1, 0, none⟩ (.int .i64 (f' : Nat))).heap[w.heap.size + 1]? = some (.cells #[.int .i64 (f' : Nat)] 3 (0, 0)) := fun W hW => by
    rw [Joins.block_setCell (i := 0) hW]; rfl
  have set2 : ∀ (W : World), W.heap[w.heap.size + 2]? = some (.cells #[.string ⟨data.toArray⟩] 9 (0, 0)) → (W.setCell ⟨w.heap.size + 2, 0, none⟩ (.string ⟨d'.toArray⟩)).heap[w.heap.size + 2]? = some (.cells #[.string ⟨d'.toArray⟩] 9 (0, 0)) := fun W hW => by
    rw [Joins.block_setCell (i := 0) hW]; rfl
  refine ⟨⟨?_, ?_, ?_⟩, ⟨?_, ?_, ?_⟩⟩
  · rw [far _ _ _ _ (by omega), far _ _ _ _ (by omega)]; exact h1
  · rw [far _ _ _ _ (by omega)]; exact set1 _ h2
  · exact set2 _ (by rw [far _ _ _ _ (by omega)]; exact h3)
  · rw [far _ _ _ _ (by omega), far _ _ _ _ (by omega)]; exact h1
  · exact set1 _ (by rw [far _ _ _ _ (by omega)]; exact h2)
  · rw [far _ _ _ _ (by omega)]; exact set2 _ h3
theorem JCells.setd {B : Nat} {w w1 : World} {first : Nat} {data : List UInt8} (h : JCells B w first data w1) (d' : List UInt8) : JCells B w first d' (w1.setCell ⟨w.heap.size + 2, 0, none⟩ (.string ⟨d'.toArray⟩)) := by
  obtain ⟨h1, h2, h3⟩ := h
  refine ⟨(Below.heap_setCell _ ⟨w.heap.size + 2, 0, none⟩ _ _ (by dsimp only; omega)).trans h1, (Below.heap_setCell _ ⟨w.heap.size + 2, 0, none⟩ _ _ (by dsimp only; omega)).trans h2, ?_⟩
  rw [Joins.block_setCell (i := 0) h3]; rfl
set_option maxRecDepth 100000 in
set_option maxHeartbeats 1000000 in
theorem joinEnd_any (s : JS) (w w1 : World) {B : AB} {n : Nat} {O O1 : List Nat} (hn : 3 ≤ n) (hL : Loc B n O w O1 s.ns w1) (hC : JCells B w s.first s.data w1) (hf : Fit s.ns) :
    Calls Tryz.prog 100 #[.pointer (some ⟨w.heap.size + 1, 0, none⟩), .pointer (some ⟨w.heap.size, 0, none⟩), .pointer (some ⟨w.heap.size + 2, 0, none⟩)] w1 fun e w2 => e = .returned (.tuple #[]) ∧ ∃ O2, Loc B n O w O2 (jEnd s).ns w2 ∧ JCells B w 0 [] w2 ∧ ∀ b, w.heap.size ≤ b ∧ b < w.heap.size + n → b ≠ w.heap.size + 1 → b ≠ w.heap.size + 2 → w2.heap[b]? = w1.heap[b]? := by
  obtain ⟨ns, first, data⟩ := s
  dsimp only at hL hC hf
  have ca : w1.cell? ⟨w.heap.size, 0, none⟩ = some (.pointer (some ⟨B, 0, none⟩)) := by rw [cell_of_row _ _ _ _ _ _ hC.a]; rfl
  have cf : w1.cell? ⟨w.heap.size + 1, 0, none⟩ = some (.int .i64 (first : Nat)) := by rw [cell_of_row _ _ _ _ _ _ hC.f]; rfl
  have cd : w1.cell? ⟨w.heap.size + 2, 0, none⟩ = some (.string ⟨data.toArray⟩) := by rw [cell_of_row _ _ _ _ _ _ hC.d]; rfl
  have HFin := Lib.hid (fun (O2 : List Nat) (ns2 : List Nd) (w2 : World) (h2 : Loc B n O w O2 ns2 w2) (hC2 : JCells B w first data w2) =>
    show Loc B n O w O2 ns2 ((w2.setCell ⟨w.heap.size + 1, 0, none⟩ (.int .i64 0)).setCell ⟨w.heap.size + 2, 0, none⟩ (.string ⟨#[]⟩)) ∧ JCells B w 0 [] ((w2.setCell ⟨w.heap.size + 1, 0, none⟩ (.int .i64 0)).setCell ⟨w.heap.size + 2, 0, none⟩ (.string ⟨#[]⟩)) ∧ (∀ b, b ≠ w.heap.size + 1 → b ≠ w.heap.size + 2 → ((w2.setCell ⟨w.heap.size + 1, 0, none⟩ (.int .i64 0)).setCell ⟨w.heap.size + 2, 0, none⟩ (.string ⟨#[]⟩)).heap[b]? = w2.heap[b]?) from
      ⟨(h2.set _ (by omega)).set _ (by omega), (hC2.set 0 []).1, fun b h1 h2 => (Below.heap_setCell _ ⟨w.heap.size + 2, 0, none⟩ _ b h2).trans (Below.heap_setCell _ ⟨w.heap.size + 1, 0, none⟩ _ b h1)⟩)
  by_cases h0 : first = 0
  · subst h0
    have ff : w1.frozen? ⟨w.heap.size + 1, 0, none⟩ = false := Lib.frozen_of_heap hC.f 0
    have fd : w1.frozen? ⟨w.heap.size + 2, 0, none⟩ = false := Lib.frozen_of_heap hC.d 0
    have HL := Lib.hid hL; have HC := Lib.hid hC
    clear hL hC hf
    go_enter Tryz.func100, Tryz.ntmps100
    go_wp2
    go_end0
    obtain ⟨q1, q2, q3⟩ := HFin.out _ _ _ HL.out HC.out
    exact ⟨rfl, _, q1, q2, fun b _ h1 h2 => q3 b h1 h2⟩
  · have hz : ((first : Int) != 0) = true := by simpa using h0
    have H1 := Lib.hid (SetData_any first data w1 hL.ar hf.len)
    have HL := Lib.hid hL; have HC := Lib.hid hC
    clear hL hC hf
    go_enter Tryz.func100, Tryz.ntmps100
    go_wp2_with fail
    refine H1.out.mono ?_
    rintro e w2 hd
    obtain ⟨O2, hA2, hs2⟩ := hd.step HL.out.ar
    obtain ⟨rfl, -⟩ := hd
    have hL2 := HL.out.call hA2 hs2
    have HK2 := Lib.hid (fun b hb => HL.out.keep hs2 (b := b) hb)
    have hC2 := HC.out.keep fun b hb => HL.out.keep hs2 (by omega)
    have cf := hC2.f
    have ff : w2.frozen? ⟨w.heap.size + 1, 0, none⟩ = false := Lib.frozen_of_heap hC2.f 0
    have fd : w2.frozen? ⟨w.heap.size + 2, 0, none⟩ = false := Lib.frozen_of_heap hC2.d 0
    have cf2 : w2.cell? ⟨w.heap.size + 1, 0, none⟩ = some (.int .i64 (first : Nat)) := by rw [cell_of_row _ _ _ _ _ _ hC2.f]; rfl
    have cd2 : w2.cell? ⟨w.heap.size + 2, 0, none⟩ = some (.string ⟨data.toArray⟩) := by rw [cell_of_row _ _ _ _ _ _ hC2.d]; rfl
    have HF := Lib.hid (HFin.out O2 _ w2 hL2 hC2)
    clear cf
    clear hA2 hs2 hL2 hC2
    go_wp2
    go_end0
    obtain ⟨q1, q2, q3⟩ := HF.out
    refine ⟨rfl, O2, ?_, q2, fun b hb h1 h2 => (q3 b h1 h2).trans (HK2.out b hb)⟩
    rw [show (jEnd ⟨ns, first, data⟩).ns = if setDataE ns first = 0 then setNd ns first { ndAt ns first with data := data } else ns by simp [jEnd, h0, setD]]
    exact q1
set_option maxRecDepth 100000 in
set_option maxHeartbeats 4000000 in
theorem join_any (h : Int) (w : World) {B : AB} {O : List Nat} {ns : List Nd} (hA : ArW B O ns w) (hok : JOk ⟨ns, 0, []⟩ (kidsAt ns h)) :
    Calls Tryz.prog 56 #[.pointer (some ⟨B, 0, none⟩), .int .i64 h] w fun e w' => e = .returned (.tuple #[]) ∧ ∃ O', ArW B O' (joinL ns (kidsAt ns h)) w' ∧ AStep O w O' w' := by
  have hf := hok.fit
  obtain ⟨W0, hW0⟩ : ∃ W0, ((w.alloc (.cells #[.pointer (some ⟨B, 0, none⟩)] 23)).alloc (.cells #[.int .i64 0] 3)).alloc (.cells #[.string ⟨#[]⟩] 9) = W0 := ⟨_, rfl⟩
  obtain ⟨x0, x1, x2, hs0, b0⟩ := three_newA hW0
  have hC0 : JCells B w 0 [] W0 := ⟨x0, x1, x2⟩
  have HK := Lib.hid (Kids_any h W0 (hA.later b0) hf.len (hf.kids h))
  have HW := Lib.hid hW0; have HC0 := Lib.hid hC0; have HB0 := Lib.hid b0; have HA := Lib.hid hA; have HOK := Lib.hid hok
  have ca := by have := x0; exact (show W0.cell? ⟨w.heap.size, 0, none⟩ = some (.pointer (some ⟨B, 0, none⟩)) by rw [cell_of_row _ _ _ _ _ _ this]; rfl)
  have hkl := hf.kids h
  have HSZ := Lib.hid hs0
  clear hW0 hC0 b0 hA hok x0 x1 x2 hf hs0
  have HE : Hid (joinL ns (kidsAt ns h) = (jEnd ((kidsAt ns h).foldl jStep ⟨ns, 0, []⟩)).ns) := Lib.hid rfl
  generalize kidsAt ns h = ks at *
  have hmf : ∀ (fn : Fn) (first cap : Array Value) (w : World), (Instr.makeFunc fn first cap).run Tryz.prog w = .ok (.func fn first cap) w := fun _ _ _ _ => rfl
  go_enter Tryz.func56, Tryz.ntmps56
  go_wp2_with fail
  rw [HW.out, show w.heap.size + 1 + 1 = w.heap.size + 2 from rfl]
  go_wp2_with fail
  refine HK.out.mono ?_
  rintro e w4 ⟨v, rfl, hr, b4⟩
  obtain ⟨ka, kc, rfl⟩ := ownsRow_slice hr
  have hs4 := b4.size
  obtain ⟨n, hn⟩ : ∃ n, w.heap.size + n = w4.heap.size := ⟨w4.heap.size - w.heap.size, by have := HSZ.out; omega⟩
  have hn3 : 3 ≤ n := by have := HSZ.out; omega
  have HL4 := Lib.hid (Loc.start (n := n) HA.out (bthen HB0.out HB0.out.size b4) (by omega))
  have HC4 := Lib.hid (HC0.out.keep fun b hb => b4.block b (by have := HSZ.out; omega))
  have HR := Lib.hid hr
  have HN := Lib.hid hn
  clear hr b4 hn hs4 ca HC0 HK
  go_wp2_with fail
  go_loopw [16] (fun s16 wr => ∃ (j : Nat) (s : JS) (O1 : List Nat), j ≤ ks.length ∧ s16 = .int .i64 (j : Nat) ∧ Loc B n O w O1 s.ns wr ∧ JCells B w s.first s.data wr ∧ JOk s (ks.drop j) ∧ (ks.drop j).foldl jStep s = ks.foldl jStep ⟨ns, 0, []⟩ ∧ wr.ownsRow (w.heap.size + 3) 3 1 (.slice ka ks.length kc) ks.length (kidCells ks)) (fun i _ => ks.length - (intOf i).toNat)
  case atStart => exact ⟨0, _, O, Nat.zero_le _, rfl, HL4.out, HC4.out, HOK.out, rfl, by have := HR.out; rw [HSZ.out] at this; exact this⟩
  case round =>
    obtain ⟨j, s, O1, hj, rfl, hL, hC, hok, hfold, hrow⟩ := hrel
    have hlocal : ∀ g, (Value.slice ka ks.length kc).ownBlock = some g → w.heap.size ≤ g ∧ g < w.heap.size + n := fun g hg => by
      have h1 := ownsRow_lt HR.out hg
      have h2 := HN.out
      rcases HR.out.2 with ⟨e, _⟩ | ⟨g', cap, cur, e, hge, _⟩
      · rw [e] at hg; cases hg
      · rw [e] at hg; cases hg; have := HSZ.out; dsimp only at *; omega
    have HLo := Lib.hid hlocal
    have HLo2 : Hid (∀ g, (Value.slice ka ks.length kc).ownBlock = some g → g ≠ w.heap.size + 1 ∧ g ≠ w.heap.size + 2) := Lib.hid (fun g hg => by
      have := hrow.2
      rcases this with ⟨e, _⟩ | ⟨g', cap, cur, e, hge, _⟩
      · rw [e] at hg; cases hg
      · rw [e] at hg; cases hg; dsimp only; omega)
    have HRow := Lib.hid hrow
    clear hlocal hrow HL4 HC4 HOK HA HB0 HW
    by_cases hlt : j < ks.length
    · obtain ⟨gk, rfl⟩ := row_someJ HRow.out (by omega)
      have hcell := row_at HRow.out j (natV ks[j]) (by simp [kidCells, hlt])
      have hdr : ks.drop j = ks[j] :: ks.drop (j + 1) := List.drop_eq_getElem_cons hlt
      rw [hdr] at hok hfold
      obtain ⟨hf, hdl, hcut, hok2⟩ := hok
      rw [List.foldl_cons] at hfold
      obtain ⟨k, hk⟩ : ∃ k, ks[j] = k := ⟨_, rfl⟩
      rw [hk] at hcell hdl hcut hok2 hfold
      simp only [natV] at hcell
      have hji : (j : Int) < (ks.length : Int) := by omega
      have ca : wr.cell? ⟨w.heap.size, 0, none⟩ = some (.pointer (some ⟨B, 0, none⟩)) := by rw [cell_of_row _ _ _ _ _ _ hC.a]; rfl
      have H1 := Lib.hid (NodeD_any k wr hL.ar hf)
      have HL := Lib.hid hL; have HC := Lib.hid hC; have HF := Lib.hid hf; have HDL := Lib.hid hdl; have HCU := Lib.hid hcut; have HOK2 := Lib.hid hok2; have HFO := Lib.hid hfold
      have HST : Hid (jStep s k = if (descAt s.ns k).kind = 5 then (if s.first = 0 ∧ (descAt s.ns k).data ≠ [] then ⟨s.ns, k, (descAt s.ns k).data⟩ else ⟨cutR s.ns k, s.first, s.data ++ (descAt s.ns k).data⟩) else jEnd s) := Lib.hid rfl
      clear hL hC hf hdl hcut hok2 hfold hdr hk
      generalize descAt s.ns k = d at *
      go_wp2_with fail
      refine H1.out.mono ?_
      rintro e w5 ⟨k1, k2, a1, a2, rfl, -, -, b5⟩
      have b5s := b5.size
      have HB5 := Lib.hid b5
      have hwl : w.heap.size + 3 ≤ w5.heap.size := by have := HL.out.sz; omega
      have HL6 := Lib.hid (fun o => (HL.out.below HB5.out).below (balloc w5 o))
      have HC6 := Lib.hid (fun o => HC.out.keep (w2 := w5.alloc o) fun b hb => (Below.heap_alloc _ _ _ (by omega)).trans (HB5.out.block b (by have := HL.out.sz; omega)))
      have HR6 := Lib.hid (fun o => ownsRow_below (ownsRow_below HRow.out HB5.out) (balloc w5 o))
      have ca6 : ∀ o, (w5.alloc o).cell? ⟨w.heap.size, 0, none⟩ = some (.pointer (some ⟨B, 0, none⟩)) := fun o => by rw [cell_of_row _ _ _ _ _ _ (HC6.out o).a]; rfl
      have cf6 : ∀ o, (w5.alloc o).cell? ⟨w.heap.size + 1, 0, none⟩ = some (.int .i64 (s.first : Nat)) := fun o => by rw [cell_of_row _ _ _ _ _ _ (HC6.out o).f]; rfl
      have cd6 : ∀ o, (w5.alloc o).cell? ⟨w.heap.size + 2, 0, none⟩ = some (.string ⟨s.data.toArray⟩) := fun o => by rw [cell_of_row _ _ _ _ _ _ (HC6.out o).d]; rfl
      have ff6 : ∀ o, (w5.alloc o).frozen? ⟨w.heap.size + 1, 0, none⟩ = false := fun o => Lib.frozen_of_heap (HC6.out o).f 0
      have fd6 : ∀ o, (w5.alloc o).frozen? ⟨w.heap.size + 2, 0, none⟩ = false := fun o => Lib.frozen_of_heap (HC6.out o).d 0
      -- the round's end
      have HNext := Lib.hid (fun (s2 : JS) (O2 : List Nat) (w2 : World) (he : jStep s k = s2) (hL2 : Loc B n O w O2 s2.ns w2) (hC2 : JCells B w s2.first s2.data w2) (hR2 : w2.ownsRow (w.heap.size + 3) 3 1 (.slice (some ⟨gk, 0, none⟩) ks.length kc) ks.length (kidCells ks)) =>
        show ∃ (j2 : Nat) (s : JS) (O1 : List Nat), j2 ≤ ks.length ∧ (Value.int .i64 ((j : Int) + 1)) = .int .i64 (j2 : Nat) ∧ Loc B n O w O1 s.ns w2 ∧ JCells B w s.first s.data w2 ∧ JOk s (ks.drop j2) ∧ (ks.drop j2).foldl jStep s = ks.foldl jStep ⟨ns, 0, []⟩ ∧ w2.ownsRow (w.heap.size + 3) 3 1 (.slice (some ⟨gk, 0, none⟩) ks.length kc) ks.length (kidCells ks) from
          ⟨j + 1, s2, O2, by omega, by simp, hL2, hC2, he ▸ HOK2.out, he ▸ HFO.out, hR2⟩)
      clear b5 H1 ca hcell
      cases hk5 : (d.kind != 5)
      · have hk5' : d.kind = 5 := by simpa using hk5
        have HST2 := Lib.hid (HST.out.trans (if_pos hk5'))
        clear hk5' HST
        by_cases hq : s.first = 0 ∧ d.data ≠ []
        · have HST3 := Lib.hid (HST2.out.trans (if_pos hq))
          obtain ⟨hq1, hq2⟩ := hq
          rw [hq1] at cf6
          have hde : d.data.isEmpty = false := by cases hdd : d.data with | nil => exact absurd hdd hq2 | cons a l => rfl
          clear HST2 hq1
          go_wp2
          go_region
          all_goals
            generalize hW6 : w5.alloc _ = W6
            have L6 := hW6 ▸ HL6.out _
            have C6 := hW6 ▸ HC6.out _
            have R6 := hW6 ▸ HR6.out _
            have b1 := (L6.set (b := w.heap.size + 1) (o := 0) (.int .i64 (k : Nat)) (by omega)).set (b := w.heap.size + 2) (o := 0) (.string ⟨d.data.toArray⟩) (by omega)
            have b2 := (L6.set (b := w.heap.size + 2) (o := 0) (.string ⟨d.data.toArray⟩) (by omega)).set (b := w.heap.size + 1) (o := 0) (.int .i64 (k : Nat)) (by omega)
            have HX := Lib.hid (HNext.out _ _ _ HST3.out b1 (C6.set k d.data).1 (row_keep R6 fun g hg => (Below.heap_setCell _ ⟨w.heap.size + 2, 0, none⟩ _ g (HLo2.out g hg).2).trans (Below.heap_setCell _ ⟨w.heap.size + 1, 0, none⟩ _ g (HLo2.out g hg).1)))
            have HY := Lib.hid (HNext.out _ _ _ HST3.out b2 (C6.set k d.data).2 (row_keep R6 fun g hg => (Below.heap_setCell _ ⟨w.heap.size + 1, 0, none⟩ _ g (HLo2.out g hg).1).trans (Below.heap_setCell _ ⟨w.heap.size + 2, 0, none⟩ _ g (HLo2.out g hg).2)))
            have HXd := Lib.hid (HNext.out _ _ _ HST3.out b1.drew ⟨(C6.set k d.data).1.a, (C6.set k d.data).1.f, (C6.set k d.data).1.d⟩ (row_keep R6 fun g hg => (Below.heap_setCell _ ⟨w.heap.size + 2, 0, none⟩ _ g (HLo2.out g hg).2).trans (Below.heap_setCell _ ⟨w.heap.size + 1, 0, none⟩ _ g (HLo2.out g hg).1)))
            have HYd := Lib.hid (HNext.out _ _ _ HST3.out b2.drew ⟨(C6.set k d.data).2.a, (C6.set k d.data).2.f, (C6.set k d.data).2.d⟩ (row_keep R6 fun g hg => (Below.heap_setCell _ ⟨w.heap.size + 1, 0, none⟩ _ g (HLo2.out g hg).1).trans (Below.heap_setCell _ ⟨w.heap.size + 2, 0, none⟩ _ g (HLo2.out g hg).2)))
            clear L6 C6 R6 b1 b2 hW6
            go_wp2
            go_roundw
            case rel => first | exact HX.out | exact HY.out | exact HXd.out | exact HYd.out
            case measure => simp [intOf]; omega
        · have HST3 := Lib.hid (HST2.out.trans (if_neg hq))
          have hq3 : s.first ≠ 0 ∨ (s.first = 0 ∧ d.data = []) := by
            by_cases h0 : s.first = 0
            · exact .inr ⟨h0, Classical.not_not.1 fun h => hq ⟨h0, h⟩⟩
            · exact .inl h0
          clear HST2 hq
          rcases hq3 with hq3 | ⟨hq3, hq4⟩
          · have hz : ((s.first : Int) == 0) = false := by simpa using hq3
            clear hq3
            have hsum := HDL.out
            go_wp2_with fail
            generalize hW6 : w5.alloc _ = W6
            have L6 := Lib.hid (hW6 ▸ HL6.out _)
            have C6 := Lib.hid (hW6 ▸ HC6.out _)
            have R6 := Lib.hid (hW6 ▸ HR6.out _)
            have L7 := Lib.hid (L6.out.set (b := w.heap.size + 2) (o := 0) (.string ⟨(s.data ++ d.data).toArray⟩) (by omega))
            have C7 := Lib.hid (C6.out.setd (s.data ++ d.data))
            clear hW6 cf6 cd6 ca6 ff6 fd6
            refine (Cut_any k _ L7.out.ar HF.out.len HCU.out).mono ?_
            rintro e w8 hd
            obtain ⟨O2, hA2, hs2⟩ := hd.step L7.out.ar
            obtain ⟨rfl, -⟩ := hd
            have HX := Lib.hid (HNext.out _ _ _ HST3.out (L7.out.call hA2 hs2) (C7.out.keep fun b hb => L7.out.keep hs2 (by omega)) (row_keep R6.out fun g hg => (L7.out.keep hs2 (HLo.out g hg)).trans (Below.heap_setCell _ ⟨w.heap.size + 2, 0, none⟩ _ g (HLo2.out g hg).2)))
            clear hA2 hs2
            go_wp2
            go_roundw
            case rel => exact HX.out
            case measure => simp [intOf]; omega
          · rw [hq3] at cf6
            have hsum := HDL.out
            have HST4 := Lib.hid (show jStep s k = ⟨cutR s.ns k, s.first, s.data⟩ by have := HST3.out; rwa [hq4, List.append_nil] at this)
            have hd0 : d.data = [] := hq4
            clear hq4
            go_wp2_with fail
            generalize hW6 : w5.alloc _ = W6
            have L6 := Lib.hid (hW6 ▸ HL6.out _)
            have C6 := Lib.hid (hW6 ▸ HC6.out _)
            have R6 := Lib.hid (hW6 ▸ HR6.out _)
            have L7 := Lib.hid (L6.out.set (b := w.heap.size + 2) (o := 0) (.string ⟨s.data.toArray⟩) (by omega))
            have C7 := Lib.hid (C6.out.setd s.data)
            clear hW6 cf6 cd6 ca6 ff6 fd6
            refine (Cut_any k _ L7.out.ar HF.out.len HCU.out).mono ?_
            rintro e w8 hd
            obtain ⟨O2, hA2, hs2⟩ := hd.step L7.out.ar
            obtain ⟨rfl, -⟩ := hd
            have HX := Lib.hid (HNext.out _ _ _ HST4.out (L7.out.call hA2 hs2) (C7.out.keep fun b hb => L7.out.keep hs2 (by omega)) (row_keep R6.out fun g hg => (L7.out.keep hs2 (HLo.out g hg)).trans (Below.heap_setCell _ ⟨w.heap.size + 2, 0, none⟩ _ g (HLo2.out g hg).2)))
            clear hA2 hs2
            go_wp2
            go_roundw
            case rel => exact HX.out
            case measure => simp [intOf]; omega
      · have hk5' : d.kind ≠ 5 := by simpa using hk5
        have HST2 := Lib.hid (HST.out.trans (if_neg hk5'))
        clear hk5' HST
        go_wp2_with fail
        refine (joinEnd_any s w _ hn3 (HL6.out _) (HC6.out _) HF.out).mono ?_
        rintro e w7 ⟨rfl, O2, hL7, hC7, hk7⟩
        have HX := Lib.hid (HNext.out _ O2 w7 HST2.out hL7 hC7 (row_keep (HR6.out _) fun g hg => hk7 g (HLo.out g hg) (HLo2.out g hg).1 (HLo2.out g hg).2))
        clear hL7 hC7 hk7
        go_wp2
        go_roundw
        case rel => exact HX.out
        case measure => simp [intOf]; omega
    · have hje : j = ks.length := by omega
      subst hje
      rw [List.drop_length] at hok hfold
      have hf : Fit s.ns := hok
      rw [List.foldl_nil] at hfold
      have HFO := Lib.hid hfold
      have HJE := Lib.hid (joinEnd_any s w wr hn3 hL hC hf)
      clear hL hC hok hf hfold
      go_wp2_with fail
      refine HJE.out.mono ?_
      rintro e w7 ⟨rfl, O2, hL7, -, -⟩
      have HX := Lib.hid (show ∃ O', ArW B O' (joinL ns ks) w7 ∧ AStep O w O' w7 from ⟨O2, by rw [HE.out, ← HFO.out]; exact hL7.ar, hL7.step⟩)
      clear hL7
      go_wp2
      go_end0
      exact ⟨rfl, HX.out⟩
end Go.Proofs.YtdapdadcninidaaGreatDoor
namespace Go.Proofs.YtdapdadcninidaaGreatDoor
open Go.RowKit
attribute [local go_sem ↓] Go.wp_at_zero Go.wp_at_succ
attribute [local go_sem] sapp
attribute [local go_sem] sext

/-- A description as it lies in a variable. -/
def nodeArr (d : Nd) (k1 : Option Addr) (k2 : Nat) (a1 : Option Addr) (a2 : Nat) : Array Value := #[.int .i64 d.kind, .int .i64 (d.parent : Nat), .slice k1 d.kids.length k2, .int .i64 (d.doc : Nat), .int .i64 d.space, .string ⟨d.name.toArray⟩, .slice a1 d.attrs.length a2, .string ⟨d.data.toArray⟩, .string ⟨d.pub.toArray⟩, .string ⟨d.sys.toArray⟩, .bool d.quirks, .int .i64 (d.contents : Nat), .int .i64 (d.host : Nat)]
theorem below_drewA {n : Nat} {w w' : World} (h : Below n w w') : Below n w w'.drew := ⟨h.os, h.tape, h.output, h.size, h.block⟩
end Go.Proofs.YtdapdadcninidaaGreatDoor
namespace Go.Proofs.YtdapdadcninidaaGreatDoor
open Go.RowKit
attribute [local go_sem] Oper.semAt_some

/-- The texts of these nodes, one after the other. -/
def textOf (ns : List Nd) (xs : List Nat) : List UInt8 := xs.flatMap fun x => if (descAt ns (x : Nat)).kind = 5 then (descAt ns (x : Nat)).data else []
/-- What the loop keeps: o the block of out. -/
structure TxJ (B : AB) (O : List Nat) (ns : List Nd) (xs : List Nat) (w : World) (o : Nat) (G : Nat → Prop) (i : Nat) (W : World) : Prop where
  out : ∃ v, W.heap[o]? = some (.cells #[v] 110 (0, 0)) ∧ OwnB w.heap.size W v (textOf ns (xs.take i)) ∧ ∀ g, v.ownBlock = some g → ¬ G g ∧ o < g
  ob : ¬ G o ∧ w.heap.size < o
  bx : W.cell? ⟨w.heap.size, 0, none⟩ = some (.pointer (some ⟨B, 0, none⟩)) ∧ ¬ G w.heap.size
  ar : ArW B O ns W
  lo : ∀ k ∈ O, ¬ G k ∧ k < w.heap.size
  bl : Below w.heap.size w W
  fg : ∀ k, G k → w.heap.size ≤ k ∧ k < W.heap.size
theorem own_keepB {R : Nat} {w w' : World} {v : Value} {bs : List UInt8} (h : OwnB R w v bs) (hk : ∀ g, v.ownBlock = some g → w'.heap[g]? = w.heap[g]?) : OwnB R w' v bs := by
  refine ⟨h.1, ?_⟩
  rcases h.2 with h | ⟨g, cap, cur, fz, hv, hg, hgg, r⟩
  · exact .inl h
  · exact .inr ⟨g, cap, cur, fz, hv, hg, (hk g (by rw [hv]; rfl)).trans hgg, r⟩
theorem own_ltB {R : Nat} {w : World} {v : Value} {bs : List UInt8} (h : OwnB R w v bs) {g : Nat} (hg : v.ownBlock = some g) : R ≤ g ∧ g < w.heap.size := h.lt g hg
theorem TxJ.kept {B : AB} {O : List Nat} {ns : List Nd} {xs : List Nat} {w : World} {o i : Nat} {G G' : Nat → Prop} {A C : World} (h : TxJ B O ns xs w o G i A) (hm : Mod G A C) (hg : ∀ k, G' k → G k ∨ (A.heap.size ≤ k ∧ k < C.heap.size)) : TxJ B O ns xs w o G' i C := by
  obtain ⟨⟨v, h1, h2, h3⟩, ⟨h4, h5⟩, ⟨h6, h7⟩, h8, h9, h10, h11⟩ := h
  have lo := (Array.getElem?_eq_some_iff.1 h1).1
  have lb := World.block_lt_of_cell? _ _ h6
  have hs := h10.size
  refine ⟨⟨v, (hm.block o lo h4).trans h1, own_keepB h2 fun g hgv => hm.block g (own_ltB h2 hgv).2 (h3 g hgv).1, fun g hgv => ⟨fun hG => (hg g hG).elim (h3 g hgv).1 (by have := (own_ltB h2 hgv).2; omega), (h3 g hgv).2⟩⟩,
    ⟨fun hG => (hg o hG).elim h4 (by omega), h5⟩, ⟨(hm.cell (p := ⟨w.heap.size, 0, none⟩) lb h7).trans h6, fun hG => (hg _ hG).elim h7 (by omega)⟩, h8.kept hm fun k hk => (h9 k hk).1,
    fun k hk => ⟨fun hG => (hg k hG).elim (h9 k hk).1 (by have := (h9 k hk).2; omega), (h9 k hk).2⟩, h10.trans (hm.below h10.size fun k hk hG => by have := h11 k hG; omega), fun k hG => (hg k hG).elim (fun h => by have := h11 k h; have := hm.size; omega) (by omega)⟩
/-- A round that has put a text behind the others. -/
theorem TxJ.add {B : AB} {O : List Nat} {ns : List Nd} {xs : List Nat} {w : World} {o i : Nat} {G : Nat → Prop} {A C : World} {v v' : Value} (h : TxJ B O ns xs w o G i A) (hv : A.heap[o]? = some (.cells #[v] 110 (0, 0))) (hvG : ∀ g, v.ownBlock = some g → ¬ G g ∧ o < g)
    (hm : Mod (fun k => k = o ∨ v.ownBlock = some k) A C) (ho : C.heap[o]? = some (.cells #[v'] 110 (0, 0))) (hown : OwnB w.heap.size C v' (textOf ns (xs.take (i + 1)))) (hat : v'.ownBlock = v.ownBlock ∨ ∃ g, v'.ownBlock = some g ∧ A.heap.size ≤ g) :
    TxJ B O ns xs w o G (i + 1) C ∧ Mod (fun k => ¬ G k) A C := by
  obtain ⟨-, ⟨h4, h5⟩, ⟨h6, h7⟩, h8, h9, h10, h11⟩ := h
  have lo := (Array.getElem?_eq_some_iff.1 hv).1
  have lb := World.block_lt_of_cell? _ _ h6
  have nS : ∀ k, k ≤ w.heap.size → ¬ (k = o ∨ v.ownBlock = some k) := fun k hk h => h.elim (by omega) fun e => by have := (hvG k e).2; omega
  have hS : Mod (fun k => ¬ G k) A C := hm.mono fun k _ h => h.elim (fun e => e ▸ h4) fun e => (hvG k e).1
  refine ⟨⟨⟨v', ho, hown, fun g hg => ?_⟩, ⟨h4, h5⟩, ⟨(hm.cell (p := ⟨w.heap.size, 0, none⟩) lb (nS _ (Nat.le_refl _))).trans h6, h7⟩, h8.kept hm fun k hk => nS k (by have := (h9 k hk).2; omega), h9, h10.trans (hm.below h10.size fun k hk => nS k (by omega)), fun k hG => ⟨(h11 k hG).1, by have := (h11 k hG).2; have := hm.size; omega⟩⟩, hS⟩
  rcases hat with e | ⟨g', e, hge⟩
  · exact hvG g (by rw [← e]; exact hg)
  · rw [hg] at e
    cases e
    exact ⟨fun hG => by have := (h11 g hG).2; omega, by omega⟩
end Go.Proofs.YtdapdadcninidaaGreatDoor
namespace Go.Proofs.YtdapdadcninidaaGreatDoor
open Go.RowKit
attribute [local go_sem] Oper.semAt_some

/-- A region that draws its order, inside a fence, its calls kept within a class of worlds. -/
theorem region_classIn {F : Fence} {n : Nat} {P : Program} {id : Nat} {Q : Exit → Go.Act → World → Prop} {a : Go.Act} {w : World} {l : List Oper} (C : World → Prop) (hro : F.round = none) (hm : P.follows .mixedOrders = true) (hB : Region.lexB .any l.toArray = true) (hC : C w.drew)
    (h : wpQuietIn F n P l.toArray C (fun a' => ∀ w', C w' → Q .normal a' w') l a) : (Code.region id l.toArray true).wpIn F n P Q a w := wpIn_region_quiet (C := C) hro hm hB hC (by simpa using h)
attribute [local go_sem] run_store_func
/-- What adopt answers and leaves. -/
def AdRc (s : St) (h : Int) (e : Ending) (s' : St) : Prop := e = .returned (.tuple #[]) ∧ Dq (cutS s h) s'
/-- The state at adopt's region that draws. -/
structure AdC (T : Nat) (O O1 : List Nat) (w : World) (s1 : St) (doc : Int) (W : World) : Prop where
  ar : ArM T O1 s1 W
  st : AStep O w O1 W
  b0 : Bx w.heap.size O1 W (.pointer (some ⟨T, 0, none⟩))
  b1 : Bx (w.heap.size + 1) O1 W (.int .i64 doc)
theorem AdC.step {T : Nat} {O O1 O2 : List Nat} {w W W2 : World} {s1 s2 : St} {doc : Int} (h : AdC T O O1 w s1 doc W) (hA : ArM T O2 s2 W2) (hs : AStep O1 W O2 W2) : AdC T O O2 w s2 doc W2 :=
  ⟨hA, h.st.trans hs, h.b0.step hs, h.b1.step hs⟩
theorem AdC.later {T : Nat} {O O1 : List Nat} {w W W2 : World} {s1 : St} {doc : Int} (h : AdC T O O1 w s1 doc W) (hb : Below W.heap.size W W2) : AdC T O O1 w s1 doc W2 := h.step (h.ar.later hb) (astep_below hb)
set_option maxRecDepth 100000 in
set_option maxHeartbeats 4000000 in
theorem adopt_step (h doc : Int) (w : World) {T : Nat} {O : List Nat} {s : St} {L : Lim} {r : Nat → Nat} (hA : ArM T O s w) (hg : Gd L s) (hf : L.f ≤ 900000) (ha : L.a ≤ 900000) (hs : Snd s.ns r)
    (IH : ∀ s2 O2 w2 (x y : Nat) (doc' : Int), h = ((y : Nat) : Int) → inR s.ns y → r y ≤ r x → inR s.ns x → (nd s.ns x).contents ≠ 0 → Dq (cutS s h) s2 → ArM T O2 s2 w2 → Calls Tryz.prog 119 #[.pointer (some ⟨T, 0, none⟩), .int .i64 (((nd s.ns x).contents : Nat) : Int), .int .i64 doc'] w2 (Act T O2 w2 (AdR s2))) :
    Calls Tryz.prog 119 #[.pointer (some ⟨T, 0, none⟩), .int .i64 h, .int .i64 doc] w (Act T O w (AdRc s h)) := by
  obtain ⟨s1, hs1⟩ : ∃ s1, cutS s h = s1 := ⟨_, rfl⟩
  have hg1 : Gd L s1 := by rw [← hs1]; exact hg.cutS h
  have hn1 : s1.ns = cutQ s.ns h := by rw [← hs1]; rfl
  have hr1 : Snd s1.ns r := by rw [hn1]; exact hs.cutQ h
  have hir : ∀ x, inR s1.ns x ↔ inR s.ns x := fun x => by unfold inR; rw [hn1, cutQ_len]
  have hct : ∀ x, inR s.ns x → (nd s1.ns x).contents = (nd s.ns x).contents := fun x hx => by
    have h1 := (Mv.cutQ hs h).old x hx
    rw [← hn1] at h1
    have h2 : (kp (nd s1.ns x)).contents = (kp (nd s.ns x)).contents := by rw [h1]
    exact h2
  have HO : Hid (∀ s2 O2 W bt bd (x : Int), (∀ z : Nat, x = ((z : Nat) : Int) → inR s1.ns z → ∃ y : Nat, h = ((y : Nat) : Int) ∧ inR s.ns y ∧ r y ≤ r z) → Dq s1 s2 → ArM T O2 s2 W → Bx bt O2 W (.pointer (some ⟨T, 0, none⟩)) → Bx bd O2 W (.int .i64 doc) →
      Calls Tryz.prog 162 #[.int .i64 x, .pointer (some ⟨bt, 0, none⟩), .pointer (some ⟨bd, 0, none⟩)] W (Act T O2 W (AdR s2))) := Lib.hid (by
    intro s2 O2 W bt bd x hx hq hA2 b0 b1
    refine own_act x doc W hA2 (hq.gd (by omega) hg1) hf ha b0 b1 ?_
    intro s3 O3 w3 y doc' hxy hy hc hq3 hA3
    by_cases hy1 : inR s1.ns y
    · obtain ⟨y0, h0, h1, h2⟩ := hx y hxy hy1
      have hc1 := noDoc_contents (hq.old hy1)
      have hy2 := (hir y).1 hy1
      rw [hc1, hct y hy2] at hc ⊢
      exact IH s3 O3 w3 y y0 doc' h0 h1 h2 hy2 hc (by rw [hs1]; exact hq.trans hq3) hA3
    · have h3 : (noDoc (nd s2.ns y)).contents = 0 := by rw [hq.new hy hy1]
      exact absurd h3 hc)
  obtain ⟨xs, hS, hxs⟩ := below_data hr1 h
  have hlen1 := hg1.len
  obtain ⟨W0, hW0⟩ : ∃ W0, (w.alloc (.cells #[.pointer (some ⟨T, 0, none⟩)] 23)).alloc (.cells #[.int .i64 doc] 3) = W0 := ⟨_, rfl⟩
  obtain ⟨x0, x1, hs0, b0⟩ := two_new hW0
  have hC0 : AdC T O O w s doc W0 := ⟨hA.later b0, astep_below b0, ⟨by rw [cell_of_row _ _ _ _ _ _ x0]; rfl, fun hk => by have := hA.lt _ hk; omega⟩, ⟨by rw [cell_of_row _ _ _ _ _ _ x1]; rfl, fun hk => by have := hA.lt _ hk; omega⟩⟩
  have hlen := hg.len
  have hfit := hg.fit (by omega) (by omega)
  obtain ⟨iv, O1, hA1, hd⟩ := hC0.ar.did
  have H1 : Calls Tryz.prog 32 #[.pointer (some ⟨T, 0, none⟩), .int .i64 h] W0 (Act T O W0 (fun e s' => e = .returned (.int .i64 (cutE s.ns h)) ∧ s' = s1)) :=
    (Cut_any h W0 hA1 (by omega) fun hh => by
      obtain ⟨x, rfl, hx⟩ := isH_nat hh
      exact hs.cutOk hfit hx).mono fun e w' hh => (hd _ _ e w' hh).mono fun s' hs' => ⟨hs'.1, by
        rw [hs'.2, ← hs1]
        unfold cutS cutQ
        split <;> rfl⟩
  generalize cutE s.ns h = er at H1
  have c0 := hC0.b0.c
  have c1 := hC0.b1.c
  have HS := Lib.hid hS; have HXS := Lib.hid hxs; have HG1 := Lib.hid hg1; have H1 := Lib.hid H1; have HW := Lib.hid hW0; have HC0 := Lib.hid hC0
  have HFT := Lib.hid (fun s' (hq : Dq s1 s') => (hq.gd (by omega) hg1).fit (by omega) (by omega))
  have HYH : Hid (∀ z : Nat, h = ((z : Nat) : Int) → inR s1.ns z → ∃ y : Nat, h = ((y : Nat) : Int) ∧ inR s.ns y ∧ r y ≤ r z) := Lib.hid fun z hz hzr => ⟨z, hz, (hir z).1 hzr, Nat.le_refl _⟩
  have HYX : Hid (∀ x ∈ xs, ∀ z : Nat, ((x : Nat) : Int) = ((z : Nat) : Int) → inR s1.ns z → ∃ y : Nat, h = ((y : Nat) : Int) ∧ inR s.ns y ∧ r y ≤ r z) := Lib.hid fun x hx z hz _ => by
    obtain ⟨_, y, h1, h2, h3⟩ := hxs x hx
    have : x = z := by omega
    subst this
    exact ⟨y, h1, (hir y).1 h2, by omega⟩
  have HE := Lib.hid hs1
  clear IH hA hg hs hg1 hr1 hir hct hS hxs hlen1 hW0 x0 x1 b0 hC0 hfit hA1 hd hn1 HXS hlen
  obtain ⟨n, hn⟩ : ∃ n, 9 ≤ n := ⟨9, Nat.le_refl _⟩
  refine (callsIn_wide (n := n)).1 ?_
  refine callsIn_of_wp_marks Tryz.func119 rfl trivial ?_ rfl
  simp only [Tryz.ntmps119, List.size_toArray, List.length_cons, List.length_nil, Nat.reduceAdd, Nat.reduceSub, Array.replicate_succ, Array.replicate_zero, List.push_toArray, List.append_toArray, List.nil_append, List.cons_append]
  gi_wp2_with fail
  rw [HW.out]
  gi_wp2_with fail
  refine call_wide H1.out ?_ (by omega)
  rintro e w1 ⟨s1', O1, hA1, hst1, rfl, rfl⟩
  have hC1 := HC0.out.step hA1 hst1
  have c0 := hC1.b0.c
  have c1 := hC1.b1.c
  obtain ⟨iv1, O1a, hA1a, -⟩ := hA1.turn
  have hCd : AdC T O O1 w s1' doc w1.drew := hC1.later (bdrewA (Below.refl _ _))
  obtain ⟨z, hz⟩ : ∃ z : Int, ((descAt s1'.ns h).doc : Int) = z := ⟨_, rfl⟩
  have H2 : Hid (∀ W, ArM T O1 s1' W → Calls Tryz.prog 85 #[.pointer (some ⟨T, 0, none⟩), .int .i64 h] W (Ret W (.int .i64 z))) := Lib.hid (by
    intro W hW
    obtain ⟨iv2, O2, hA2, -⟩ := hW.turn
    have h3 := docOf_any h W hA2 (HFT.out s1' (.refl _))
    rw [hz] at h3
    exact h3)
  clear hA1 hst1 hC1 H1 hA1a
  obtain ⟨C, hC⟩ : ∃ C : World → Prop, C = AdC T O O1 w s1' doc := ⟨_, rfl⟩
  rw [← hC] at hCd
  have HCC := Lib.hid hC
  clear hC hz
  gi_wp2_with fail
  refine region_classIn C rfl (by kernel_rfl) (by kernel_rfl) hCd ?_
  iterate 2
    refine wpQuietIn_step (by quiet_asked_in) (fun K hK => ?_)
    go_simp
    apply Exists.intro
    refine ⟨fun W hW => ?_, hK _ ?_⟩
    · first
        | exact rfl
        | (rw [HCC.out] at hW; have m0 := hW.b0.c; have m1 := hW.b1.c; go_simp; exact rfl)
    clear hK K
  refine wpQuietIn_step (fun _ _ _ _ => trivial) (fun K hK => ?_)
  go_simp
  apply Exists.intro
  refine ⟨fun W hW => ?_, hK _ ?_⟩
  · rw [HCC.out] at hW
    refine ⟨fun _ => by omega, callsIn_wide.2 ((H2.out W hW.ar).mono ?_)⟩
    rintro e w2 ⟨rfl, b2⟩
    exact ⟨rfl, by rw [HCC.out]; exact hW.later b2⟩
  clear hK K
  iterate 2
    refine wpQuietIn_step (by quiet_asked_in) (fun K hK => ?_)
    go_simp
    apply Exists.intro
    refine ⟨fun W hW => ?_, hK _ ?_⟩
    · first
        | exact rfl
        | (rw [HCC.out] at hW; have m0 := hW.b0.c; have m1 := hW.b1.c; go_simp; exact rfl)
    clear hK K
  refine wpQuietIn_nil ?_
  intro W2 hW2
  rw [HCC.out] at hW2
  have HC2 := Lib.hid hW2
  have c0 := hW2.b0.c
  have c1 := hW2.b1.c
  clear hW2 HCC hCd H2
  cases hzd : (z == doc)
  · have l0 := HC2.out.b0.lt
    have l1 := HC2.out.b1.lt
    gi_wp2_with fail
    generalize hW3 : W2.alloc _ = W3
    have hb3 : Below W2.heap.size W2 W3 := by rw [← hW3]; exact balloc _ _
    have hC3 := HC2.out.later hb3
    have hbo : Bx W2.heap.size O1 W3 (.func (.func 162) #[] #[.pointer (some ⟨w.heap.size, 0, none⟩), .pointer (some ⟨w.heap.size + 1, 0, none⟩)]) := ⟨by rw [← hW3]; simp, fun hk => by have := HC2.out.ar.lt _ hk; omega⟩
    have H3 := Lib.hid (HO.out s1' O1 W3 w.heap.size (w.heap.size + 1) h HYH.out (.refl _) hC3.ar hC3.b0 hC3.b1)
    have HC3 := Lib.hid hC3; have HBO := Lib.hid hbo
    clear hW3 hb3 hC3 hbo HC2
    refine call_wide H3.out ?_ (by omega)
    rintro e w4 ⟨s2, O2, hA4, hs4, rfl, hq4⟩
    have hC4 := HC3.out.step hA4 hs4
    have hbo4 := HBO.out.step hs4
    have c0 := hC4.b0.c
    have c1 := hC4.b1.c
    have c2 := hbo4.c
    have HC4 := Lib.hid hC4; have HBO4 := Lib.hid hbo4; have HQ4 := Lib.hid hq4
    clear hC4 hbo4 hq4 hA4 hs4 HC3 HBO H3
    have H5 := Lib.hid (below_any h w4 T)
    gi_wp2_with fail
    refine call_wide H5.out ?_ (by omega)
    rintro e w5 ⟨rfl, hw5⟩
    obtain ⟨x0, x1, hs5, b5⟩ := two_new hw5.symm
    obtain ⟨bs, hbs⟩ : ∃ bs : List (Nat × Value), bs = [(w.heap.size, .pointer (some ⟨T, 0, none⟩)), (w.heap.size + 1, .int .i64 doc), (W2.heap.size, .func (.func 162) #[] #[.pointer (some ⟨w.heap.size, 0, none⟩), .pointer (some ⟨w.heap.size + 1, 0, none⟩)])] := ⟨_, rfl⟩
    have hJ0 : AdJ T O w s1' bs (fun _ => False) w5 := ⟨⟨s2, O2, HC4.out.ar.later b5, HQ4.out, HC4.out.st.trans (astep_below b5), fun _ _ h => h, fun b hb => ⟨by
      rw [hbs] at hb
      simp only [List.mem_cons, List.mem_nil_iff, or_false] at hb
      rcases hb with rfl | rfl | rfl
      · exact HC4.out.b0.later b5
      · exact HC4.out.b1.later b5
      · exact HBO4.out.later b5, fun h => h⟩⟩, fun k h => h.elim⟩
    have hit := fun n hn => below_iter h xs n hn w5 (B := T) (ab := w4.heap.size) (hb := w4.heap.size + 1) HS.out (by rw [cell_of_row _ _ _ _ _ _ x0]; rfl) (by rw [cell_of_row _ _ _ _ _ _ x1]; rfl)
    have HJ0 := Lib.hid hJ0; have HIT := Lib.hid hit; have HBS := Lib.hid hbs
    clear hw5 x0 x1 hs5 b5 hJ0 hit hbs HC4 HBO4 HQ4 H5
    gi_wp2_with fail
    have HSQ := Lib.hid (HIT.out (n - 1) (by omega))
    refine wpIn_rangeFunc_itf (gf := 98) (lb := #[.pointer (some ⟨w4.heap.size, 0, none⟩), .pointer (some ⟨w4.heap.size + 1, 0, none⟩)]) (encs := fun x : Nat => #[.int .i64 (x : Nat)]) (xs := xs) (I := fun _ => False) (Pr := PrK T (kidsAt s1'.ns)) rfl (by omega) rfl trivial enter_below1 HSQ.out (fun k h => h.elim) (fun x => rfl)
      (fun G i W => AdJ T O w s1' bs G W) (fun _ _ _ _ => False) ?keep ?keepx ?pr ?start ?round ?done ?stop
    case keep => exact fun G G' i A C h hm hg => h.kept hm hg
    case keepx => exact fun _ _ _ _ _ _ h _ _ => h
    case pr =>
      intro G i A hj
      obtain ⟨⟨s', O1, h1, h2, _⟩, _⟩ := hj
      obtain ⟨iv, Oa, hAw, -⟩ := h1.turn
      exact ⟨iv, Oa, s'.ns, hAw, HFT.out s' h2, fun y => h2.kids y⟩
    case start =>
      intro G W hW hG
      exact HJ0.out.kept (Mod.of_below hW) fun k hk => (hG k hk).elim False.elim fun h => .inr h
    case round =>
      rintro lp x W
      gi_wp2_with fail
      refine ⟨trivial, ?_⟩
      rintro G i W' hx hj hG hsz
      obtain ⟨⟨s', O3, h1, h2, h3, h4, h5⟩, h6⟩ := hj
      have hb0 := h5 _ (by rw [HBS.out]; exact List.mem_cons_self)
      have hb1 := h5 _ (by rw [HBS.out]; exact List.mem_cons_of_mem _ List.mem_cons_self)
      have hb2 := h5 _ (by rw [HBS.out]; exact List.mem_cons_of_mem _ (List.mem_cons_of_mem _ List.mem_cons_self))
      have c2 := hb2.1.c
      have H6 := Lib.hid (HO.out s' O3 W' w.heap.size (w.heap.size + 1) (x : Nat) (HYX.out x (List.mem_of_getElem? hx)) h2 h1 hb0.1 hb1.1)
      have HG := Lib.hid (fun O2 s2 C (hA : ArM T O2 s2 C) hq2 hs => AdJ.go (T := T) (O2 := O2) (s2 := s2) (C := C) h3 h4 h5 h6 hA h2 hq2 hs)
      clear hx h1 h2 h3 h4 h5 h6 hb0 hb1 hb2 HJ0 HIT HSQ
      dsimp only at c2
      gi_wp2_with fail
      refine call_round H6.out ?_ (by omega)
      rintro e w7 ⟨s3, O4, hA7, hs7, rfl, hq7⟩
      have HR := Lib.hid (HG.out O4 s3 w7 hA7 hq7 hs7)
      clear hA7 hs7 hq7 H6 HG
      gi_wp2_with fail
      exact HR.out
    case done =>
      rintro D G W hGD hj hD hK
      obtain ⟨⟨s', O3, h1, h2, h3, h4, h5⟩, h6⟩ := hj
      have HKK := Lib.hid hK
      have hF : ∀ o, Act T O w (AdRc s h) (.returned (.tuple #[])) (W.putObj D o) := fun o => ⟨s', O3, h1.kept (Mod.putObj (S := fun k => k = D) W o rfl) (fun k hk e => h4 k hk (e ▸ hGD)), by
        have hm : Mod (fun k => k = D) W (W.putObj D o) := Mod.putObj _ _ rfl
        have hDw := (h6 D hGD).1
        exact ⟨⟨hm.os.trans h3.mod.os, hm.tape.trans h3.mod.tape, hm.output.trans h3.mod.output, Nat.le_trans h3.mod.size hm.size, fun k hk hO => (hm.block k (Nat.lt_of_lt_of_le hk h3.mod.size) (by omega)).trans (h3.mod.block k hk hO)⟩, h3.own⟩, rfl, by rw [HE.out]; exact h2⟩
      have HF := Lib.hid hF
      clear h1 h2 h3 h4 h5 h6 hK hF HJ0 HIT HSQ
      gi_wp2_with fail
      unfold bodyPostM
      refine ⟨by simp, .inl ⟨_, _, rfl, run_takeDeferred HKK.out, ?_⟩⟩
      exact ⟨_, by simp [results, Tryz.results119, go_sem], HF.out _⟩
    case stop => exact fun D G c i W _ _ h _ _ => h.elim
  · have HF := Lib.hid (show Act T O w (AdRc s h) (.returned (.tuple #[])) W2 from ⟨s1', O1, HC2.out.ar, HC2.out.st, rfl, by rw [HE.out]; exact .refl _⟩)
    gi_wp2_with fail
    unfold bodyPostM
    exact ⟨_, by simp [results, Tryz.results119, go_sem], HF.out⟩
theorem adopt_deep {L : Lim} {T K : Nat} {r : Nat → Nat} (hf : L.f ≤ 900000) (ha : L.a ≤ 900000) : ∀ (n : Nat) (s : St) (O : List Nat) (w : World) (h doc : Int), ArM T O s w → Gd L s → Snd s.ns r → Bnd K r s.ns → (∀ y : Nat, h = ((y : Nat) : Int) → inR s.ns y → K ≤ r y + n) →
    Calls Tryz.prog 119 #[.pointer (some ⟨T, 0, none⟩), .int .i64 h, .int .i64 doc] w (Act T O w (AdRc s h)) := by
  intro n
  induction n with
  | zero =>
    intro s O w h doc hA hg hs hb hk
    refine adopt_step h doc w hA hg hf ha hs ?_
    intro s2 O2 w2 x y doc' hy hyr hle hx hc hq hA2
    obtain ⟨h1, h2, h3, _⟩ := cts_rank hs hx hc
    have h4 := hb _ h1 (.inr h3)
    have h5 := hk y hy hyr
    omega
  | succ n ih =>
    intro s O w h doc hA hg hs hb hk
    refine adopt_step h doc w hA hg hf ha hs ?_
    intro s2 O2 w2 x y doc' hy hyr hle hx hc hq hA2
    obtain ⟨h1, h2, h3, h5⟩ := cts_rank hs hx hc
    have h4 := hb _ h1 (.inr h3)
    have h6 := hk y hy hyr
    have hg1 := hg.cutS h
    have hs1 : Snd (cutS s h).ns r := hs.cutQ h
    have hs2 := hq.snd hs1
    have hb2 : Bnd K r s2.ns := hq.bnd (hb.cutQ hs h)
    have hc1 : inR (cutS s h).ns (nd s.ns x).contents := ⟨h1.1, by show _ ≤ (cutQ s.ns h).length; rw [cutQ_len]; exact h1.2⟩
    have hp : (nd s2.ns (nd s.ns x).contents).parent = 0 := by
      refine hs2.top _ (hq.inR hc1) (.inr ?_)
      have e1 := (Mv.cutQ hs h).old _ h1
      have e2 : (kp (nd (cutS s h).ns (nd s.ns x).contents)).kind = (kp (nd s.ns (nd s.ns x).contents)).kind := congrArg Nd.kind e1
      have e3 : (noDoc (nd s2.ns (nd s.ns x).contents)).kind = (noDoc (nd (cutS s h).ns (nd s.ns x).contents)).kind := by rw [hq.old hc1]
      have e4 := (hs.cts x hx hc).2.2
      exact (e3.trans e2).trans e4
    have e : cutS s2 (((nd s.ns x).contents : Nat) : Int) = s2 := by unfold cutS; rw [cutQ_still hp]
    have := ih s2 O2 w2 (((nd s.ns x).contents : Nat) : Int) doc' hA2 (hq.gd (by omega) hg1) hs2 hb2 fun z hz _ => by
      have : (nd s.ns x).contents = z := by omega
      rw [← this]; omega
    refine this.mono fun e' w' hR => hR.mono fun s' hr => ?_
    unfold AdRc at hr
    rw [e] at hr
    exact hr
/-- adopt, in all cases. -/
theorem adopt_act {L : Lim} {T : Nat} {s : St} {O : List Nat} {w : World} (h doc : Int) (hA : ArM T O s w) (hg : Gd L s) (hf : L.f ≤ 900000) (ha : L.a ≤ 900000) :
    Calls Tryz.prog 119 #[.pointer (some ⟨T, 0, none⟩), .int .i64 h, .int .i64 doc] w (Act T O w (AdRc s h)) := by
  obtain ⟨r, hr⟩ := hg.snd
  obtain ⟨K, hK⟩ := bnd_ex s.ns r
  exact adopt_deep hf ha K s O w h doc hA hg hr hK fun _ _ _ => by omega
end Go.Proofs.YtdapdadcninidaaGreatDoor
