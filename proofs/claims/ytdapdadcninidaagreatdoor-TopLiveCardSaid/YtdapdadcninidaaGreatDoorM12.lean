/- Package dom: Insert, Append, Replace, ReplaceAll, Adopt, in all cases. No condition but the invariant. Package dom: ReplaceAll, Adopt, in all cases. No condition but the invariant. The arena's calls and some of dom's over the state, with the invariant's limits behind them. No condition but the invariant. The classes of characters of package text: closures that were made by 'from', 'either', 'none', and the functions built on them. The public classes of package text (IsSpace, IsUpper, IsLetter, IsDigit, IsHex, IsAlnum), at every rune. Loops over the bytes of a string: 'all', 'none', and the tests on names. ValidElement, at every string. -/
import Derived.Test.YtdapdadcninidaaGreatDoorM11
import Derived.Test.YtdapdadcninidaaGreatDoorM1
import Derived.Test.YtdapdadcninidaaGreatDoorShelf
set_option linter.unusedSimpArgs false
set_option linter.unusedVariables false
namespace Go.Proofs.YtdapdadcninidaaGreatDoor
open Go.RowKit
attribute [local go_sem ↓] Go.wp_at_zero Go.wp_at_succ

theorem idxFrom_in (x : Int) : ∀ (zs : List Int) (i : Nat), -1 ≤ Lib.idxFrom zs x i ∧ Lib.idxFrom zs x i ≤ ((i + zs.length : Nat) : Int)
  | [], i => by unfold Lib.idxFrom; omega
  | z :: zs, i => by
    unfold Lib.idxFrom
    split
    · rw [List.length_cons]; omega
    · have := idxFrom_in x zs (i + 1)
      rw [List.length_cons]; omega
theorem kidIdx_in (ks : List Nat) (h : Int) : -1 ≤ kidIdx ks h ∧ kidIdx ks h ≤ ks.length := by
  have h1 := idxFrom_in h (kInts ks) 0
  rw [kInts_len] at h1
  unfold kidIdx Lib.idxOf
  omega
theorem nextW (h : Int) (w : World) {B : AB} {O : List Nat} {s : St} {L : Lim} (hA : ArW B O s.ns w) (hg : Gd L s) (hf : L.f ≤ 900000) (ha : L.a ≤ 900000) :
    Calls Tryz.prog 54 #[.pointer (some ⟨B, 0, none⟩), .int .i64 h] w (Ret w (.int .i64 (nextL s.ns h : Nat))) := by
  have hfit := hg.fit (by omega) (by omega)
  obtain ⟨r, hr⟩ := hg.snd
  refine next_any h w hA hfit (fun hh => ?_) ?_
  · obtain ⟨x, rfl, hx⟩ := isH_nat hh
    by_cases h0 : (nd s.ns x).parent = 0
    · have : (ndAt s.ns ((x : Nat) : Int)).parent = 0 := h0
      omega
    · exact (hr.par x hx h0).1.2
  · unfold indexAt
    split
    · have h1 := kidIdx_in (ndAt s.ns (ndAt s.ns h).parent).kids h
      have h2 := hfit.kid1 ((ndAt s.ns h).parent : Int)
      omega
    · omega
theorem Gd.upOk {L : Lim} {s : St} (hg : Gd L s) (p : Int) : isH s.ns.length p = true → ∃ xs, Up s.ns true p xs := by
  obtain ⟨r, hr⟩ := hg.snd
  exact fun h => hr.upOk h
/-- What an insertion leaves. -/
def InsS (s : St) (p : Int) (x : Nat) (s' : St) : Prop := ∃ b : Int, inR s.ns x ∧ InR p b s (nodesL s.ns x) s'
set_option maxRecDepth 100000 in
set_option maxHeartbeats 2000000 in
theorem Insert_act (p n c : Int) (w : World) {T : Nat} {O : List Nat} {s : St} {L : Lim} (hA : ArM T O s w) (hg : Gd L s) (hf : L.f ≤ 900000) (ha : L.a ≤ 900000) :
    Calls Tryz.prog 67 #[.pointer (some ⟨T, 0, none⟩), .int .i64 p, .int .i64 n, .int .i64 c] w (Act T O w (OrS s fun s' => InsS s p n.toNat s')) := by
  have hfit := hg.fit (by omega) (by omega)
  obtain ⟨iv, O1, hA1, -⟩ := hA.turn
  have H1 := Lib.hid (ValidateW p n c w hA1 hfit (hg.upOk p))
  have H2 := Lib.hid (fun w' (hb : Below w.heap.size w w') => nextW n w' (hA1.later hb) hg hf ha)
  have H3 := Lib.hid (fun (x : Nat) (b : Int) w' (hb : Below w.heap.size w w') (hx : inR s.ns x) => insert_act p b x w' (hA.later hb) hg hf ha hx)
  have HF := Lib.hid (fun (er : Int) w' (hb : Below w.heap.size w w') => show Act T O w (OrS s fun s' => InsS s p n.toNat s') (.returned (.int .i64 er)) w' from Act.still hA hb ⟨⟨_, rfl⟩, .inl rfl⟩)
  have HN := Lib.hid (fun (h : isH s.ns.length n = true) => isH_nat h)
  clear hA hA1 hg hfit
  go_enter Tryz.func67, Tryz.ntmps67
  go_wp2_with fail
  refine H1.out.mono ?_
  rintro e w1 ⟨er, rfl, b1, hv⟩
  have HB1 := Lib.hid b1; have HV := Lib.hid hv
  clear b1 hv H1
  by_cases h0 : er = 0
  · obtain ⟨x, hx, hxr⟩ := HN.out (HV.out h0).2
    subst h0
    have HX := Lib.hid hxr
    have HI := Lib.hid (fun (b : Int) w2 (hb : Below w.heap.size w w2) e w3 (h : Act T O w2 (fun e s' => e = .returned (.tuple #[]) ∧ InR p b s (nodesL s.ns x) s') e w3) => show e = .returned (.tuple #[]) ∧ Act T O w (OrS s fun s' => InsS s p n.toNat s') (.returned (.int .i64 0)) w3 from by
      obtain ⟨s', O', h1, h2, h3, h4⟩ := h
      exact ⟨h3, s', O', h1, astep_pre hb h2, ⟨_, rfl⟩, .inr ⟨b, by rw [hx, Int.toNat_natCast]; exact hxr, by rw [hx, Int.toNat_natCast]; exact h4⟩⟩)
    rw [hx] at H2 ⊢
    clear hx hxr HN HV HF
    by_cases hc : c = ((x : Nat) : Int)
    · have hcb : (c == ((x : Nat) : Int)) = true := by simpa using hc
      have H4 := Lib.hid (H2.out w1 HB1.out)
      generalize nextL s.ns ((x : Nat) : Int) = nx at *
      clear hc H2
      go_wp2_with fail
      refine H4.out.mono ?_
      rintro e w2 ⟨rfl, b2⟩
      have HB2 := Lib.hid (bthen HB1.out HB1.out.size b2)
      clear b2 H4
      have H5 := Lib.hid (H3.out x (nx : Nat) w2 HB2.out HX.out)
      go_wp2_with fail
      refine H5.out.mono ?_
      rintro e w3 hh
      obtain ⟨rfl, hz⟩ := HI.out _ w2 HB2.out e w3 hh
      have HH := Lib.hid hz
      clear hh hz H5
      go_wp2_with fail
      go_ret
      exact HH.out
    · have hcb : (c == ((x : Nat) : Int)) = false := by simpa using hc
      have H5 := Lib.hid (H3.out x c w1 HB1.out HX.out)
      clear hc H2
      go_wp2_with fail
      refine H5.out.mono ?_
      rintro e w3 hh
      obtain ⟨rfl, hz⟩ := HI.out _ w1 HB1.out e w3 hh
      have HH := Lib.hid hz
      clear hh hz H5
      go_wp2_with fail
      go_ret
      exact HH.out
  · have h0b : (er != 0) = true := by simpa using h0
    clear HN HV H2 H3 h0
    go_wp2_with fail
    go_ret
    exact HF.out _ _ HB1.out
set_option maxRecDepth 100000 in
theorem Append_act (p n : Int) (w : World) {T : Nat} {O : List Nat} {s : St} {L : Lim} (hA : ArM T O s w) (hg : Gd L s) (hf : L.f ≤ 900000) (ha : L.a ≤ 900000) :
    Calls Tryz.prog 34 #[.pointer (some ⟨T, 0, none⟩), .int .i64 p, .int .i64 n] w (Act T O w (OrS s fun s' => InsS s p n.toNat s')) := by
  have H1 := Lib.hid (Insert_act p n 0 w hA hg hf ha)
  clear hA hg
  go_enter Tryz.func34, Tryz.ntmps34
  go_wp2_with fail
  refine H1.out.mono ?_
  rintro e w1 ⟨s', O', h1, h2, ⟨er, rfl⟩, h3⟩
  have HF := Lib.hid (show Act T O w (OrS s fun s' => InsS s p n.toNat s') (.returned (.int .i64 er)) w1 from ⟨s', O', h1, h2, ⟨_, rfl⟩, h3⟩)
  clear h1 h2 h3 H1
  go_wp2_with fail
  go_ret
  exact HF.out
set_option maxRecDepth 100000 in
set_option maxHeartbeats 2000000 in
theorem Replace_act (p n c : Int) (w : World) {T : Nat} {O : List Nat} {s : St} {L : Lim} (hA : ArM T O s w) (hg : Gd L s) (hf : L.f ≤ 900000) (ha : L.a ≤ 900000) :
    Calls Tryz.prog 68 #[.pointer (some ⟨T, 0, none⟩), .int .i64 p, .int .i64 n, .int .i64 c] w (Act T O w (OrS s fun s' => InsS (cutS s c) p n.toNat s')) := by
  have hfit := hg.fit (by omega) (by omega)
  obtain ⟨W0, hW0⟩ : ∃ W0, w.alloc (.cells #[.int .i64 p, .int .i64 n, .int .i64 c] 3) = W0 := ⟨_, rfl⟩
  have b0 : Below w.heap.size w W0 := by rw [← hW0]; exact balloc w _
  have hbx : W0.heap[w.heap.size]? = some (.cells #[.int .i64 p, .int .i64 n, .int .i64 c] 3 (0, 0)) := by rw [← hW0]; exact World.alloc_heap_new w _
  have hs0 : W0.heap.size = w.heap.size + 1 := by rw [← hW0]; simp
  obtain ⟨iv, O1, hA1, -⟩ := hA.turn
  have H1 := checkD_any (B := ⟨T, iv⟩) (H := w.heap.size) (c := 3) (-1) [p, n, c] W0 (hA1.later b0) hfit (by
    intro j v hj
    match j, hj with
    | 0, hj => simp at hj; subst hj; rw [cell_of_row _ _ _ _ _ _ hbx]; rfl
    | 1, hj => simp at hj; subst hj; rw [cell_of_row _ _ _ _ _ _ hbx]; rfl
    | 2, hj => simp at hj; subst hj; rw [cell_of_row _ _ _ _ _ _ hbx]; rfl) (by simp) (by omega)
  have HC := Lib.hid (fun (h : chkD s.ns.length (-1) [p, n, c] = 0) => isH_nat (chkD_all h (by decide) n (by simp)))
  generalize chkD s.ns.length (-1) [p, n, c] = ce at *
  have HR := Lib.hid (fun w' (hb : Below w.heap.size w w') => refusedW p n c true w' (rulW_any p n c true w' (hA1.later hb) hfit (hg.upOk p)))
  have H2 := Lib.hid (fun x w' (hb : Below w.heap.size w w') => nextW x w' (hA1.later hb) hg hf ha)
  have H3 := Lib.hid (fun w' (hb : Below w.heap.size w w') => Cut_act c w' (hA.later hb) hg hf ha)
  have H4 := Lib.hid (fun (x : Nat) (b : Int) w' O' (hA' : ArM T O' (cutS s c) w') (hx : inR s.ns x) => insert_act p b x w' hA' (hg.cutS c) hf ha (by unfold inR cutS; rw [cutQ_len]; exact hx))
  have HF := Lib.hid (fun (er : Int) w' (hb : Below w.heap.size w w') => show Act T O w (OrS s fun s' => InsS (cutS s c) p n.toNat s') (.returned (.int .i64 er)) w' from Act.still hA hb ⟨⟨_, rfl⟩, .inl rfl⟩)
  have H1 := Lib.hid H1; have HW := Lib.hid hW0; have HB0 := Lib.hid b0
  clear hA hA1 hg hfit hbx hs0 hW0 b0
  by_cases hce : ce = 0
  · obtain ⟨x, hx, hxr⟩ := HC.out hce
    subst hce
    have HX := Lib.hid hxr
    have HI := Lib.hid (fun (b : Int) w2 w3 O2 (h0 : AStep O w O2 w2) e (h : Act T O2 w2 (fun e s' => e = .returned (.tuple #[]) ∧ InR p b (cutS s c) (nodesL (cutS s c).ns x) s') e w3) => show e = .returned (.tuple #[]) ∧ Act T O w (OrS s fun s' => InsS (cutS s c) p n.toNat s') (.returned (.int .i64 0)) w3 from by
      obtain ⟨s', O', h1, h2, h3, h4⟩ := h
      exact ⟨h3, s', O', h1, h0.trans h2, ⟨_, rfl⟩, .inr ⟨b, by rw [hx, Int.toNat_natCast]; unfold inR cutS; rw [cutQ_len]; exact hxr, by rw [hx, Int.toNat_natCast]; exact h4⟩⟩)
    clear hxr HC
    subst hx
    unfold mvV at *
    go_enter Tryz.func68, Tryz.ntmps68
    go_wp2_with fail
    rw [HW.out]
    refine H1.out.mono ?_
    rintro e w1 ⟨rfl, b1⟩
    have HB1 := Lib.hid (bthen HB0.out HB0.out.size b1)
    have H5 := Lib.hid (HR.out w1 HB1.out)
    clear b1 H1 HR
    go_wp2_with fail
    refine H5.out.mono ?_
    rintro e w2 ⟨er, rfl, b2⟩
    have HB2 := Lib.hid (bthen HB1.out HB1.out.size b2)
    clear b2 H5
    by_cases h0 : er = 0
    · subst h0
      have H6 := Lib.hid (H2.out c w2 HB2.out)
      generalize nextL s.ns c = n1 at *
      go_wp2_with fail
      refine H6.out.mono ?_
      rintro e w3 ⟨rfl, b3⟩
      have HB3 := Lib.hid (bthen HB2.out HB2.out.size b3)
      clear b3 H6
      by_cases hc : n1 = x
      · have hcb : (((n1 : Nat) : Int) == ((x : Nat) : Int)) = true := by rw [hc]; simp
        have H7 := Lib.hid (H2.out (x : Nat) w3 HB3.out)
        generalize nextL s.ns ((x : Nat) : Int) = n2 at *
        clear hc
        go_wp2_with fail
        refine H7.out.mono ?_
        rintro e w4 ⟨rfl, b4⟩
        have HB4 := Lib.hid (bthen HB3.out HB3.out.size b4)
        have H8 := Lib.hid (H3.out w4 HB4.out)
        clear b4 H7 H2
        go_wp2_with fail
        refine H8.out.mono ?_
        rintro e w5 ⟨s5, O5, hA5, hs5, ⟨er, rfl⟩, rfl⟩
        have HS5 := Lib.hid (astep_pre HB4.out hs5)
        have H9 := Lib.hid (H4.out x (n2 : Nat) w5 O5 hA5 HX.out)
        clear hA5 hs5 H8 H4
        go_wp2_with fail
        refine H9.out.mono ?_
        rintro e w6 hh
        obtain ⟨rfl, hz⟩ := HI.out _ w5 w6 O5 HS5.out e hh
        have HH := Lib.hid hz
        clear hh hz H9
        go_wp2_with fail
        go_ret
        exact HH.out
      · have hcb : (((n1 : Nat) : Int) == ((x : Nat) : Int)) = false := by rw [beq_eq_false_iff_ne]; omega
        have H8 := Lib.hid (H3.out w3 HB3.out)
        clear hc H2
        go_wp2_with fail
        refine H8.out.mono ?_
        rintro e w5 ⟨s5, O5, hA5, hs5, ⟨er, rfl⟩, rfl⟩
        have HS5 := Lib.hid (astep_pre HB3.out hs5)
        have H9 := Lib.hid (H4.out x (n1 : Nat) w5 O5 hA5 HX.out)
        clear hA5 hs5 H8 H4
        go_wp2_with fail
        refine H9.out.mono ?_
        rintro e w6 hh
        obtain ⟨rfl, hz⟩ := HI.out _ w5 w6 O5 HS5.out e hh
        have HH := Lib.hid hz
        clear hh hz H9
        go_wp2_with fail
        go_ret
        exact HH.out
    · have h0b : (er != 0) = true := by simpa using h0
      clear h0 H2 H3 H4 HI
      go_wp2_with fail
      go_ret
      exact HF.out _ _ HB2.out
  · have hcb : (ce != 0) = true := by simpa using hce
    clear HC HR H2 H3 H4 hce
    go_enter Tryz.func68, Tryz.ntmps68
    go_wp2_with fail
    rw [HW.out]
    refine H1.out.mono ?_
    rintro e w1 ⟨rfl, b1⟩
    have HB1 := Lib.hid (bthen HB0.out HB0.out.size b1)
    clear b1 H1
    go_wp2_with fail
    go_ret
    exact HF.out _ _ HB1.out
end Go.Proofs.YtdapdadcninidaaGreatDoor
namespace Go.Proofs.YtdapdadcninidaaGreatDoor
open Go.RowKit
attribute [local go_sem ↓] Go.wp_at_zero Go.wp_at_succ

theorem chkD_opt {n : Nat} {p k : Int} (h : chkD n 1 [p, k] = 0) : isH n p = true ∧ (k = 0 ∨ isH n k = true) := by
  have e : chkD n 1 [p, k] = if isH n p then (if k = 0 then 0 else if isH n k then 0 else 3) else 3 := by
    simp [chkD, chkFrom]
  rw [e] at h
  split at h
  · rename_i h1
    split at h
    · rename_i h3; exact ⟨h1, .inl h3⟩
    · split at h
      · rename_i h3; exact ⟨h1, .inr h3⟩
      · cases h
  · cases h
theorem cutsS_len : ∀ (l : List Nat) (s : St), (cutsS s l).ns.length = s.ns.length
  | [], _ => rfl
  | x :: l, s => by
    have h1 := cutsS_len l (cutS s (x : Nat))
    have h2 : (cutS s (x : Nat)).ns.length = s.ns.length := cutQ_len _ _
    rw [← h2, ← h1]; rfl
/-- What ReplaceAll leaves. -/
def RepS (s : St) (p n : Int) (s' : St) : Prop := s' = cutsS s (kidsAt s.ns p) ∨ InsS (cutsS s (kidsAt s.ns p)) p n.toNat s'
set_option maxRecDepth 100000 in
set_option maxHeartbeats 2000000 in
theorem ReplaceAll_act (p n : Int) (w : World) {T : Nat} {O : List Nat} {s : St} {L : Lim} (hA : ArM T O s w) (hg : Gd L s) (hf : L.f ≤ 900000) (ha : L.a ≤ 900000) :
    Calls Tryz.prog 71 #[.pointer (some ⟨T, 0, none⟩), .int .i64 p, .int .i64 n] w (Act T O w (OrS s fun s' => RepS s p n s')) := by
  have hfit := hg.fit (by omega) (by omega)
  obtain ⟨W0, hW0⟩ : ∃ W0, w.alloc (.cells #[.int .i64 p, .int .i64 n] 3) = W0 := ⟨_, rfl⟩
  have b0 : Below w.heap.size w W0 := by rw [← hW0]; exact balloc w _
  have hbx : W0.heap[w.heap.size]? = some (.cells #[.int .i64 p, .int .i64 n] 3 (0, 0)) := by rw [← hW0]; exact World.alloc_heap_new w _
  have hs0 : W0.heap.size = w.heap.size + 1 := by rw [← hW0]; simp
  obtain ⟨iv, O1, hA1, -⟩ := hA.turn
  have H1 := checkD_any (B := ⟨T, iv⟩) (H := w.heap.size) (c := 2) 1 [p, n] W0 (hA1.later b0) hfit (by
    intro j v hj
    match j, hj with
    | 0, hj => simp at hj; subst hj; rw [cell_of_row _ _ _ _ _ _ hbx]; rfl
    | 1, hj => simp at hj; subst hj; rw [cell_of_row _ _ _ _ _ _ hbx]; rfl) (by simp) (by omega)
  have HC := Lib.hid (fun (h : chkD s.ns.length 1 [p, n] = 0) => chkD_opt h)
  generalize chkD s.ns.length 1 [p, n] = ce at *
  have HK := fun w' (hb : Below w.heap.size w w') => kind_any p w' (hA1.later hb) hfit
  generalize (descAt s.ns p).kind = kp at *
  have HK2 := fun w' (hb : Below w.heap.size w w') => kind_any n w' (hA1.later hb) hfit
  generalize (descAt s.ns n).kind = kn at *
  have HCo := fun w' (hb : Below w.heap.size w w') => Contains_any n p w' (hA1.later hb) hfit.len (hg.upOk p)
  generalize containsL s.ns n p = bc at *
  obtain ⟨s1, hs1⟩ : ∃ s1, cutsS s (kidsAt s.ns p) = s1 := ⟨_, rfl⟩
  have H3 := fun w' (hb : Below w.heap.size w w') => empty_act p w' (hA.later hb) hg hf ha
  rw [hs1] at H3
  have hg1 : Gd L s1 := by rw [← hs1]; exact hg.cutsS
  have hl1 : s1.ns.length = s.ns.length := by rw [← hs1]; exact cutsS_len _ _
  have H4 := Lib.hid (fun (x : Nat) (b : Int) w' O' (hA' : ArM T O' s1 w') (hx : inR s.ns x) => insert_act p b x w' hA' hg1 hf ha ⟨hx.1, by rw [hl1]; exact hx.2⟩)
  have HX1 := Lib.hid (fun (x : Nat) (hx : inR s.ns x) => show inR s1.ns x from ⟨hx.1, by rw [hl1]; exact hx.2⟩)
  have HS1 := Lib.hid hs1
  have HF := Lib.hid (fun (er : Int) w' (hb : Below w.heap.size w w') => show Act T O w (OrS s fun s' => RepS s p n s') (.returned (.int .i64 er)) w' from Act.still hA hb ⟨⟨_, rfl⟩, .inl rfl⟩)
  have HN := Lib.hid (fun (h : isH s.ns.length n = true) => isH_nat h)
  have H1 := Lib.hid H1; have HW := Lib.hid hW0; have HB0 := Lib.hid b0; have HK := Lib.hid HK; have HK2 := Lib.hid HK2; have HCo := Lib.hid HCo; have H3 := Lib.hid H3
  clear hA hA1 hg hg1 hl1 hfit hbx hs0 hW0 b0 hs1
  by_cases hce : ce = 0
  · have HC2 := Lib.hid (HC.out hce)
    subst hce
    go_enter Tryz.func71, Tryz.ntmps71
    go_wp2_with fail
    rw [HW.out]
    refine H1.out.mono ?_
    rintro e w1 ⟨rfl, b1⟩
    have HB1 := Lib.hid (bthen HB0.out HB0.out.size b1)
    have H5 := Lib.hid (HK.out w1 HB1.out)
    clear b1 H1 HK HC
    go_wp2_with fail
    refine H5.out.mono ?_
    rintro e w2 ⟨rfl, b2⟩
    have HB2 := Lib.hid (bthen HB1.out HB1.out.size b2)
    clear b2 H5
    by_cases hk : kp = 4 ∨ kp = 2
    · have hkk : ((kp != 4) = false) ∨ ((kp != 4) = true ∧ (kp != 2) = false) := by
        rcases hk with rfl | rfl
        · exact .inl rfl
        · exact .inr ⟨rfl, rfl⟩
      clear hk
      by_cases hn : n = 0
      · subst hn
        have H6 := Lib.hid (H3.out w2 HB2.out)
        rcases hkk with h1 | ⟨h1, h2⟩
        all_goals
          go_wp2_with fail
          refine H6.out.mono ?_
          rintro e w3 ⟨s3, O3, hA3, hs3, rfl, rfl⟩
          have HZ := Lib.hid (show Act T O w (OrS s fun s' => RepS s p 0 s') (.returned (.int .i64 0)) w3 from ⟨_, O3, hA3, astep_pre HB2.out hs3, ⟨_, rfl⟩, .inr (.inl HS1.out.symm)⟩)
          clear hA3 hs3 H6
          go_wp2_with fail
          go_ret
          exact HZ.out
      · have hnb : (n != 0) = true := by simpa using hn
        have H6 := Lib.hid (HK2.out w2 HB2.out)
        by_cases hk2 : kn = 2
        · subst hk2
          cases bc
          · obtain ⟨x, hx, hxr⟩ := HN.out (HC2.out.2.resolve_left hn)
            have HX := Lib.hid hxr
            have HI := Lib.hid (fun w2 w3 O2 (h0 : AStep O w O2 w2) e (h : Act T O2 w2 (fun e s' => e = .returned (.tuple #[]) ∧ InR p 0 s1 (nodesL s1.ns x) s') e w3) => show e = .returned (.tuple #[]) ∧ Act T O w (OrS s fun s' => RepS s p n s') (.returned (.int .i64 0)) w3 from by
              obtain ⟨s', O', h1, h2, h3, h4⟩ := h
              exact ⟨h3, s', O', h1, h0.trans h2, ⟨_, rfl⟩, .inr (.inr (by rw [HS1.out, hx, Int.toNat_natCast]; exact ⟨0, HX1.out x hxr, h4⟩))⟩)
            clear hxr HN HC2 hn
            subst hx
            rcases hkk with h1 | ⟨h1, h2⟩
            all_goals
              go_wp2_with fail
              refine H6.out.mono ?_
              rintro e w3 ⟨rfl, b3⟩
              have HB3 := Lib.hid (bthen HB2.out HB2.out.size b3)
              have H7 := Lib.hid (HCo.out w3 HB3.out)
              clear b3 H6
              go_wp2_with fail
              refine H7.out.mono ?_
              rintro e w4 ⟨rfl, b4⟩
              have HB4 := Lib.hid (bthen HB3.out HB3.out.size b4)
              have H8 := Lib.hid (H3.out w4 HB4.out)
              clear b4 H7
              go_wp2_with fail
              refine H8.out.mono ?_
              rintro e w5 ⟨s5, O5, hA5, hs5, rfl, rfl⟩
              have HS5 := Lib.hid (astep_pre HB4.out hs5)
              have H9 := Lib.hid (H4.out x 0 w5 O5 hA5 HX.out)
              clear hA5 hs5 H8
              go_wp2_with fail
              refine H9.out.mono ?_
              rintro e w6 hh
              obtain ⟨rfl, hz⟩ := HI.out w5 w6 O5 HS5.out e hh
              have HH := Lib.hid hz
              clear hh hz H9
              go_wp2_with fail
              go_ret
              exact HH.out
          · rcases hkk with h1 | ⟨h1, h2⟩
            all_goals
              go_wp2_with fail
              refine H6.out.mono ?_
              rintro e w3 ⟨rfl, b3⟩
              have HB3 := Lib.hid (bthen HB2.out HB2.out.size b3)
              have H7 := Lib.hid (HCo.out w3 HB3.out)
              clear b3 H6
              go_wp2_with fail
              refine H7.out.mono ?_
              rintro e w4 ⟨rfl, b4⟩
              have HB4 := Lib.hid (bthen HB3.out HB3.out.size b4)
              clear b4 H7
              go_wp2_with fail
              go_ret
              exact HF.out _ _ HB4.out
        · have hkb : (kn != 2) = true := by simpa using hk2
          rcases hkk with h1 | ⟨h1, h2⟩
          all_goals
            go_wp2_with fail
            refine H6.out.mono ?_
            rintro e w3 ⟨rfl, b3⟩
            have HB3 := Lib.hid (bthen HB2.out HB2.out.size b3)
            clear b3 H6
            go_wp2_with fail
            go_ret
            exact HF.out _ _ HB3.out
    · rw [not_or] at hk
      have h1 : (kp != 4) = true := by simpa using hk.1
      have h2 : (kp != 2) = true := by simpa using hk.2
      clear hk
      go_wp2_with fail
      go_ret
      exact HF.out _ _ HB2.out
  · have hcb : (ce != 0) = true := by simpa using hce
    clear HC HK HK2 HCo H3 H4 hce
    go_enter Tryz.func71, Tryz.ntmps71
    go_wp2_with fail
    rw [HW.out]
    refine H1.out.mono ?_
    rintro e w1 ⟨rfl, b1⟩
    have HB1 := Lib.hid (bthen HB0.out HB0.out.size b1)
    clear b1 H1
    go_wp2_with fail
    go_ret
    exact HF.out _ _ HB1.out
set_option maxRecDepth 100000 in
set_option maxHeartbeats 2000000 in
theorem Adopt_act (n doc : Int) (w : World) {T : Nat} {O : List Nat} {s : St} {L : Lim} (hA : ArM T O s w) (hg : Gd L s) (hf : L.f ≤ 900000) (ha : L.a ≤ 900000) :
    Calls Tryz.prog 72 #[.pointer (some ⟨T, 0, none⟩), .int .i64 n, .int .i64 doc] w (Act T O w (OrS s fun s' => Dq (cutS s n) s')) := by
  have hfit := hg.fit (by omega) (by omega)
  obtain ⟨W0, hW0⟩ : ∃ W0, w.alloc (.cells #[.int .i64 n, .int .i64 doc] 3) = W0 := ⟨_, rfl⟩
  have b0 : Below w.heap.size w W0 := by rw [← hW0]; exact balloc w _
  have hbx : W0.heap[w.heap.size]? = some (.cells #[.int .i64 n, .int .i64 doc] 3 (0, 0)) := by rw [← hW0]; exact World.alloc_heap_new w _
  have hs0 : W0.heap.size = w.heap.size + 1 := by rw [← hW0]; simp
  obtain ⟨iv, O1, hA1, -⟩ := hA.turn
  have H1 := checkD_any (B := ⟨T, iv⟩) (H := w.heap.size) (c := 2) (-1) [n, doc] W0 (hA1.later b0) hfit (by
    intro j v hj
    match j, hj with
    | 0, hj => simp at hj; subst hj; rw [cell_of_row _ _ _ _ _ _ hbx]; rfl
    | 1, hj => simp at hj; subst hj; rw [cell_of_row _ _ _ _ _ _ hbx]; rfl) (by simp) (by omega)
  generalize chkD s.ns.length (-1) [n, doc] = ce at *
  have H2 := Lib.hid (fun w' (hb : Below w.heap.size w w') => NodeD_any n w' (hA1.later hb) hfit)
  generalize descAt s.ns n = d at *
  generalize nodeE s.ns.length n = ne at *
  have HK := fun w' (hb : Below w.heap.size w w') => kind_any doc w' (hA1.later hb) hfit
  generalize (descAt s.ns doc).kind = kd at *
  have H4 := Lib.hid (fun w' (hb : Below w.heap.size w w') => adopt_act n doc (hA.later hb) hg hf ha)
  have HF := Lib.hid (fun (er : Int) w' (hb : Below w.heap.size w w') => show Act T O w (OrS s fun s' => Dq (cutS s n) s') (.returned (.int .i64 er)) w' from Act.still hA hb ⟨⟨_, rfl⟩, .inl rfl⟩)
  have H1 := Lib.hid H1; have HW := Lib.hid hW0; have HB0 := Lib.hid b0; have HK := Lib.hid HK
  clear hA hA1 hg hfit hbx hs0 hW0 b0
  by_cases hce : ce = 0
  · subst hce
    go_enter Tryz.func72, Tryz.ntmps72
    go_wp2_with fail
    rw [HW.out]
    refine H1.out.mono ?_
    rintro e w1 ⟨rfl, b1⟩
    have HB1 := Lib.hid (bthen HB0.out HB0.out.size b1)
    have H5 := Lib.hid (H2.out w1 HB1.out)
    clear b1 H1 H2
    go_wp2_with fail
    refine H5.out.mono ?_
    rintro e w2 ⟨k1, k2, a1, a2, rfl, -, -, b2⟩
    have HB2 := Lib.hid (bthen HB1.out HB1.out.size b2)
    clear b2 H5
    go_wp2_with fail
    generalize hW3 : w2.alloc _ = W3
    have hb3 : Below w.heap.size w W3 := by rw [← hW3]; exact HB2.out.alloc HB2.out.size _
    have hh3 : W3.heap[w2.heap.size]? = some (.cells #[.int .i64 d.kind, .int .i64 (d.parent : Nat), .slice k1 d.kids.length k2, .int .i64 (d.doc : Nat), .int .i64 d.space, .string ⟨d.name.toArray⟩, .slice a1 d.attrs.length a2, .string ⟨d.data.toArray⟩, .string ⟨d.pub.toArray⟩, .string ⟨d.sys.toArray⟩, .bool d.quirks, .int .i64 (d.contents : Nat), .int .i64 (d.host : Nat)] 55 (0, 0)) := by rw [← hW3]; exact World.alloc_heap_new w2 _
    have HB3 := Lib.hid hb3; have HH3 := Lib.hid hh3
    have H6 := Lib.hid (HK.out W3 HB3.out)
    clear hW3 hb3 hh3 HK
    refine H6.out.mono ?_
    rintro e w4 ⟨rfl, b4⟩
    have HB4 := Lib.hid (bthen HB3.out HB3.out.size b4)
    have hh4 := (b4.block _ (Array.getElem?_eq_some_iff.1 HH3.out).1).trans HH3.out
    have c0 : w4.cell? ⟨w2.heap.size, 0, none⟩ = some (.int .i64 d.kind) := by rw [cell_of_row _ _ _ _ _ _ hh4]; rfl
    have c12 : w4.cell? ⟨w2.heap.size, 12, none⟩ = some (.int .i64 (d.host : Nat)) := by rw [cell_of_row _ _ _ _ _ _ hh4]; rfl
    have H7 := Lib.hid (H4.out w4 HB4.out)
    clear hh4 b4 H6 H4 HH3
    cases hk1 : (kd != 1)
    · cases hk2 : (d.kind == 1)
      · by_cases hh : d.host = 0
        · have hhb : (((d.host : Nat) : Int) != 0) = false := by simpa using hh
          rw [hh] at c12
          go_wp2_with fail
          refine H7.out.mono ?_
          rintro e w5 ⟨s5, O5, hA5, hs5, rfl, hq⟩
          have HZ := Lib.hid (show Act T O w (OrS s fun s' => Dq (cutS s n) s') (.returned (.int .i64 0)) w5 from ⟨_, O5, hA5, astep_pre HB4.out hs5, ⟨_, rfl⟩, .inr hq⟩)
          clear hA5 hs5 H7 hq
          go_wp2_with fail
          go_ret
          exact HZ.out
        · have hhb : (((d.host : Nat) : Int) != 0) = true := by simpa using hh
          go_wp2_with fail
          go_ret
          exact HF.out _ _ HB4.out
      · go_wp2_with fail
        go_ret
        exact HF.out _ _ HB4.out
    · go_wp2_with fail
      go_ret
      exact HF.out _ _ HB4.out
  · have hcb : (ce != 0) = true := by simpa using hce
    clear HK H2 H4 hce
    go_enter Tryz.func72, Tryz.ntmps72
    go_wp2_with fail
    rw [HW.out]
    refine H1.out.mono ?_
    rintro e w1 ⟨rfl, b1⟩
    have HB1 := Lib.hid (bthen HB0.out HB0.out.size b1)
    clear b1 H1
    go_wp2_with fail
    go_ret
    exact HF.out _ _ HB1.out
end Go.Proofs.YtdapdadcninidaaGreatDoor
namespace Go.Proofs.YtdapdadcninidaaGreatDoor
open Go.RowKit
attribute [local go_sem ↓] Go.wp_at_zero Go.wp_at_succ

/-- Some error number, two numbers, one number; a state within limits. -/
def FwE (M : Lim) (s : St) (e : Ending) (s' : St) : Prop := (∃ er : Int, e = .returned (.int .i64 er)) ∧ Fw M s s'
def FwP (M : Lim) (s : St) (e : Ending) (s' : St) : Prop := (∃ v er : Int, e = .returned (.tuple #[.int .i64 v, .int .i64 er])) ∧ Fw M s s'
theorem Gd.eq {L M : Lim} {s : St} (h : Gd L s) (hx : L.x = M.x) (hy : L.y = M.y) (hf : L.f = M.f) (ha : L.a = M.a) : Gd M s := h.weak (Nat.le_of_eq hx) (Nat.le_of_eq hy) (Nat.le_of_eq hf) (Nat.le_of_eq ha)
theorem OrS.fw {M : Lim} {s : St} {P : St → Prop} {e : Ending} {s' : St} (h : OrS s P e s') (h0 : Fw M s s) (hP : ∀ s', P s' → Fw M s s') : FwE M s e s' := ⟨h.1, by
  rcases h.2 with rfl | h
  · exact h0
  · exact hP s' h⟩
/-- A node made for a document. -/
theorem made_fw {L : Lim} {s s' : St} {doc : Int} {d : Nd} {e : Ending} (hg : Gd L s) (hp : d.parent = 0) (hk : d.kids = []) (hc : d.contents = 0) (hh : d.host = 0) (h1 : d.kind ≠ 1) (h4 : d.kind ≠ 4) (ha : d.attrs = [])
    (h : (∃ er : Int, er ≠ 0 ∧ e = .returned (.tuple #[.int .i64 0, .int .i64 er]) ∧ s' = s) ∨ (docE s.ns doc = 0 ∧ e = .returned (.tuple #[.int .i64 ((s.ns.length + 1 : Nat) : Int), .int .i64 0]) ∧ s' = ⟨s.ns ++ [{ d with doc := doc.toNat }], s.mp⟩)) :
    FwP ⟨L.x, max L.y d.data.length, L.f + 1, L.a⟩ s e s' := by
  rcases h with ⟨er, _, rfl, rfl⟩ | ⟨_, rfl, rfl⟩
  · exact ⟨⟨_, _, rfl⟩, KT.refl _, hg.weak (Nat.le_refl _) (Nat.le_max_left _ _) (Nat.le_add_right _ _) (Nat.le_refl _)⟩
  · refine ⟨⟨_, _, rfl⟩, KT.add fun ht => absurd (isTmpl_eq ht).1 h4, (hg.add1 (d := { d with doc := doc.toNat }) hp hk hc hh h1).weak (Nat.le_refl _) (Nat.le_refl _) (Nat.le_refl _) ?_⟩
    dsimp only
    rw [ha]
    exact Nat.max_le.2 ⟨Nat.le_refl _, Nat.zero_le _⟩
theorem Text_fw (doc : Int) (l : List UInt8) (w : World) {T : Nat} {O : List Nat} {s : St} {L : Lim} (hA : ArM T O s w) (hg : Gd L s) (hf : L.f ≤ 900000) :
    Calls Tryz.prog 11 #[.pointer (some ⟨T, 0, none⟩), .int .i64 doc, .string ⟨l.toArray⟩] w (Act T O w (FwP ⟨L.x, max L.y l.length, L.f + 1, L.a⟩ s)) := by
  obtain ⟨iv, O1, hA1, hd⟩ := hA.created
  have := hg.len
  exact (Text_int doc l w hA1 (by omega)).mono fun e w' hh => (hd doc _ e w' hh).mono fun s' hs' => made_fw (d := { kind := 5, data := l }) hg rfl rfl rfl rfl (by show (5 : Int) ≠ 1; decide) (by show (5 : Int) ≠ 4; decide) rfl hs'
theorem Comment_fw (doc : Int) (l : List UInt8) (w : World) {T : Nat} {O : List Nat} {s : St} {L : Lim} (hA : ArM T O s w) (hg : Gd L s) (hf : L.f ≤ 900000) :
    Calls Tryz.prog 10 #[.pointer (some ⟨T, 0, none⟩), .int .i64 doc, .string ⟨l.toArray⟩] w (Act T O w (FwP ⟨L.x, max L.y l.length, L.f + 1, L.a⟩ s)) := by
  obtain ⟨iv, O1, hA1, hd⟩ := hA.created
  have := hg.len
  exact (Comment_int doc l w hA1 (by omega)).mono fun e w' hh => (hd doc _ e w' hh).mono fun s' hs' => made_fw (d := { kind := 6, data := l }) hg rfl rfl rfl rfl (by show (6 : Int) ≠ 1; decide) (by show (6 : Int) ≠ 4; decide) rfl hs'
theorem Doctype_fw (doc : Int) (n p q : List UInt8) (w : World) {T : Nat} {O : List Nat} {s : St} {L : Lim} (hA : ArM T O s w) (hg : Gd L s) (hf : L.f ≤ 900000) :
    Calls Tryz.prog 125 #[.pointer (some ⟨T, 0, none⟩), .int .i64 doc, .string ⟨n.toArray⟩, .string ⟨p.toArray⟩, .string ⟨q.toArray⟩] w (Act T O w (FwP ⟨L.x, L.y, L.f + 1, L.a⟩ s)) := by
  obtain ⟨iv, O1, hA1, hd⟩ := hA.created
  have := hg.len
  exact (Doctype_int doc n p q w hA1 (by omega)).mono fun e w' hh => (hd doc _ e w' hh).mono fun s' hs' => by
    have := made_fw (d := { kind := 3, name := n, pub := p, sys := q }) hg rfl rfl rfl rfl (by show (3 : Int) ≠ 1; decide) (by show (3 : Int) ≠ 4; decide) rfl hs'
    exact ⟨this.1, this.2.weak (Nat.le_refl _) (Nat.max_le.2 ⟨Nat.le_refl _, Nat.zero_le _⟩) (Nat.le_refl _) (Nat.le_refl _)⟩
theorem Fragment_fw (doc : Int) (w : World) {T : Nat} {O : List Nat} {s : St} {L : Lim} (hA : ArM T O s w) (hg : Gd L s) (hf : L.f ≤ 900000) :
    Calls Tryz.prog 126 #[.pointer (some ⟨T, 0, none⟩), .int .i64 doc] w (Act T O w (FwP ⟨L.x, L.y, L.f + 1, L.a⟩ s)) := by
  obtain ⟨iv, O1, hA1, hd⟩ := hA.created
  have := hg.len
  exact (Fragment_int doc w hA1 (by omega)).mono fun e w' hh => (hd doc _ e w' hh).mono fun s' hs' => by
    have := made_fw (d := { kind := 2 }) hg rfl rfl rfl rfl (by show (2 : Int) ≠ 1; decide) (by show (2 : Int) ≠ 4; decide) rfl hs'
    exact ⟨this.1, this.2.weak (Nat.le_refl _) (Nat.max_le.2 ⟨Nat.le_refl _, Nat.zero_le _⟩) (Nat.le_refl _) (Nat.le_refl _)⟩
theorem Document_fw (q : Bool) (w : World) {T : Nat} {O : List Nat} {s : St} {L : Lim} (hA : ArM T O s w) (hg : Gd L s) (hf : L.f ≤ 900000) :
    Calls Tryz.prog 8 #[.pointer (some ⟨T, 0, none⟩), .bool q] w (Act T O w (fun e s' => e = .returned (.int .i64 ((s.ns.length + 1 : Nat) : Int)) ∧ s' = ⟨s.ns ++ [{ kind := 1, quirks := q, doc := s.ns.length + 1 }], s.mp⟩ ∧ Fw ⟨L.x, L.y, L.f + 2, L.a⟩ s s')) := by
  obtain ⟨iv, O1, hA1, ht⟩ := hA.turn
  have := hg.len
  refine (Document_any q w hA1 (by omega)).mono ?_
  rintro e w' ⟨he, O2, hA2, hs2⟩
  obtain ⟨O3, h3, h4⟩ := ht O2 _ w' hA2 hs2
  refine ⟨_, O3, h3, h4, he, rfl, KT.add fun h => absurd (isTmpl_eq h).1 (by show (1 : Int) ≠ 4; decide), (hg.add (d := { kind := 1, quirks := q, doc := s.ns.length + 1 }) rfl rfl rfl rfl).weak (Nat.le_refl _) (Nat.max_le.2 ⟨Nat.le_refl _, Nat.zero_le _⟩) (Nat.le_refl _) (Nat.max_le.2 ⟨Nat.le_refl _, Nat.zero_le _⟩)⟩
theorem ToS.fw {M : Lim} {s s1 s' : St} {e : Ending} (h : ToS s1 e s') (hF : Fw M s s1) : FwE M s e s' := ⟨h.1, by rw [h.2]; exact hF⟩
theorem Cut_fw (h : Int) (w : World) {T : Nat} {O : List Nat} {s : St} {L : Lim} (hA : ArM T O s w) (hg : Gd L s) (hf : L.f ≤ 900000) (ha : L.a ≤ 900000) :
    Calls Tryz.prog 32 #[.pointer (some ⟨T, 0, none⟩), .int .i64 h] w (Act T O w (FwE L s)) := (Cut_act h w hA hg hf ha).mono fun _ _ hh => hh.mono fun _ hs => hs.fw (hg.cutF h)
theorem Put_fw (p n b : Int) (w : World) {T : Nat} {O : List Nat} {s : St} {L : Lim} (hA : ArM T O s w) (hg : Gd L s) (hf : L.f ≤ 900000) (ha : L.a ≤ 900000) :
    Calls Tryz.prog 12 #[.pointer (some ⟨T, 0, none⟩), .int .i64 p, .int .i64 n, .int .i64 b] w (Act T O w (FwE ⟨L.x + L.y, L.y, L.f, L.a⟩ s)) := (Put_act p n b w hA hg hf ha).mono fun _ _ hh => hh.mono fun _ hs => hs.fw (hg.putF p n b)
theorem setDataE_in {ns : List Nd} {h : Int} (he : setDataE ns h = 0) : ∃ x : Nat, h = ((x : Nat) : Int) ∧ inR ns x := by
  unfold setDataE at he
  split at he
  · rename_i hh
    exact isH_nat hh
  · cases he
theorem SetData_fw (h : Int) (l : List UInt8) (w : World) {T : Nat} {O : List Nat} {s : St} {L : Lim} (hA : ArM T O s w) (hg : Gd L s) (hf : L.f ≤ 900000) :
    Calls Tryz.prog 53 #[.pointer (some ⟨T, 0, none⟩), .int .i64 h, .string ⟨l.toArray⟩] w (Act T O w (FwE ⟨L.x + l.length, max L.y l.length, L.f, L.a⟩ s)) := by
  have := hg.len
  refine (SetData_act h l w hA (by omega)).mono fun _ _ hh => hh.mono fun _ hs => hs.fw ?_
  split
  · rename_i he
    obtain ⟨x, rfl, hx⟩ := setDataE_in he
    exact ⟨KT.set hx rfl, (hg.set hx (d := { ndAt s.ns ((x : Nat) : Int) with data := l }) rfl).weak (Nat.le_refl _) (Nat.le_refl _) (Nat.le_refl _) (Nat.max_le.2 ⟨Nat.le_refl _, (hg.aa _ (nd_mem hx) : (nd s.ns x).attrs.length ≤ L.a)⟩)⟩
  · exact ⟨KT.refl _, hg.weak (Nat.le_add_right _ _) (Nat.le_max_left _ _) (Nat.le_refl _) (Nat.le_refl _)⟩
/-- .. with data that is no longer than what was there. -/
theorem SetData_le (h : Int) (l : List UInt8) (w : World) {T : Nat} {O : List Nat} {s : St} {L : Lim} (hA : ArM T O s w) (hg : Gd L s) (hf : L.f ≤ 900000) (hl : isH s.ns.length h = true → l.length ≤ (ndAt s.ns h).data.length) :
    Calls Tryz.prog 53 #[.pointer (some ⟨T, 0, none⟩), .int .i64 h, .string ⟨l.toArray⟩] w (Act T O w (FwE L s)) := by
  have := hg.len
  refine (SetData_act h l w hA (by omega)).mono fun _ _ hh => hh.mono fun _ hs => hs.fw ?_
  split
  · rename_i he
    obtain ⟨x, rfl, hx⟩ := setDataE_in he
    exact ⟨KT.set hx rfl, (hg.setLe hx (d := { ndAt s.ns ((x : Nat) : Int) with data := l }) rfl (hl (inR_isH.2 hx))).weak (Nat.le_refl _) (Nat.le_refl _) (Nat.le_refl _) (Nat.max_le.2 ⟨Nat.le_refl _, (hg.aa _ (nd_mem hx) : (nd s.ns x).attrs.length ≤ L.a)⟩)⟩
  · exact ⟨KT.refl _, hg⟩
theorem SetQuirks_fw (h : Int) (q : Bool) (w : World) {T : Nat} {O : List Nat} {s : St} {L : Lim} (hA : ArM T O s w) (hg : Gd L s) (hf : L.f ≤ 900000) :
    Calls Tryz.prog 128 #[.pointer (some ⟨T, 0, none⟩), .int .i64 h, .bool q] w (Act T O w (FwE L s)) := by
  have := hg.len
  refine (SetQuirks_act h q w hA (by omega)).mono fun _ _ hh => hh.mono fun _ hs => hs.fw ?_
  split
  · rename_i he
    obtain ⟨x, rfl, hx, -⟩ := docE_zero he
    exact ⟨KT.set hx rfl, (hg.setLe hx (d := { ndAt s.ns ((x : Nat) : Int) with quirks := q }) rfl (Nat.le_refl _)).weak (Nat.le_refl _) (Nat.le_refl _) (Nat.le_refl _) (Nat.max_le.2 ⟨Nat.le_refl _, (hg.aa _ (nd_mem hx) : (nd s.ns x).attrs.length ≤ L.a)⟩)⟩
  · exact ⟨KT.refl _, hg⟩
theorem SetDoc_fw (h doc : Int) (w : World) {T : Nat} {O : List Nat} {s : St} {L : Lim} (hA : ArM T O s w) (hg : Gd L s) (hf : L.f ≤ 900000) :
    Calls Tryz.prog 129 #[.pointer (some ⟨T, 0, none⟩), .int .i64 h, .int .i64 doc] w (Act T O w (FwE L s)) := by
  have := hg.len
  exact (SetDoc_act h doc w hA (by omega)).mono fun _ _ hh => hh.mono fun _ hs => ⟨hs.1, hg.dqF (by omega) hs.2⟩
theorem Inert_fw (doc : Int) (w : World) {T : Nat} {O : List Nat} {s : St} {L : Lim} (hA : ArM T O s w) (hg : Gd L s) (hf : L.f ≤ 900000) :
    Calls Tryz.prog 127 #[.pointer (some ⟨T, 0, none⟩), .int .i64 doc] w (Act T O w (FwP L s)) := by
  have := hg.len
  exact (Inert_act doc w hA hg.map (by omega)).mono fun _ _ hh => hh.mono fun _ hs => ⟨hs.1, hs.2.kt, hg.inS hs.2 (by omega)⟩
theorem onceF_le (l : List Att) : (onceF [] l).1.length ≤ l.length := by
  have := onceF_len [] l
  simpa using this
theorem Element_fw (doc sp : Int) (nm : List UInt8) (l : List Att) (w : World) {T : Nat} {O : List Nat} {s : St} {L : Lim} {a : Option Addr} {c : Nat} (hA : ArM T O s w) (hg : Gd L s) (hf : L.f ≤ 900000) (hal : l.length ≤ 100000) (hc : AttsAt w a l) :
    Calls Tryz.prog 9 #[.pointer (some ⟨T, 0, none⟩), .int .i64 doc, .int .i64 sp, .string ⟨nm.toArray⟩, .slice a l.length c] w (Act T O w (FwP ⟨L.x, L.y, L.f + 2, max L.a l.length⟩ s)) := by
  have := hg.len
  refine (Element_act doc sp nm l w hA hg.map (by omega) hal hc).mono fun e w' hh => hh.mono fun s' hs => ?_
  have hF := (hs.fw hg hf).weak (M := ⟨L.x, L.y, L.f + 2, max L.a l.length⟩) (Nat.le_refl _) (Nat.le_refl _) (Nat.le_refl _) (by have := onceF_le l; dsimp only; omega)
  rcases hs with ⟨er, _, rfl, _⟩ | ⟨_, rfl, _⟩
  · exact ⟨⟨_, _, rfl⟩, hF⟩
  · exact ⟨⟨_, _, rfl⟩, hF⟩
theorem SetAttrs_fw (h : Int) (l : List Att) (w : World) {T : Nat} {O : List Nat} {s : St} {L : Lim} {a : Option Addr} {c : Nat} (hA : ArM T O s w) (hg : Gd L s) (hf : L.f ≤ 900000) (hal : l.length ≤ 100000) (hc : AttsAt w a l) :
    Calls Tryz.prog 122 #[.pointer (some ⟨T, 0, none⟩), .int .i64 h, .slice a l.length c] w (Act T O w (FwE ⟨L.x, L.y, L.f, max L.a l.length⟩ s)) := by
  have := hg.len
  refine (SetAttrs_act h l w hA (by omega) hal hc).mono fun e w' hh => hh.mono fun s' hs => ⟨hs.1, ?_⟩
  rcases hs.2 with rfl | ⟨hh, rfl⟩
  · exact ⟨KT.refl _, hg.weak (Nat.le_refl _) (Nat.le_refl _) (Nat.le_refl _) (Nat.le_max_left _ _)⟩
  · obtain ⟨x, rfl, hx⟩ := isH_nat hh
    refine ⟨KT.set hx rfl, (hg.setLe hx (d := { ndAt s.ns ((x : Nat) : Int) with attrs := (onceF [] l).1 }) rfl (Nat.le_refl _)).weak (Nat.le_refl _) (Nat.le_refl _) (Nat.le_refl _) ?_⟩
    have := onceF_le l
    dsimp only
    omega
theorem Insert_fw (p n c : Int) (w : World) {T : Nat} {O : List Nat} {s : St} {L : Lim} (hA : ArM T O s w) (hg : Gd L s) (hf : L.f ≤ 900000) (ha : L.a ≤ 900000) :
    Calls Tryz.prog 67 #[.pointer (some ⟨T, 0, none⟩), .int .i64 p, .int .i64 n, .int .i64 c] w (Act T O w (FwE ⟨L.x + L.y, L.y, L.f, L.a⟩ s)) :=
  (Insert_act p n c w hA hg hf ha).mono fun _ _ hh => hh.mono fun _ hs => hs.fw (hg.still.weak (Nat.le_add_right _ _) (Nat.le_refl _) (Nat.le_refl _) (Nat.le_refl _)) fun s' ⟨b, hx, hr⟩ => hg.inrF hf hx hr
theorem Append_fw (p n : Int) (w : World) {T : Nat} {O : List Nat} {s : St} {L : Lim} (hA : ArM T O s w) (hg : Gd L s) (hf : L.f ≤ 900000) (ha : L.a ≤ 900000) :
    Calls Tryz.prog 34 #[.pointer (some ⟨T, 0, none⟩), .int .i64 p, .int .i64 n] w (Act T O w (FwE ⟨L.x + L.y, L.y, L.f, L.a⟩ s)) :=
  (Append_act p n w hA hg hf ha).mono fun _ _ hh => hh.mono fun _ hs => hs.fw (hg.still.weak (Nat.le_add_right _ _) (Nat.le_refl _) (Nat.le_refl _) (Nat.le_refl _)) fun s' ⟨b, hx, hr⟩ => hg.inrF hf hx hr
theorem Replace_fw (p n c : Int) (w : World) {T : Nat} {O : List Nat} {s : St} {L : Lim} (hA : ArM T O s w) (hg : Gd L s) (hf : L.f ≤ 900000) (ha : L.a ≤ 900000) :
    Calls Tryz.prog 68 #[.pointer (some ⟨T, 0, none⟩), .int .i64 p, .int .i64 n, .int .i64 c] w (Act T O w (FwE ⟨L.x + L.y, L.y, L.f, L.a⟩ s)) :=
  (Replace_act p n c w hA hg hf ha).mono fun _ _ hh => hh.mono fun _ hs => hs.fw (hg.still.weak (Nat.le_add_right _ _) (Nat.le_refl _) (Nat.le_refl _) (Nat.le_refl _)) fun s' ⟨b, hx, hr⟩ => (hg.cutF c).trans ((hg.cutS c).inrF hf hx hr)
theorem ReplaceAll_fw (p n : Int) (w : World) {T : Nat} {O : List Nat} {s : St} {L : Lim} (hA : ArM T O s w) (hg : Gd L s) (hf : L.f ≤ 900000) (ha : L.a ≤ 900000) :
    Calls Tryz.prog 71 #[.pointer (some ⟨T, 0, none⟩), .int .i64 p, .int .i64 n] w (Act T O w (FwE ⟨L.x + L.y, L.y, L.f, L.a⟩ s)) :=
  (ReplaceAll_act p n w hA hg hf ha).mono fun _ _ hh => hh.mono fun _ hs => hs.fw (hg.still.weak (Nat.le_add_right _ _) (Nat.le_refl _) (Nat.le_refl _) (Nat.le_refl _)) fun s' h => by
    rcases h with rfl | ⟨b, hx, hr⟩
    · exact hg.cutsF.weak (Nat.le_add_right _ _) (Nat.le_refl _) (Nat.le_refl _) (Nat.le_refl _)
    · exact hg.cutsF.trans (hg.cutsS.inrF hf hx hr)
theorem Adopt_fw (n doc : Int) (w : World) {T : Nat} {O : List Nat} {s : St} {L : Lim} (hA : ArM T O s w) (hg : Gd L s) (hf : L.f ≤ 900000) (ha : L.a ≤ 900000) :
    Calls Tryz.prog 72 #[.pointer (some ⟨T, 0, none⟩), .int .i64 n, .int .i64 doc] w (Act T O w (FwE L s)) :=
  (Adopt_act n doc w hA hg hf ha).mono fun _ _ hh => hh.mono fun _ hs => hs.fw hg.still fun s' h => (hg.cutF n).trans ((hg.cutS n).dqF (by omega) h)
theorem Remove_fw (p h : Int) (w : World) {T : Nat} {O : List Nat} {s : St} {L : Lim} (hA : ArM T O s w) (hg : Gd L s) (hf : L.f ≤ 900000) (ha : L.a ≤ 900000) :
    Calls Tryz.prog 69 #[.pointer (some ⟨T, 0, none⟩), .int .i64 p, .int .i64 h] w (Act T O w (FwE L s)) :=
  (Remove_act p h w hA hg hf ha).mono fun _ _ hh => hh.mono fun _ hs => hs.fw hg.still fun s' h => by rw [h]; exact hg.cutF _
theorem Detach_fw (h : Int) (w : World) {T : Nat} {O : List Nat} {s : St} {L : Lim} (hA : ArM T O s w) (hg : Gd L s) (hf : L.f ≤ 900000) (ha : L.a ≤ 900000) :
    Calls Tryz.prog 70 #[.pointer (some ⟨T, 0, none⟩), .int .i64 h] w (Act T O w (FwE L s)) :=
  (Detach_act h w hA hg hf ha).mono fun _ _ hh => hh.mono fun _ hs => hs.fw hg.still fun s' h => by rw [h]; exact hg.cutF _
end Go.Proofs.YtdapdadcninidaaGreatDoor
namespace Go.Proofs.YtdapdadcninidaaGreatDoor
open Go.RowKit

/-- The function f, with what it has captured, answers p at every rune, in every later memory. -/
def IsCls (w : World) (f : Nat) (cap : Array Value) (p : Int → Bool) : Prop :=
  (∀ args W, (callFunc f args).run Tryz.prog W = .ok (.enter f args) W) ∧
    ∀ W, Below w.heap.size w W → ∀ r : Int, Calls Tryz.prog f (#[.int .i32 r] ++ cap) W (Ret W (.bool (p r)))
theorem IsCls.later {w W : World} {f : Nat} {cap : Array Value} {p : Int → Bool} (h : IsCls w f cap p) (hb : Below w.heap.size w W) : IsCls W f cap p :=
  ⟨h.1, fun W' hb' r => h.2 W' (hb.trans (hb'.mono hb.size)) r⟩
def IsClass (w : World) (v : Value) (p : Int → Bool) : Prop := ∃ (f : Nat) (cap : Array Value), v = .func (.func f) #[] cap ∧ IsCls w f cap p
theorem IsClass.later {w W : World} {v : Value} {p : Int → Bool} (h : IsClass w v p) (hb : Below w.heap.size w W) : IsClass W v p := by
  obtain ⟨f, cap, rfl, hc⟩ := h
  exact ⟨f, cap, rfl, hc.later hb⟩
/-- The call returns a class. -/
def RetC (w : World) (p : Int → Bool) (e : Ending) (w' : World) : Prop := ∃ (f : Nat) (cap : Array Value), e = .returned (.func (.func f) #[] cap) ∧ IsCls w' f cap p ∧ Below w.heap.size w w'

def inRg (lo hi r : Int) : Bool := decide (lo ≤ r) && decide (r ≤ hi)
theorem inR_f1 {lo hi r : Int} (h1 : r < lo) : inRg lo hi r = false := by simp [inRg]; omega

theorem from1 (w : World) (p q : Nat) (lo hi r : Int) (h1 : w.cell? ⟨p, 0, none⟩ = some (.int .i32 lo)) (h2 : w.cell? ⟨q, 0, none⟩ = some (.int .i32 hi)) :
    Calls Tryz.prog 167 #[.int .i32 r, .pointer (some ⟨p, 0, none⟩), .pointer (some ⟨q, 0, none⟩)] w (Ret w (.bool (inRg lo hi r))) := by
  go_enter Tryz.func167, Tryz.ntmps167
  go_wp2
  · go_ret
    refine Ret.mk ?_ (Below.refl _ _)
    simp [inRg, *]
  · go_ret
    refine Ret.mk ?_ (Below.refl _ _)
    rw [inR_f1 (by assumption)]; rfl
theorem enter_from1 (args : Array Value) (W : World) : (callFunc 167 args).run Tryz.prog W = .ok (.enter 167 args) W := by
  simp [go_sem]
theorem from_any (lo hi : Int) (w : World) : Calls Tryz.prog 133 #[.int .i32 lo, .int .i32 hi] w (RetC w (inRg lo hi)) := by
  go_enter Tryz.func133, Tryz.ntmps133
  go_wp2
  go_ret
  refine ⟨_, _, rfl, ⟨enter_from1, fun W hb r => ?_⟩, by go_grown⟩
  refine from1 W _ _ lo hi r ((hb.cell (p := ⟨_, 0, none⟩) (by simp; omega)).trans ?_) ((hb.cell (p := ⟨_, 0, none⟩) (by simp)).trans ?_)
  · go_cell
  · go_cell

/-- The slice value v holds the classes ps. -/
def IsClasses (w : World) (v : Value) (ps : List (Int → Bool)) : Prop :=
  ∃ b cap, v = .slice (some ⟨b, 0, none⟩) ps.length cap ∧ ∀ i (h : i < ps.length), ∃ u, w.cell? ⟨b, i, none⟩ = some u ∧ IsClass w u ps[i]
theorem IsClasses.later {w W : World} {v : Value} {ps : List (Int → Bool)} (h : IsClasses w v ps) (hb : Below w.heap.size w W) : IsClasses W v ps := by
  obtain ⟨b, cap, rfl, hc⟩ := h
  refine ⟨b, cap, rfl, fun i hi => ?_⟩
  obtain ⟨u, hu, hp⟩ := hc i hi
  exact ⟨u, (hb.cell (p := ⟨b, i, none⟩) (World.block_lt_of_cell? w _ hu)).trans hu, hp.later hb⟩
def anyC (ps : List (Int → Bool)) (r : Int) : Bool := ps.any fun p => p r
theorem anyC_false {ps : List (Int → Bool)} {r : Int} (h : ∀ j (hj : j < ps.length), ps[j] r = false) : anyC ps r = false := by
  unfold anyC
  rw [List.any_eq_false]
  intro p hp
  obtain ⟨j, hj, rfl⟩ := List.getElem_of_mem hp
  simp [h j hj]
theorem anyC_true {ps : List (Int → Bool)} {r : Int} (j : Nat) (hj : j < ps.length) (h : ps[j] r = true) : anyC ps r = true := by
  unfold anyC
  rw [List.any_eq_true]
  exact ⟨ps[j], List.getElem_mem hj, h⟩

theorem either1 (w : World) (q : Nat) (v : Value) (ps : List (Int → Bool)) (r : Int) (hn : ps.length ≤ 1000) (hq : w.cell? ⟨q, 0, none⟩ = some v) (hv : IsClasses w v ps) :
    Calls Tryz.prog 168 #[.int .i32 r, .pointer (some ⟨q, 0, none⟩)] w (Ret w (.bool (anyC ps r))) := by
  obtain ⟨b, cap, rfl, hc⟩ := hv
  have HC := Lib.hid hc; clear hc
  go_enter Tryz.func168, Tryz.ntmps168
  go_wp2
  go_loopw [8] (fun i wr => ∃ k : Nat, k ≤ ps.length ∧ i = .int .i64 k ∧ Below w.heap.size w wr ∧ ∀ j (hj : j < ps.length), j < k → ps[j] r = false) (fun i _ => ps.length - (intOf i).toNat)
  case atStart => exact ⟨0, Nat.zero_le _, rfl, Below.refl _ _, fun j _ h => absurd h (Nat.not_lt_zero _)⟩
  case round =>
    obtain ⟨k, hk, rfl, hb, hno⟩ := hrel
    have HNO := Lib.hid hno; clear hno
    by_cases hlt : k < ps.length
    · obtain ⟨u, hu, hp⟩ := HC.out k hlt
      have hu' : wr.cell? ⟨b, k, none⟩ = some u := (hb.cell (p := ⟨b, k, none⟩) (World.block_lt_of_cell? w _ hu)).trans hu
      obtain ⟨f, cap', rfl, he, hcall⟩ := hp.later hb
      clear hu hp
      obtain ⟨p, hp⟩ : ∃ p, p = ps[k] := ⟨_, rfl⟩
      rw [← hp] at hcall
      have HP := Lib.hid hp; clear hp
      have h1 := hcall wr (Below.refl _ _) r
      clear hcall
      cases hpr : p r
      · rw [hpr] at h1
        have H1 := Lib.hid h1; clear h1
        have HR := Lib.hid hpr; clear hpr
        go_wp2_with (refine H1.out.mono ?_; rintro e w1 ⟨rfl, hb1⟩)
        go_roundw
        case rel =>
          refine ⟨k + 1, by omega, by go_num, bthen hb hb.size hb1, fun j hj hlt' => ?_⟩
          by_cases e : j = k
          · subst e; rw [← HP.out]; exact HR.out
          · exact HNO.out j hj (by omega)
        case measure => simp [intOf]; omega
      · rw [hpr] at h1
        have H1 := Lib.hid h1; clear h1
        have HR := Lib.hid hpr; clear hpr
        go_wp2_with (refine H1.out.mono ?_; rintro e w1 ⟨rfl, hb1⟩)
        go_ret
        refine Ret.mk ?_ (bthen hb hb.size hb1)
        rw [anyC_true k hlt (by rw [← HP.out]; exact HR.out)]; rfl
    · go_wp2
      go_ret
      refine Ret.mk ?_ hb
      rw [anyC_false fun j hj => HNO.out j hj (by omega)]; rfl
theorem enter_either1 (args : Array Value) (W : World) : (callFunc 168 args).run Tryz.prog W = .ok (.enter 168 args) W := by
  simp [go_sem]
theorem either_any (v : Value) (ps : List (Int → Bool)) (w : World) (hn : ps.length ≤ 1000) (hv : IsClasses w v ps) : Calls Tryz.prog 134 #[v] w (RetC w (anyC ps)) := by
  have HV := Lib.hid hv; clear hv
  obtain ⟨b, cap, rfl, -⟩ := HV.out
  go_enter Tryz.func134, Tryz.ntmps134
  go_wp2
  go_ret
  refine ⟨_, _, rfl, ⟨enter_either1, fun W hb r => ?_⟩, by go_grown⟩
  refine either1 W _ _ ps r hn ((hb.cell (p := ⟨_, 0, none⟩) (by simp)).trans ?_) (HV.out.later (bthen ((Below.refl _ _).alloc (Nat.le_refl _) _) (by simp) hb))
  go_cell

/-- Three, two, five classes laid side by side. -/
theorem IsClasses.row {w : World} {vs : Array Value} {ps : List (Int → Bool)} {b cap : Nat} {t : TypeId} {fz : Nat × Nat} (hb : w.heap[b]? = some (.cells vs t fz)) (hn : vs.size = ps.length)
    (h : ∀ i (h1 : i < vs.size) (h2 : i < ps.length), IsClass w vs[i] ps[i]) : IsClasses w (.slice (some ⟨b, 0, none⟩) ps.length cap) ps := by
  refine ⟨b, cap, rfl, fun i hi => ⟨vs[i], ?_, h i _ hi⟩⟩
  simp [World.cell?, hb, hn, hi]
end Go.Proofs.YtdapdadcninidaaGreatDoor
namespace Go.Proofs.YtdapdadcninidaaGreatDoor
open Go.RowKit

def isUpper (r : Int) : Bool := inRg 65 90 r
def isDigit (r : Int) : Bool := inRg 48 57 r
def isSpace (r : Int) : Bool := anyC [inRg 9 10, inRg 12 13, inRg 32 32] r
def isLetter (r : Int) : Bool := anyC [isUpper, inRg 97 122] r
def isAlnum (r : Int) : Bool := anyC [isLetter, isDigit] r

/-- A class whose function was given by name. -/
theorem isCls_of {w : World} {f : Nat} {p : Int → Bool} (he : ∀ args W, (callFunc f args).run Tryz.prog W = .ok (.enter f args) W) (hc : ∀ r W, Calls Tryz.prog f #[.int .i32 r] W (Ret W (.bool (p r)))) : IsCls w f #[] p :=
  ⟨he, fun W _ r => hc r W⟩
theorem classes2 {w : World} {f1 f2 : Nat} {c1 c2 : Array Value} {p1 p2 : Int → Bool} (h1 : IsCls w f1 c1 p1) (h2 : IsCls w f2 c2 p2) (t : TypeId) :
    IsClasses (w.alloc (.cells #[.func (.func f1) #[] c1, .func (.func f2) #[] c2] t)) (.slice (some ⟨w.heap.size, 0, none⟩) 2 2) [p1, p2] := by
  have hb := (Below.refl w.heap.size w).alloc (Nat.le_refl _) (.cells #[.func (.func f1) #[] c1, .func (.func f2) #[] c2] t)
  refine ⟨_, _, rfl, fun i hi => ?_⟩
  match i, hi with
  | 0, _ => exact ⟨_, by go_cell, _, _, rfl, h1.later hb⟩
  | 1, _ => exact ⟨_, by go_cell, _, _, rfl, h2.later hb⟩
theorem classes3 {w : World} {f1 f2 f3 : Nat} {c1 c2 c3 : Array Value} {p1 p2 p3 : Int → Bool} (h1 : IsCls w f1 c1 p1) (h2 : IsCls w f2 c2 p2) (h3 : IsCls w f3 c3 p3) (t : TypeId) :
    IsClasses (w.alloc (.cells #[.func (.func f1) #[] c1, .func (.func f2) #[] c2, .func (.func f3) #[] c3] t)) (.slice (some ⟨w.heap.size, 0, none⟩) 3 3) [p1, p2, p3] := by
  have hb := (Below.refl w.heap.size w).alloc (Nat.le_refl _) (.cells #[.func (.func f1) #[] c1, .func (.func f2) #[] c2, .func (.func f3) #[] c3] t)
  refine ⟨_, _, rfl, fun i hi => ?_⟩
  match i, hi with
  | 0, _ => exact ⟨_, by go_cell, _, _, rfl, h1.later hb⟩
  | 1, _ => exact ⟨_, by go_cell, _, _, rfl, h2.later hb⟩
  | 2, _ => exact ⟨_, by go_cell, _, _, rfl, h3.later hb⟩

theorem IsUpper_any (r : Int) (w : World) : Calls Tryz.prog 136 #[.int .i32 r] w (Ret w (.bool (isUpper r))) := by
  go_enter Tryz.func136, Tryz.ntmps136
  go_wp2_with fail
  refine (from_any 65 90 _).mono ?_
  rintro e w1 ⟨f, cap, rfl, ⟨he, hc⟩, b1⟩
  have h1 := Lib.hid (hc w1 (Below.refl _ _) r)
  clear hc
  go_wp2_with (refine h1.out.mono ?_; rintro e w2 ⟨rfl, b2⟩)
  go_ret
  exact Ret.mk rfl (bthen b1 b1.size b2)
theorem IsDigit_any (r : Int) (w : World) : Calls Tryz.prog 169 #[.int .i32 r] w (Ret w (.bool (isDigit r))) := by
  go_enter Tryz.func169, Tryz.ntmps169
  go_wp2_with fail
  refine (from_any 48 57 _).mono ?_
  rintro e w1 ⟨f, cap, rfl, ⟨he, hc⟩, b1⟩
  have h1 := Lib.hid (hc w1 (Below.refl _ _) r)
  clear hc
  go_wp2_with (refine h1.out.mono ?_; rintro e w2 ⟨rfl, b2⟩)
  go_ret
  exact Ret.mk rfl (bthen b1 b1.size b2)
theorem enter_IsUpper (args : Array Value) (W : World) : (callFunc 136 args).run Tryz.prog W = .ok (.enter 136 args) W := by simp [go_sem]
theorem enter_IsDigit (args : Array Value) (W : World) : (callFunc 169 args).run Tryz.prog W = .ok (.enter 169 args) W := by simp [go_sem]
theorem chain0 {w w9 w10 : World} {o : Obj} (b9 : Below (w.alloc o).heap.size (w.alloc o) w9) (b10 : Below w9.heap.size w9 w10) : Below w.heap.size w w10 :=
  bthen (bthen (balloc w o) (by simp) b9) (Nat.le_trans (by simp) b9.size) b10
theorem chain1 {w w1 w9 w10 : World} {o : Obj} (b1 : Below w.heap.size w w1) (b9 : Below (w1.alloc o).heap.size (w1.alloc o) w9) (b10 : Below w9.heap.size w9 w10) : Below w.heap.size w w10 :=
  bthen b1 b1.size (chain0 b9 b10)
theorem chain2 {w w1 w2 w9 w10 : World} {o : Obj} (b1 : Below w.heap.size w w1) (b2 : Below w1.heap.size w1 w2) (b9 : Below (w2.alloc o).heap.size (w2.alloc o) w9) (b10 : Below w9.heap.size w9 w10) : Below w.heap.size w w10 :=
  bthen b1 b1.size (chain1 b2 b9 b10)
theorem chain3 {w w1 w2 w3 w9 w10 : World} {o : Obj} (b1 : Below w.heap.size w w1) (b2 : Below w1.heap.size w1 w2) (b3 : Below w2.heap.size w2 w3) (b9 : Below (w3.alloc o).heap.size (w3.alloc o) w9) (b10 : Below w9.heap.size w9 w10) : Below w.heap.size w w10 :=
  bthen b1 b1.size (chain2 b2 b3 b9 b10)
theorem IsSpace_any (r : Int) (w : World) : Calls Tryz.prog 165 #[.int .i32 r] w (Ret w (.bool (isSpace r))) := by
  go_enter Tryz.func165, Tryz.ntmps165
  go_wp2_with fail
  refine (from_any 9 10 _).mono ?_
  rintro e w1 ⟨f1, cap1, rfl, c1, b1⟩
  go_wp2_with fail
  refine (from_any 12 13 _).mono ?_
  rintro e w2 ⟨f2, cap2, rfl, c2, b2⟩
  go_wp2_with fail
  refine (from_any 32 32 _).mono ?_
  rintro e w3 ⟨f3, cap3, rfl, c3, b3⟩
  go_wp2_with fail
  refine (either_any _ _ _ (by decide) (classes3 ((c1.later b2).later b3) (c2.later b3) c3 _)).mono ?_
  rintro e w9 ⟨f, cap, rfl, ⟨he, hc⟩, b9⟩
  have h1 := Lib.hid (hc w9 (Below.refl _ _) r)
  clear hc
  go_wp2_with (refine h1.out.mono ?_; rintro e w10 ⟨rfl, b10⟩)
  go_ret
  exact Ret.mk rfl (chain3 b1 b2 b3 b9 b10)
theorem IsLetter_any (r : Int) (w : World) : Calls Tryz.prog 130 #[.int .i32 r] w (Ret w (.bool (isLetter r))) := by
  go_enter Tryz.func130, Tryz.ntmps130
  go_wp2_with fail
  refine (from_any 97 122 _).mono ?_
  rintro e w1 ⟨f1, cap1, rfl, c1, b1⟩
  go_wp2_with fail
  refine (either_any _ _ _ (by decide) (classes2 (isCls_of enter_IsUpper IsUpper_any) c1 _)).mono ?_
  rintro e w9 ⟨f, cap, rfl, ⟨he, hc⟩, b9⟩
  have h1 := Lib.hid (hc w9 (Below.refl _ _) r)
  clear hc
  go_wp2_with (refine h1.out.mono ?_; rintro e w10 ⟨rfl, b10⟩)
  go_ret
  exact Ret.mk rfl (chain1 b1 b9 b10)
theorem enter_IsLetter (args : Array Value) (W : World) : (callFunc 130 args).run Tryz.prog W = .ok (.enter 130 args) W := by simp [go_sem]
theorem IsAlnum_any (r : Int) (w : World) : Calls Tryz.prog 135 #[.int .i32 r] w (Ret w (.bool (isAlnum r))) := by
  go_enter Tryz.func135, Tryz.ntmps135
  go_wp2_with fail
  refine (either_any _ _ _ (by decide) (classes2 (isCls_of enter_IsLetter IsLetter_any) (isCls_of enter_IsDigit IsDigit_any) _)).mono ?_
  rintro e w9 ⟨f, cap, rfl, ⟨he, hc⟩, b9⟩
  have h1 := Lib.hid (hc w9 (Below.refl _ _) r)
  clear hc
  go_wp2_with (refine h1.out.mono ?_; rintro e w10 ⟨rfl, b10⟩)
  go_ret
  exact Ret.mk rfl (chain0  b9 b10)
theorem enter_IsAlnum (args : Array Value) (W : World) : (callFunc 135 args).run Tryz.prog W = .ok (.enter 135 args) W := by simp [go_sem]
end Go.Proofs.YtdapdadcninidaaGreatDoor
namespace Go.Proofs.YtdapdadcninidaaGreatDoor
open Go.RowKit

def allB (p : Int → Bool) (l : List UInt8) : Bool := l.all fun c => p (c.toNat : Int)
theorem allB_true {p : Int → Bool} {l : List UInt8} (h : ∀ j (hj : j < l.length), p ((l[j].toNat : Nat) : Int) = true) : allB p l = true := by
  unfold allB
  rw [List.all_eq_true]
  intro c hc
  obtain ⟨j, hj, rfl⟩ := List.getElem_of_mem hc
  exact h j hj
theorem allB_false {p : Int → Bool} {l : List UInt8} (j : Nat) (hj : j < l.length) (h : p ((l[j].toNat : Nat) : Int) = false) : allB p l = false := by
  unfold allB
  rw [List.all_eq_false]
  exact ⟨l[j], List.getElem_mem hj, by simp [h]⟩

theorem bget (s : ByteArray) (k : Nat) (h : k < s.size) (hb : k < s.data.toList.length) : s.data.toList[k]'hb = s[k]'h := by
  simp only [ByteArray.getElem_eq_getElem_data, Array.getElem_toList]

theorem all_any (s : ByteArray) (f : Nat) (cap : Array Value) (p : Int → Bool) (w : World) (hs : s.size ≤ maxLen) (hc : IsCls w f cap p) :
    Calls Tryz.prog 131 #[.string s, .func (.func f) #[] cap] w (Ret w (.bool (allB p s.data.toList))) := by
  unfold maxLen at hs
  have he := hc.1
  have HC := Lib.hid hc; clear hc
  go_enter Tryz.func131, Tryz.ntmps131
  go_wp2
  go_loopw [8] (fun i wr => ∃ k : Nat, k ≤ s.size ∧ i = .int .i64 k ∧ Below w.heap.size w wr ∧ ∀ j (hj : j < s.data.toList.length), j < k → p ((s.data.toList[j].toNat : Nat) : Int) = true) (fun i _ => s.size - (intOf i).toNat)
  case atStart => exact ⟨0, Nat.zero_le _, rfl, Below.refl _ _, fun j _ h => absurd h (Nat.not_lt_zero _)⟩
  case round =>
    obtain ⟨k, hk, rfl, hb, hno⟩ := hrel
    have HNO := Lib.hid hno; clear hno
    by_cases hlt : k < s.size
    · have h1 := HC.out.2 wr (by have := hb.size; exact hb.mono (Nat.le_refl _)) (s[k].toNat : Int)
      cases hp : p (s[k].toNat : Int)
      · rw [hp] at h1
        have H1 := Lib.hid h1; clear h1
        have HP := Lib.hid hp; clear hp
        go_wp2_with fail
        rw [wrap32_byte]
        go_wp2_with (refine H1.out.mono ?_; rintro e w1 ⟨rfl, hb1⟩)
        go_ret
        refine Ret.mk ?_ (bthen hb hb.size hb1)
        rw [allB_false k (by simpa using hlt) (by rw [bget s k hlt]; exact HP.out)]; rfl
      · rw [hp] at h1
        have H1 := Lib.hid h1; clear h1
        have HP := Lib.hid hp; clear hp
        go_wp2_with fail
        rw [wrap32_byte]
        go_wp2_with (refine H1.out.mono ?_; rintro e w1 ⟨rfl, hb1⟩)
        go_roundw
        case rel =>
          refine ⟨k + 1, by omega, by go_num, bthen hb hb.size hb1, fun j hj hlt' => ?_⟩
          by_cases e : j = k
          · subst e; rw [bget s j hlt]; exact HP.out
          · exact HNO.out j hj (by omega)
        case measure => simp [intOf]; omega
    · go_wp2
      go_ret
      refine Ret.mk ?_ hb
      rw [allB_true fun j hj => HNO.out j hj (by simp at hj; omega)]; rfl

/-- No space, no 0, none of the bytes of l. -/
def noneOf (l : List UInt8) (r : Int) : Bool := !isSpace r && (r != 0 && decide (Lib.indexByte l (r % 256).toNat.toUInt8 < 0))

theorem none1 (w : World) (q : Nat) (s : ByteArray) (r : Int) (hq : w.cell? ⟨q, 0, none⟩ = some (.string s)) :
    Calls Tryz.prog 164 #[.int .i32 r, .pointer (some ⟨q, 0, none⟩)] w (Ret w (.bool (noneOf s.data.toList r))) := by
  go_enter Tryz.func164, Tryz.ntmps164
  go_wp2_with fail
  refine (IsSpace_any r _).mono ?_
  rintro e w1 ⟨rfl, b1⟩
  have hq1 : w1.cell? ⟨q, 0, none⟩ = some (.string s) := (b1.cell (p := ⟨q, 0, none⟩) (World.block_lt_of_cell? w _ hq)).trans hq
  clear hq
  cases hsp : isSpace r
  · have HS := Lib.hid hsp; clear hsp
    by_cases h0 : r = 0
    · subst h0
      go_wp2_with fail
      go_ret
      refine Ret.mk ?_ b1
      simp [noneOf, HS.out]
    · have hr : (r == 0) = false := by simp [h0]
      go_wp2_with fail
      refine (Tryz.strings_IndexByte _ _ _).mono ?_
      rintro e w2 ⟨rfl, rfl⟩
      generalize hx : Lib.indexByte s.data.toList (r % 256).toNat.toUInt8 = x
      have HX := Lib.hid hx; clear hx
      go_wp2_with fail
      all_goals go_ret
      all_goals refine Ret.mk ?_ b1
      all_goals simp [noneOf, HS.out, HX.out]
  · have HS := Lib.hid hsp; clear hsp
    go_wp2_with fail
    go_ret
    refine Ret.mk ?_ b1
    simp [noneOf, HS.out]
theorem enter_none1 (args : Array Value) (W : World) : (callFunc 164 args).run Tryz.prog W = .ok (.enter 164 args) W := by simp [go_sem]
theorem none_any (s : ByteArray) (w : World) : Calls Tryz.prog 132 #[.string s] w (RetC w (noneOf s.data.toList)) := by
  go_enter Tryz.func132, Tryz.ntmps132
  go_wp2
  go_ret
  refine ⟨_, _, rfl, ⟨enter_none1, fun W hb r => ?_⟩, by go_grown⟩
  refine none1 W _ s r ((hb.cell (p := ⟨_, 0, none⟩) (by simp)).trans ?_)
  go_cell

theorem all_list (l : List UInt8) (f : Nat) (cap : Array Value) (p : Int → Bool) (w : World) (hs : l.length ≤ maxLen) (hc : IsCls w f cap p) :
    Calls Tryz.prog 131 #[.string ⟨l.toArray⟩, .func (.func f) #[] cap] w (Ret w (.bool (allB p l))) := all_any ⟨l.toArray⟩ f cap p w hs hc
def validAttr (l : List UInt8) : Bool := !l.isEmpty && allB (noneOf [47, 61, 62]) l
theorem ValidAttribute_any (l : List UInt8) (w : World) (hs : l.length ≤ maxLen) : Calls Tryz.prog 121 #[.string ⟨l.toArray⟩] w (Ret w (.bool (validAttr l))) := by
  have HS := Lib.hid hs; clear hs
  cases he : l.isEmpty
  · have h1 : (!l.isEmpty) = true := by rw [he]; rfl
    have h2 : l ≠ [] := by intro h; subst h; cases he
    go_enter Tryz.func121, Tryz.ntmps121
    go_wp2_with fail
    refine (none_any ⟨#[47, 61, 62]⟩ _).mono ?_
    rintro e w1 ⟨f, cap, rfl, hc, b1⟩
    go_wp2_with fail
    refine (all_list l f cap _ _ HS.out hc).mono ?_
    rintro e w2 ⟨rfl, b2⟩
    go_wp2_with fail
    go_ret
    refine Ret.mk ?_ (bthen b1 b1.size b2)
    simp [validAttr, h2]
  · have h2 : l = [] := by simpa using he
    subst h2
    go_enter Tryz.func121, Tryz.ntmps121
    go_wp2_with fail
    go_ret
    exact Ret.mk rfl (Below.refl _ _)
end Go.Proofs.YtdapdadcninidaaGreatDoor
namespace Go.Proofs.YtdapdadcninidaaGreatDoor
open Go.RowKit

theorem classes5 {w : World} {f1 f2 f3 f4 f5 : Nat} {c1 c2 c3 c4 c5 : Array Value} {p1 p2 p3 p4 p5 : Int → Bool} (h1 : IsCls w f1 c1 p1) (h2 : IsCls w f2 c2 p2) (h3 : IsCls w f3 c3 p3) (h4 : IsCls w f4 c4 p4) (h5 : IsCls w f5 c5 p5) (t : TypeId) :
    IsClasses (w.alloc (.cells #[.func (.func f1) #[] c1, .func (.func f2) #[] c2, .func (.func f3) #[] c3, .func (.func f4) #[] c4, .func (.func f5) #[] c5] t)) (.slice (some ⟨w.heap.size, 0, none⟩) 5 5) [p1, p2, p3, p4, p5] := by
  have hb := (Below.refl w.heap.size w).alloc (Nat.le_refl _) (.cells #[.func (.func f1) #[] c1, .func (.func f2) #[] c2, .func (.func f3) #[] c3, .func (.func f4) #[] c4, .func (.func f5) #[] c5] t)
  refine ⟨_, _, rfl, fun i hi => ?_⟩
  match i, hi with
  | 0, _ => exact ⟨_, by go_cell, _, _, rfl, h1.later hb⟩
  | 1, _ => exact ⟨_, by go_cell, _, _, rfl, h2.later hb⟩
  | 2, _ => exact ⟨_, by go_cell, _, _, rfl, h3.later hb⟩
  | 3, _ => exact ⟨_, by go_cell, _, _, rfl, h4.later hb⟩
  | 4, _ => exact ⟨_, by go_cell, _, _, rfl, h5.later hb⟩
def validElem : List UInt8 → Bool
  | [] => false
  | c :: t =>
    if isLetter (c.toNat : Int) then allB (noneOf [47, 62]) (c :: t)
    else if anyC [inRg 58 58, inRg 95 95, inRg 128 255] (c.toNat : Int) then allB (anyC [isAlnum, inRg 45 46, inRg 58 58, inRg 95 95, inRg 128 255]) t
    else false
set_option maxHeartbeats 2000000 in
theorem ValidElement_any (l : List UInt8) (w : World) (hs : l.length ≤ maxLen) : Calls Tryz.prog 82 #[.string ⟨l.toArray⟩] w (Ret w (.bool (validElem l))) := by
  have HS := Lib.hid hs; clear hs
  cases l with
  | nil =>
    go_enter Tryz.func82, Tryz.ntmps82
    go_wp2_with fail
    go_ret
    exact Ret.mk rfl (Below.refl _ _)
  | cons c t =>
    go_enter Tryz.func82, Tryz.ntmps82
    go_wp2_with fail
    rw [wrap32_byte]
    show Calls _ _ #[.int .i32 (c.toNat : Int)] _ _
    refine (IsLetter_any _ _).mono ?_
    rintro e w1 ⟨rfl, b1⟩
    cases hl : isLetter (c.toNat : Int)
    · have HL := Lib.hid hl; clear hl
      go_wp2_with fail
      refine (from_any 128 255 _).mono ?_
      rintro e w2 ⟨f2, cap2, rfl, c2, b2⟩
      go_wp2_with fail
      refine (from_any 58 58 _).mono ?_
      rintro e w3 ⟨f3, cap3, rfl, c3, b3⟩
      go_wp2_with fail
      refine (from_any 95 95 _).mono ?_
      rintro e w4 ⟨f4, cap4, rfl, c4, b4⟩
      go_wp2_with fail
      refine (either_any _ _ _ (by decide) (classes3 (c3.later b4) c4 ((c2.later b3).later b4) _)).mono ?_
      rintro e w9 ⟨f, cap, rfl, ⟨he, hc⟩, b9⟩
      have h1 := Lib.hid (hc w9 (Below.refl _ _) (c.toNat : Int))
      clear hc
      have B9 : Below w1.heap.size w1 w9 := bthen b2 b2.size (bthen b3 b3.size (bthen (bthen b4 b4.size (balloc _ _)) (Nat.le_trans b4.size (by simp)) b9))
      have C2 : IsCls w9 f2 cap2 (inRg 128 255) := c2.later (bthen b3 b3.size (bthen (bthen b4 b4.size (balloc _ _)) (Nat.le_trans b4.size (by simp)) b9))
      clear b2 b3 b4 b9 c2 c3 c4
      go_wp2_with fail
      refine h1.out.mono ?_
      rintro e w10 ⟨rfl, b10⟩
      have B10 : Below w.heap.size w w10 := bthen b1 b1.size (bthen B9 B9.size b10)
      replace C2 := C2.later b10
      clear b1 B9 b10 h1
      cases ha : anyC [inRg 58 58, inRg 95 95, inRg 128 255] (c.toNat : Int)
      · have HA := Lib.hid ha; clear ha
        go_wp2_with fail
        go_ret
        refine Ret.mk ?_ B10
        simp [validElem, HL.out, HA.out]
      · have HA := Lib.hid ha; clear ha
        go_wp2_with fail
        go_region_with (first
          | (go_at_call_of 133 (Value.int .i32 45); refine (from_any 45 46 _).mono ?_; rintro e wa ⟨fa, capa, rfl, ca, ba⟩)
          | (go_at_call_of 133 (Value.int .i32 58); refine (from_any 58 58 _).mono ?_; rintro e wb ⟨fb, capb, rfl, cb, bb⟩)
          | (go_at_call_of 133 (Value.int .i32 95); refine (from_any 95 95 _).mono ?_; rintro e wc ⟨fc, capc, rfl, cc, bc⟩)
          | (go_at_call 134; refine (either_any _ _ _ (by decide) (classes5 (isCls_of enter_IsAlnum IsAlnum_any) ((ca.later bb).later bc) (cb.later bc) cc (((C2.later (bdrew ba)).later bb).later bc) _)).mono ?_; rintro e wd ⟨fd, capd, rfl, cd, bd⟩)
          | (go_at_call 131; refine (all_any _ _ _ _ _ (by have := HS.out; simp at this ⊢; omega) cd).mono ?_; rintro e we ⟨rfl, be⟩))
        all_goals (
          have BB := bthen B10 B10.size (bthen (bdrew ba) (bdrew ba).size (chain2 bb bc bd be))
          clear ba bb bc bd be ca cb cc cd C2 B10 he
          go_wp2
          go_ret
          refine Ret.mk ?_ BB
          simp [validElem, HL.out, HA.out, sext, Act.put])
    · have HL := Lib.hid hl; clear hl
      go_wp2_with fail
      refine (none_any ⟨#[47, 62]⟩ _).mono ?_
      rintro e w2 ⟨f, cap, rfl, hc, b2⟩
      go_wp2_with fail
      refine (all_list _ f cap _ _ HS.out hc).mono ?_
      rintro e w3 ⟨rfl, b3⟩
      go_wp2_with fail
      go_ret
      refine Ret.mk ?_ (bthen b1 b1.size (bthen b2 b2.size b3))
      simp [validElem, HL.out]
end Go.Proofs.YtdapdadcninidaaGreatDoor
