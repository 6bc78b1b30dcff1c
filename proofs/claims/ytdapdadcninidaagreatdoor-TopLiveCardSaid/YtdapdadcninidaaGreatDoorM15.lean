/- Package dom: duplicate at a node of each kind. No condition but the invariant. Package dom: duplicate at a node of each kind. No condition but the invariant. Package dom: duplicate in all cases; Clone, Import within one arena. No condition but the invariant. Package dom: Split, in all cases. No condition but the invariant. -/
import Derived.Test.YtdapdadcninidaaGreatDoorM14
import Derived.Test.YtdapdadcninidaaGreatDoorM9
import Derived.Test.YtdapdadcninidaaGreatDoorM13
set_option linter.unusedSimpArgs false
set_option linter.unusedVariables false
namespace Go.Proofs.YtdapdadcninidaaGreatDoor
open Go.RowKit
attribute [local go_sem ↓] Go.wp_at_zero Go.wp_at_succ

set_option maxRecDepth 100000 in
set_option maxHeartbeats 8000000 in
theorem dup_none {T : Nat} {ns0 : List Nd} {r : Nat → Nat} (hs0 : Snd ns0 r) (ht : Tm ns0) {k : Nat} (hk : inR ns0 k) {xs : List Nat} (hS : Sub (kdW ns0) (kdW ns0 ((k : Nat) : Int)) xs) (deep : Bool) (IH : ∀ k' xs', xs'.length < xs.length → inR ns0 k' → (nd ns0 k').parent ≠ 0 → Sub (kdW ns0) (kdW ns0 ((k' : Nat) : Int)) xs' → DupAt T ns0 k' xs') (hn1 : (nd ns0 k).kind ≠ 1) (hn2 : (nd ns0 k).kind ≠ 2) (hn3 : (nd ns0 k).kind ≠ 3) (hn5 : (nd ns0 k).kind ≠ 5) (hn6 : (nd ns0 k).kind ≠ 6) (hn4 : (nd ns0 k).kind ≠ 4)
    (doc : Int) (w : World) {O : List Nat} {s : St} {L : Lim} (hA : ArM T O s w) (hg : Gd L s) (hp : Pre ns0 s.ns) (hf : L.f + 1 + xs.length ≤ 900000) (ha : L.a ≤ 90000) :
    Calls Tryz.prog 124 #[.pointer (some ⟨T, 0, none⟩), .int .i64 doc, .pointer (some ⟨T, 0, none⟩), .int .i64 (k : Nat), .bool deep] w (Act T O w (DupR ns0 k ⟨L.x + attW ns0 xs, L.y, L.f + 1 + xs.length, L.a⟩ s)) := by
  have hks : inR s.ns k := hp.inR hk
  have hnd : nd s.ns k = nd ns0 k := hp.old k hk
  have hfit := hg.fit (by omega) (by omega)
  obtain ⟨iv, O1, hA1, -⟩ := hA.turn
  have H1 := NodeD_any ((k : Nat) : Int) w hA1 hfit
  rw [descAt_nd hks, hnd] at H1
  have hdl : (nd ns0 k).data.length ≤ L.y := by rw [← hnd]; exact hg.dy _ (nd_mem hks)
  have hal : (nd ns0 k).attrs.length ≤ L.a := by rw [← hnd]; exact hg.aa _ (nd_mem hks)
  have hkl : (nd ns0 k).kids.length ≤ 1000000 := by rw [← hnd]; exact hfit.kid _ (nd_mem hks)
  obtain ⟨⟨x2, hS2, hW2, hL2, hL3⟩, hct⟩ := sub_ct (fun x hx hc => (hs0.cts x hx hc).1) hk hS
  have hkid : ∀ y ∈ (nd ns0 k).kids, inR ns0 y ∧ (nd ns0 y).parent ≠ 0 := fun y hy => ⟨(hs0.kid k y hk hy).1, by rw [(hs0.kid k y hk hy).2]; have := hk.1; omega⟩
  obtain ⟨M, hM⟩ : ∃ M : Lim, (⟨L.x + attW ns0 xs, L.y, L.f + 1 + xs.length, L.a⟩ : Lim) = M := ⟨_, rfl⟩
  have hMf : M.f ≤ 900000 := by rw [← hM]; exact hf
  have hMa : M.a ≤ 90000 := by rw [← hM]; exact ha
  have HDN := Lib.hid (fun (c t : Nat) (rest : List Nat) (s' : St) (w' : World) (O' : List Nat) (h : DupJ ns0 s M xs.length (nd ns0 k).data.length c t rest s') (hA' : ArM T O' s' w') (hs' : AStep O w O' w') => show Act T O w (DupR ns0 k M s) (.returned (.int .i64 (c : Nat))) w' from ⟨s', O', hA', hs', c, rfl, h.done⟩)
  have HJ0 := Lib.hid (fun (c : Nat) (s1 : St) (h : MkQ ⟨L.x, L.y, L.f + 1, L.a⟩ s (nd ns0 k).data.length c s1) => show DupJ ns0 s M xs.length (nd ns0 k).data.length c c (nd ns0 k).kids s1 from
    ⟨h.pre, h.kt, h.c, h.c.imp id fun h => ⟨h.gt, h.is⟩, x2, L.x, L.f + 1, hS2, by rw [← hM]; exact h.gd, by rw [← hM]; dsimp only; omega, by rw [← hM]; dsimp only; omega, hL2⟩)
  rw [hM]
  have HRD := Lib.hid (fun (c t k' : Nat) (rest O2 : List Nat) (s2 : St) (wr : World) (doc' : Int) (hJ : DupJ ns0 s M xs.length (nd ns0 k).data.length c t (k' :: rest) s2) (hA : ArM T O2 s2 wr) (hk : inR ns0 k') (hpar : (nd ns0 k').parent ≠ 0) => dup_round hJ hA hk hpar hp hMf hMa IH doc')
  have HA := Lib.hid hA; have HG := Lib.hid hg
  clear hs0 hS hnd hks hfit hA1 hct hM IH hS2 hW2 hL2 hL3 ht hA hg hp 
  generalize nd ns0 k = d at *
  have hq1 : (d.kind == 1) = false := by simpa using hn1
  have hq2 : (d.kind == 2) = false := by simpa using hn2
  have hq3 : (d.kind == 3) = false := by simpa using hn3
  have hq5 : (d.kind == 5) = false := by simpa using hn5
  have hq6 : (d.kind == 6) = false := by simpa using hn6
  have hq4 : (d.kind == 4) = false := by simpa using hn4
  clear hn1 hn2 hn3 hn5 hn6 hn4
  have HKID := Lib.hid hkid; have H1 := Lib.hid H1
  clear hkid
  go_enter Tryz.func124, Tryz.ntmps124
  go_wp2_with fail
  refine H1.out.mono ?_
  rintro e w1 ⟨k1, k2, a1, a2, rfl, hkr, har, b1⟩
  have HB1 := Lib.hid b1; have HKR := Lib.hid hkr; have HAR := Lib.hid har
  clear b1 hkr har H1
  cases deep
  · go_wp2_with fail
    generalize hW2 : w1.alloc _ = W2
    have hbx : W2.heap[w1.heap.size]? = some (.cells (nodeArr d k1 k2 a1 a2) 55 (0, 0)) := by rw [← hW2]; exact World.alloc_heap_new w1 _
    have hb2 : Below w1.heap.size w1 W2 := by rw [← hW2]; exact balloc _ _
    have HB2 := Lib.hid (bthen HB1.out HB1.out.size hb2)
    have HX2 := Lib.hid (Kp.new HA.out HB1.out.size hbx)
    have HK2 := Lib.hid (Kr.new HA.out (Nat.le_refl _) (ownsRow_below HKR.out hb2))
    have HAT := Lib.hid (AttsAt.own (ownsRow_below HAR.out hb2))
    have HA2 := Lib.hid (HA.out.later HB2.out)
    obtain ⟨bx, hbxe⟩ : ∃ bx, w1.heap.size = bx := ⟨_, rfl⟩
    rw [hbxe] at HX2 ⊢
    clear hbx hb2 hW2 hbxe HB1 HKR HAR
    have HX3 := HX2; have HK3 := HK2
    have HST3 := Lib.hid (astep_below (O := O) HB2.out)
    have HA3 := HA2
    have HJ3 := Lib.hid (HJ0.out 0 s ⟨Pre.refl _, KT.refl _, .inl rfl, HG.out.weak (Nat.le_refl _) (Nat.le_refl _) (Nat.le_add_right _ _) (Nat.le_refl _)⟩)
    have HF := Lib.hid (HDN.out 0 0 d.kids s W2 O HJ3.out HA3.out HST3.out)
    clear HDN HRD HJ3 HK3 HX3
    go_ret
    exact HF.out
  · go_wp2_with fail
    generalize hW2 : w1.alloc _ = W2
    have hbx : W2.heap[w1.heap.size]? = some (.cells (nodeArr d k1 k2 a1 a2) 55 (0, 0)) := by rw [← hW2]; exact World.alloc_heap_new w1 _
    have hb2 : Below w1.heap.size w1 W2 := by rw [← hW2]; exact balloc _ _
    have HB2 := Lib.hid (bthen HB1.out HB1.out.size hb2)
    have HX2 := Lib.hid (Kp.new HA.out HB1.out.size hbx)
    have HK2 := Lib.hid (Kr.new HA.out (Nat.le_refl _) (ownsRow_below HKR.out hb2))
    have HAT := Lib.hid (AttsAt.own (ownsRow_below HAR.out hb2))
    have HA2 := Lib.hid (HA.out.later HB2.out)
    obtain ⟨bx, hbxe⟩ : ∃ bx, w1.heap.size = bx := ⟨_, rfl⟩
    rw [hbxe] at HX2 ⊢
    clear hbx hb2 hW2 hbxe HB1 HKR HAR
    have HX3 := HX2; have HK3 := HK2
    have HST3 := Lib.hid (astep_below (O := O) HB2.out)
    have HA3 := HA2
    have HJ3 := Lib.hid (HJ0.out 0 s ⟨Pre.refl _, KT.refl _, .inl rfl, HG.out.weak (Nat.le_refl _) (Nat.le_refl _) (Nat.le_add_right _ _) (Nat.le_refl _)⟩)
    go_loopw [134] (fun i wr => ∃ (j : Nat) (O2 : List Nat) (s2 : St), j ≤ d.kids.length ∧ i = .int .i64 (j : Nat) ∧ ArM T O2 s2 wr ∧ AStep O W2 O2 wr ∧ DupJ ns0 s M xs.length d.data.length 0 0 (d.kids.drop j) s2) (fun i _ => d.kids.length - (intOf i).toNat)
    case atStart => exact ⟨0, O, s, Nat.zero_le _, rfl, HA3.out, AStep.refl _ _, HJ3.out⟩
    case round =>
      obtain ⟨j, O2, s2, hj, rfl, hA2, hs2, hJ2⟩ := hrel
      by_cases hlt : j < d.kids.length
      · have hR := (HK3.out.step hs2).r
        obtain ⟨gk, rfl⟩ := row_someA hR (by omega)
        have hcell := row_at hR j (natV d.kids[j]) (by simp [kidCells, hlt])
        have hdr : d.kids.drop j = d.kids[j] :: d.kids.drop (j + 1) := List.drop_eq_getElem_cons hlt
        rw [hdr] at hJ2
        obtain ⟨hk1, hk2⟩ := HKID.out _ (List.getElem_mem hlt)
        have H6 := HRD.out 0 0 _ _ O2 s2 wr doc hJ2 hA2 hk1 hk2
        obtain ⟨y, hy⟩ : ∃ y, d.kids[j] = y := ⟨_, rfl⟩
        rw [hy] at H6 hcell
        have hji : (j : Int) < (d.kids.length : Int) := by omega
        simp only [natV] at hcell
        have H6 := Lib.hid H6; have HS2 := Lib.hid hs2
        clear hy hdr hR hA2 hs2 hJ2 hk1 hk2
        go_wp2_with fail
        refine H6.out.mono ?_
        rintro e w5 ⟨c', s5, O5, rfl, hA5, hs5, hL5, hJ5⟩
        have H7 := dup_put (t := 0) (c' := c') hA5 hL5
        rw [show (((0 : Nat)) : Int) = 0 from rfl] at H7
        have H7 := Lib.hid H7
        have HS5 := Lib.hid (HS2.out.trans hs5); have HJ5 := Lib.hid hJ5
        clear hA5 hs5 hL5 hJ5 H6
        go_wp2_with fail
        refine H7.out.mono ?_
        rintro e w6 ⟨er6, O6, rfl, hA6, hs6⟩
        have HA6 := Lib.hid hA6; have HS6 := Lib.hid (HS5.out.trans hs6)
        clear hA6 hs6 H7
        go_wp2_with fail
        go_roundw
        case rel => exact ⟨j + 1, O6, _, by omega, by go_num, HA6.out, HS6.out, HJ5.out⟩
        case measure => first | (simp only [intOf]; omega) | (simp [intOf]; omega)
      · have HF := Lib.hid (HDN.out 0 0 _ s2 wr O2 hJ2 hA2 (HST3.out.trans hs2))
        clear hA2 hs2 hJ2 HRD
        go_wp2_with fail
        go_ret
        exact HF.out
end Go.Proofs.YtdapdadcninidaaGreatDoor
namespace Go.Proofs.YtdapdadcninidaaGreatDoor
open Go.RowKit
attribute [local go_sem ↓] Go.wp_at_zero Go.wp_at_succ

set_option maxRecDepth 100000 in
set_option maxHeartbeats 8000000 in
theorem dup_elem {T : Nat} {ns0 : List Nd} {r : Nat → Nat} (hs0 : Snd ns0 r) (ht : Tm ns0) {k : Nat} (hk : inR ns0 k) {xs : List Nat} (hS : Sub (kdW ns0) (kdW ns0 ((k : Nat) : Int)) xs) (deep : Bool) (IH : ∀ k' xs', xs'.length < xs.length → inR ns0 k' → (nd ns0 k').parent ≠ 0 → Sub (kdW ns0) (kdW ns0 ((k' : Nat) : Int)) xs' → DupAt T ns0 k' xs') (hkind : (nd ns0 k).kind = 4)
    (doc : Int) (w : World) {O : List Nat} {s : St} {L : Lim} (hA : ArM T O s w) (hg : Gd L s) (hp : Pre ns0 s.ns) (hf : L.f + 1 + xs.length ≤ 900000) (ha : L.a ≤ 90000) :
    Calls Tryz.prog 124 #[.pointer (some ⟨T, 0, none⟩), .int .i64 doc, .pointer (some ⟨T, 0, none⟩), .int .i64 (k : Nat), .bool deep] w (Act T O w (DupR ns0 k ⟨L.x + attW ns0 xs, L.y, L.f + 1 + xs.length, L.a⟩ s)) := by
  have hks : inR s.ns k := hp.inR hk
  have hnd : nd s.ns k = nd ns0 k := hp.old k hk
  have hfit := hg.fit (by omega) (by omega)
  obtain ⟨iv, O1, hA1, -⟩ := hA.turn
  have H1 := NodeD_any ((k : Nat) : Int) w hA1 hfit
  rw [descAt_nd hks, hnd] at H1
  have hdl : (nd ns0 k).data.length ≤ L.y := by rw [← hnd]; exact hg.dy _ (nd_mem hks)
  have hal : (nd ns0 k).attrs.length ≤ L.a := by rw [← hnd]; exact hg.aa _ (nd_mem hks)
  have hkl : (nd ns0 k).kids.length ≤ 1000000 := by rw [← hnd]; exact hfit.kid _ (nd_mem hks)
  obtain ⟨⟨x2, hS2, hW2, hL2, hL3⟩, hct⟩ := sub_ct (fun x hx hc => (hs0.cts x hx hc).1) hk hS
  have hkid : ∀ y ∈ (nd ns0 k).kids, inR ns0 y ∧ (nd ns0 y).parent ≠ 0 := fun y hy => ⟨(hs0.kid k y hk hy).1, by rw [(hs0.kid k y hk hy).2]; have := hk.1; omega⟩
  obtain ⟨M, hM⟩ : ∃ M : Lim, (⟨L.x + attW ns0 xs, L.y, L.f + 1 + xs.length, L.a⟩ : Lim) = M := ⟨_, rfl⟩
  have hMf : M.f ≤ 900000 := by rw [← hM]; exact hf
  have hMa : M.a ≤ 90000 := by rw [← hM]; exact ha
  have HDN := Lib.hid (fun (c t : Nat) (rest : List Nat) (s' : St) (w' : World) (O' : List Nat) (h : DupJ ns0 s M xs.length (nd ns0 k).data.length c t rest s') (hA' : ArM T O' s' w') (hs' : AStep O w O' w') => show Act T O w (DupR ns0 k M s) (.returned (.int .i64 (c : Nat))) w' from ⟨s', O', hA', hs', c, rfl, h.done⟩)
  have htm : isTmpl { kind := 4, space := (nd ns0 k).space, name := (nd ns0 k).name } = isTmpl (nd ns0 k) := by unfold isTmpl; rw [hkind]
  have HJA := Lib.hid (fun (h0 : (nd ns0 k).contents = 0) (c : Nat) (s1 : St) (h : ElQ L s (isTmpl { kind := 4, space := (nd ns0 k).space, name := (nd ns0 k).name }) (nd ns0 k).data.length c s1) => show DupJ ns0 s M xs.length (nd ns0 k).data.length c c (nd ns0 k).kids s1 from by
    have e0 : (descAt s1.ns ((c : Nat) : Int)).contents = 0 := h.tm (by
      rw [htm]
      cases e : isTmpl (nd ns0 k)
      · rfl
      · exact absurd h0 (ht k hk e))
    have hg1 := h.gd
    rw [if_pos e0] at hg1
    exact ⟨h.pre, h.kt, h.cn, h.cn.imp id fun h => ⟨h.gt, h.is⟩, x2, L.x, L.f + 1, hS2, by rw [← hM]; exact hg1, by rw [← hM]; dsimp only; omega, by rw [← hM]; dsimp only; omega, hL2⟩)
  have HJB := Lib.hid (fun (h0 : (nd ns0 k).contents ≠ 0) (c : Nat) (s1 : St) (h : ElQ L s (isTmpl { kind := 4, space := (nd ns0 k).space, name := (nd ns0 k).name }) (nd ns0 k).data.length c s1) => show DupJ ns0 s M xs.length (nd ns0 k).data.length c (descAt s1.ns ((c : Nat) : Int)).contents ((nd ns0 (nd ns0 k).contents).kids ++ (nd ns0 k).kids) s1 from by
    obtain ⟨x3, h1, h2, h3⟩ := hct h0
    refine ⟨h.pre, h.kt, h.cn, h.ct, x3, L.x, _, h1, by rw [← hM]; exact h.gd, by rw [← hM]; dsimp only; omega, ?_, by omega⟩
    rw [← hM]
    dsimp only
    split <;> omega)
  have HCK := Lib.hid (fun (h0 : (nd ns0 k).contents ≠ 0) (y : Nat) (hy : y ∈ (nd ns0 (nd ns0 k).contents).kids) => show inR ns0 y ∧ (nd ns0 y).parent ≠ 0 from by
    obtain ⟨h1, h2⟩ := hs0.kid _ y (hs0.cts k hk h0).1 hy
    exact ⟨h1, by rw [h2]; exact h0⟩)
  have HCI := Lib.hid (fun (h0 : (nd ns0 k).contents ≠ 0) (s1 : St) (h : Pre s.ns s1.ns) => show kidsAt s1.ns (((nd ns0 k).contents : Nat) : Int) = (nd ns0 (nd ns0 k).contents).kids from by
    have h1 := (hs0.cts k hk h0).1
    have h2 := hp.trans h
    unfold kidsAt
    rw [if_pos (inR_isH.2 (h2.inR h1))]
    exact congrArg Nd.kids (h2.old _ h1))
  have HMF := Lib.hid hMf
  rw [hM]
  have HRD := Lib.hid (fun (c t k' : Nat) (rest O2 : List Nat) (s2 : St) (wr : World) (doc' : Int) (hJ : DupJ ns0 s M xs.length (nd ns0 k).data.length c t (k' :: rest) s2) (hA : ArM T O2 s2 wr) (hk : inR ns0 k') (hpar : (nd ns0 k').parent ≠ 0) => dup_round hJ hA hk hpar hp hMf hMa IH doc')
  have HA := Lib.hid hA; have HG := Lib.hid hg
  clear hs0 hS hnd hks hfit hA1 hct hM IH hS2 hW2 hL2 hL3 ht hA hg hp htm
  generalize nd ns0 k = d at *
  have hq1 : (d.kind == 1) = false := by rw [hkind]; rfl
  have hq2 : (d.kind == 2) = false := by rw [hkind]; rfl
  have hq3 : (d.kind == 3) = false := by rw [hkind]; rfl
  have hq5 : (d.kind == 5) = false := by rw [hkind]; rfl
  have hq6 : (d.kind == 6) = false := by rw [hkind]; rfl
  have hq4 : (d.kind == 4) = true := by rw [hkind]; rfl
  clear hkind
  have HKID := Lib.hid hkid; have H1 := Lib.hid H1
  clear hkid
  go_enter Tryz.func124, Tryz.ntmps124
  go_wp2_with fail
  refine H1.out.mono ?_
  rintro e w1 ⟨k1, k2, a1, a2, rfl, hkr, har, b1⟩
  have HB1 := Lib.hid b1; have HKR := Lib.hid hkr; have HAR := Lib.hid har
  clear b1 hkr har H1
  go_wp2_with fail
  generalize hW2 : w1.alloc _ = W2
  have hbx : W2.heap[w1.heap.size]? = some (.cells (nodeArr d k1 k2 a1 a2) 55 (0, 0)) := by rw [← hW2]; exact World.alloc_heap_new w1 _
  have hb2 : Below w1.heap.size w1 W2 := by rw [← hW2]; exact balloc _ _
  have HB2 := Lib.hid (bthen HB1.out HB1.out.size hb2)
  have HX2 := Lib.hid (Kp.new HA.out HB1.out.size hbx)
  have HK2 := Lib.hid (Kr.new HA.out (Nat.le_refl _) (ownsRow_below HKR.out hb2))
  have HAT := Lib.hid (AttsAt.own (ownsRow_below HAR.out hb2))
  have HA2 := Lib.hid (HA.out.later HB2.out)
  obtain ⟨bx, hbxe⟩ : ∃ bx, w1.heap.size = bx := ⟨_, rfl⟩
  rw [hbxe] at HX2 ⊢
  clear hbx hb2 hW2 hbxe HB1 HKR HAR
  have H3 := Lib.hid (Element_mk doc d.space d.name d.attrs d.data.length W2 HA2.out HG.out (by omega) (by omega) hal HAT.out (c := a2))
  refine H3.out.mono ?_
  rintro e w3 ⟨s3, O3, hA3, hs3, c, er, rfl, hq⟩
  have HX3 := Lib.hid (HX2.out.step hs3); have HK3 := Lib.hid (HK2.out.step hs3); have HST3 := Lib.hid (astep_pre HB2.out hs3); have HA3 := Lib.hid hA3
  have p2 : w3.cell? ⟨bx, 2, none⟩ = some (.slice k1 d.kids.length k2) := HX3.out.cell 2
  have p11 : w3.cell? ⟨bx, 11, none⟩ = some (.int .i64 (d.contents : Nat)) := HX3.out.cell 11
  have HQ := Lib.hid hq
  clear hA3 hs3 hq HX2 HK2 HB2 HA2 H3 HAT hdl
  by_cases hc0 : d.contents = 0
  · have HJ3 := Lib.hid (HJA.out hc0 c s3 HQ.out)
    rw [hc0] at p11
    have p11' : w3.cell? ⟨bx, 11, none⟩ = some (.int .i64 0) := p11
    clear p11 HJA HJB HCK HCI HQ hc0
    cases deep
    · have HF := Lib.hid (HDN.out c c d.kids s3 w3 O3 HJ3.out HA3.out HST3.out)
      clear HDN HRD HJ3 HK3 HX3
      go_wp2_with fail
      go_ret
      exact HF.out
    · go_wp2_with fail
      go_loopw [134] (fun i wr => ∃ (j : Nat) (O2 : List Nat) (s2 : St), j ≤ d.kids.length ∧ i = .int .i64 (j : Nat) ∧ ArM T O2 s2 wr ∧ AStep O3 w3 O2 wr ∧ DupJ ns0 s M xs.length d.data.length c c (d.kids.drop j) s2) (fun i _ => d.kids.length - (intOf i).toNat)
      case atStart => exact ⟨0, O3, s3, Nat.zero_le _, rfl, HA3.out, AStep.refl _ _, HJ3.out⟩
      case round =>
        obtain ⟨j, O2, s2, hj, rfl, hA2, hs2, hJ2⟩ := hrel
        by_cases hlt : j < d.kids.length
        · have hR := (HK3.out.step hs2).r
          obtain ⟨gk, rfl⟩ := row_someA hR (by omega)
          have hcell := row_at hR j (natV d.kids[j]) (by simp [kidCells, hlt])
          have hdr : d.kids.drop j = d.kids[j] :: d.kids.drop (j + 1) := List.drop_eq_getElem_cons hlt
          rw [hdr] at hJ2
          obtain ⟨hk1, hk2⟩ := HKID.out _ (List.getElem_mem hlt)
          have H6 := HRD.out c c _ _ O2 s2 wr doc hJ2 hA2 hk1 hk2
          obtain ⟨y, hy⟩ : ∃ y, d.kids[j] = y := ⟨_, rfl⟩
          rw [hy] at H6 hcell
          have hji : (j : Int) < (d.kids.length : Int) := by omega
          simp only [natV] at hcell
          have H6 := Lib.hid H6; have HS2 := Lib.hid hs2
          clear hy hdr hR hA2 hs2 hJ2 hk1 hk2
          go_wp2_with fail
          refine H6.out.mono ?_
          rintro e w5 ⟨c', s5, O5, rfl, hA5, hs5, hL5, hJ5⟩
          have H7 := Lib.hid (dup_put (t := c) (c' := c') hA5 hL5)
          have HS5 := Lib.hid (HS2.out.trans hs5); have HJ5 := Lib.hid hJ5
          clear hA5 hs5 hL5 hJ5 H6
          go_wp2_with fail
          refine H7.out.mono ?_
          rintro e w6 ⟨er6, O6, rfl, hA6, hs6⟩
          have HA6 := Lib.hid hA6; have HS6 := Lib.hid (HS5.out.trans hs6)
          clear hA6 hs6 H7
          go_wp2_with fail
          go_roundw
          case rel => exact ⟨j + 1, O6, _, by omega, by go_num, HA6.out, HS6.out, HJ5.out⟩
          case measure => first | (simp only [intOf]; omega) | (simp [intOf]; omega)
        · have HF := Lib.hid (HDN.out c c _ s2 wr O2 hJ2 hA2 (HST3.out.trans hs2))
          clear hA2 hs2 hJ2 HRD
          go_wp2_with fail
          go_ret
          exact HF.out
  · have hcb : (((d.contents : Nat) : Int) != 0) = true := by simpa using hc0
    have HJ3 := Lib.hid (HJB.out hc0 c s3 HQ.out)
    have HCK := Lib.hid (HCK.out hc0); have HCI := Lib.hid (HCI.out hc0)
    obtain ⟨L3, hg3, hLf, hLa⟩ : ∃ L3, Gd L3 s3 ∧ L3.f ≤ 900000 ∧ L3.a ≤ 900000 := by
      have h := HJ3.out.lim
      exact ⟨M, h, hMf, by omega⟩
    have hfit3 := hg3.fit (by omega) (by omega)
    have hlen3 := hg3.len
    obtain ⟨iv3, O3a, hA3a, -⟩ := HA3.out.turn
    have H4 := NodeD_any ((c : Nat) : Int) w3 hA3a hfit3
    have HMP := Lib.hid hg3.map
    generalize (nd ns0 d.contents).kids = cks at *
    generalize descAt s3.ns ((c : Nat) : Int) = d2 at *
    generalize nodeE s3.ns.length ((c : Nat) : Int) = ne2 at *
    have H4 := Lib.hid H4
    clear hA3a hfit3 hg3 HQ hc0 HJA
    cases deep
    · have HF := Lib.hid (HDN.out c _ _ s3 w3 O3 HJ3.out HA3.out HST3.out)
      clear HDN HRD HJ3 HK3 HX3
      go_wp2_with fail
      go_ret
      exact HF.out
    · go_wp2_with fail
      refine H4.out.mono ?_
      rintro e w4 ⟨k3, k4, a3, a4, rfl, -, -, b4⟩
      have HB4 := Lib.hid b4
      clear b4 H4 p2 p11
      go_wp2_with fail
      generalize hW5 : w4.alloc _ = W5
      have hbx5 : W5.heap[w4.heap.size]? = some (.cells (nodeArr d2 k3 k4 a3 a4) 55 (0, 0)) := by rw [← hW5]; exact World.alloc_heap_new w4 _
      have hb5 : Below w4.heap.size w4 W5 := by rw [← hW5]; exact balloc _ _
      have HB5 := Lib.hid (bthen HB4.out HB4.out.size hb5)
      have HY5 := Lib.hid (Kp.new HA3.out HB4.out.size hbx5)
      have HX5 := Lib.hid (HX3.out.later HB5.out); have HK5 := Lib.hid (HK3.out.later HB5.out)
      obtain ⟨by_, hbye⟩ : ∃ by_, w4.heap.size = by_ := ⟨_, rfl⟩
      rw [hbye] at HY5 ⊢
      have H5 := Lib.hid (Inert_act doc W5 (HA3.out.later HB5.out) HMP.out (by omega))
      clear hbx5 hb5 hW5 hbye HB4 HX3 HK3
      refine H5.out.mono ?_
      rintro e w6 ⟨s6, O6, hA6, hs6, ⟨v6, er6, rfl⟩, hI⟩
      have HX6 := Lib.hid (HX5.out.step hs6); have HK6 := Lib.hid (HK5.out.step hs6); have HY6 := Lib.hid (HY5.out.step hs6)
      have HST6 := Lib.hid (HST3.out.trans (astep_pre HB5.out hs6))
      have HJ6 := Lib.hid (HJ3.out.inert hI HMF.out)
      have HA6 := Lib.hid hA6
      have hlim6 := HJ6.out.lim
      have hfit6 := hlim6.fit (by omega) (by omega)
      obtain ⟨iv6, O6a, hA6a, -⟩ := hA6.turn
      have H7 := Kids_any (((d.contents : Nat) : Int)) w6 hA6a hfit6.len (hfit6.kids _)
      have hkl7 := hfit6.kids ((d.contents : Nat) : Int)
      rw [HCI.out s6 HJ6.out.pre] at H7 hkl7
      have H7 := Lib.hid H7
      have p11 : w6.cell? ⟨bx, 11, none⟩ = some (.int .i64 (d.contents : Nat)) := HX6.out.cell 11
      clear hA6 hs6 hI H5 HX5 HK5 HY5 HB5 HST3 HJ3 HA3 hlim6 hfit6 hA6a HCI
      go_wp2_with fail
      refine H7.out.mono ?_
      rintro e w7 ⟨v7, rfl, hr7, b7⟩
      obtain ⟨ka7, kc7, rfl⟩ := ownsRow_slice hr7
      have HR7 := Lib.hid (Kr.new HA6.out (Nat.le_refl _) hr7)
      have HX7 := Lib.hid (HX6.out.later b7); have HK7 := Lib.hid (HK6.out.later b7); have HY7 := Lib.hid (HY6.out.later b7)
      have HST7 := Lib.hid (HST6.out.trans (astep_below b7)); have HA7 := Lib.hid (HA6.out.later b7)
      clear hr7 b7 H7 p11 HX6 HK6 HY6 HST6 HA6
      obtain ⟨t, ht⟩ : ∃ t, d2.contents = t := ⟨_, rfl⟩
      rw [ht] at HJ6
      have HTT := Lib.hid ht
      clear ht
      go_wp2_with fail
      go_loopw [116] (fun i wq => ∃ (jq : Nat) (Oq : List Nat) (sq : St), jq ≤ cks.length ∧ i = .int .i64 (jq : Nat) ∧ ArM T Oq sq wq ∧ AStep O6 w7 Oq wq ∧ DupJ ns0 s M xs.length d.data.length c t (cks.drop jq ++ d.kids) sq) (fun i _ => cks.length - (intOf i).toNat)
      case atStart => exact ⟨0, O6, s6, Nat.zero_le _, rfl, HA7.out, AStep.refl _ _, HJ6.out⟩
      case round =>
        generalize wr = wq at *
        obtain ⟨jq, Oq, sq, hjq, rfl, hAq, hsq, hJq⟩ := hrel
        by_cases hlt : jq < cks.length
        · have hR := (HR7.out.step hsq).r
          obtain ⟨gk, rfl⟩ := row_someA hR (by omega)
          have hcell := row_at hR jq (natV cks[jq]) (by simp [kidCells, hlt])
          have hdr : cks.drop jq ++ d.kids = cks[jq] :: (cks.drop (jq + 1) ++ d.kids) := by rw [List.drop_eq_getElem_cons hlt, List.cons_append]
          rw [hdr] at hJq
          obtain ⟨hk1, hk2⟩ := HCK.out _ (List.getElem_mem hlt)
          have H8 := fun W (hb : Below wq.heap.size wq W) => HRD.out c t _ _ Oq sq W v6 hJq (hAq.later hb) hk1 hk2
          obtain ⟨y, hy⟩ : ∃ y, cks[jq] = y := ⟨_, rfl⟩
          rw [hy] at H8 hcell
          have hji : (jq : Int) < (cks.length : Int) := by omega
          simp only [natV] at hcell
          have HYq := Lib.hid (HY7.out.step hsq)
          have pq : wq.cell? ⟨by_, 11, none⟩ = some (.int .i64 (t : Nat)) := by rw [← HTT.out]; exact HYq.out.cell 11
          have H8 := Lib.hid H8; have HSq := Lib.hid hsq
          clear hy hdr hR hAq hsq hJq hk1 hk2
          go_wp2_with fail
          go_region_with ((first
            | (go_at_call 124
               refine (H8.out _ (by first | exact Below.refl _ _ | exact below_drewA (Below.refl _ _))).mono ?_
               rintro e w9 ⟨c', s9, O9, rfl, hA9, hs9', hL9, hJ9⟩
               have hs9 : AStep Oq wq O9 w9 := astep_pre (by first | exact Below.refl _ _ | exact below_drewA (Below.refl _ _)) hs9'
               have p9 : w9.cell? ⟨by_, 11, none⟩ = some (.int .i64 (t : Nat)) := by rw [← HTT.out]; exact (HYq.out.step hs9).cell 11
               have H9 := Lib.hid (fun W (hb : Below w9.heap.size w9 W) => dup_put (t := t) (c' := c') (hA9.later hb) hL9)
               have HS9 := Lib.hid (HSq.out.trans hs9)
               have HJ9 := Lib.hid hJ9
               clear hA9 hs9 hs9' hL9 hJ9)
            | (go_at_call 12
               refine (H9.out _ (by first | exact Below.refl _ _ | exact below_drewA (Below.refl _ _))).mono ?_
               rintro e w10 ⟨er10, O10, rfl, hA10, hs10'⟩
               have HS10 := Lib.hid (HS9.out.trans (astep_pre (by first | exact Below.refl _ _ | exact below_drewA (Below.refl _ _)) hs10'))
               have HA10 := Lib.hid hA10
               clear hA10 hs10')))
          all_goals
            go_wp2_with fail
            go_roundw
            case rel => exact ⟨jq + 1, O10, _, by omega, by go_num, by first | exact HA10.out | exact HA10.out.later (below_drewA (Below.refl _ _)), by first | exact HS10.out | exact HS10.out.drewM, HJ9.out⟩
            case measure => first | (simp only [intOf]; omega) | (simp [intOf]; omega)
        · have hje : jq = cks.length := by omega
          rw [hje, List.drop_length, List.nil_append] at hJq
          have HA3 := Lib.hid hAq; have HST3 := Lib.hid (HST7.out.trans hsq); have HK3 := Lib.hid (HK7.out.step hsq); have HX3 := Lib.hid (HX7.out.step hsq)
          have HJ3 := Lib.hid hJq.self
          have p2 : wq.cell? ⟨bx, 2, none⟩ = some (.slice k1 d.kids.length k2) := HX3.out.cell 2
          clear hAq hsq hJq hje
          go_wp2_with fail
          go_loopw [134] (fun i wr => ∃ (j : Nat) (O2 : List Nat) (s2 : St), j ≤ d.kids.length ∧ i = .int .i64 (j : Nat) ∧ ArM T O2 s2 wr ∧ AStep Oq wq O2 wr ∧ DupJ ns0 s M xs.length d.data.length c c (d.kids.drop j) s2) (fun i _ => d.kids.length - (intOf i).toNat)
          case atStart => exact ⟨0, Oq, sq, Nat.zero_le _, rfl, HA3.out, AStep.refl _ _, HJ3.out⟩
          case round =>
            obtain ⟨j, O2, s2, hj, rfl, hA2, hs2, hJ2⟩ := hrel
            by_cases hlt : j < d.kids.length
            · have hR := (HK3.out.step hs2).r
              obtain ⟨gk, rfl⟩ := row_someA hR (by omega)
              have hcell := row_at hR j (natV d.kids[j]) (by simp [kidCells, hlt])
              have hdr : d.kids.drop j = d.kids[j] :: d.kids.drop (j + 1) := List.drop_eq_getElem_cons hlt
              rw [hdr] at hJ2
              obtain ⟨hk1, hk2⟩ := HKID.out _ (List.getElem_mem hlt)
              have H6 := HRD.out c c _ _ O2 s2 wr doc hJ2 hA2 hk1 hk2
              obtain ⟨y, hy⟩ : ∃ y, d.kids[j] = y := ⟨_, rfl⟩
              rw [hy] at H6 hcell
              have hji : (j : Int) < (d.kids.length : Int) := by omega
              simp only [natV] at hcell
              have H6 := Lib.hid H6; have HS2 := Lib.hid hs2
              clear hy hdr hR hA2 hs2 hJ2 hk1 hk2
              go_wp2_with fail
              refine H6.out.mono ?_
              rintro e w5 ⟨c', s5, O5, rfl, hA5, hs5, hL5, hJ5⟩
              have H7 := Lib.hid (dup_put (t := c) (c' := c') hA5 hL5)
              have HS5 := Lib.hid (HS2.out.trans hs5); have HJ5 := Lib.hid hJ5
              clear hA5 hs5 hL5 hJ5 H6
              go_wp2_with fail
              refine H7.out.mono ?_
              rintro e w6 ⟨er6, O6, rfl, hA6, hs6⟩
              have HA6 := Lib.hid hA6; have HS6 := Lib.hid (HS5.out.trans hs6)
              clear hA6 hs6 H7
              go_wp2_with fail
              go_roundw
              case rel => exact ⟨j + 1, O6, _, by omega, by go_num, HA6.out, HS6.out, HJ5.out⟩
              case measure => first | (simp only [intOf]; omega) | (simp [intOf]; omega)
            · have HF := Lib.hid (HDN.out c c _ s2 wr O2 hJ2 hA2 (HST3.out.trans hs2))
              clear hA2 hs2 hJ2 HRD
              go_wp2_with fail
              go_ret
              exact HF.out
end Go.Proofs.YtdapdadcninidaaGreatDoor
namespace Go.Proofs.YtdapdadcninidaaGreatDoor
open Go.RowKit
attribute [local go_sem ↓] Go.wp_at_zero Go.wp_at_succ

theorem dup_one {T : Nat} {ns0 : List Nd} {r : Nat → Nat} (hs0 : Snd ns0 r) (ht : Tm ns0) {k : Nat} (hk : inR ns0 k) {xs : List Nat} (hS : Sub (kdW ns0) (kdW ns0 ((k : Nat) : Int)) xs) (deep : Bool) (IH : ∀ k' xs', xs'.length < xs.length → inR ns0 k' → (nd ns0 k').parent ≠ 0 → Sub (kdW ns0) (kdW ns0 ((k' : Nat) : Int)) xs' → DupAt T ns0 k' xs') (h1 : (nd ns0 k).kind ≠ 1)
    (doc : Int) (w : World) {O : List Nat} {s : St} {L : Lim} (hA : ArM T O s w) (hg : Gd L s) (hp : Pre ns0 s.ns) (hf : L.f + 1 + xs.length ≤ 900000) (ha : L.a ≤ 90000) :
    Calls Tryz.prog 124 #[.pointer (some ⟨T, 0, none⟩), .int .i64 doc, .pointer (some ⟨T, 0, none⟩), .int .i64 (k : Nat), .bool deep] w (Act T O w (DupR ns0 k ⟨L.x + attW ns0 xs, L.y, L.f + 1 + xs.length, L.a⟩ s)) := by
  by_cases h2 : (nd ns0 k).kind = 2
  · exact dup_frag hs0 ht hk hS deep IH h2 doc w hA hg hp hf ha
  by_cases h3 : (nd ns0 k).kind = 3
  · exact dup_dtype hs0 ht hk hS deep IH h3 doc w hA hg hp hf ha
  by_cases h5 : (nd ns0 k).kind = 5
  · exact dup_text hs0 ht hk hS deep IH h5 doc w hA hg hp hf ha
  by_cases h6 : (nd ns0 k).kind = 6
  · exact dup_comm hs0 ht hk hS deep IH h6 doc w hA hg hp hf ha
  by_cases h4 : (nd ns0 k).kind = 4
  · exact dup_elem hs0 ht hk hS deep IH h4 doc w hA hg hp hf ha
  exact dup_none hs0 ht hk hS deep IH h1 h2 h3 h5 h6 h4 doc w hA hg hp hf ha
theorem dup_deep {T : Nat} {ns0 : List Nd} {r : Nat → Nat} (hs0 : Snd ns0 r) (ht : Tm ns0) : ∀ n k xs, xs.length < n → inR ns0 k → (nd ns0 k).parent ≠ 0 → Sub (kdW ns0) (kdW ns0 ((k : Nat) : Int)) xs → DupAt T ns0 k xs := by
  intro n
  induction n with
  | zero => intro k xs h; omega
  | succ n ih =>
    intro k xs hx hk hpar hS doc w O s L hA hg hp hf ha
    exact dup_one hs0 ht hk hS true (fun k' xs' h1 h2 h3 h4 => ih k' xs' (by omega) h2 h3 h4) (fun e => hpar (hs0.top k hk (.inl e))) doc w hA hg hp hf ha
theorem DupQ.weak {ns0 : List Nd} {k : Nat} {L M : Lim} {s s' : St} {c : Nat} (h : DupQ ns0 k L s c s') (hx : L.x ≤ M.x) (hy : L.y ≤ M.y) (hf : L.f ≤ M.f) (ha : L.a ≤ M.a) : DupQ ns0 k M s c s' := ⟨h.pre, h.c, h.kt, h.gd.weak hx hy hf ha⟩
/-- A copy's cost, at most all that there is. -/
theorem dup_any {T : Nat} {s : St} {L : Lim} (hg : Gd L s) (ht : Tm s.ns) {k : Nat} (hk : inR s.ns k) (deep : Bool) (doc : Int) (w : World) {O : List Nat} (hA : ArM T O s w) (hf : L.f ≤ 400000) (ha : L.a ≤ 90000) :
    Calls Tryz.prog 124 #[.pointer (some ⟨T, 0, none⟩), .int .i64 doc, .pointer (some ⟨T, 0, none⟩), .int .i64 (k : Nat), .bool deep] w (Act T O w fun e s' => ∃ c : Nat, e = .returned (.int .i64 (c : Nat)) ∧ Fw ⟨2 * L.x, L.y, 2 * L.f + 2, L.a⟩ s s') := by
  obtain ⟨r, hr⟩ := hg.snd
  obtain ⟨xs, hS⟩ := sub_ex (hr.downW.lt hr) (kdW s.ns ((k : Nat) : Int)) fun y hy => (hr.downW.dn k hk y hy).1
  obtain ⟨hn, hi⟩ := below_nodup hr hr.downW hk hS
  obtain ⟨h1, h2⟩ := cost_all (List.nodup_cons.1 hn).2 hi
  have hax := hg.ax
  have hlen := hg.len
  have IH : ∀ k' xs', xs'.length < xs.length → inR s.ns k' → (nd s.ns k').parent ≠ 0 → Sub (kdW s.ns) (kdW s.ns ((k' : Nat) : Int)) xs' → DupAt T s.ns k' xs' := fun k' xs' _ h2 h3 h4 => dup_deep hr ht (xs'.length + 1) k' xs' (by omega) h2 h3 h4
  by_cases hd : (nd s.ns k).kind = 1
  · refine (dup_doc hr ht hk hS deep IH hd doc w hA hg (Pre.refl _) (by omega) ha).mono fun e w' hh => hh.mono fun s' hs => ?_
    obtain ⟨c, he, hq⟩ := hs
    exact ⟨c, he, hq.kt, hq.gd.weak (by dsimp only; omega) (Nat.le_refl _) (by dsimp only; omega) (Nat.le_refl _)⟩
  · refine (dup_one hr ht hk hS deep IH hd doc w hA hg (Pre.refl _) (by omega) ha).mono fun e w' hh => hh.mono fun s' hs => ?_
    obtain ⟨c, he, hq⟩ := hs
    exact ⟨c, he, hq.kt, hq.gd.weak (by dsimp only; omega) (Nat.le_refl _) (by dsimp only; omega) (Nat.le_refl _)⟩
set_option maxRecDepth 100000 in
set_option maxHeartbeats 4000000 in
theorem Clone_fw (h : Int) (b : Bool) (w : World) {T : Nat} {O : List Nat} {s : St} {L : Lim} (hA : ArM T O s w) (hg : Gd L s) (ht : Tm s.ns) (hf : L.f ≤ 400000) (ha : L.a ≤ 90000) :
    Calls Tryz.prog 76 #[.pointer (some ⟨T, 0, none⟩), .int .i64 h, .bool b] w (Act T O w (FwP ⟨2 * L.x, L.y, 2 * L.f + 2, L.a⟩ s)) := by
  have hfit := hg.fit (by omega) (by omega)
  obtain ⟨W0, hW0⟩ : ∃ W0, w.alloc (.cells #[.int .i64 h] 3) = W0 := ⟨_, rfl⟩
  have b0 : Below w.heap.size w W0 := by rw [← hW0]; exact balloc w _
  have hbx : W0.heap[w.heap.size]? = some (.cells #[.int .i64 h] 3 (0, 0)) := by rw [← hW0]; exact World.alloc_heap_new w _
  have hs0 : W0.heap.size = w.heap.size + 1 := by rw [← hW0]; simp
  obtain ⟨iv, O1, hA1, -⟩ := hA.turn
  have H1 := checkD_any (B := ⟨T, iv⟩) (H := w.heap.size) (c := 1) (-1) [h] W0 (hA1.later b0) hfit (by intro j v hj; match j, hj with | 0, hj => simp at hj; subst hj; rw [cell_of_row _ _ _ _ _ _ hbx]; rfl) (by simp) (by omega)
  rw [chk_one] at H1
  have HF := Lib.hid (fun (er : Int) w' (hb : Below w.heap.size w w') => show Act T O w (FwP ⟨2 * L.x, L.y, 2 * L.f + 2, L.a⟩ s) (.returned (.tuple #[.int .i64 0, .int .i64 er])) w' from Act.still hA hb ⟨⟨_, _, rfl⟩, hg.still.weak (by dsimp only; omega) (Nat.le_refl _) (by dsimp only; omega) (Nat.le_refl _)⟩)
  have H2 := fun w' (hb : Below w.heap.size w w') => docOf_any h w' (hA1.later hb) hfit
  have HW := Lib.hid hW0; have HB0 := Lib.hid b0
  cases hh : isH s.ns.length h
  · rw [hh] at H1
    have H1 := Lib.hid H1
    clear hh hA hA1 hg b0 hbx hW0 hfit hs0 H2 ht
    go_enter Tryz.func76, Tryz.ntmps76
    go_wp2_with fail
    rw [HW.out]
    refine H1.out.mono ?_
    rintro e w1 ⟨rfl, b1⟩
    have HB1 := Lib.hid (bthen HB0.out HB0.out.size b1)
    clear b1 H1
    go_wp2_with fail
    go_ret2
    exact HF.out _ _ HB1.out
  · obtain ⟨x, rfl, hx⟩ := isH_nat hh
    rw [hh] at H1
    obtain ⟨doc, hdoc⟩ : ∃ doc : Int, (((descAt s.ns ((x : Nat) : Int)).doc : Nat) : Int) = doc := ⟨_, rfl⟩
    rw [hdoc] at H2
    have H1 := Lib.hid H1; have H2 := Lib.hid H2
    have H3 := Lib.hid (fun w' (hb : Below w.heap.size w w') => dup_any hg ht hx b doc w' (hA.later hb) hf ha)
    clear hh hA hA1 hg b0 hbx hW0 hfit hs0 ht hdoc hx HF
    go_enter Tryz.func76, Tryz.ntmps76
    go_wp2_with fail
    rw [HW.out]
    refine H1.out.mono ?_
    rintro e w1 ⟨rfl, b1⟩
    have HB1 := Lib.hid (bthen HB0.out HB0.out.size b1)
    clear b1 H1
    go_wp2_with fail
    refine (H2.out w1 HB1.out).mono ?_
    rintro e w2 ⟨rfl, b2⟩
    have HB2 := Lib.hid (bthen HB1.out HB1.out.size b2)
    clear b2 H2
    go_wp2_with fail
    refine (H3.out w2 HB2.out).mono ?_
    rintro e w3 ⟨s3, O3, hA3, hs3, c, rfl, hF3⟩
    have HZ := Lib.hid (show Act T O w (FwP ⟨2 * L.x, L.y, 2 * L.f + 2, L.a⟩ s) (.returned (.tuple #[.int .i64 (c : Nat), .int .i64 0])) w3 from ⟨s3, O3, hA3, astep_pre HB2.out hs3, ⟨_, _, rfl⟩, hF3⟩)
    clear hA3 hs3 hF3 H3
    go_wp2_with fail
    go_ret2
    exact HZ.out
set_option maxRecDepth 100000 in
set_option maxHeartbeats 4000000 in
theorem Import_fw (doc h : Int) (w : World) {T : Nat} {O : List Nat} {s : St} {L : Lim} (hA : ArM T O s w) (hg : Gd L s) (ht : Tm s.ns) (hf : L.f ≤ 400000) (ha : L.a ≤ 90000) :
    Calls Tryz.prog 77 #[.pointer (some ⟨T, 0, none⟩), .int .i64 doc, .pointer (some ⟨T, 0, none⟩), .int .i64 h] w (Act T O w (FwP ⟨2 * L.x, L.y, 2 * L.f + 2, L.a⟩ s)) := by
  have hfit := hg.fit (by omega) (by omega)
  obtain ⟨iv, O1, hA1, -⟩ := hA.turn
  have HC := Lib.hid (fun (z : Int) (W : World) (hb : Below w.heap.size w W) => show Calls Tryz.prog 52 #[.pointer (some ⟨T, 0, none⟩), .int .i64 (-1), .slice (some ⟨W.heap.size, 0, none⟩) 1 1] (W.alloc (.cells #[.int .i64 z] 3)) (fun e w' => e = .returned (.int .i64 (if isH s.ns.length z then 0 else 3)) ∧ Below w.heap.size w w') from by
    have hbx : (W.alloc (.cells #[.int .i64 z] 3)).heap[W.heap.size]? = some (.cells #[.int .i64 z] 3 (0, 0)) := World.alloc_heap_new W _
    have b1 : Below w.heap.size w (W.alloc (.cells #[.int .i64 z] 3)) := hb.alloc hb.size _
    have H1 := checkD_any (B := ⟨T, iv⟩) (H := W.heap.size) (c := 1) (-1) [z] _ (hA1.later b1) hfit (by intro j v hj; match j, hj with | 0, hj => simp at hj; subst hj; rw [cell_of_row _ _ _ _ _ _ hbx]; rfl) (by simp) (by simp)
    rw [chk_one] at H1
    exact H1.mono fun e w' ⟨h1, h2⟩ => ⟨h1, bthen b1 b1.size h2⟩)
  have HF := Lib.hid (fun (er : Int) w' (hb : Below w.heap.size w w') => show Act T O w (FwP ⟨2 * L.x, L.y, 2 * L.f + 2, L.a⟩ s) (.returned (.tuple #[.int .i64 0, .int .i64 er])) w' from Act.still hA hb ⟨⟨_, _, rfl⟩, hg.still.weak (by dsimp only; omega) (Nat.le_refl _) (by dsimp only; omega) (Nat.le_refl _)⟩)
  have HK := fun w' (hb : Below w.heap.size w w') => kind_any doc w' (hA1.later hb) hfit
  have HK2 := fun w' (hb : Below w.heap.size w w') => kind_any h w' (hA1.later hb) hfit
  generalize (descAt s.ns doc).kind = kd at *
  generalize (descAt s.ns h).kind = kh at *
  have HD := Lib.hid (fun (hh : isH s.ns.length h = true) w' (hb : Below w.heap.size w w') => show Calls Tryz.prog 124 #[.pointer (some ⟨T, 0, none⟩), .int .i64 doc, .pointer (some ⟨T, 0, none⟩), .int .i64 h, .bool true] w' (fun e w2 => ∃ c : Nat, e = .returned (.int .i64 (c : Nat)) ∧ Act T O w (FwP ⟨2 * L.x, L.y, 2 * L.f + 2, L.a⟩ s) (.returned (.tuple #[.int .i64 (c : Nat), .int .i64 0])) w2) from by
    obtain ⟨x, rfl, hx⟩ := isH_nat hh
    refine (dup_any hg ht hx true doc w' (hA.later hb) hf ha).mono ?_
    rintro e w3 ⟨s3, O3, hA3, hs3, c, rfl, hF3⟩
    exact ⟨c, rfl, s3, O3, hA3, astep_pre hb hs3, ⟨_, _, rfl⟩, hF3⟩)
  have HK := Lib.hid HK; have HK2 := Lib.hid HK2
  have H1 := HC.out doc w (Below.refl _ _)
  have H2 := Lib.hid (fun W hb => HC.out h W hb)
  clear hA hA1 hg ht hfit HC
  have hnil : ∀ (p : Option Addr) (w : World), p.isSome = true → (binOp .eql 23 (.pointer p) (.pointer none)).run Tryz.prog w = .ok (.bool false) w := fun p w hp => by
    cases p with
    | none => cases hp
    | some a => kernel_rfl
  cases hdoc : isH s.ns.length doc
  · rw [hdoc] at H1
    have H1 := Lib.hid H1
    clear hdoc H2 HK HK2 HD
    go_enter Tryz.func77, Tryz.ntmps77
    go_wp2_with fail
    refine H1.out.mono ?_
    rintro e w1 ⟨rfl, b1⟩
    have HB1 := Lib.hid b1
    clear b1 H1
    go_wp2_with fail
    go_ret2
    exact HF.out _ _ HB1.out
  · rw [hdoc] at H1
    have H1 := Lib.hid H1
    clear hdoc
    go_enter Tryz.func77, Tryz.ntmps77
    go_wp2_with fail
    refine H1.out.mono ?_
    rintro e w1 ⟨rfl, b1⟩
    have HB1 := Lib.hid b1
    have H3 := H2.out w1 b1
    clear b1 H1 H2
    cases hh : isH s.ns.length h
    · rw [hh] at H3
      have H3 := Lib.hid H3
      clear hh HK HK2 HD
      go_wp2_with fail
      refine H3.out.mono ?_
      rintro e w2 ⟨rfl, b2⟩
      have HB2 := Lib.hid b2
      clear b2 H3
      go_wp2_with fail
      go_ret2
      exact HF.out _ _ HB2.out
    · rw [hh] at H3
      have H3 := Lib.hid H3
      have HD := Lib.hid (HD.out hh)
      clear hh
      go_wp2_with fail
      refine H3.out.mono ?_
      rintro e w2 ⟨rfl, b2⟩
      have HB2 := Lib.hid b2
      have H4 := Lib.hid (HK.out w2 b2)
      clear b2 H3 HK
      cases hk1 : (kd != 1)
      · go_wp2_with fail
        refine H4.out.mono ?_
        rintro e w3 ⟨rfl, b3⟩
        have HB3 := Lib.hid (bthen HB2.out HB2.out.size b3)
        have H5 := Lib.hid (HK2.out w3 HB3.out)
        clear b3 H4 HK2
        cases hk2 : (kh == 1)
        · go_wp2_with fail
          refine H5.out.mono ?_
          rintro e w4 ⟨rfl, b4⟩
          have HB4 := Lib.hid (bthen HB3.out HB3.out.size b4)
          have H6 := Lib.hid (HD.out w4 HB4.out)
          clear b4 H5 HD
          go_wp2_with fail
          refine H6.out.mono ?_
          rintro e w5 ⟨c, rfl, hz⟩
          have HZ := Lib.hid hz
          clear hz H6
          go_wp2_with fail
          go_ret2
          exact HZ.out
        · go_wp2_with fail
          refine H5.out.mono ?_
          rintro e w4 ⟨rfl, b4⟩
          have HB4 := Lib.hid (bthen HB3.out HB3.out.size b4)
          clear b4 H5 HD
          go_wp2_with fail
          go_ret2
          exact HF.out _ _ HB4.out
      · go_wp2_with fail
        refine H4.out.mono ?_
        rintro e w3 ⟨rfl, b3⟩
        have HB3 := Lib.hid (bthen HB2.out HB2.out.size b3)
        clear b3 H4 HK2 HD
        go_wp2_with fail
        go_ret2
        exact HF.out _ _ HB3.out
end Go.Proofs.YtdapdadcninidaaGreatDoor
namespace Go.Proofs.YtdapdadcninidaaGreatDoor
open Go.RowKit
attribute [local go_sem ↓] Go.wp_at_zero Go.wp_at_succ
attribute [local go_sem] sapp
attribute [local go_sem] sext

theorem Text_pre (doc : Int) (l : List UInt8) (w : World) {T : Nat} {O : List Nat} {s : St} {L : Lim} (hA : ArM T O s w) (hg : Gd L s) (hf : L.f ≤ 900000) :
    Calls Tryz.prog 11 #[.pointer (some ⟨T, 0, none⟩), .int .i64 doc, .string ⟨l.toArray⟩] w (Act T O w (fun e s' => FwP ⟨L.x, max L.y l.length, L.f + 1, L.a⟩ s e s' ∧ Pre s.ns s'.ns)) := by
  obtain ⟨iv, O1, hA1, hd⟩ := hA.created
  have := hg.len
  refine (Text_int doc l w hA1 (by omega)).mono fun e w' hh => (hd doc _ e w' hh).mono fun s' hs' => ⟨made_fw (d := { kind := 5, data := l }) hg rfl rfl rfl rfl (by show (5 : Int) ≠ 1; decide) (by show (5 : Int) ≠ 4; decide) rfl hs', ?_⟩
  rcases hs' with ⟨_, _, _, rfl⟩ | ⟨_, _, rfl⟩
  · exact Pre.refl _
  · exact Pre.app _ _
set_option maxRecDepth 100000 in
set_option maxHeartbeats 4000000 in
theorem Split_fw (h p : Int) (w : World) {T : Nat} {O : List Nat} {s : St} {L : Lim} (hA : ArM T O s w) (hg : Gd L s) (hf : L.f ≤ 800000) (ha : L.a ≤ 900000) (hy : (L.y : Int) ≤ 4611686018427387904) :
    Calls Tryz.prog 14 #[.pointer (some ⟨T, 0, none⟩), .int .i64 h, .int .i64 p] w (Act T O w (FwP ⟨L.x + L.y, L.y, L.f + 1, L.a⟩ s)) := by
  have hfit := hg.fit (by omega) (by omega)
  obtain ⟨W0, hW0⟩ : ∃ W0, w.alloc (.cells #[.int .i64 h] 3) = W0 := ⟨_, rfl⟩
  have b0 : Below w.heap.size w W0 := by rw [← hW0]; exact balloc w _
  have hbx : W0.heap[w.heap.size]? = some (.cells #[.int .i64 h] 3 (0, 0)) := by rw [← hW0]; exact World.alloc_heap_new w _
  have hs0 : W0.heap.size = w.heap.size + 1 := by rw [← hW0]; simp
  obtain ⟨iv, O1, hA1, -⟩ := hA.turn
  have H1 := checkD_any (B := ⟨T, iv⟩) (H := w.heap.size) (c := 1) (-1) [h] W0 (hA1.later b0) hfit (by intro j v hj; match j, hj with | 0, hj => simp at hj; subst hj; rw [cell_of_row _ _ _ _ _ _ hbx]; rfl) (by simp) (by omega)
  rw [chk_one] at H1
  have HFW := Lib.hid (fun s' (h : Fw ⟨L.x, L.y, L.f + 1, L.a⟩ s s') => show Fw ⟨L.x + L.y, L.y, L.f + 1, L.a⟩ s s' from h.weak (Nat.le_add_right _ _) (Nat.le_refl _) (Nat.le_refl _) (Nat.le_refl _))
  have HF := Lib.hid (fun (er : Int) w' (hb : Below w.heap.size w w') => show Act T O w (FwP ⟨L.x + L.y, L.y, L.f + 1, L.a⟩ s) (.returned (.tuple #[.int .i64 0, .int .i64 er])) w' from Act.still hA hb ⟨⟨_, _, rfl⟩, HFW.out s (hg.still.weak (Nat.le_refl _) (Nat.le_refl _) (Nat.le_add_right _ _) (Nat.le_refl _))⟩)
  have H2 := fun w' (hb : Below w.heap.size w w') => NodeD_any h w' (hA1.later hb) hfit
  have HW := Lib.hid hW0; have HB0 := Lib.hid b0
  cases hh : isH s.ns.length h
  · rw [hh] at H1
    have H1 := Lib.hid H1
    clear hh hA hA1 hg b0 hbx hW0 hfit hs0 H2 hy
    go_enter Tryz.func14, Tryz.ntmps14
    go_wp2_with fail
    rw [HW.out]
    refine H1.out.mono ?_
    rintro e w1 ⟨rfl, b1⟩
    have HB1 := Lib.hid (bthen HB0.out HB0.out.size b1)
    clear b1 H1
    go_wp2_with fail
    go_ret2
    exact HF.out _ _ HB1.out
  · obtain ⟨x, rfl, hx⟩ := isH_nat hh
    rw [hh] at H1
    rw [descAt_nd hx] at H2
    have hdl : ((nd s.ns x).data.length : Int) ≤ 4611686018427387904 := by have := hg.dy _ (nd_mem hx); omega
    have HDY : Hid ((nd s.ns x).data.length ≤ L.y) := Lib.hid (hg.dy _ (nd_mem hx))
    have HDX : Hid (∀ ms, Pre s.ns ms → ndAt ms ((x : Nat) : Int) = nd s.ns x) := Lib.hid (fun ms hp => hp.old x hx)
    obtain ⟨d, hd⟩ : ∃ d, nd s.ns x = d := ⟨_, rfl⟩
    rw [hd] at H2 hdl HDY HDX
    have H1 := Lib.hid H1; have H2 := Lib.hid H2
    have HA := Lib.hid hA; have HG := Lib.hid hg
    generalize nodeE s.ns.length ((x : Nat) : Int) = ne at *
    clear hh hA hA1 hg b0 hbx hW0 hfit hs0 hx hd hy
    by_cases hk : d.kind = 5
    · have hk5 : (d.kind != 5) = false := by simpa using hk
      clear hk
      by_cases hp : p < 0 ∨ (d.data.length : Int) < p
      · rcases hp with hp | hp
        all_goals
          first | (have hp0 : ¬ p < 0 := by omega) | skip
          go_enter Tryz.func14, Tryz.ntmps14
          go_wp2_with fail
          rw [HW.out]
          refine H1.out.mono ?_
          rintro e w1 ⟨rfl, b1⟩
          have HB1 := Lib.hid (bthen HB0.out HB0.out.size b1)
          have H3 := Lib.hid (H2.out w1 HB1.out)
          clear b1
          go_wp2_with fail
          refine H3.out.mono ?_
          rintro e w2 ⟨k1, k2, a1, a2, rfl, -, -, b2⟩
          have HB2 := Lib.hid (bthen HB1.out HB1.out.size b2)
          clear b2
          go_wp2_with fail
          go_ret2
          exact HF.out _ _ (HB2.out.alloc HB2.out.size _)
      · rw [not_or] at hp
        obtain ⟨pn, rfl⟩ : ∃ pn : Nat, p = (pn : Int) := ⟨p.toNat, by omega⟩
        have hp0 : ¬ (pn : Int) < 0 := by omega
        have hp1 : ¬ ((d.data.length : Int) < (pn : Int)) := hp.2
        have hpl : pn ≤ d.data.length := by omega
        clear hp
        go_enter Tryz.func14, Tryz.ntmps14
        go_wp2_with fail
        rw [HW.out]
        refine H1.out.mono ?_
        rintro e w1 ⟨rfl, b1⟩
        have HB1 := Lib.hid (bthen HB0.out HB0.out.size b1)
        have H3 := Lib.hid (H2.out w1 HB1.out)
        clear b1
        go_wp2_with fail
        refine H3.out.mono ?_
        rintro e w2 ⟨k1, k2, a1, a2, rfl, -, -, b2⟩
        have HB2 := Lib.hid (bthen HB1.out HB1.out.size b2)
        clear b2 H1 H2 H3
        go_wp2_with fail
        generalize hW6 : w2.alloc _ = W6
        have hnb : W6.heap[w2.heap.size]? = some (.cells (nodeArr d k1 k2 a1 a2) 55 (0, 0)) := by rw [← hW6]; exact World.alloc_heap_new w2 _
        have hb6 : Below w2.heap.size w2 W6 := by rw [← hW6]; exact balloc _ _
        have hs6 : W6.heap.size = w2.heap.size + 1 := by rw [← hW6]; simp
        have c1 : W6.cell? ⟨w2.heap.size, 1, none⟩ = some (.int .i64 (d.parent : Nat)) := cell_of_row _ _ 1 _ _ _ hnb
        have c3 : W6.cell? ⟨w2.heap.size, 3, none⟩ = some (.int .i64 (d.doc : Nat)) := cell_of_row _ _ 3 _ _ _ hnb
        have c7 : W6.cell? ⟨w2.heap.size, 7, none⟩ = some (.string ⟨d.data.toArray⟩) := cell_of_row _ _ 7 _ _ _ hnb
        have hb06 : Below w.heap.size w W6 := bthen HB2.out HB2.out.size hb6
        have hw2 : w.heap.size ≤ w2.heap.size := HB2.out.size
        obtain ⟨N, hN⟩ : ∃ N, w.heap.size + N = W6.heap.size := ⟨W6.heap.size - w.heap.size, by omega⟩
        have L6 := Lib.hid (LocM.start (n := N) HA.out hb06 (by omega))
        have hloc : w.heap.size ≤ w2.heap.size ∧ w2.heap.size < w.heap.size + N := by omega
        have HN := Lib.hid hN
        clear hN hnb hb6 hs6 hb06 hW6
        go_region_with ((go_at_call 11
                         refine (Text_pre d.doc _ _ (by first | exact L6.out.ar | exact L6.out.drew.ar) HG.out (by omega)).mono ?_
                         rintro e w7 ⟨s1, O2, hA2, hs2', ⟨⟨tv, er, rfl⟩, hF1⟩, hp1⟩
                         have hs2 : AStep O W6 O2 w7 := by first | exact hs2' | exact ⟨⟨hs2'.mod.os, hs2'.mod.tape, hs2'.mod.output, hs2'.mod.size, hs2'.mod.block⟩, hs2'.own⟩
                         clear hs2'))
        all_goals
          have hg1 : Fw ⟨L.x, L.y, L.f + 1, L.a⟩ s s1 := hF1.weak (Nat.le_refl _) (Nat.max_le.2 ⟨Nat.le_refl _, by have := HDY.out; simp; omega⟩) (Nat.le_refl _) (Nat.le_refl _)
          have HG1 := Lib.hid hg1
          have HD1 := Lib.hid (HDX.out _ hp1)
          have L7 := Lib.hid (L6.out.call hA2 hs2)
          have hk7 := L6.out.keep hs2 hloc
          have d1 := (heap_cell hk7 1).trans c1
          have d7 := (heap_cell hk7 7).trans c7
          clear hA2 hs2 hk7 c1 c3 c7 hF1 hp1 hg1
          go_wp2_with fail
          refine (SetData_le ((x : Nat) : Int) _ w7 L7.out.ar HG1.out.gd (by dsimp only; omega) (fun _ => by rw [HD1.out]; simp; try omega)).mono ?_
          rintro e w8 ⟨s2, O3, hA3, hs3, ⟨er3, rfl⟩, hF2⟩
          have HG2 := Lib.hid (HG1.out.trans hF2)
          have L8 := Lib.hid (L7.out.call hA3 hs3)
          have hk8 := L7.out.keep hs3 hloc
          have g1 := (heap_cell hk8 1).trans d1
          clear hA3 hs3 hk8 d1 d7 L7 hF2
          by_cases hpz : d.parent = 0
          · rw [hpz] at g1
            have HFI := Lib.hid (show Act T O w (FwP ⟨L.x + L.y, L.y, L.f + 1, L.a⟩ s) (.returned (.tuple #[.int .i64 tv, .int .i64 0])) w8 from L8.out.act ⟨⟨_, _, rfl⟩, HFW.out _ HG2.out⟩)
            clear hpz
            go_wp2_with fail
            go_ret2
            exact HFI.out
          · have hpb : ((d.parent : Int) != 0) = true := by simpa using hpz
            have H5 := fun W (hb : Below w8.heap.size w8 W) => nextW ((x : Nat) : Int) W (L8.out.below hb).ar.turn.choose_spec.choose_spec.1 HG2.out.gd (by dsimp only; omega) (by dsimp only; omega)
            have hlt8 : w2.heap.size < w8.heap.size := World.block_lt_of_cell? _ _ g1
            have H6 := Lib.hid (fun (nx : Int) w9 (hb : Below w8.heap.size w8 w9) => Put_fw (d.parent : Nat) tv nx w9 (L8.out.below hb).ar HG2.out.gd (by dsimp only; omega) (by dsimp only; omega))
            have HFI := Lib.hid (fun (w9 w10 : World) (e : Ending) (hb : Below w8.heap.size w8 w9) (hd : Act T O3 w9 (FwE ⟨L.x + L.y, L.y, L.f + 1, L.a⟩ s2) e w10) =>
              show (∃ er : Int, e = .returned (.int .i64 er)) ∧ Act T O w (FwP ⟨L.x + L.y, L.y, L.f + 1, L.a⟩ s) (.returned (.tuple #[.int .i64 tv, .int .i64 0])) w10 ∧ Act T O w (FwP ⟨L.x + L.y, L.y, L.f + 1, L.a⟩ s) (.returned (.tuple #[.int .i64 tv, .int .i64 0])) w10.drew from by
                obtain ⟨s4, O4, hA4, hs4, he, hF4⟩ := hd
                have L9 := (L8.out.below hb).call hA4 hs4
                exact ⟨he, L9.act ⟨⟨_, _, rfl⟩, HG2.out.trans hF4⟩, L9.drew.act ⟨⟨_, _, rfl⟩, HG2.out.trans hF4⟩⟩)
            obtain ⟨nx, hnx⟩ : ∃ nx : Int, ((nextL s2.ns ((x : Nat) : Int) : Nat) : Int) = nx := ⟨_, rfl⟩
            rw [hnx] at H5
            have H5 := Lib.hid H5
            clear hnx hpz
            go_wp2_with fail
            go_region_with ((first
              | (go_at_call 54
                 refine (H5.out _ (by first | exact Below.refl _ _ | exact below_drewA (Below.refl _ _))).mono ?_
                 rintro e w9 ⟨rfl, b9'⟩
                 have b9 : Below w8.heap.size w8 w9 := by first | exact b9' | exact bdrew b9'
                 have g9 := (b9.cell (p := ⟨w2.heap.size, 1, none⟩) hlt8).trans g1
                 clear b9')
              | (go_at_call 12
                 refine (H6.out _ _ (by first | exact b9 | exact below_drewA b9)).mono ?_
                 rintro e w10 hd10
                 have HQ' := HFI.out _ _ _ (by first | exact b9 | exact below_drewA b9) hd10
                 obtain ⟨⟨er10, rfl⟩, HQ''⟩ := HQ'
                 have HQ := Lib.hid HQ''
                 clear hd10 HQ'')))
            all_goals
              go_wp2_with fail
              go_ret2
              first | exact HQ.out.1 | exact HQ.out.2
    · have hk5 : (d.kind != 5) = true := by simpa using hk
      clear hk
      go_enter Tryz.func14, Tryz.ntmps14
      go_wp2_with fail
      rw [HW.out]
      refine H1.out.mono ?_
      rintro e w1 ⟨rfl, b1⟩
      have HB1 := Lib.hid (bthen HB0.out HB0.out.size b1)
      have H3 := Lib.hid (H2.out w1 HB1.out)
      clear b1
      go_wp2_with fail
      refine H3.out.mono ?_
      rintro e w2 ⟨k1, k2, a1, a2, rfl, -, -, b2⟩
      have HB2 := Lib.hid (bthen HB1.out HB1.out.size b2)
      clear b2
      go_wp2_with fail
      go_ret2
      exact HF.out _ _ (HB2.out.alloc HB2.out.size _)
end Go.Proofs.YtdapdadcninidaaGreatDoor
