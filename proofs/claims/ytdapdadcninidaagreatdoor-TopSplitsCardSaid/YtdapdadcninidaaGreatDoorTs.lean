/- thickettop.TopSplits. No condition. -/
import Derived.Test.YtdapdadcninidaaGreatDoorKn5
namespace Go.Proofs.YtdapdadcninidaaGreatDoor
open Go.RowKit
attribute [local go_sem ↓] Go.wp_at_zero Go.wp_at_succ

/-- What the law's tail leans on: the nodes behind the splits, the arena, what has been done. -/
structure TsAt (B : Nat) (w : World) (l : List UInt8) (ns : List Nd) (w1 : World) : Prop where
  fit : Fit ns
  tx : ∃ xs, Sub (kidsAt ns) (kidsAt ns 2) xs ∧ textOf ns xs = l
  nm : ∃ n1 k, NmOk ns l n1 k
  kd : isH ns.length 2 = true ∧ (ndAt ns 2).kind = 4
  ar : ∃ O, ArW B O ns w1 ∧ ∀ k ∈ O, w.heap.size ≤ k
  bl : Below w.heap.size w w1
theorem TsAt.of {B : Nat} {w w0 w1 : World} {l : List UInt8} {ns : List Nd} {O O1 : List Nat} (h1 : Fit ns) (h2 : ∃ xs, Sub (kidsAt ns) (kidsAt ns 2) xs ∧ textOf ns xs = l) (h3 : ∃ n1 k, NmOk ns l n1 k) (h4 : isH ns.length 2 = true ∧ (ndAt ns 2).kind = 4)
    (hA : ArW B O1 ns w1) (hb : Below w.heap.size w w0) (hO : ∀ k ∈ O, w.heap.size ≤ k) (hs : AStep O w0 O1 w1) : TsAt B w l ns w1 :=
  ⟨h1, h2, h3, h4, ⟨O1, hA, fun k hk => (hs.own k hk).elim (hO k) fun h => Nat.le_trans hb.size h⟩, hs.under hb hb.size hO⟩
set_option maxRecDepth 100000 in
set_option maxHeartbeats 4000000 in
theorem TopSplits_any (l : List UInt8) (p q : Int) (w : World) (hs : l.length ≤ maxLen) :
    Calls Tryz.prog 3 #[.string ⟨l.toArray⟩, .int .i64 p, .int .i64 q] w (Ret w (.bool true)) := by
  by_cases hlen : 200 < l.length
  · have H1 := Lib.hid (known05_any w)
    have hl2 : (200 : Int) < (l.length : Int) := by omega
    go_enter Tryz.func3, Tryz.ntmps3
    go_wp2_with fail
    refine H1.out.mono ?_
    rintro e w1 ⟨rfl, hb⟩
    have HB := Lib.hid hb
    clear hb
    go_wp2_with fail
    go_ret
    exact Ret.mk rfl HB.out
  · have hl2 : ¬ ((200 : Int) < (l.length : Int)) := by omega
    by_cases hnil : l = []
    · subst hnil
      have H1 := Lib.hid (known05_any w)
      go_enter Tryz.func3, Tryz.ntmps3
      go_wp2_with fail
      refine H1.out.mono ?_
      rintro e w1 ⟨rfl, hb⟩
      have HB := Lib.hid hb
      clear hb
      go_wp2_with fail
      go_ret
      exact Ret.mk rfl HB.out
    · have hlb : l.isEmpty = false := by cases l with | nil => exact absurd rfl hnil | cons a l => rfl
      have HNE := Lib.hid hnil; have HLE := Lib.hid hlen
      clear hnil hlen hs
      have H1 := Lib.hid (New_any w)
      go_enter Tryz.func3, Tryz.ntmps3
      go_wp2_with fail
      refine H1.out.mono ?_
      rintro e w1 ⟨rfl, hA1, hb1⟩
      have HB1 := Lib.hid hb1
      obtain ⟨B, hB⟩ : ∃ B, w.heap.size = B := ⟨_, rfl⟩
      rw [hB] at hA1 ⊢
      have HBE := Lib.hid (show ∀ k ∈ [B], w.heap.size ≤ k by rw [hB]; simp)
      have H2 := Lib.hid (Document_any false w1 hA1 (Nat.zero_le _))
      clear hb1 hA1 H1 hB
      go_wp2_with fail
      refine H2.out.mono ?_
      rintro e w2 ⟨rfl, O2, hA2, hs2⟩
      have HS2 := Lib.hid hs2
      have H3 := Lib.hid (Element_any 1 1 [112] w2 (ns := [tD]) hA2 (show 1 ≤ 1000000 by decide) rfl rfl)
      clear hA2 hs2 H2
      go_wp2_with fail
      refine H3.out.mono ?_
      rintro e w3 hm
      rcases hm with ⟨h0, _, _⟩ | ⟨_, rfl, O3, hA3, hs3⟩
      · exact absurd rfl h0
      have HS3 := Lib.hid (HS2.out.trans hs3)
      have H4 := Lib.hid (Comment_any 1 [99] w3 (ns := [tD, tP []]) hA3 (show 2 ≤ 1000000 by decide))
      clear hA3 hs3 HS2 H3
      go_wp2_with fail
      refine H4.out.mono ?_
      rintro e w4 hm
      rcases hm with ⟨h0, _, _⟩ | ⟨_, rfl, O4, hA4, hs4⟩
      · exact absurd rfl h0
      have HS4 := Lib.hid (HS3.out.trans hs4)
      have H5 := Lib.hid (Text_any 1 l w4 (ns := [tD, tP [], tX 6 0 [99]]) hA4 (show 3 ≤ 1000000 by decide))
      clear hA4 hs4 HS3 H4
      go_wp2_with fail
      refine H5.out.mono ?_
      rintro e w5 hm
      rcases hm with ⟨h0, _, _⟩ | ⟨_, rfl, O5, hA5, hs5⟩
      · exact absurd rfl h0
      have HS5 := Lib.hid (HS4.out.trans hs5)
      have H6 := Lib.hid (Element_any 1 1 [98] w5 (ns := [tD, tP [], tX 6 0 [99], tX 5 0 l]) hA5 (show 4 ≤ 1000000 by decide) rfl rfl)
      clear hA5 hs5 HS4 H5
      go_wp2_with fail
      refine H6.out.mono ?_
      rintro e w6 hm
      rcases hm with ⟨h0, _, _⟩ | ⟨_, rfl, O6, hA6, hs6⟩
      · exact absurd rfl h0
      have HS6 := Lib.hid (HS5.out.trans hs6)
      obtain ⟨⟨e1, o1⟩, ⟨e2, o2⟩, ⟨e3, o3⟩⟩ := sp_put l
      obtain ⟨f0, f1, f2, fA⟩ := sp_fit l
      have HO2 := Lib.hid o2; have HO3 := Lib.hid o3; have HE2 := Lib.hid e2; have HE3 := Lib.hid e3; have HF1 := Lib.hid f1; have HF2 := Lib.hid f2; have HFA := Lib.hid fA
      have H7 := Put_any 2 3 0 w6 (ns := sp0 l) hA6 f0 o1
      rw [e1, put1] at H7
      have H7 := Lib.hid H7
      clear hA6 hs6 HS5 H6 e1 o1 e2 o2 e3 o3 f0 f1 f2 fA
      rw [show (([tD, tP [], tX 6 0 [99], tX 5 0 l].length + 1 : Nat) : Int) = 5 from rfl]
      go_wp2_with fail
      refine H7.out.mono ?_
      rintro e w7 ⟨rfl, ⟨h0, _⟩ | ⟨_, O7, hA7, hs7⟩⟩
      · exact absurd rfl h0
      have HS7 := Lib.hid (HS6.out.trans hs7)
      have H8 := Put_any 2 4 0 w7 (ns := sp1 l) hA7 HF1.out HO2.out
      rw [HE2.out, put2] at H8
      have H8 := Lib.hid H8
      clear hA7 hs7 HS6 H7
      go_wp2_with fail
      refine H8.out.mono ?_
      rintro e w8 ⟨rfl, ⟨h0, _⟩ | ⟨_, O8, hA8, hs8⟩⟩
      · exact absurd rfl h0
      have HS8 := Lib.hid (HS7.out.trans hs8)
      have H9 := Put_any 2 5 0 w8 (ns := sp2 l) hA8 HF2.out HO3.out
      rw [HE3.out, put3] at H9
      have H9 := Lib.hid H9
      clear hA8 hs8 HS7 H8
      go_wp2_with fail
      refine H9.out.mono ?_
      rintro e w9 ⟨rfl, ⟨h0, _⟩ | ⟨_, O9, hA9, hs9⟩⟩
      · exact absurd rfl h0
      have HS9 := Lib.hid (HS8.out.trans hs9)
      have hll : l.length ≤ 200 := by have := HLE.out; omega
      have H10 := Lib.hid (Dump_any 2 (tT l) w9 hA9 HFA.out.len HFA.out.kid1 rfl (spA_dump l hll) (tT_len l hll))
      have HA9 := Lib.hid hA9
      clear hA9 hs9 HS8 H9
      go_wp2_with fail
      refine H10.out.mono ?_
      rintro e w10 ⟨rfl, b10⟩
      obtain ⟨T, hT⟩ : ∃ T, tT l = T := ⟨_, rfl⟩
      rw [hT]
      have HTT := Lib.hid hT
      have HA10 := Lib.hid (HA9.out.later b10)
      have HS10 := Lib.hid (HS9.out.trans (⟨Mod.of_below b10, fun k hk => .inl hk⟩ : AStep O9 w9 O9 w10))
      have H11 := Lib.hid (Split_any 4 p w10 (ns := spA l) HA10.out HFA.out (show l.length ≤ 1000000000 by omega) (fun _ => spA_ok l _))
      clear b10 H10 hT HS9 HA9
      go_wp2_with fail
      refine H11.out.mono ?_
      rintro e w11 hsp
      by_cases hp : p < 0 ∨ (l.length : Int) < p
      · have hE : splitE (spA l) 4 p = 2 := by rw [spA_E, if_pos hp]
        rcases hsp with ⟨_, he, b11⟩ | ⟨h0, _⟩
        · rw [hE] at he
          subst he
          have H12 := Lib.hid (Dump_any 2 (tT l) w11 (HA10.out.later b11) HFA.out.len HFA.out.kid1 rfl (spA_dump l hll) (tT_len l hll))
          rw [HTT.out] at H12
          have HB11 := Lib.hid ((HS10.out.under HB1.out HB1.out.size HBE.out).trans (b11.mono (Nat.le_trans HB1.out.size HS10.out.mod.size)))
          clear b11 H11 hE HS10 HA10
          have hp2 : p < 0 ∨ (¬ p < 0 ∧ (l.length : Int) < p) := by omega
          clear hp
          rcases hp2 with hp | ⟨hp0, hp⟩
          all_goals
            go_wp2_with fail
            refine H12.out.mono ?_
            rintro e w12 ⟨rfl, b12⟩
            have HB12 := Lib.hid (bthen HB11.out HB11.out.size b12)
            have H13 := Lib.hid (known05_any w12)
            clear b12 H12
            go_wp2_with fail
            refine H13.out.mono ?_
            rintro e w13 ⟨rfl, b13⟩
            have HB13 := Lib.hid (bthen HB12.out HB12.out.size b13)
            clear b13 H13
            go_wp2_with fail
            go_ret
            exact Ret.mk (by simp) HB13.out
        · rw [hE] at h0
          exact absurd h0 (by decide)
      · have hE : splitE (spA l) 4 p = 0 := by rw [spA_E, if_neg hp]
        rcases hsp with ⟨h0, _⟩ | ⟨_, he, O11, hA11, hs11⟩
        · exact absurd hE h0
        · obtain ⟨pn, rfl⟩ : ∃ pn : Nat, p = (pn : Int) := ⟨p.toNat, by omega⟩
          have hpl : pn ≤ l.length := by omega
          rw [Int.toNat_natCast, spA_L] at hA11
          have HAB := Lib.hid (List.take_append_drop pn l)
          have hbl : (l.drop pn).length = l.length - pn := List.length_drop
          generalize l.take pn = a at *
          generalize l.drop pn = b at *
          subst he
          rw [show (((spA l).length + 1 : Nat) : Int) = 6 from rfl]
          have HS11 := Lib.hid (HS10.out.trans hs11)
          have H12 := Lib.hid (Split_any 6 q w11 (ns := spB a b) hA11 (spB_fit a b) (show b.length ≤ 1000000000 by omega) (fun _ => spB_ok a b _))
          have HT11 := Lib.hid (TsAt.of (l := l) (spB_fit a b) ⟨_, (spB_text a b).1, (spB_text a b).2.trans HAB.out⟩ (HAB.out ▸ spB_nm a b (by rw [HAB.out]; exact HNE.out) (by rw [HAB.out]; exact hll)) ⟨rfl, rfl⟩ hA11 HB1.out HBE.out HS11.out)
          clear hA11 hs11 H11 HS10 hE HA10 hp
          have hp0 : ¬ ((pn : Int) < 0) := by omega
          have hp1 : (0 : Int) ≤ (pn : Int) := by omega
          have hp2 : (pn : Int) ≤ (l.length : Int) := by omega
          go_wp2_with fail
          refine H12.out.mono ?_
          rintro e w12 hsp
          by_cases hq : q < 0 ∨ (b.length : Int) < q
          · have hE : splitE (spB a b) 6 q = 2 := by rw [spB_E, if_pos hq]
            rcases hsp with ⟨_, he, b12⟩ | ⟨h0, _⟩
            · rw [hE] at he
              subst he
              have HT12 := Lib.hid (show TsAt B w l (spB a b) w12 from ⟨HT11.out.fit, HT11.out.tx, HT11.out.nm, HT11.out.kd, (HT11.out.ar.imp fun O h => ⟨h.1.later b12, h.2⟩), bthen HT11.out.bl HT11.out.bl.size b12⟩)
              have hq2 : ¬ 0 ≤ q ∨ (0 ≤ q ∧ ¬ (q ≤ (l.length : Int) - (pn : Int))) := by omega
              clear b12 H12 hE HT11 hq
              have HT := HT12
              clear HT12 HS11
              generalize spB a b = ns' at *
              rcases hq2 with hq | ⟨hq0, hq⟩
              · go_wp2_with fail
                obtain ⟨xs, hxs, htx⟩ := HT.out.tx
                obtain ⟨O13, hA13, hO13⟩ := HT.out.ar
                have H20 := TextContent_any 2 xs w12 hA13 HT.out.fit HT.out.kd.1 HT.out.kd.2 hxs (by rw [htx]; omega)
                rw [htx] at H20
                have H20 := Lib.hid H20; have HA13 := Lib.hid hA13; have HO13 := Lib.hid hO13
                clear hA13 hO13 hxs htx
                refine H20.out.mono ?_
                rintro e w14 ⟨rfl, b14⟩
                obtain ⟨n1, k, hnm⟩ := HT.out.nm
                have H21 := Normalize_any 2 [3, k, 5] w14 (HA13.out.later b14) HT.out.fit HT.out.kd.1 hnm.ok (by rw [hnm.eq]; exact hnm.f1) (by rw [hnm.eq]; exact hnm.rest.1) (by rw [hnm.eq]; exact hnm.rest.2.1) (by simp)
                rw [hnm.eq, hnm.rest.2.2] at H21
                have HB14 := Lib.hid (bthen HT.out.bl HT.out.bl.size b14)
                have HNM := Lib.hid hnm; have H21 := Lib.hid H21
                clear b14 H20 hnm
                go_wp2_with fail
                refine H21.out.mono ?_
                rintro e w15 ⟨rfl, O15, hA15, hs15⟩
                have HB15 := Lib.hid (hs15.under HB14.out HB14.out.size HO13.out)
                have H22 := Dump_any 2 (tT l) w15 hA15 HNM.out.f1.len HNM.out.f1.kid1 HNM.out.hs.1 (HNM.out.dump hll) (tT_len l hll)
                rw [HTT.out] at H22
                have H22 := Lib.hid H22
                clear hA15 hs15 H21
                go_wp2_with fail
                refine H22.out.mono ?_
                rintro e w16 ⟨rfl, b16⟩
                have HB16 := Lib.hid (bthen HB15.out HB15.out.size b16)
                have H23 := Lib.hid (known05_any w16)
                clear b16 H22
                go_wp2_with fail
                refine H23.out.mono ?_
                rintro e w17 ⟨rfl, b17⟩
                have HB17 := Lib.hid (bthen HB16.out HB16.out.size b17)
                clear b17 H23
                go_wp2_with fail
                go_ret
                exact Ret.mk (by simp) HB17.out
              · go_wp2_with fail
                obtain ⟨xs, hxs, htx⟩ := HT.out.tx
                obtain ⟨O13, hA13, hO13⟩ := HT.out.ar
                have H20 := TextContent_any 2 xs w12 hA13 HT.out.fit HT.out.kd.1 HT.out.kd.2 hxs (by rw [htx]; omega)
                rw [htx] at H20
                have H20 := Lib.hid H20; have HA13 := Lib.hid hA13; have HO13 := Lib.hid hO13
                clear hA13 hO13 hxs htx
                refine H20.out.mono ?_
                rintro e w14 ⟨rfl, b14⟩
                obtain ⟨n1, k, hnm⟩ := HT.out.nm
                have H21 := Normalize_any 2 [3, k, 5] w14 (HA13.out.later b14) HT.out.fit HT.out.kd.1 hnm.ok (by rw [hnm.eq]; exact hnm.f1) (by rw [hnm.eq]; exact hnm.rest.1) (by rw [hnm.eq]; exact hnm.rest.2.1) (by simp)
                rw [hnm.eq, hnm.rest.2.2] at H21
                have HB14 := Lib.hid (bthen HT.out.bl HT.out.bl.size b14)
                have HNM := Lib.hid hnm; have H21 := Lib.hid H21
                clear b14 H20 hnm
                go_wp2_with fail
                refine H21.out.mono ?_
                rintro e w15 ⟨rfl, O15, hA15, hs15⟩
                have HB15 := Lib.hid (hs15.under HB14.out HB14.out.size HO13.out)
                have H22 := Dump_any 2 (tT l) w15 hA15 HNM.out.f1.len HNM.out.f1.kid1 HNM.out.hs.1 (HNM.out.dump hll) (tT_len l hll)
                rw [HTT.out] at H22
                have H22 := Lib.hid H22
                clear hA15 hs15 H21
                go_wp2_with fail
                refine H22.out.mono ?_
                rintro e w16 ⟨rfl, b16⟩
                have HB16 := Lib.hid (bthen HB15.out HB15.out.size b16)
                have H23 := Lib.hid (known05_any w16)
                clear b16 H22
                go_wp2_with fail
                refine H23.out.mono ?_
                rintro e w17 ⟨rfl, b17⟩
                have HB17 := Lib.hid (bthen HB16.out HB16.out.size b17)
                clear b17 H23
                go_wp2_with fail
                go_ret
                exact Ret.mk (by simp) HB17.out
            · rw [hE] at h0
              exact absurd h0 (by decide)
          · have hE : splitE (spB a b) 6 q = 0 := by rw [spB_E, if_neg hq]
            rcases hsp with ⟨h0, _⟩ | ⟨_, he, O12, hA12, hs12⟩
            · exact absurd hE h0
            · obtain ⟨qn, rfl⟩ : ∃ qn : Nat, q = (qn : Int) := ⟨q.toNat, by omega⟩
              have hql : qn ≤ b.length := by omega
              rw [Int.toNat_natCast, spB_L] at hA12
              have HBC := Lib.hid (List.take_append_drop qn b)
              have hq0 : (0 : Int) ≤ (qn : Int) := by omega
              have hq1 : (qn : Int) ≤ (l.length : Int) - (pn : Int) := by omega
              generalize b.take qn = b1 at *
              generalize b.drop qn = b2 at *
              subst he
              rw [show (((spB a b).length + 1 : Nat) : Int) = 7 from rfl]
              have hall : a ++ (b1 ++ b2) = l := by rw [HBC.out]; exact HAB.out
              have HT := Lib.hid (TsAt.of (l := l) (spC_fit a b1 b2) ⟨_, (spC_text a b1 b2).1, (spC_text a b1 b2).2.trans hall⟩ (hall ▸ spC_nm a b1 b2 (by rw [hall]; exact HNE.out) (by rw [hall]; exact hll)) ⟨rfl, rfl⟩ hA12 HB1.out HBE.out (HS11.out.trans hs12))
              have H13 := Lib.hid (Parent_any 7 w12 (ns := spC a b1 b2) hA12 (spC_fit a b1 b2).len)
              clear hA12 hs12 H12 hE HT11 HS11 hq hall hql hbl
              go_wp2_with fail
              refine H13.out.mono ?_
              rintro e w13 ⟨rfl, rfl⟩
              rw [show (if isH (spC a b1 b2).length 7 = true then (((ndAt (spC a b1 b2) 7).parent : Nat) : Int) else 0) = 2 from rfl]
              clear H13
              generalize spC a b1 b2 = ns' at *
              go_wp2_with fail
              obtain ⟨xs, hxs, htx⟩ := HT.out.tx
              obtain ⟨O13, hA13, hO13⟩ := HT.out.ar
              have H20 := TextContent_any 2 xs _ hA13 HT.out.fit HT.out.kd.1 HT.out.kd.2 hxs (by rw [htx]; omega)
              rw [htx] at H20
              have H20 := Lib.hid H20; have HA13 := Lib.hid hA13; have HO13 := Lib.hid hO13
              clear hA13 hO13 hxs htx
              refine H20.out.mono ?_
              rintro e w14 ⟨rfl, b14⟩
              obtain ⟨n1, k, hnm⟩ := HT.out.nm
              have H21 := Normalize_any 2 [3, k, 5] w14 (HA13.out.later b14) HT.out.fit HT.out.kd.1 hnm.ok (by rw [hnm.eq]; exact hnm.f1) (by rw [hnm.eq]; exact hnm.rest.1) (by rw [hnm.eq]; exact hnm.rest.2.1) (by simp)
              rw [hnm.eq, hnm.rest.2.2] at H21
              have HB14 := Lib.hid (bthen HT.out.bl HT.out.bl.size b14)
              have HNM := Lib.hid hnm; have H21 := Lib.hid H21
              clear b14 H20 hnm
              go_wp2_with fail
              refine H21.out.mono ?_
              rintro e w15 ⟨rfl, O15, hA15, hs15⟩
              have HB15 := Lib.hid (hs15.under HB14.out HB14.out.size HO13.out)
              have H22 := Dump_any 2 (tT l) w15 hA15 HNM.out.f1.len HNM.out.f1.kid1 HNM.out.hs.1 (HNM.out.dump hll) (tT_len l hll)
              rw [HTT.out] at H22
              have H22 := Lib.hid H22
              clear hA15 hs15 H21
              go_wp2_with fail
              refine H22.out.mono ?_
              rintro e w16 ⟨rfl, b16⟩
              have HB16 := Lib.hid (bthen HB15.out HB15.out.size b16)
              have H23 := Lib.hid (known05_any w16)
              clear b16 H22
              go_wp2_with fail
              refine H23.out.mono ?_
              rintro e w17 ⟨rfl, b17⟩
              have HB17 := Lib.hid (bthen HB16.out HB16.out.size b17)
              clear b17 H23
              go_wp2_with fail
              go_ret
              exact Ret.mk (by simp) HB17.out
end Go.Proofs.YtdapdadcninidaaGreatDoor
