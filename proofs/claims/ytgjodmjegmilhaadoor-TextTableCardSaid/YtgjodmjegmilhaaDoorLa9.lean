/- thicketlaw01: TextTable, the walk. -/
import Derived.Test.YtgjodmjegmilhaaDoorLa8
namespace Go.Proofs.YtgjodmjegmilhaaDoor
open Go.RowKit
attribute [local go_sem] Oper.semAt_some
attribute [local go_sem] sext
attribute [local go_sem] sapp

set_option maxRecDepth 100000 in
set_option maxHeartbeats 1000000 in
theorem TextTable_any (k : Int) (w : World) (hg : Good w) : Calls Tryd.prog 3 #[.int .i64 k] w (Ret w (.bool true)) := by
  have hit := fun n hn w hg => names_iter n hn w hg
  have hsm := ent_small
  have hasc := ent_asc
  have hne := ent_ne
  have hlen : entL.length = 2231 := entL_len
  have hnl : namesL.length = 29726 := namesL_len
  have hts := tab_start
  have hE := fun a e x1 x2 w ha he hx hc => rEntry_any a e x1 x2 w ha he hx hc
  have hL := fun l w hg hs => longest_any l w hg hs
  have hN := fun l w hg => Named_any l w hg
  have hP := fun l w hg hs => HasPrefix_any l w hg hs
  unfold longL at hL
  unfold namedL at hN
  unfold hasL at hP
  obtain ⟨es, hes⟩ : ∃ es, entL = es := ⟨_, rfl⟩
  obtain ⟨ns, hns⟩ : ∃ ns, namesL = ns := ⟨_, rfl⟩
  rw [hes] at hit hsm hasc hne hL hN hP hlen hts
  rw [hns] at hnl hts hE
  have HIT := Lib.hid hit; have HSM := Lib.hid hsm; have HASC := Lib.hid hasc; have HNE := Lib.hid hne; have HL := Lib.hid hL; have HN := Lib.hid hN; have HP := Lib.hid hP; have HE := Lib.hid hE; have HTS := Lib.hid hts; have HNL := Lib.hid hnl; have HLE := Lib.hid hlen
  clear hit hsm hasc hne hL hN hP hE hts hes hns hnl hlen
  have HK := Lib.hid (fun w hg => known_any w hg)
  have qn : ∀ W, (binOp BinOp.eql 23 (.func (.func 12) #[] #[]) .nilFunc).run Tryd.prog W = .ok (.bool false) W := fun W => by first | kernel_rfl | rfl
  obtain ⟨n, hn⟩ : ∃ n, 20 ≤ n := ⟨20, Nat.le_refl _⟩
  have hgs := hg.size
  refine (callsIn_wide (n := n)).1 ?_
  refine callsIn_of_wp_marks Tryd.func3 rfl trivial ?_ rfl
  simp only [Tryd.ntmps3, List.size_toArray, List.length_cons, List.length_nil, Nat.reduceAdd, Nat.reduceSub, Array.replicate_succ, Array.replicate_zero, List.push_toArray, List.append_toArray, List.nil_append, List.cons_append]
  gi_wp2_with fail
  refine call_wide (Names_any _) ?_ (by omega)
  rintro e w1 ⟨rfl, rfl⟩
  gi_wp2_with fail
  obtain ⟨W0, hW0⟩ : ∃ W0, ((((w.alloc (.cells #[.int .i64 k] 3)).alloc (.cells #[.bool false] 4)).alloc (.cells #[.int .i64 0] 3)).alloc (.cells #[.string ⟨#[]⟩] 9)).alloc (.cells #[.int .i64 0] 3) = W0 := ⟨_, rfl⟩
  obtain ⟨hJ0, hs0⟩ := tb_start es ns k w W0 HTS.out hW0
  have hb0 := hJ0.bl
  have hg0 : Good W0 := hg.below hb0 hgs
  rw [hW0]
  clear hW0
  have HJ0 := Lib.hid hJ0
  clear hJ0
  have HS := Lib.hid (HIT.out (n - 1) (by omega) W0 hg0)
  have hgs0 := hg0.size
  have hs0a : W0.heap.size ≤ w.heap.size + 5 := by omega
  have hs0b : w.heap.size + 5 ≤ W0.heap.size := by omega
  clear hs0
  gi_wp2_with fail
  refine wpIn_rangeFunc_it rfl (by omega) (gf := 12) rfl trivial enter_Names1 HS.out (Nat.le_refl _) (fun k _ h => h) (fun k h => ?_) (fun x => rfl)
    (fun _ i W => ∃ a lst, TbJ es ns k w i a lst W) (fun _ c _ W => TbX k w c W) ?keep ?keepx ?start ?round ?done ?stop
  · rcases h with h | rfl
    · exact h.elim
    · exact ⟨hgs0, rfl⟩
  case keep =>
    rintro n1 i A B ⟨a, lst, h⟩ hm
    exact ⟨a, lst, h.kept (hm.mono fun k _ h => h.elim False.elim fun h => by omega)⟩
  case keepx => exact fun n1 c i A B h hm => h.kept (hm.mono fun k _ h => h.elim False.elim fun h => by omega)
  case start => exact fun _ _ => ⟨0, [], HJ0.out⟩
  case round =>
    rintro lp ⟨nm, cd⟩ W
    gi_wp2_with fail
    refine ⟨trivial, ?_⟩
    rintro n1 i W' hx ⟨a, lst, hj⟩ hn1 hn1' hR
    have hmem := List.mem_of_getElem? hx
    have hcs := (HSM.out (nm, cd) hmem).1
    dsimp only at hcs
    have hgW : Good W' := by
      obtain ⟨m, hm⟩ := hg0
      exact ⟨m, (World.cell?_of_block (w := W0) (hR _ rfl)).trans hm⟩
    have hil : i < es.length := (List.getElem?_eq_some_iff.1 hx).1
    have ha : a < ns.length := by
      refine Nat.lt_of_not_le fun h => ?_
      have := hj.tb.done h
      omega
    obtain ⟨e, x1, x2, he, hx12, hc, hex, hT, hal, hxl⟩ := hj.tb.step ha
    obtain ⟨rfl, rfl⟩ : x1 = nm ∧ x2 = cd := by
      have := hex.symm.trans hx
      cases this
      exact ⟨rfl, rfl⟩
    have H0 := Lib.hid (fun w => HE.out a e x1 x2 w ha he hx12 hc)
    have hge : decide ((29726 : Int) ≤ (a : Int)) = false := decide_eq_false (by have := HNL.out; omega)
    have hib : i ≤ 100000 := by have := HLE.out; omega
    have HT := Lib.hid hT; have HJ := Lib.hid hj; have HX := Lib.hid hx
    have hkk := hj.kk
    have hq : 0 < i → Op.bytesLess x1 lst = false ∧ (x1 == lst) = false := by
      intro h0
      obtain ⟨y, hy⟩ : ∃ y, es[i - 1]? = some y := ⟨_, List.getElem?_eq_getElem (by omega)⟩
      have h1 := HJ.out.pv y h0 hy
      have h2 := ascE_at HASC.out (i := i - 1) (j := i) (by omega) hy hx
      rw [h1] at h2
      exact ltL_less _ _ h2
    have HQ := Lib.hid hq
    obtain ⟨c0, c1, c2, c3, c4, f1, f2, f3, f4, -, -, -, bl⟩ := hj
    have H2 := Lib.hid (fun w hg => HN.out x1 w hg)
    have H3 := Lib.hid (fun w hg => HL.out x1 w hg (by omega))
    have H4 := Lib.hid (fun w hg => HP.out x1 w hg (by omega))
    rw [long_self HASC.out HNE.out hmem] at H3
    rw [named_of_mem HASC.out hmem] at H2
    rw [show hasE es x1 = true from by have := has_take (j := x1.length) hmem; rwa [List.take_length] at this] at H4
    dsimp only at H2 H3 H4
    obtain ⟨vc, hvc⟩ : ∃ x, valL x2 = x := ⟨_, rfl⟩
    rw [hvc] at H0 H2 ⊢
    clear ha hil
    clear he hx12 hc hex hT hal hxl hx hR hq hmem hvc
    by_cases hik : (i : Int) = k
    · have HJ2 := HJ
      gi_wp2_with fail
      exact ⟨⟨rfl, by omega, c0, c1, f1, bl⟩, Mod.refl _ _⟩
    · obtain ⟨m, hm⟩ : ∃ m, IntKind.i64.wrap (k - 1) = m := ⟨_, rfl⟩
      have hikb : ((i : Int) == k) = false := by simpa using hik
      have hq2 : ¬ 0 < i ∨ (0 < i ∧ Op.bytesLess x1 lst = false ∧ (x1 == lst) = false) := by
        by_cases hi0 : 0 < i
        · exact .inr ⟨hi0, HQ.out hi0⟩
        · exact .inl hi0
      rcases hq2 with hi0 | ⟨hi0, hb1, hb2⟩
      all_goals
        clear hkk
        gi_wp2_with fail
        refine call_round (H0.out _) ?_ (by omega)
        rintro e0 w2 ⟨rfl, b2⟩
        have HJ2 := Lib.hid (HJ.out.later b2)
        have hg2 : Good w2 := hgW.below b2 hgW.size
        clear c0 c1 c2 c3 c4 f1 f2 f3 f4 bl
        obtain ⟨c0, c1, c2, c3, c4, f1, f2, f3, f4, -, -, -, bl⟩ := HJ2.out
        have hk2 : k < 0 ∨ (i : Int) + 1 ≤ k := by have := HJ.out.kk; omega
        have HK2 := Lib.hid hk2
        clear hk2
        gi_wp2_with fail
        all_goals first
          | exact ⟨⟨_, _, tb_next (by omega) (by omega) HJ2.out HX.out HT.out HK2.out⟩, tb_mod hs0a hs0b b2⟩
          | skip
        all_goals
          refine call_round (H2.out _ hg2) ?_ (by omega)
          rintro e1 w3 ⟨rfl, b3⟩
          have HJ3 := Lib.hid (HJ2.out.later b3)
          have hg3 : Good w3 := hg2.below b3 hg2.size
          clear c0 c1 c2 c3 c4 f1 f2 f3 f4 bl
          obtain ⟨c0, c1, c2, c3, c4, f1, f2, f3, f4, -, -, -, bl⟩ := HJ3.out
          gi_wp2_with fail
          refine call_round (H3.out _ hg3) ?_ (by omega)
          rintro e2 w4 ⟨rfl, b4⟩
          have HJ4 := Lib.hid (HJ3.out.later b4)
          have hg4 : Good w4 := hg3.below b4 hg3.size
          clear c0 c1 c2 c3 c4 f1 f2 f3 f4 bl
          obtain ⟨c0, c1, c2, c3, c4, f1, f2, f3, f4, -, -, -, bl⟩ := HJ4.out
          gi_wp2_with fail
          refine call_round (H4.out _ hg4) ?_ (by omega)
          rintro e3 w5 ⟨rfl, b5⟩
          have HJ5 := Lib.hid (HJ4.out.later b5)
          clear c0 c1 c2 c3 c4 f1 f2 f3 f4 bl
          obtain ⟨c0, c1, c2, c3, c4, f1, f2, f3, f4, -, -, -, bl⟩ := HJ5.out
          gi_wp2_with fail
          exact ⟨⟨_, _, tb_next (by omega) (by omega) HJ5.out HX.out HT.out HK2.out⟩, tb_mod hs0a hs0b (bthen (bthen (bthen b2 b2.size b3) (by have := b2.size; have := b3.size; omega) b4) (by have := b2.size; have := b3.size; have := b4.size; omega) b5)⟩
  case done =>
    rintro D n1 W hn1 hn2 ⟨a, lst, hj⟩ hD hK
    have hal : ns.length ≤ a := by
      refine Nat.le_of_not_lt fun h => ?_
      obtain ⟨e, x1, x2, -, -, -, hex, -⟩ := hj.tb.step h
      have := (List.getElem?_eq_some_iff.1 hex).1
      omega
    obtain ⟨c0, c1, c2, c3, c4, f1, f2, f3, f4, -, -, -, bl⟩ := hj
    obtain ⟨za, hza⟩ : ∃ z : Int, (a : Int) = z := ⟨_, rfl⟩
    obtain ⟨zi, hzi⟩ : ∃ z : Int, (es.length : Int) = z := ⟨_, rfl⟩
    have hge : decide (za < 29726) = false := decide_eq_false (by have := HNL.out; omega)
    have hes : (zi != 2231) = false := by have := HLE.out; simp; omega
    rw [hza] at c2
    rw [hzi] at c4
    clear hza hzi
    have hgW : Good W := hg.below bl hgs
    have hKl := (Array.getElem?_eq_some_iff.1 hK).1
    clear hal c3 f2 f3 f4
    gi_wp2_with fail
    all_goals
      refine call_wide (HK.out _ hgW) ?_ (by omega)
      rintro e w2 ⟨rfl, b2⟩
      have l1 := World.block_lt_of_cell? _ _ c1
      have c1' := ((bcell b2).1 (w.heap.size + 1) 0 l1).trans c1
      have f1' := ((bcell b2).2 (w.heap.size + 1) 0 l1).trans f1
      have hK2 := (b2.block D hKl).trans hK
      have bl2 : Below w.heap.size w w2 := bthen bl bl.size b2
      clear c1 f1 hK
      gi_wp2_with fail
      have hr1 : (w2.setCell ⟨w.heap.size + 1, 0, none⟩ (.bool true)).cell? ⟨w.heap.size + 1, 0, none⟩ = some (.bool true) := World.cell?_setCell_same' _ _ _ (by rw [c1']; rfl)
      have hbl : Below w.heap.size w (w2.setCell ⟨w.heap.size + 1, 0, none⟩ (.bool true)) := bl2.setCell (by simp) _
      have hK' := (Below.heap_setCell w2 ⟨w.heap.size + 1, 0, none⟩ (.bool true) D (by dsimp only; omega)).trans hK2
      refine ⟨by simp, .inl ⟨_, _, rfl, run_takeDeferred hK', ?_⟩⟩
      have hq1 := putObj_cell (D := D) (x := .deferred none) hr1 (by omega)
      exact ⟨.bool true, by simp [results, Tryd.results3, go_sem, hq1], Ret.mk rfl (below_put hbl (by omega))⟩
  case stop =>
    rintro D n1 c i W hn1 hn2 hi ⟨rfl, hk0, c0, c1, f1, bl⟩ hD hK
    have hgW : Good W := hg.below bl hgs
    have hKl := (Array.getElem?_eq_some_iff.1 hK).1
    gi_wp2_with fail
    all_goals
      refine call_wide (HK.out _ hgW) ?_ (by omega)
      rintro e w2 ⟨rfl, b2⟩
      have l1 := World.block_lt_of_cell? _ _ c1
      have c1' := ((bcell b2).1 (w.heap.size + 1) 0 l1).trans c1
      have f1' := ((bcell b2).2 (w.heap.size + 1) 0 l1).trans f1
      have hK2 := (b2.block D hKl).trans hK
      have bl2 : Below w.heap.size w w2 := bthen bl bl.size b2
      clear c1 f1 hK
      gi_wp2_with fail
      have hr1 : (w2.setCell ⟨w.heap.size + 1, 0, none⟩ (.bool true)).cell? ⟨w.heap.size + 1, 0, none⟩ = some (.bool true) := World.cell?_setCell_same' _ _ _ (by rw [c1']; rfl)
      have hbl : Below w.heap.size w (w2.setCell ⟨w.heap.size + 1, 0, none⟩ (.bool true)) := bl2.setCell (by simp) _
      have hK' := (Below.heap_setCell w2 ⟨w.heap.size + 1, 0, none⟩ (.bool true) D (by dsimp only; omega)).trans hK2
      refine ⟨by simp, .inl ⟨_, _, rfl, run_takeDeferred hK', ?_⟩⟩
      have hq1 := putObj_cell (D := D) (x := .deferred none) hr1 (by omega)
      exact ⟨.bool true, by simp [results, Tryd.results3, go_sem, hq1], Ret.mk rfl (below_put hbl (by omega))⟩
end Go.Proofs.YtgjodmjegmilhaaDoor
