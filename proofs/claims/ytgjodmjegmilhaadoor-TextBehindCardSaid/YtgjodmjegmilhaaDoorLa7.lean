/- thicketlaw01: TextBehind. -/
import Derived.Test.YtgjodmjegmilhaaDoorNit
import Derived.Test.YtgjodmjegmilhaaDoorPl8
import Derived.Test.YtgjodmjegmilhaaDoorKn
namespace Go.Proofs.YtgjodmjegmilhaaDoor
open Go.RowKit
attribute [local go_sem] Oper.semAt_some
attribute [local go_sem] sext
attribute [local go_sem] sapp

structure BhJ (s : List UInt8) (k : Int) (w : World) (i : Nat) (W : World) : Prop where
  c0 : W.cell? ⟨w.heap.size, 0, none⟩ = some (.int .i64 k)
  c1 : W.cell? ⟨w.heap.size + 1, 0, none⟩ = some (.string ⟨s.toArray⟩)
  c2 : W.cell? ⟨w.heap.size + 2, 0, none⟩ = some (.bool false)
  c3 : W.cell? ⟨w.heap.size + 3, 0, none⟩ = some (.int .i64 (i : Nat))
  f2 : W.frozen? ⟨w.heap.size + 2, 0, none⟩ = false
  f3 : W.frozen? ⟨w.heap.size + 3, 0, none⟩ = false
  bl : Below w.heap.size w W
structure BhX (w : World) (c : Code) (W : World) : Prop where
  rt : c = .ret
  c2 : W.cell? ⟨w.heap.size + 2, 0, none⟩ = some (.bool true)
  bl : Below w.heap.size w W
theorem BhJ.kept {s : List UInt8} {k : Int} {w A B : World} {i : Nat} (h : BhJ s k w i A) (hm : Mod (fun k => w.heap.size + 4 ≤ k) A B) : BhJ s k w i B := by
  obtain ⟨h0, h1, h2, h3, h4, h5, h6⟩ := h
  have l0 := World.block_lt_of_cell? _ _ h0
  have l1 := World.block_lt_of_cell? _ _ h1
  have l2 := World.block_lt_of_cell? _ _ h2
  have l3 := World.block_lt_of_cell? _ _ h3
  exact ⟨(hm.cell (p := ⟨_, 0, none⟩) l0 (by dsimp only; omega)).trans h0, (hm.cell (p := ⟨_, 0, none⟩) l1 (by dsimp only; omega)).trans h1, (hm.cell (p := ⟨_, 0, none⟩) l2 (by dsimp only; omega)).trans h2, (hm.cell (p := ⟨_, 0, none⟩) l3 (by dsimp only; omega)).trans h3,
    (hm.frozen (p := ⟨_, 0, none⟩) l2 (by dsimp only; omega)).trans h4, (hm.frozen (p := ⟨_, 0, none⟩) l3 (by dsimp only; omega)).trans h5, h6.trans (hm.below h6.size fun k hk => by omega)⟩
theorem BhX.kept {w A B : World} {c : Code} (h : BhX w c A) (hm : Mod (fun k => w.heap.size + 4 ≤ k) A B) : BhX w c B := by
  obtain ⟨h0, h2, h6⟩ := h
  have l2 := World.block_lt_of_cell? _ _ h2
  exact ⟨h0, (hm.cell (p := ⟨_, 0, none⟩) l2 (by dsimp only; omega)).trans h2, h6.trans (hm.below h6.size fun k hk => by omega)⟩
theorem bh_start (s : List UInt8) (k : Int) (w W0 : World) (hW0 : (((w.alloc (.cells #[.int .i64 k] 3)).alloc (.cells #[.string ⟨s.toArray⟩] 9)).alloc (.cells #[.bool false] 4)).alloc (.cells #[.int .i64 0] 3) = W0) :
    BhJ s k w 0 W0 ∧ W0.heap.size = w.heap.size + 4 := by
  subst hW0
  obtain ⟨e0, e1, e2, hs, hb⟩ := three_cells w (.cells #[.int .i64 k] 3) (.cells #[.string ⟨s.toArray⟩] 9) (.cells #[.bool false] 4)
  obtain ⟨W, hW⟩ : ∃ W, ((w.alloc (.cells #[.int .i64 k] 3)).alloc (.cells #[.string ⟨s.toArray⟩] 9)).alloc (.cells #[.bool false] 4) = W := ⟨_, rfl⟩
  rw [hW] at e0 e1 e2 hs hb ⊢
  have e3 := World.alloc_heap_new W (.cells #[.int .i64 0] 3)
  rw [hs] at e3
  have k0 := (Below.heap_alloc W (.cells #[.int .i64 0] 3) w.heap.size (by omega)).trans e0
  have k1 := (Below.heap_alloc W (.cells #[.int .i64 0] 3) (w.heap.size + 1) (by omega)).trans e1
  have k2 := (Below.heap_alloc W (.cells #[.int .i64 0] 3) (w.heap.size + 2) (by omega)).trans e2
  refine ⟨⟨?_, ?_, ?_, ?_, ?_, ?_, hb.alloc hb.size _⟩, by simp [hs]⟩
  · rw [Lib.cell_of_heap k0]; rfl
  · rw [Lib.cell_of_heap k1]; rfl
  · rw [Lib.cell_of_heap k2]; rfl
  · rw [Lib.cell_of_heap e3]; rfl
  · exact Lib.frozen_of_heap k2 0
  · exact Lib.frozen_of_heap e3 0

set_option maxRecDepth 100000 in
set_option maxHeartbeats 1000000 in
theorem TextBehind_any (k : Int) (l : List UInt8) (w : World) (hg : Good w) (hl : l.length ≤ 4611686018427387000) : Calls Tryd.prog 4 #[.int .i64 k, .string ⟨l.toArray⟩] w (Ret w (.bool true)) := by
  have hit := fun n hn w hg => names_iter n hn w hg
  have hsm := ent_small
  have hasc := ent_asc
  have hlen : entL.length ≤ 100000 := by rw [entL_len]; omega
  have hne := ent_ne
  have hL := fun l w hg hs => Longest_big l w hg hs
  have hN := fun l w hg => Named_any l w hg
  have hP := fun l w hg hs => HasPrefix_any l w hg hs
  unfold longL at hL
  unfold namedL at hN
  unfold hasL at hP
  obtain ⟨es, hes⟩ : ∃ es, entL = es := ⟨_, rfl⟩
  rw [hes] at hit hsm hasc hne hL hN hP hlen
  have HIT := Lib.hid hit; have HSM := Lib.hid hsm; have HASC := Lib.hid hasc; have HNE := Lib.hid hne; have HL := Lib.hid hL; have HN := Lib.hid hN; have HP := Lib.hid hP
  clear hit hsm hasc hne hL hN hP hes
  have HK := Lib.hid (fun w hg => known_any w hg)
  have qn : ∀ W, (binOp BinOp.eql 23 (.func (.func 12) #[] #[]) .nilFunc).run Tryd.prog W = .ok (.bool false) W := fun W => by first | kernel_rfl | rfl
  obtain ⟨n, hn⟩ : ∃ n, 20 ≤ n := ⟨20, Nat.le_refl _⟩
  have hgs := hg.size
  refine (callsIn_wide (n := n)).1 ?_
  refine callsIn_of_wp_marks Tryd.func4 rfl trivial ?_ rfl
  simp only [Tryd.ntmps4, List.size_toArray, List.length_cons, List.length_nil, Nat.reduceAdd, Nat.reduceSub, Array.replicate_succ, Array.replicate_zero, List.push_toArray, List.append_toArray, List.nil_append, List.cons_append]
  gi_wp2_with fail
  refine call_wide (Names_any _) ?_ (by omega)
  rintro e w1 ⟨rfl, rfl⟩
  gi_wp2_with fail
  obtain ⟨W0, hW0⟩ : ∃ W0, (((w.alloc (.cells #[.int .i64 k] 3)).alloc (.cells #[.string ⟨l.toArray⟩] 9)).alloc (.cells #[.bool false] 4)).alloc (.cells #[.int .i64 0] 3) = W0 := ⟨_, rfl⟩
  obtain ⟨hJ0, hs0⟩ := bh_start l k w W0 hW0
  have hb0 := hJ0.bl
  have hg0 : Good W0 := hg.below hb0 hgs
  rw [show w.heap.size + 1 + 1 = w.heap.size + 2 from rfl]
  rw [hW0]
  clear hW0
  have HJ0 := Lib.hid hJ0
  clear hJ0
  have HS := Lib.hid (HIT.out (n - 1) (by omega) W0 hg0)
  have hgs0 := hg0.size
  have hs0a : W0.heap.size ≤ w.heap.size + 4 := by omega
  have hs0b : w.heap.size + 4 ≤ W0.heap.size := by omega
  clear hs0
  gi_wp2_with fail
  refine wpIn_rangeFunc_it rfl (by omega) (gf := 12) rfl trivial enter_Names1 HS.out (Nat.le_refl _) (fun k _ h => h) (fun k h => ?_) (fun x => rfl)
    (fun _ i W => BhJ l k w i W) (fun _ c _ W => BhX w c W) ?keep ?keepx ?start ?round ?done ?stop
  · rcases h with h | rfl
    · exact h.elim
    · exact ⟨hgs0, rfl⟩
  case keep => exact fun n1 i A B h hm => h.kept (hm.mono fun k _ h => h.elim False.elim fun h => by omega)
  case keepx => exact fun n1 c i A B h hm => h.kept (hm.mono fun k _ h => h.elim False.elim fun h => by omega)
  case start => exact fun _ _ => HJ0.out
  case round =>
    rintro lp ⟨nm, cd⟩ W
    gi_wp2_with fail
    refine ⟨trivial, ?_⟩
    rintro n1 i W' hx hj hn1 hn1' hR
    have hmem := List.mem_of_getElem? hx
    have hcs := (HSM.out (nm, cd) hmem).1
    have hgW : Good W' := by
      obtain ⟨m, hm⟩ := hg0
      exact ⟨m, (World.cell?_of_block (w := W0) (hR _ rfl)).trans hm⟩
    have hil : i < es.length := (List.getElem?_eq_some_iff.1 hx).1
    have HJ := Lib.hid hj
    obtain ⟨c0, c1, c2, c3, f2, f3, bl⟩ := hj
    by_cases hik : (i : Int) = k
    · have hbig := hl
      obtain ⟨y, hym, hy1, hy2, hy3, hy4, hy5, hy6⟩ := long_behind HASC.out HNE.out hmem l
      obtain ⟨yn, yc⟩ := y
      dsimp only at hy1 hy2 hy3 hy4 hy5 hy6
      have hys := (HSM.out (yn, yc) hym).1
      dsimp only at hys hcs
      have H1 := Lib.hid (fun w hg => HL.out (nm ++ l) w hg (by simp; omega))
      have H2 := Lib.hid (fun w hg => HN.out ((nm ++ l).take yn.length) w hg)
      rw [hy1] at H1
      rw [hy6] at H2
      have HT := Lib.hid (fun j => has_take (j := j) hmem)
      have hvv : yn.length = nm.length → valL yc = valL cd := fun e => by have := hy4 e; cases this; rfl
      obtain ⟨vy, hvy⟩ : ∃ x, valL yc = x := ⟨_, rfl⟩
      obtain ⟨vc, hvc⟩ : ∃ x, valL cd = x := ⟨_, rfl⟩
      rw [hvy, hvc] at hvv
      rw [hvy] at H1 H2
      rw [hvc]
      dsimp only at H1 H2
      clear hy1 hy4 hy5 hy6 hx hR hvy hvc
      gi_wp2_with fail
      refine call_round (H1.out _ hgW) ?_ (by omega)
      rintro e w2 ⟨rfl, b2⟩
      have c1' := ((bcell b2).1 (w.heap.size + 1) 0 (World.block_lt_of_cell? _ _ c1)).trans c1
      have c2' := ((bcell b2).1 (w.heap.size + 2) 0 (World.block_lt_of_cell? _ _ c2)).trans c2
      have f2' := ((bcell b2).2 (w.heap.size + 2) 0 (World.block_lt_of_cell? _ _ c2)).trans f2
      have hg2 : Good w2 := hgW.below b2 hgW.size
      by_cases heq : yn.length = nm.length
      · have hv := hvv heq
        subst hv
        rw [heq, List.take_left] at H2
        gi_wp2_with fail
        refine call_round (H2.out _ hg2) ?_ (by omega)
        rintro e w3 ⟨rfl, b3⟩
        have hg3 : Good w3 := hg2.below b3 hg2.size
        have bl3 : Below w.heap.size w w3 := bthen (bthen bl bl.size b2) (by have := b2.size; have := bl.size; omega) b3
        have c2'' := ((bcell b3).1 (w.heap.size + 2) 0 (World.block_lt_of_cell? _ _ c2')).trans c2'
        have f2'' := ((bcell b3).2 (w.heap.size + 2) 0 (World.block_lt_of_cell? _ _ c2')).trans f2'
        clear c2' c1' f2' c0 c1 c2 c3 f2 f3
        gi_wp2_with fail
        clear hvv H1 H2
        gi_loopw [13] (fun s13 wr => ∃ j : Nat, j ≤ nm.length + 1 ∧ s13 = .int .i64 j ∧ Below w3.heap.size w3 wr) (fun s13 _ => nm.length + 1 - (intOf s13).toNat)
        case atStart => exact ⟨0, Nat.zero_le _, rfl, Below.refl _ _⟩
        case round =>
          obtain ⟨j, hj, rfl, br⟩ := hrel
          have hgr : Good wr := hg3.below br hg3.size
          by_cases hjn : j ≤ nm.length
          · have H3 := Lib.hid (HP.out (nm.take j) wr hgr (by simp; omega))
            rw [HT.out j] at H3
            gi_wp2_with fail
            refine call_round H3.out ?_ (by omega)
            rintro e w4 ⟨rfl, b4⟩
            gi_wp2_with fail
            go_roundw
            case rel => exact ⟨j + 1, by omega, by go_num, bthen br br.size b4⟩
            case measure => simp [intOf]; omega
          · gi_wp2_with fail
            refine call_round (HK.out _ hgr) ?_ (by omega)
            rintro e w4 ⟨rfl, b4⟩
            have b5 : Below w3.heap.size w3 w4 := bthen br br.size b4
            have c2r := ((bcell b5).1 (w.heap.size + 2) 0 (World.block_lt_of_cell? _ _ c2'')).trans c2''
            have f2r := ((bcell b5).2 (w.heap.size + 2) 0 (World.block_lt_of_cell? _ _ c2'')).trans f2''
            have bl5 : Below w.heap.size w w4 := bthen bl3 bl3.size b5
            have bm : Below W'.heap.size W' w4 := bthen (bthen b2 b2.size b3) (by have := b2.size; have := b3.size; omega) b5
            clear c2'' f2''
            gi_wp2_with fail
            exact ⟨⟨rfl, World.cell?_setCell_same' _ _ _ (by rw [c2r]; rfl), bl5.setCell (by dsimp only; omega) _⟩, (Mod.of_below bm).trans (Mod.setCell _ _ ⟨fun h => h, by dsimp only; omega, by dsimp only; omega⟩)⟩
      · gi_wp2_with fail
        refine call_round (H2.out _ hg2) ?_ (by omega)
        rintro e w3 ⟨rfl, b3⟩
        have hg3 : Good w3 := hg2.below b3 hg2.size
        have bl3 : Below w.heap.size w w3 := bthen (bthen bl bl.size b2) (by have := b2.size; have := bl.size; omega) b3
        have c2'' := ((bcell b3).1 (w.heap.size + 2) 0 (World.block_lt_of_cell? _ _ c2')).trans c2'
        have f2'' := ((bcell b3).2 (w.heap.size + 2) 0 (World.block_lt_of_cell? _ _ c2')).trans f2'
        clear c2' c1' f2' c0 c1 c2 c3 f2 f3
        gi_wp2_with fail
        clear hvv H1 H2
        gi_loopw [13] (fun s13 wr => ∃ j : Nat, j ≤ nm.length + 1 ∧ s13 = .int .i64 j ∧ Below w3.heap.size w3 wr) (fun s13 _ => nm.length + 1 - (intOf s13).toNat)
        case atStart => exact ⟨0, Nat.zero_le _, rfl, Below.refl _ _⟩
        case round =>
          obtain ⟨j, hj, rfl, br⟩ := hrel
          have hgr : Good wr := hg3.below br hg3.size
          by_cases hjn : j ≤ nm.length
          · have H3 := Lib.hid (HP.out (nm.take j) wr hgr (by simp; omega))
            rw [HT.out j] at H3
            gi_wp2_with fail
            refine call_round H3.out ?_ (by omega)
            rintro e w4 ⟨rfl, b4⟩
            gi_wp2_with fail
            go_roundw
            case rel => exact ⟨j + 1, by omega, by go_num, bthen br br.size b4⟩
            case measure => simp [intOf]; omega
          · gi_wp2_with fail
            refine call_round (HK.out _ hgr) ?_ (by omega)
            rintro e w4 ⟨rfl, b4⟩
            have b5 : Below w3.heap.size w3 w4 := bthen br br.size b4
            have c2r := ((bcell b5).1 (w.heap.size + 2) 0 (World.block_lt_of_cell? _ _ c2'')).trans c2''
            have f2r := ((bcell b5).2 (w.heap.size + 2) 0 (World.block_lt_of_cell? _ _ c2'')).trans f2''
            have bl5 : Below w.heap.size w w4 := bthen bl3 bl3.size b5
            have bm : Below W'.heap.size W' w4 := bthen (bthen b2 b2.size b3) (by have := b2.size; have := b3.size; omega) b5
            clear c2'' f2''
            gi_wp2_with fail
            exact ⟨⟨rfl, World.cell?_setCell_same' _ _ _ (by rw [c2r]; rfl), bl5.setCell (by dsimp only; omega) _⟩, (Mod.of_below bm).trans (Mod.setCell _ _ ⟨fun h => h, by dsimp only; omega, by dsimp only; omega⟩)⟩
    · gi_wp2_with fail
      refine ⟨⟨?_, ?_, ?_, ?_, ?_, ?_, bl.setCell (by dsimp only; omega) _⟩, Mod.setCell _ _ ⟨fun h => h, by dsimp only; omega, by dsimp only; omega⟩⟩
      · rw [World.cell?_setCell_other _ _ _ _ (by simp)]; exact c0
      · rw [World.cell?_setCell_other _ _ _ _ (by simp)]; exact c1
      · rw [World.cell?_setCell_other _ _ _ _ (by simp)]; exact c2
      · exact World.cell?_setCell_same' _ _ _ (by rw [c3]; rfl)
      · rw [World.frozen?_setCell]; exact f2
      · rw [World.frozen?_setCell]; exact f3
  case done =>
    rintro D n1 W hn1 hn2 hj hD hK
    obtain ⟨c0, c1, c2, c3, f2, f3, bl⟩ := hj
    have hgW : Good W := hg.below bl hgs
    have hKl := (Array.getElem?_eq_some_iff.1 hK).1
    clear c0 c1 c3
    gi_wp2_with fail
    refine call_wide (HK.out _ hgW) ?_ (by omega)
    rintro e w2 ⟨rfl, b2⟩
    have l2 := World.block_lt_of_cell? _ _ c2
    have c2' := ((bcell b2).1 (w.heap.size + 2) 0 l2).trans c2
    have f2' := ((bcell b2).2 (w.heap.size + 2) 0 l2).trans f2
    have hK2 := (b2.block D hKl).trans hK
    have bl2 : Below w.heap.size w w2 := bthen bl bl.size b2
    clear c2 f2 hK
    gi_wp2_with fail
    have hr1 : (w2.setCell ⟨w.heap.size + 2, 0, none⟩ (.bool true)).cell? ⟨w.heap.size + 2, 0, none⟩ = some (.bool true) := World.cell?_setCell_same' _ _ _ (by rw [c2']; rfl)
    have hbl : Below w.heap.size w (w2.setCell ⟨w.heap.size + 2, 0, none⟩ (.bool true)) := bl2.setCell (by simp) _
    have hK' := (Below.heap_setCell w2 ⟨w.heap.size + 2, 0, none⟩ (.bool true) D (by dsimp only; omega)).trans hK2
    refine ⟨by simp, .inl ⟨_, _, rfl, run_takeDeferred hK', ?_⟩⟩
    have hq1 := putObj_cell (D := D) (x := .deferred none) hr1 (by omega)
    exact ⟨.bool true, by simp [results, Tryd.results4, go_sem, hq1], Ret.mk rfl (below_put hbl (by omega))⟩
  case stop =>
    rintro D n1 c i W hn1 hn2 hi ⟨rfl, h1, h3⟩ hD hK
    gi_wp2_with fail
    refine ⟨by simp, .inl ⟨_, _, rfl, run_takeDeferred hK, ?_⟩⟩
    have hr1 := putObj_cell (D := D) (x := .deferred none) h1 (by omega)
    exact ⟨.bool true, by simp [results, Tryd.results4, go_sem, hr1], Ret.mk rfl (below_put h3 (by omega))⟩
end Go.Proofs.YtgjodmjegmilhaaDoor
