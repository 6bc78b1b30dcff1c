/- Package dom: TextContent, of an element. No condition but that the tree below it ends and the texts fit. -/
import Derived.Test.YtdapdadcninidaaGreatDoorVis
import Derived.Test.YtdapdadcninidaaGreatDoorApp
import Derived.Test.YtdapdadcninidaaGreatDoorSplit
namespace Go.Proofs.YtdapdadcninidaaGreatDoor
open Go.RowKit
attribute [local go_sem] Oper.semAt_some

/-- The texts of these nodes, one after the other. -/
def textOf (ns : List Nd) (xs : List Nat) : List UInt8 := xs.flatMap fun x => if (descAt ns (x : Nat)).kind = 5 then (descAt ns (x : Nat)).data else []
theorem textOf_next {ns : List Nd} {xs : List Nat} {i x : Nat} (hx : xs[i]? = some x) : textOf ns (xs.take (i + 1)) = textOf ns (xs.take i) ++ (if (descAt ns (x : Nat)).kind = 5 then (descAt ns (x : Nat)).data else []) := by
  obtain ⟨hi, rfl⟩ := List.getElem?_eq_some_iff.1 hx
  rw [List.take_succ_eq_append_getElem hi]
  unfold textOf
  rw [List.flatMap_append, List.flatMap_cons, List.flatMap_nil, List.append_nil]
theorem textOf_le {ns : List Nd} {xs : List Nat} {i x : Nat} (hx : xs[i]? = some x) : (textOf ns (xs.take i)).length + (if (descAt ns (x : Nat)).kind = 5 then (descAt ns (x : Nat)).data else []).length ≤ (textOf ns xs).length := by
  have h : textOf ns (xs.take (i + 1) ++ xs.drop (i + 1)) = textOf ns xs := by rw [List.take_append_drop]
  rw [← h, show textOf ns (xs.take (i + 1) ++ xs.drop (i + 1)) = textOf ns (xs.take (i + 1)) ++ textOf ns (xs.drop (i + 1)) by unfold textOf; rw [List.flatMap_append], textOf_next hx]
  simp
/-- What the loop keeps: o the block of out. -/
structure TxJ (B : Nat) (O : List Nat) (ns : List Nd) (xs : List Nat) (w : World) (o : Nat) (G : Nat → Prop) (i : Nat) (W : World) : Prop where
  out : ∃ v, W.heap[o]? = some (.cells #[v] 110 (0, 0)) ∧ OwnB w.heap.size W v (textOf ns (xs.take i)) ∧ ∀ g, v.ownBlock = some g → ¬ G g ∧ o < g
  ob : ¬ G o ∧ w.heap.size < o
  bx : W.cell? ⟨w.heap.size, 0, none⟩ = some (.pointer (some ⟨B, 0, none⟩)) ∧ ¬ G w.heap.size
  ar : ArW B O ns W
  lo : ∀ k ∈ O, ¬ G k ∧ k < w.heap.size
  bl : Below w.heap.size w W
  fg : ∀ k, G k → w.heap.size ≤ k ∧ k < W.heap.size
theorem own_keepB {R : Nat} {w w' : World} {v : Value} {bs : List UInt8} (h : OwnB R w v bs) (hk : ∀ g, v.ownBlock = some g → w'.heap[g]? = w.heap[g]?) : OwnB R w' v bs := by
  refine ⟨h.1, ?_⟩
  rcases h.2 with h | ⟨g, cap, cur, fz, hv, hg, hgg, r⟩
  · exact .inl h
  · exact .inr ⟨g, cap, cur, fz, hv, hg, (hk g (by rw [hv]; rfl)).trans hgg, r⟩
theorem own_ltB {R : Nat} {w : World} {v : Value} {bs : List UInt8} (h : OwnB R w v bs) {g : Nat} (hg : v.ownBlock = some g) : R ≤ g ∧ g < w.heap.size := h.lt g hg
theorem TxJ.kept {B : Nat} {O : List Nat} {ns : List Nd} {xs : List Nat} {w : World} {o i : Nat} {G G' : Nat → Prop} {A C : World} (h : TxJ B O ns xs w o G i A) (hm : Mod G A C) (hg : ∀ k, G' k → G k ∨ (A.heap.size ≤ k ∧ k < C.heap.size)) : TxJ B O ns xs w o G' i C := by
  obtain ⟨⟨v, h1, h2, h3⟩, ⟨h4, h5⟩, ⟨h6, h7⟩, h8, h9, h10, h11⟩ := h
  have lo := (Array.getElem?_eq_some_iff.1 h1).1
  have lb := World.block_lt_of_cell? _ _ h6
  have hs := h10.size
  refine ⟨⟨v, (hm.block o lo h4).trans h1, own_keepB h2 fun g hgv => hm.block g (own_ltB h2 hgv).2 (h3 g hgv).1, fun g hgv => ⟨fun hG => (hg g hG).elim (h3 g hgv).1 (by have := (own_ltB h2 hgv).2; omega), (h3 g hgv).2⟩⟩,
    ⟨fun hG => (hg o hG).elim h4 (by omega), h5⟩, ⟨(hm.cell (p := ⟨w.heap.size, 0, none⟩) lb h7).trans h6, fun hG => (hg _ hG).elim h7 (by omega)⟩, h8.kept hm fun k hk => (h9 k hk).1,
    fun k hk => ⟨fun hG => (hg k hG).elim (h9 k hk).1 (by have := (h9 k hk).2; omega), (h9 k hk).2⟩, h10.trans (hm.below h10.size fun k hk hG => by have := h11 k hG; omega), fun k hG => (hg k hG).elim (fun h => by have := h11 k h; have := hm.size; omega) (by omega)⟩
/-- A round that has put a text behind the others. -/
theorem TxJ.add {B : Nat} {O : List Nat} {ns : List Nd} {xs : List Nat} {w : World} {o i : Nat} {G : Nat → Prop} {A C : World} {v v' : Value} (h : TxJ B O ns xs w o G i A) (hv : A.heap[o]? = some (.cells #[v] 110 (0, 0))) (hvG : ∀ g, v.ownBlock = some g → ¬ G g ∧ o < g)
    (hm : Mod (fun k => k = o ∨ v.ownBlock = some k) A C) (ho : C.heap[o]? = some (.cells #[v'] 110 (0, 0))) (hown : OwnB w.heap.size C v' (textOf ns (xs.take (i + 1)))) (hat : v'.ownBlock = v.ownBlock ∨ ∃ g, v'.ownBlock = some g ∧ A.heap.size ≤ g) :
    TxJ B O ns xs w o G (i + 1) C ∧ Mod (fun k => ¬ G k) A C := by
  obtain ⟨-, ⟨h4, h5⟩, ⟨h6, h7⟩, h8, h9, h10, h11⟩ := h
  have lo := (Array.getElem?_eq_some_iff.1 hv).1
  have lb := World.block_lt_of_cell? _ _ h6
  have nS : ∀ k, k ≤ w.heap.size → ¬ (k = o ∨ v.ownBlock = some k) := fun k hk h => h.elim (by omega) fun e => by have := (hvG k e).2; omega
  have hS : Mod (fun k => ¬ G k) A C := hm.mono fun k _ h => h.elim (fun e => e ▸ h4) fun e => (hvG k e).1
  refine ⟨⟨⟨v', ho, hown, fun g hg => ?_⟩, ⟨h4, h5⟩, ⟨(hm.cell (p := ⟨w.heap.size, 0, none⟩) lb (nS _ (Nat.le_refl _))).trans h6, h7⟩, h8.kept hm fun k hk => nS k (by have := (h9 k hk).2; omega), h9, h10.trans (hm.below h10.size fun k hk => nS k (by omega)), fun k hG => ⟨(h11 k hG).1, by have := (h11 k hG).2; have := hm.size; omega⟩⟩, hS⟩
  rcases hat with e | ⟨g', e, hge⟩
  · exact hvG g (by rw [← e]; exact hg)
  · rw [hg] at e
    cases e
    exact ⟨fun hG => by have := (h11 g hG).2; omega, by omega⟩
set_option maxRecDepth 100000 in
set_option maxHeartbeats 4000000 in
theorem TextContent_any (h : Int) (xs : List Nat) (w : World) {B : Nat} {O : List Nat} {ns : List Nd} (hA : ArW B O ns w) (hf : Fit ns) (hh : isH ns.length h = true) (hk : (ndAt ns h).kind = 4) (hS : Sub (kidsAt ns) (kidsAt ns h) xs) (hl : (textOf ns xs).length ≤ 1000000000) :
    Calls Tryz.prog 16 #[.pointer (some ⟨B, 0, none⟩), .int .i64 h] w (Ret w (.tuple #[.string ⟨(textOf ns xs).toArray⟩, .int .i64 0])) := by
  obtain ⟨W0, hW0⟩ : ∃ W0, (w.alloc (.cells #[.pointer (some ⟨B, 0, none⟩)] 23)).alloc (.cells #[.int .i64 h] 3) = W0 := ⟨_, rfl⟩
  obtain ⟨hb0, hbx, hs0, b0⟩ := two_new hW0
  have hA0 := hA.later b0
  have H1 := checkD_any (B := B) (H := w.heap.size + 1) (c := 1) (-1) [h] W0 hA0 hf (by intro j v hj; match j, hj with | 0, hj => simp at hj; subst hj; rw [cell_of_row _ _ _ _ _ _ hbx]; rfl) (by simp) (by omega)
  rw [show chkD ns.length (-1) [h] = 0 by simp [chkD, chkFrom, hh]] at H1
  have hda : descAt ns h = ndAt ns h := by simp [descAt, hh]
  have H2 := Lib.hid (fun w' (hb : Below W0.heap.size W0 w') => hda ▸ NodeD_any h w' (hA0.later hb) hf)
  have z0 : W0.cell? ⟨w.heap.size, 0, none⟩ = some (.pointer (some ⟨B, 0, none⟩)) := by rw [cell_of_row _ _ _ _ _ _ hb0]; rfl
  have hlw : w.heap.size < W0.heap.size := by omega
  obtain ⟨d, hd⟩ : ∃ d, ndAt ns h = d := ⟨_, rfl⟩
  rw [hd] at H2 hk
  have H1 := Lib.hid H1; have HW := Lib.hid hW0; have HB0 := Lib.hid b0; have HA := Lib.hid hA; have HF := Lib.hid hf; have HS := Lib.hid hS; have HK := Lib.hid hk; have HL := Lib.hid hl
  clear hA hA0 hb0 hbx b0 hW0 hda hd hf hS hk hl hh
  obtain ⟨n, hn⟩ : ∃ n, 9 ≤ n := ⟨9, Nat.le_refl _⟩
  refine (callsIn_wide (n := n)).1 ?_
  refine callsIn_of_wp_marks Tryz.func16 rfl trivial ?_ rfl
  simp only [Tryz.ntmps16, List.size_toArray, List.length_cons, List.length_nil, Nat.reduceAdd, Nat.reduceSub, Array.replicate_succ, Array.replicate_zero, List.push_toArray, List.append_toArray, List.nil_append, List.cons_append]
  gi_wp2_with fail
  rw [HW.out]
  refine call_wide H1.out ?_ (by omega)
  rintro e w1 ⟨rfl, b1⟩
  have H3 := Lib.hid (H2.out w1 b1)
  have z1 := (b1.cell (p := ⟨w.heap.size, 0, none⟩) hlw).trans z0
  have hs1 := b1.size
  have HB1 := Lib.hid b1
  clear b1 H1 H2 z0
  gi_wp2_with fail
  refine call_wide H3.out ?_ (by omega)
  rintro e w2 ⟨k1, k2, a1, a2, rfl, -, -, b2⟩
  have z2 := (b2.cell (p := ⟨w.heap.size, 0, none⟩) (by dsimp only; omega)).trans z1
  have hs2 := b2.size
  have HB2 := Lib.hid b2
  rw [HK.out]
  have z3 : ∀ o1 o2, ((w2.alloc o1).alloc o2).cell? ⟨w.heap.size, 0, none⟩ = some (.pointer (some ⟨B, 0, none⟩)) := fun o1 o2 => by rw [World.cell?_alloc_past _ _ _ (by simp; omega), World.cell?_alloc_past _ _ _ (by omega), z2]
  clear b2 H3 z1 z2
  gi_wp2_with fail
  generalize hW4 : (w2.alloc _).alloc _ = W4
  have hs4 : W4.heap.size = w2.heap.size + 2 := by rw [← hW4]; simp
  have hb4 : Below w2.heap.size w2 W4 := by rw [← hW4]; exact (balloc _ _).alloc (by simp) _
  have ho4 : W4.heap[w2.heap.size + 1]? = some (.cells #[.slice none 0 0] 110 (0, 0)) := by
    rw [← hW4]
    have e1 := World.alloc_heap_new (w2.alloc (.cells (nodeArr { d with kind := 4 } k1 k2 a1 a2) 55)) (.cells #[.slice none 0 0] 110)
    rw [World.size_alloc] at e1
    exact e1
  have z4 : W4.cell? ⟨w.heap.size, 0, none⟩ = some (.pointer (some ⟨B, 0, none⟩)) := by rw [← hW4]; exact z3 _ _
  have hb04 : Below w.heap.size w W4 := bthen (bthen (bthen HB0.out HB0.out.size HB1.out) (Nat.le_trans HB0.out.size HB1.out.size) HB2.out) (by omega) hb4
  have H5 := Lib.hid (below_any h W4 B)
  obtain ⟨W5, hW5⟩ : ∃ W5, (W4.alloc (.cells #[.pointer (some ⟨B, 0, none⟩)] 23)).alloc (.cells #[.int .i64 h] 3) = W5 := ⟨_, rfl⟩
  obtain ⟨x0, x1, hs5, b5⟩ := two_new hW5
  have hJ0 : TxJ B O ns xs w (w2.heap.size + 1) (fun _ => False) 0 W5 := by
    refine ⟨⟨_, (b5.block _ (by omega)).trans ho4, OwnV.nil _ _ _, (fun g hg => by cases hg)⟩, ⟨fun h => h, by omega⟩, ⟨(b5.cell (p := ⟨w.heap.size, 0, none⟩) (by dsimp only; omega)).trans z4, fun h => h⟩, HA.out.later (bthen hb04 hb04.size b5), fun k hk => ⟨fun h => h, HA.out.lt hk⟩, bthen hb04 hb04.size b5, fun k h => h.elim⟩
  have hit := fun n hn => below_iter h xs n hn W5 (B := B) (ab := W4.heap.size) (hb := W4.heap.size + 1) HS.out (by rw [cell_of_row _ _ _ _ _ _ x0]; rfl) (by rw [cell_of_row _ _ _ _ _ _ x1]; rfl)
  have HJ0 := Lib.hid hJ0; have HIT := Lib.hid hit; have HW5 := Lib.hid hW5
  have HS4 := Lib.hid hs4; have HS5 := Lib.hid hs5
  clear hs4 hs5 z3 z4 ho4 hb4 hb04 x0 x1 b5 hJ0 hit hW4 hW5
  gi_wp2_with fail
  refine call_wide H5.out ?_ (by omega)
  rintro e w5 ⟨rfl, rfl⟩
  rw [HW5.out]
  clear H5
  gi_wp2_with fail
  have HSQ := Lib.hid (HIT.out (n - 1) (by omega))
  refine wpIn_rangeFunc_itf (gf := 98) (lb := #[.pointer (some ⟨W4.heap.size, 0, none⟩), .pointer (some ⟨W4.heap.size + 1, 0, none⟩)]) (encs := fun x : Nat => #[.int .i64 (x : Nat)]) (xs := xs) (I := fun _ => False) (Pr := PrK B (kidsAt ns)) rfl (by omega) rfl trivial enter_below1 HSQ.out (fun k h => h.elim) (fun x => rfl)
    (fun G i W => TxJ B O ns xs w (w2.heap.size + 1) G i W) (fun _ _ _ _ => False) ?keep ?keepx ?pr ?start ?round ?done ?stop
  case keep => exact fun G G' i A C h hm hg => h.kept hm hg
  case keepx => exact fun _ _ _ _ _ _ h _ _ => h
  case pr => exact fun G i A h => ⟨O, ns, h.ar, HF.out, fun _ => rfl⟩
  case start =>
    intro G W hW hG
    exact HJ0.out.kept (Mod.of_below hW) fun k hk => (hG k hk).elim False.elim fun h => .inr h
  case round =>
    rintro lp x W
    gi_wp2_with fail
    refine ⟨trivial, ?_⟩
    rintro G i W' hx hj hG hsz
    have hbx := hj.bx.1
    have hblt := World.block_lt_of_cell? _ _ hbx
    have H1 := Lib.hid (NodeD_any (x : Nat) W' hj.ar HF.out)
    have HJ := Lib.hid hj; have HX := Lib.hid hx
    clear hj hx HJ0 HIT HSQ HW5 HB0 HB1 HB2 HA HS
    have hnx := textOf_next (ns := ns) HX.out
    have hle := textOf_le (ns := ns) HX.out
    obtain ⟨dx, hdx⟩ : ∃ dx, descAt ns (x : Nat) = dx := ⟨_, rfl⟩
    rw [hdx] at H1 hnx hle
    have HNX := Lib.hid hnx; have HLE := Lib.hid hle
    clear hnx hle hdx
    gi_wp2_with fail
    refine call_round H1.out ?_ (by omega)
    rintro e w6 ⟨j1, j2, c1, c2, rfl, -, -, b6⟩
    have HB6 := Lib.hid b6
    clear b6 H1 hbx
    obtain ⟨v, hv, hown, hvG⟩ := HJ.out.out
    have hol := (Array.getElem?_eq_some_iff.1 hv).1
    have h6s := HB6.out.size
    have co6 : ∀ o, (w6.alloc o).cell? ⟨w2.heap.size + 1, 0, none⟩ = some v := fun o => by rw [cell_of_row _ _ _ _ _ _ ((Below.heap_alloc w6 o _ (by omega)).trans ((HB6.out.block _ hol).trans hv))]; rfl
    have HO6 := Lib.hid (fun o => (Below.heap_alloc w6 o (w2.heap.size + 1) (by omega)).trans ((HB6.out.block _ hol).trans hv))
    have OW6 := Lib.hid (fun o => OwnV.below (OwnV.below hown HB6.out) (balloc w6 o))
    have HVG := Lib.hid hvG; have HV := Lib.hid hv
    clear hvG hown hv
    by_cases hk5 : dx.kind = 5
    · have hk5b : (dx.kind == 5) = true := by simpa using hk5
      rw [if_pos hk5] at HNX HLE
      clear hk5
      gi_wp2_with (gi_at_builtin; refine in_append_str rfl _ _ rfl w.heap.size v (textOf ns (xs.take i)) dx.data rfl (by exact OW6.out _) rfl (by have := HLE.out; have := HL.out; omega) (by have := HJ.out.bl.size; simp; omega) ?_; intro v' w7 hown7 hm7 hat7; obtain ⟨va, vc, rfl⟩ := OwnV.shape hown7; have ho7 := (hm7.block (w2.heap.size + 1) (by simp; omega) (fun e => by have := (HVG.out _ e).2; omega)).trans (HO6.out _); have co7 : w7.cell? ⟨w2.heap.size + 1, 0, none⟩ = some v := (by rw [cell_of_row _ _ _ _ _ _ ho7]; rfl); have fo7 : w7.frozen? ⟨w2.heap.size + 1, 0, none⟩ = false := Lib.frozen_of_heap ho7 0)
      have hm67 : Mod (fun k => k = w2.heap.size + 1 ∨ v.ownBlock = some k) W' w7 := ((Mod.of_below HB6.out).trans (Mod.alloc _ _ _)).trans (hm7.mono fun k _ h => .inr h)
      refine HJ.out.add HV.out HVG.out (hm67.trans (Mod.setCell _ _ (.inl rfl))) (by rw [Joins.block_setCell (i := 0) ho7]; rfl) ?_ ?_
      · rw [HNX.out]
        exact own_keepB hown7 fun g hg => Below.heap_setCell _ _ _ _ (by
          dsimp only
          rcases hat7 with e | ⟨g', e, hge⟩
          · have := (HVG.out g (by rw [← e]; exact hg)).2; omega
          · rw [hg] at e; cases e; simp at hge; omega)
      · rcases hat7 with e | ⟨g', e, hge⟩
        · exact .inl e
        · exact .inr ⟨g', e, by simp at hge; omega⟩
    · have hk5b : (dx.kind == 5) = false := by simpa using hk5
      rw [if_neg hk5] at HNX HLE
      clear hk5
      gi_wp2_with fail
      refine HJ.out.add HV.out HVG.out ((Mod.of_below HB6.out).trans (Mod.alloc (fun k => k = w2.heap.size + 1 ∨ v.ownBlock = some k) _ _)) (HO6.out _) ?_ (.inl rfl)
      rw [HNX.out, List.append_nil]
      exact OW6.out _
  case done =>
    rintro D G W hGD hj hD hK
    obtain ⟨v, hv, hown, -⟩ := hj.out
    rw [List.take_length] at hown
    have co : W.cell? ⟨w2.heap.size + 1, 0, none⟩ = some v := by rw [cell_of_row _ _ _ _ _ _ hv]; rfl
    have kc := own_convert hown
    have HB := Lib.hid hj.bl; have HKK := Lib.hid hK
    have hDw := hj.fg D hGD
    clear hj hK hown hv HJ0 HIT HSQ HW5
    gi_wp2_with fail
    refine ⟨by simp, .inl ⟨_, _, rfl, run_takeDeferred HKK.out, ?_⟩⟩
    exact ⟨_, by simp [results, Tryz.results16, go_sem], Ret.mk rfl (below_putA HB.out (by omega))⟩
  case stop => exact fun D G c i W _ _ h _ _ => h.elim
end Go.Proofs.YtdapdadcninidaaGreatDoor
