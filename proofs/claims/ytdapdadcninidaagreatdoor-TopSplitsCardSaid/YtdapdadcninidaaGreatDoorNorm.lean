/- Package dom: Normalize. No condition but that the nodes are linked well and the trees end. -/
import Derived.Test.YtdapdadcninidaaGreatDoorTxt
namespace Go.Proofs.YtdapdadcninidaaGreatDoor
open Go.RowKit
attribute [local go_sem] Oper.semAt_some

/-- What the loop keeps: o the block of all. -/
structure NmJ (B : Nat) (O : List Nat) (ns : List Nd) (xs : List Nat) (w : World) (o : Nat) (G : Nat → Prop) (i : Nat) (W : World) : Prop where
  out : ∃ v, W.heap[o]? = some (.cells #[v] 53 (0, 0)) ∧ W.ownsRow w.heap.size 3 1 v (xs.take i).length (kidCells (xs.take i)) ∧ ∀ g, v.ownBlock = some g → ¬ G g ∧ o < g
  ob : ¬ G o ∧ w.heap.size ≤ o
  ar : ArW B O ns W
  lo : ∀ k ∈ O, ¬ G k ∧ k < w.heap.size
  bl : Below w.heap.size w W
  fg : ∀ k, G k → w.heap.size ≤ k ∧ k < W.heap.size
theorem NmJ.kept {B : Nat} {O : List Nat} {ns : List Nd} {xs : List Nat} {w : World} {o i : Nat} {G G' : Nat → Prop} {A C : World} (h : NmJ B O ns xs w o G i A) (hm : Mod G A C) (hg : ∀ k, G' k → G k ∨ (A.heap.size ≤ k ∧ k < C.heap.size)) : NmJ B O ns xs w o G' i C := by
  obtain ⟨⟨v, h1, h2, h3⟩, ⟨h4, h5⟩, h8, h9, h10, h11⟩ := h
  have lo := (Array.getElem?_eq_some_iff.1 h1).1
  have hs := h10.size
  refine ⟨⟨v, (hm.block o lo h4).trans h1, row_keep h2 fun g hgv => hm.block g (ownsRow_lt h2 hgv) (h3 g hgv).1, fun g hgv => ⟨fun hG => (hg g hG).elim (h3 g hgv).1 (by have := ownsRow_lt h2 hgv; omega), (h3 g hgv).2⟩⟩,
    ⟨fun hG => (hg o hG).elim h4 (by omega), h5⟩, h8.kept hm fun k hk => (h9 k hk).1,
    fun k hk => ⟨fun hG => (hg k hG).elim (h9 k hk).1 (by have := (h9 k hk).2; omega), (h9 k hk).2⟩, h10.trans (hm.below h10.size fun k hk hG => by have := h11 k hG; omega), fun k hG => (hg k hG).elim (fun h => by have := h11 k h; have := hm.size; omega) (by omega)⟩
theorem NmJ.add {B : Nat} {O : List Nat} {ns : List Nd} {xs : List Nat} {w : World} {o i : Nat} {G : Nat → Prop} {A C : World} {v v' : Value} (h : NmJ B O ns xs w o G i A) (hv : A.heap[o]? = some (.cells #[v] 53 (0, 0))) (hvG : ∀ g, v.ownBlock = some g → ¬ G g ∧ o < g)
    (hm : Mod (fun k => k = o ∨ v.ownBlock = some k) A C) (ho : C.heap[o]? = some (.cells #[v'] 53 (0, 0))) (hown : C.ownsRow w.heap.size 3 1 v' (xs.take (i + 1)).length (kidCells (xs.take (i + 1)))) (hat : v'.ownBlock = v.ownBlock ∨ ∃ g, v'.ownBlock = some g ∧ A.heap.size ≤ g) :
    NmJ B O ns xs w o G (i + 1) C ∧ Mod (fun k => ¬ G k) A C := by
  obtain ⟨-, ⟨h4, h5⟩, h8, h9, h10, h11⟩ := h
  have lo := (Array.getElem?_eq_some_iff.1 hv).1
  have nS : ∀ k, k < w.heap.size → ¬ (k = o ∨ v.ownBlock = some k) := fun k hk h => h.elim (by omega) fun e => by have := (hvG k e).2; omega
  have hS : Mod (fun k => ¬ G k) A C := hm.mono fun k _ h => h.elim (fun e => e ▸ h4) fun e => (hvG k e).1
  refine ⟨⟨⟨v', ho, hown, fun g hg => ?_⟩, ⟨h4, h5⟩, h8.kept hm fun k hk => nS k (h9 k hk).2, h9, h10.trans (hm.below h10.size fun k hk => nS k hk), fun k hG => ⟨(h11 k hG).1, by have := (h11 k hG).2; have := hm.size; omega⟩⟩, hS⟩
  rcases hat with e | ⟨g', e, hge⟩
  · exact hvG g (by rw [← e]; exact hg)
  · rw [hg] at e
    cases e
    exact ⟨fun hG => by have := (h11 g hG).2; omega, by omega⟩
/-- The nodes behind joins below these. -/
def joins (ns : List Nd) (xs : List Nat) : List Nd := xs.foldl (fun n x => joinL n (kidsAt n (x : Nat))) ns
def JsOk : List Nd → List Nat → Prop
  | _, [] => True
  | ns, x :: xs => JOk ⟨ns, 0, []⟩ (kidsAt ns (x : Nat)) ∧ JsOk (joinL ns (kidsAt ns (x : Nat))) xs
theorem joins_next {ns : List Nd} {xs : List Nat} {i x : Nat} (hx : xs[i]? = some x) : joins ns (xs.take (i + 1)) = joinL (joins ns (xs.take i)) (kidsAt (joins ns (xs.take i)) (x : Nat)) := by
  obtain ⟨hi, rfl⟩ := List.getElem?_eq_some_iff.1 hx
  rw [List.take_succ_eq_append_getElem hi]
  unfold joins
  rw [List.foldl_append, List.foldl_cons, List.foldl_nil]
theorem astep_put {O O3 : List Nat} {w wr : World} {D : Nat} {o : Obj} (h : AStep O w O3 wr) (hD : w.heap.size ≤ D) : AStep O w O3 (wr.putObj D o) := by
  have hm : Mod (fun k => k = D) wr (wr.putObj D o) := Mod.putObj _ _ rfl
  exact ⟨⟨hm.os.trans h.mod.os, hm.tape.trans h.mod.tape, hm.output.trans h.mod.output, Nat.le_trans h.mod.size hm.size, fun k hk hO => (hm.block k (Nat.lt_of_lt_of_le hk h.mod.size) (by omega)).trans (h.mod.block k hk hO)⟩, h.own⟩
set_option maxRecDepth 100000 in
set_option maxHeartbeats 4000000 in
theorem Normalize_any (h : Int) (xs : List Nat) (w : World) {B : Nat} {O : List Nat} {ns : List Nd} (hA : ArW B O ns w) (hf : Fit ns) (hh : isH ns.length h = true) (hok : JOk ⟨ns, 0, []⟩ (kidsAt ns h)) (hf1 : Fit (joinL ns (kidsAt ns h)))
    (hS : Sub (kidsAt (joinL ns (kidsAt ns h))) (kidsAt (joinL ns (kidsAt ns h)) h) xs) (hjs : JsOk (joinL ns (kidsAt ns h)) xs) (hxl : xs.length ≤ 1000000) :
    Calls Tryz.prog 17 #[.pointer (some ⟨B, 0, none⟩), .int .i64 h] w fun e w' => e = .returned (.int .i64 0) ∧ ∃ O', ArW B O' (joins (joinL ns (kidsAt ns h)) xs) w' ∧ AStep O w O' w' := by
  obtain ⟨W0, hW0⟩ : ∃ W0, w.alloc (.cells #[.int .i64 h] 3) = W0 := ⟨_, rfl⟩
  have b0 : Below w.heap.size w W0 := by rw [← hW0]; exact balloc w _
  have hbx : W0.heap[w.heap.size]? = some (.cells #[.int .i64 h] 3 (0, 0)) := by rw [← hW0]; exact World.alloc_heap_new w _
  have hs0 : W0.heap.size = w.heap.size + 1 := by rw [← hW0]; simp
  have hA0 := hA.later b0
  have H1 := checkD_any (B := B) (H := w.heap.size) (c := 1) (-1) [h] W0 hA0 hf (by intro j v hj; match j, hj with | 0, hj => simp at hj; subst hj; rw [cell_of_row _ _ _ _ _ _ hbx]; rfl) (by simp) (by omega)
  rw [show chkD ns.length (-1) [h] = 0 by simp [chkD, chkFrom, hh]] at H1
  have H2 := Lib.hid (fun w' (hb : Below W0.heap.size W0 w') => join_any h w' (hA0.later hb) hok)
  have H1 := Lib.hid H1; have HW := Lib.hid hW0; have HB0 := Lib.hid b0; have HF1 := Lib.hid hf1; have HS := Lib.hid hS; have HJS := Lib.hid hjs
  clear hA hA0 hbx b0 hW0 hf hS hh hok hf1 hjs hs0
  generalize joinL ns (kidsAt ns h) = n1 at *
  obtain ⟨n, hn⟩ : ∃ n, 9 ≤ n := ⟨9, Nat.le_refl _⟩
  refine (callsIn_wide (n := n)).1 ?_
  refine callsIn_of_wp_marks Tryz.func17 rfl trivial ?_ rfl
  simp only [Tryz.ntmps17, List.size_toArray, List.length_cons, List.length_nil, Nat.reduceAdd, Nat.reduceSub, Array.replicate_succ, Array.replicate_zero, List.push_toArray, List.append_toArray, List.nil_append, List.cons_append]
  gi_wp2_with fail
  rw [HW.out]
  refine call_wide H1.out ?_ (by omega)
  rintro e w1 ⟨rfl, b1⟩
  have H3 := Lib.hid (H2.out w1 b1)
  have HB1 := Lib.hid b1
  clear b1 H1 H2
  gi_wp2_with fail
  refine call_wide H3.out ?_ (by omega)
  rintro e w2 ⟨rfl, O2, hA2, hs2⟩
  have HA2 := Lib.hid hA2; have HS2 := Lib.hid hs2
  clear hA2 hs2 H3
  gi_wp2_with fail
  generalize hW4 : w2.alloc _ = W4
  have hs4 : W4.heap.size = w2.heap.size + 1 := by rw [← hW4]; simp
  have hb4 : Below w2.heap.size w2 W4 := by rw [← hW4]; exact balloc _ _
  have ho4 : W4.heap[w2.heap.size]? = some (.cells #[.slice none 0 0] 53 (0, 0)) := by rw [← hW4]; exact World.alloc_heap_new _ _
  have H5 := Lib.hid (below_any h W4 B)
  obtain ⟨W5, hW5⟩ : ∃ W5, (W4.alloc (.cells #[.pointer (some ⟨B, 0, none⟩)] 23)).alloc (.cells #[.int .i64 h] 3) = W5 := ⟨_, rfl⟩
  obtain ⟨x0, x1, hs5, b5⟩ := two_new hW5
  have hb05 : Below w2.heap.size w2 W5 := bthen hb4 hb4.size b5
  have hJ0 : NmJ B O2 n1 xs w2 w2.heap.size (fun _ => False) 0 W5 :=
    ⟨⟨_, (b5.block _ (by omega)).trans ho4, ⟨rfl, .inl ⟨rfl, rfl⟩⟩, (fun g hg => by cases hg)⟩, ⟨fun h => h, Nat.le_refl _⟩, HA2.out.later hb05, fun k hk => ⟨fun h => h, HA2.out.lt hk⟩, hb05, fun k h => h.elim⟩
  have hit := fun n hn => below_iter h xs n hn W5 (B := B) (ab := W4.heap.size) (hb := W4.heap.size + 1) HS.out (by rw [cell_of_row _ _ _ _ _ _ x0]; rfl) (by rw [cell_of_row _ _ _ _ _ _ x1]; rfl)
  have HJ0 := Lib.hid hJ0; have HIT := Lib.hid hit; have HW5 := Lib.hid hW5
  have HS4 := Lib.hid hs4; have HS5 := Lib.hid hs5
  clear hs4 hs5 ho4 hb4 hb05 x0 x1 b5 hJ0 hit hW4 hW5
  refine call_wide H5.out ?_ (by omega)
  rintro e w5 ⟨rfl, rfl⟩
  rw [HW5.out]
  clear H5
  gi_wp2_with fail
  have HSQ := Lib.hid (HIT.out (n - 1) (by omega))
  refine wpIn_rangeFunc_itf (gf := 98) (lb := #[.pointer (some ⟨W4.heap.size, 0, none⟩), .pointer (some ⟨W4.heap.size + 1, 0, none⟩)]) (encs := fun x : Nat => #[.int .i64 (x : Nat)]) (xs := xs) (I := fun _ => False) (Pr := PrK B (kidsAt n1)) rfl (by omega) rfl trivial enter_below1 HSQ.out (fun k h => h.elim) (fun x => rfl)
    (fun G i W => NmJ B O2 n1 xs w2 w2.heap.size G i W) (fun _ _ _ _ => False) ?keep ?keepx ?pr ?start ?round ?done ?stop
  case keep => exact fun G G' i A C h hm hg => h.kept hm hg
  case keepx => exact fun _ _ _ _ _ _ h _ _ => h
  case pr => exact fun G i A h => ⟨O2, n1, h.ar, HF1.out, fun _ => rfl⟩
  case start =>
    intro G W hW hG
    exact HJ0.out.kept (Mod.of_below hW) fun k hk => (hG k hk).elim False.elim fun h => .inr h
  case round =>
    rintro lp x W
    gi_wp2_with fail
    refine ⟨trivial, ?_⟩
    rintro G i W' hx hj hG hsz
    have HJ := Lib.hid hj; have HX := Lib.hid hx
    have hil : i < xs.length := (List.getElem?_eq_some_iff.1 hx).1
    obtain ⟨v, hv, hown, hvG⟩ := hj.out
    have hol := (Array.getElem?_eq_some_iff.1 hv).1
    have hwl := hj.bl.size
    have co6 : W'.cell? ⟨w2.heap.size, 0, none⟩ = some v := by rw [cell_of_row _ _ _ _ _ _ hv]; rfl
    have HNX := Lib.hid (show kidCells (xs.take (i + 1)) = kidCells (xs.take i) ++ [.int .i64 (x : Nat)] by
      obtain ⟨hi, he⟩ := List.getElem?_eq_some_iff.1 hx
      rw [List.take_succ_eq_append_getElem hi, he]; simp [kidCells, natV])
    have htl : (xs.take i).length = i := by simp; omega
    have htl1 : (xs.take (i + 1)).length = i + 1 := by simp; omega
    rw [htl] at hown
    have hkc : (kidCells (xs.take i)).length = i := by rw [kidCells_len, htl]
    have OW6 := Lib.hid hown
    have HVG := Lib.hid hvG; have HV := Lib.hid hv; have HKC := Lib.hid hkc
    clear hvG hown hv hj hx HJ0 HIT HSQ HW5 HB0 HB1 HA2 HS2 HS HJS htl hkc
    gi_wp2_with (gi_at_builtin; refine in_append_int rfl _ _ rfl w2.heap.size v (kidCells (xs.take i)) (.int .i64 (x : Nat)) rfl (by rw [HKC.out]; exact OW6.out) rfl rfl (by rw [HKC.out]; omega) hwl ?_; intro v' w7 hown7 hm7 hat7; obtain ⟨va, vc, rfl⟩ := ownsRow_slice hown7; have ho7 := (hm7.block w2.heap.size hol (fun e => by have := (HVG.out _ e).2; omega)).trans HV.out; have co7 : w7.cell? ⟨w2.heap.size, 0, none⟩ = some v := (by rw [cell_of_row _ _ _ _ _ _ ho7]; rfl); have fo7 : w7.frozen? ⟨w2.heap.size, 0, none⟩ = false := Lib.frozen_of_heap ho7 0)
    have hat8 := hat7
    rw [HKC.out] at hown7 hat7
    have hm67 : Mod (fun k => k = w2.heap.size ∨ v.ownBlock = some k) W' w7 := hm7.mono fun k _ h => .inr h
    refine HJ.out.add HV.out HVG.out (hm67.trans (Mod.setCell _ _ (.inl rfl))) (by rw [Joins.block_setCell (i := 0) ho7]; rfl) ?_ ?_
    · rw [HNX.out, htl1]
      rw [HKC.out]
      exact row_keep hown7 fun g hg => Below.heap_setCell _ _ _ _ (by
        dsimp only
        rcases hat7 with e | ⟨g', e, hge⟩
        · have := (HVG.out g (by rw [← e]; exact hg)).2; omega
        · rw [hg] at e; cases e; omega)
    · rcases hat8 with e | ⟨g', e, hge⟩
      · exact .inl e
      · exact .inr ⟨g', e, hge⟩
  case done =>
    rintro D G W hGD hj hD hK
    obtain ⟨v, hv, hown, -⟩ := hj.out
    rw [List.take_length] at hown
    obtain ⟨va, vc, rfl⟩ := ownsRow_slice hown
    have co : W.cell? ⟨w2.heap.size, 0, none⟩ = some (.slice va xs.length vc) := by rw [cell_of_row _ _ _ _ _ _ hv]; rfl
    have hDw := hj.fg D hGD
    have HJ := Lib.hid hj; have HKK := Lib.hid hK; have HOW := Lib.hid hown
    clear hj hK hown hv hD HJ0 HIT HSQ HW5
    gi_wp2_with fail
    gi_loopw [30] (fun i wr => ∃ (j : Nat) (O3 : List Nat), j ≤ xs.length ∧ i = .int .i64 (j : Nat) ∧ ArW B O3 (joins n1 (xs.take j)) wr ∧ AStep O2 W O3 wr ∧ JsOk (joins n1 (xs.take j)) (xs.drop j)) (fun i _ => xs.length - (intOf i).toNat)
    case atStart => exact ⟨0, O2, Nat.zero_le _, rfl, HJ.out.ar, AStep.refl _ _, HJS.out⟩
    case round =>
      obtain ⟨j, O3, hj, rfl, hA3, hs3, hjs⟩ := hrel
      have hO : ∀ k, w2.heap.size ≤ k → ¬ k ∈ O2 := fun k hk h => by have := (HJ.out.lo k h).2; omega
      have HA3 := Lib.hid hA3; have HS3 := Lib.hid hs3; have HJS3 := Lib.hid hjs; have HO := Lib.hid hO
      clear hA3 hs3 hjs hO
      by_cases hlt : j < xs.length
      · obtain ⟨gk, rfl⟩ := row_someA HOW.out (by omega)
        have hcell := row_at (ownsRow_mod HOW.out HS3.out.mod fun g hg => HO.out g (by
          rcases HOW.out.2 with ⟨e, _⟩ | ⟨g', cap, cur, e, hge, _⟩
          · cases e
          · cases e; simp [Value.ownBlock] at hg; omega)) j (natV xs[j]) (by simp [kidCells, hlt])
        have hdr : xs.drop j = xs[j] :: xs.drop (j + 1) := List.drop_eq_getElem_cons hlt
        have hnx := joins_next (ns := n1) (List.getElem?_eq_getElem hlt)
        have hjs := HJS3.out
        rw [hdr] at hjs
        obtain ⟨hok1, hjs2⟩ := hjs
        rw [← hnx] at hjs2
        obtain ⟨k, hk⟩ : ∃ k, xs[j] = k := ⟨_, rfl⟩
        rw [hk] at hcell hok1 hnx
        have H6 := Lib.hid (join_any (k : Nat) wr HA3.out hok1)
        rw [← hnx] at H6
        have HJ2 := Lib.hid hjs2
        have hji : (j : Int) < (xs.length : Int) := by omega
        simp only [natV] at hcell
        clear hdr hnx hok1 hjs2 hk
        gi_wp2_with fail
        refine call_wide H6.out ?_ (by omega)
        rintro e w7 ⟨rfl, O4, hA4, hs4⟩
        have HA4 := Lib.hid hA4; have HS4 := Lib.hid (HS3.out.trans hs4)
        clear hA4 hs4 H6
        gi_wp2_with fail
        go_roundw
        case rel => exact ⟨j + 1, O4, by omega, by go_num, HA4.out, HS4.out, HJ2.out⟩
        case measure => simp [intOf]; omega
      · have hje : j = xs.length := by omega
        subst hje
        rw [List.take_length] at HA3
        have hKr : wr.heap[D]? = some (.deferred (some [])) := (HS3.out.mod.block D hDw.2 (HO.out D hDw.1)).trans HKK.out
        have HKR := Lib.hid hKr
        have hSt : AStep O w O3 wr := ((astep_pre (bthen HB0.out HB0.out.size HB1.out) HS2.out).trans ⟨Mod.of_below HJ.out.bl, fun k hk => .inl hk⟩).trans HS3.out
        have HST := Lib.hid hSt
        have HX := Lib.hid (HA3.out.kept (Mod.putObj (S := fun k => k = D) wr (.deferred none) rfl) fun k hk e => by
          subst e
          rcases HS3.out.own k hk with h | h
          · exact HO.out k hDw.1 h
          · have := hDw.2; omega)
        clear hKr hSt
        gi_wp2_with fail
        refine ⟨by simp, .inl ⟨_, _, rfl, run_takeDeferred HKR.out, ?_⟩⟩
        exact ⟨_, by simp [results, Tryz.results17, go_sem], rfl, O3, HX.out, astep_put HST.out (by have h1 := HB0.out.size; have h2 := HB1.out.size; have h3 := HS2.out.mod.size; have h4 := hDw.1; omega)⟩
  case stop => exact fun D G c i W _ _ h _ _ => h.elim
end Go.Proofs.YtdapdadcninidaaGreatDoor
