/- Package arena: a node's description. -/
import Derived.Test.YtdapdadcninidaaGreatDoorAr5
import Derived.Deep.RegionLaw
namespace Go.Proofs.YtdapdadcninidaaGreatDoor
open Go.RowKit
attribute [local go_sem ↓] Go.wp_at_zero Go.wp_at_succ

theorem ownsRow_slice {w : World} {b n s : Nat} {e : TypeId} {v : Value} {xs : List Value} (h : w.ownsRow b e s v n xs) : ∃ a c, v = .slice a n c := by
  rcases h.2 with ⟨rfl, rfl⟩ | ⟨g, cap, cur, rfl, _⟩
  · exact ⟨_, _, rfl⟩
  · exact ⟨_, _, rfl⟩
theorem two_new {w W0 : World} {o1 o2 : Obj} (h : (w.alloc o1).alloc o2 = W0) : W0.heap[w.heap.size]? = some o1 ∧ W0.heap[w.heap.size + 1]? = some o2 ∧ W0.heap.size = w.heap.size + 2 ∧ Below w.heap.size w W0 := by
  subst h
  have e1 := World.alloc_heap_new (w.alloc o1) o2
  rw [World.size_alloc] at e1
  exact ⟨(Below.heap_alloc _ _ _ (by simp)).trans (World.alloc_heap_new w o1), e1, by simp, (balloc w o1).alloc (by simp) o2⟩
theorem below_drew {n : Nat} {w w' : World} (h : Below n w w') : Below n w w'.drew := ⟨h.os, h.tape, h.output, h.size, h.block⟩
/-- The call returns a description: its two slices are the caller's own. -/
def DescRet (w : World) (d : Nd) (v : Value) (w' : World) : Prop := ∃ kv av, v = .agg (ndCells d kv av).toArray ∧ w'.ownsRow w.heap.size 3 1 kv d.kids.length (kidCells d.kids) ∧ w'.ownsRow w.heap.size 121 3 av d.attrs.length (attCells d.attrs) ∧ Below w.heap.size w w'
theorem setCells_all {w : World} {b : Nat} {T : TypeId} {fz : Nat × Nat} {cur : Array Value} (vs : List Value) (h : w.heap[b]? = some (.cells cur T fz)) (hs : cur.size = vs.length) (j : Nat) (v : Value) (hj : vs[j]? = some v) : (w.setCells b 0 vs).cell? ⟨b, j, none⟩ = some v := by
  obtain ⟨hl, rfl⟩ := List.getElem?_eq_some_iff.1 hj
  have := World.cell?_setCells_in b vs 0 w (fun k hk => by rw [Nat.zero_add]; exact cell_some h k (by omega)) j hl
  rwa [Nat.zero_add] at this
theorem ret_named {P : Program} {f : Func} {Q : Ending → World → Prop} {a : Act} {W : World} (h : ∀ W3, W3 = W → bodyPost P f Q .ret a W3) : bodyPost P f Q .ret a W := h W rfl
theorem desc_done {d : Nd} {w W0 w1 w2 W3 : World} {kv av : Value} (b0 : Below w.heap.size w W0) (hs : w.heap.size + 1 < W0.heap.size) (b1 : Below W0.heap.size W0 w1) (a1 : Below w1.heap.size w1 w2) (h1 : w1.ownsRow W0.heap.size 3 1 kv d.kids.length (kidCells d.kids))
    (h2 : w2.ownsRow w1.heap.size 121 3 av d.attrs.length (attCells d.attrs)) (hm : Mod (fun k => k = w.heap.size ∨ k = w.heap.size + 1) w2 W3) : DescRet w d (.agg (ndCells d kv av).toArray) W3 := by
  have hb2 : Below w.heap.size w w2 := bthen (bthen b0 b0.size b1) (by have := b0.size; have := b1.size; omega) a1
  have hs1 := b1.size
  have low : ∀ {b n s : Nat} {e : TypeId} {v : Value} {xs : List Value}, w2.ownsRow b e s v n xs → W0.heap.size ≤ b → W3.ownsRow w.heap.size e s v n xs := by
    intro b n s e v xs h hbb
    have h' := ownsRow_mod h hm (fun g hg hS => by
      rcases h.2 with ⟨rfl, _⟩ | ⟨g', cap, cur, rfl, hg', _⟩
      · simp [Value.ownBlock] at hg
      · simp [Value.ownBlock] at hg; omega)
    refine ⟨h'.1, ?_⟩
    rcases h'.2 with h' | ⟨g, cap, cur, hv, hg, r⟩
    · exact .inl h'
    · exact .inr ⟨g, cap, cur, hv, by omega, r⟩
  refine ⟨kv, av, rfl, low (ownsRow_below h1 a1) (Nat.le_refl _), low h2 hs1, ⟨hm.os.trans hb2.os, hm.tape.trans hb2.tape, hm.output.trans hb2.output, Nat.le_trans hb2.size hm.size, fun k hk => (hm.block k (Nat.lt_of_lt_of_le hk hb2.size) (by omega)).trans (hb2.block k hk)⟩⟩
set_option maxRecDepth 100000 in
set_option maxHeartbeats 8000000 in
theorem describe_any (d : Nd) (kv av : Value) (w : World) {g o : Nat} (hn : NdIs w g o d kv av) (hg : g < w.heap.size) (hk : w.ownsRow 0 3 1 kv d.kids.length (kidCells d.kids)) (ha : w.ownsRow 0 121 3 av d.attrs.length (attCells d.attrs))
    (hkl : d.kids.length ≤ 1000000) (hal : d.attrs.length ≤ 1000000) :
    Calls Tryz.prog 61 #[.pointer (some ⟨g, o, none⟩)] w fun e w' => ∃ v, e = .returned v ∧ DescRet w d v w' := by
  have H3 := Lib.hid (fun w' (hb : Below w.heap.size w w') => kidClone_any _ kv w' (ownsRow_below hk hb) (by omega))
  have H4 := Lib.hid (fun w' (hb : Below w.heap.size w w') => attClone_any _ av w' (ownsRow_below ha hb) (by omega))
  obtain ⟨c0, c1, c2, c3, c4, c5, c6, c7, c8, c9, c10, c11, c12, -⟩ := hn
  obtain ⟨ka, kc, rfl⟩ := ownsRow_slice hk
  obtain ⟨aa, ac, rfl⟩ := ownsRow_slice ha
  clear hk ha
  go_enter Tryz.func61, Tryz.ntmps61
  go_wp2_with fail
  generalize hW0 : (w.alloc _).alloc _ = W0
  obtain ⟨hb0, hbx, hs0, b0⟩ := two_new hW0
  have HBX := Lib.hid hbx; have HB0 := Lib.hid hb0; have B0 := Lib.hid b0
  have k2 := (b0.cell (p := ⟨g, o + 2, none⟩) hg).trans c2
  have k6 := (b0.cell (p := ⟨g, o + 6, none⟩) hg).trans c6
  have hga : g < W0.heap.size := by omega
  have e0 : W0.cell? ⟨w.heap.size + 1, 2, none⟩ = some (.slice ka d.kids.length kc) := by rw [cell_of_row _ _ _ _ _ _ hbx]; rfl
  have e1 : W0.cell? ⟨w.heap.size + 1, 6, none⟩ = some (.slice aa d.attrs.length ac) := by rw [cell_of_row _ _ _ _ _ _ hbx]; rfl
  have e2 : W0.frozen? ⟨w.heap.size + 1, 2, none⟩ = false := Lib.frozen_of_heap hbx _
  have e3 : W0.frozen? ⟨w.heap.size + 1, 6, none⟩ = false := Lib.frozen_of_heap hbx _
  have hs1 : w.heap.size + 1 < W0.heap.size := by omega
  have hgs : g ≠ w.heap.size + 1 := by omega
  clear hW0 hbx hb0 b0 c0 c1 c2 c3 c4 c5 c6 c7 c8 c9 c10 c11 c12 hs0
  go_region_with ((first
    | (go_at_call 111
       refine (H3.out _ (by first | exact B0.out | exact below_drew B0.out | exact bthen B0.out B0.out.size a1 | exact below_drew (bthen B0.out B0.out.size a1) | exact bthen B0.out B0.out.size (bdrew a1) | exact below_drew (bthen B0.out B0.out.size (bdrew a1)))).mono ?_
       rintro e w1 ⟨kv', rfl, hr1, b1⟩
       have p2 := (b1.cell (p := ⟨g, o + 2, none⟩) (by first | exact hga | exact gb1)).trans (by first | exact k2 | exact q2)
       have p6 := (b1.cell (p := ⟨g, o + 6, none⟩) (by first | exact hga | exact gb1)).trans (by first | exact k6 | exact q6)
       have r0 := (b1.cell (p := ⟨w.heap.size + 1, 2, none⟩) (by first | exact hs1 | exact gb2)).trans (by first | exact e0 | exact s0)
       have r1 := (b1.cell (p := ⟨w.heap.size + 1, 6, none⟩) (by first | exact hs1 | exact gb2)).trans (by first | exact e1 | exact s1)
       have r2 := (b1.frozen (p := ⟨w.heap.size + 1, 2, none⟩) (by first | exact hs1 | exact gb2)).trans (by first | exact e2 | exact s2)
       have r3 := (b1.frozen (p := ⟨w.heap.size + 1, 6, none⟩) (by first | exact hs1 | exact gb2)).trans (by first | exact e3 | exact s3)
       have ga1 := Nat.lt_of_lt_of_le (by first | exact hga | exact gb1) b1.size
       have ga2 := Nat.lt_of_lt_of_le (by first | exact hs1 | exact gb2) b1.size
       obtain ⟨kx, ky, rfl⟩ := ownsRow_slice hr1)
    | (go_at_call 112
       refine (H4.out _ (by first | exact B0.out | exact below_drew B0.out | exact bthen B0.out B0.out.size b1 | exact below_drew (bthen B0.out B0.out.size b1) | exact bthen B0.out B0.out.size (bdrew b1) | exact below_drew (bthen B0.out B0.out.size (bdrew b1)))).mono ?_
       rintro e w2 ⟨av', rfl, hr2, a1⟩
       have q2 := (a1.cell (p := ⟨g, o + 2, none⟩) (by first | exact hga | exact ga1)).trans (by first | exact k2 | exact p2)
       have q6 := (a1.cell (p := ⟨g, o + 6, none⟩) (by first | exact hga | exact ga1)).trans (by first | exact k6 | exact p6)
       have s0 := (a1.cell (p := ⟨w.heap.size + 1, 2, none⟩) (by first | exact hs1 | exact ga2)).trans (by first | exact e0 | exact r0)
       have s1 := (a1.cell (p := ⟨w.heap.size + 1, 6, none⟩) (by first | exact hs1 | exact ga2)).trans (by first | exact e1 | exact r1)
       have s2 := (a1.frozen (p := ⟨w.heap.size + 1, 2, none⟩) (by first | exact hs1 | exact ga2)).trans (by first | exact e2 | exact r2)
       have s3 := (a1.frozen (p := ⟨w.heap.size + 1, 6, none⟩) (by first | exact hs1 | exact ga2)).trans (by first | exact e3 | exact r3)
       have gb1 := Nat.lt_of_lt_of_le (by first | exact hga | exact ga1) a1.size
       have gb2 := Nat.lt_of_lt_of_le (by first | exact hs1 | exact ga2) a1.size
       obtain ⟨ax, ay, rfl⟩ := ownsRow_slice hr2)))
  all_goals
    have hbx2 := (a1.block (w.heap.size + 1) ga2).trans ((b1.block (w.heap.size + 1) hs1).trans HBX.out)
    have hb02 := (a1.block w.heap.size (Nat.lt_of_succ_lt ga2)).trans ((b1.block w.heap.size (Nat.lt_of_succ_lt hs1)).trans HB0.out)
    have hfin : ∀ W3, Mod (fun k => k = w.heap.size ∨ k = w.heap.size + 1) w2 W3 → _ := fun W3 hm => desc_done B0.out hs1 (by first | exact b1 | exact bdrew b1) (by first | exact a1 | exact bdrew a1) hr1 hr2 hm
    have HF := Lib.hid hfin
    clear hfin hr1 hr2 b1 a1 p2 p6 r0 r1 r2 r3 q2 q6 s0 s1 k2 k6 e0 e1 e2 e3
    have d0 : w2.cell? ⟨w.heap.size + 1, 0, none⟩ = _ := (cell_of_row w2 (w.heap.size + 1) 0 _ _ _ hbx2)
    have z0 : w2.cell? ⟨w.heap.size, 0, none⟩ = _ := (cell_of_row w2 w.heap.size 0 _ _ _ hb02)
    have y0 : w2.frozen? ⟨w.heap.size, 0, none⟩ = false := Lib.frozen_of_heap hb02 _
    have d1 : w2.cell? ⟨w.heap.size + 1, 1, none⟩ = _ := (cell_of_row w2 (w.heap.size + 1) 1 _ _ _ hbx2)
    have z1 : w2.cell? ⟨w.heap.size, 1, none⟩ = _ := (cell_of_row w2 w.heap.size 1 _ _ _ hb02)
    have y1 : w2.frozen? ⟨w.heap.size, 1, none⟩ = false := Lib.frozen_of_heap hb02 _
    have d2 : w2.cell? ⟨w.heap.size + 1, 2, none⟩ = _ := (cell_of_row w2 (w.heap.size + 1) 2 _ _ _ hbx2)
    have z2 : w2.cell? ⟨w.heap.size, 2, none⟩ = _ := (cell_of_row w2 w.heap.size 2 _ _ _ hb02)
    have y2 : w2.frozen? ⟨w.heap.size, 2, none⟩ = false := Lib.frozen_of_heap hb02 _
    have d3 : w2.cell? ⟨w.heap.size + 1, 3, none⟩ = _ := (cell_of_row w2 (w.heap.size + 1) 3 _ _ _ hbx2)
    have z3 : w2.cell? ⟨w.heap.size, 3, none⟩ = _ := (cell_of_row w2 w.heap.size 3 _ _ _ hb02)
    have y3 : w2.frozen? ⟨w.heap.size, 3, none⟩ = false := Lib.frozen_of_heap hb02 _
    have d4 : w2.cell? ⟨w.heap.size + 1, 4, none⟩ = _ := (cell_of_row w2 (w.heap.size + 1) 4 _ _ _ hbx2)
    have z4 : w2.cell? ⟨w.heap.size, 4, none⟩ = _ := (cell_of_row w2 w.heap.size 4 _ _ _ hb02)
    have y4 : w2.frozen? ⟨w.heap.size, 4, none⟩ = false := Lib.frozen_of_heap hb02 _
    have d5 : w2.cell? ⟨w.heap.size + 1, 5, none⟩ = _ := (cell_of_row w2 (w.heap.size + 1) 5 _ _ _ hbx2)
    have z5 : w2.cell? ⟨w.heap.size, 5, none⟩ = _ := (cell_of_row w2 w.heap.size 5 _ _ _ hb02)
    have y5 : w2.frozen? ⟨w.heap.size, 5, none⟩ = false := Lib.frozen_of_heap hb02 _
    have d6 : w2.cell? ⟨w.heap.size + 1, 6, none⟩ = _ := (cell_of_row w2 (w.heap.size + 1) 6 _ _ _ hbx2)
    have z6 : w2.cell? ⟨w.heap.size, 6, none⟩ = _ := (cell_of_row w2 w.heap.size 6 _ _ _ hb02)
    have y6 : w2.frozen? ⟨w.heap.size, 6, none⟩ = false := Lib.frozen_of_heap hb02 _
    have d7 : w2.cell? ⟨w.heap.size + 1, 7, none⟩ = _ := (cell_of_row w2 (w.heap.size + 1) 7 _ _ _ hbx2)
    have z7 : w2.cell? ⟨w.heap.size, 7, none⟩ = _ := (cell_of_row w2 w.heap.size 7 _ _ _ hb02)
    have y7 : w2.frozen? ⟨w.heap.size, 7, none⟩ = false := Lib.frozen_of_heap hb02 _
    have d8 : w2.cell? ⟨w.heap.size + 1, 8, none⟩ = _ := (cell_of_row w2 (w.heap.size + 1) 8 _ _ _ hbx2)
    have z8 : w2.cell? ⟨w.heap.size, 8, none⟩ = _ := (cell_of_row w2 w.heap.size 8 _ _ _ hb02)
    have y8 : w2.frozen? ⟨w.heap.size, 8, none⟩ = false := Lib.frozen_of_heap hb02 _
    have d9 : w2.cell? ⟨w.heap.size + 1, 9, none⟩ = _ := (cell_of_row w2 (w.heap.size + 1) 9 _ _ _ hbx2)
    have z9 : w2.cell? ⟨w.heap.size, 9, none⟩ = _ := (cell_of_row w2 w.heap.size 9 _ _ _ hb02)
    have y9 : w2.frozen? ⟨w.heap.size, 9, none⟩ = false := Lib.frozen_of_heap hb02 _
    have d10 : w2.cell? ⟨w.heap.size + 1, 10, none⟩ = _ := (cell_of_row w2 (w.heap.size + 1) 10 _ _ _ hbx2)
    have z10 : w2.cell? ⟨w.heap.size, 10, none⟩ = _ := (cell_of_row w2 w.heap.size 10 _ _ _ hb02)
    have y10 : w2.frozen? ⟨w.heap.size, 10, none⟩ = false := Lib.frozen_of_heap hb02 _
    have d11 : w2.cell? ⟨w.heap.size + 1, 11, none⟩ = _ := (cell_of_row w2 (w.heap.size + 1) 11 _ _ _ hbx2)
    have z11 : w2.cell? ⟨w.heap.size, 11, none⟩ = _ := (cell_of_row w2 w.heap.size 11 _ _ _ hb02)
    have y11 : w2.frozen? ⟨w.heap.size, 11, none⟩ = false := Lib.frozen_of_heap hb02 _
    have d12 : w2.cell? ⟨w.heap.size + 1, 12, none⟩ = _ := (cell_of_row w2 (w.heap.size + 1) 12 _ _ _ hbx2)
    have z12 : w2.cell? ⟨w.heap.size, 12, none⟩ = _ := (cell_of_row w2 w.heap.size 12 _ _ _ hb02)
    have y12 : w2.frozen? ⟨w.heap.size, 12, none⟩ = false := Lib.frozen_of_heap hb02 _
    simp only [List.getElem?_toArray, List.getElem?_cons_zero, List.getElem?_cons_succ] at d0 z0 d1 z1 d2 z2 d3 z3 d4 z4 d5 z5 d6 z6 d7 z7 d8 z8 d9 z9 d10 z10 d11 z11 d12 z12
    have HB2 := Lib.hid hb02
    clear hbx2 hb02
    go_wp2_with fail
    refine ret_named fun W3 hW3 => ?_
    have hm3 : Mod (fun k => k = w.heap.size ∨ k = w.heap.size + 1) w2 W3 := by
      rw [hW3]
      iterate 13 refine Mod.trans ?_ (Mod.setCell _ _ (.inl rfl))
      iterate 2 refine Mod.trans ?_ (Mod.setCell _ _ (.inr rfl))
      exact Mod.refl _ _
    have hall : ∀ j v, (ndCells d (.slice kx d.kids.length ky) (.slice ax d.attrs.length ay))[j]? = some v → W3.cell? ⟨w.heap.size, j, none⟩ = some v := by
      rw [hW3]
      have h0 := (Below.heap_setCell (w2.setCell ⟨w.heap.size + 1, 2, none⟩ (.slice kx d.kids.length ky)) ⟨w.heap.size + 1, 6, none⟩ (.slice ax d.attrs.length ay) w.heap.size (by simp)).trans ((Below.heap_setCell w2 ⟨w.heap.size + 1, 2, none⟩ (.slice kx d.kids.length ky) w.heap.size (by simp)).trans HB2.out)
      exact setCells_all (ndCells d (.slice kx d.kids.length ky) (.slice ax d.attrs.length ay)) h0 rfl
    have hfin := HF.out W3 hm3
    have HF3 := Lib.hid hfin
    clear hfin hW3 hm3 d0 z0 y0 d1 z1 y1 d2 z2 y2 d3 z3 y3 d4 z4 y4 d5 z5 y5 d6 z6 y6 d7 z7 y7 d8 z8 y8 d9 z9 y9 d10 z10 y10 d11 z11 y11 d12 z12 y12
    have q0 := hall 0 _ rfl
    have q1 := hall 1 _ rfl
    have q2 := hall 2 _ rfl
    have q3 := hall 3 _ rfl
    have q4 := hall 4 _ rfl
    have q5 := hall 5 _ rfl
    have q6 := hall 6 _ rfl
    have q7 := hall 7 _ rfl
    have q8 := hall 8 _ rfl
    have q9 := hall 9 _ rfl
    have q10 := hall 10 _ rfl
    have q11 := hall 11 _ rfl
    have q12 := hall 12 _ rfl
    clear hall
    exact bodyPost_ret (v := .agg (ndCells d (.slice kx d.kids.length ky) (.slice ax d.attrs.length ay)).toArray) (by simp [results, Tryz.results61, go_sem, ndCells, q0, q1, q2, q3, q4, q5, q6, q7, q8, q9, q10, q11, q12]) rfl ⟨_, rfl, HF3.out⟩
end Go.Proofs.YtdapdadcninidaaGreatDoor
