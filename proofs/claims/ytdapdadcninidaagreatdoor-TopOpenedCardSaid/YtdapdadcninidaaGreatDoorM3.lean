/- Package arena: a node's description. Package arena: Node. Package arena: SetData; the children of a node are replaced. Package arena: the children of a node are replaced; cut. Package arena: cut and Cut. Package dom: check, kind, document. No condition but that the arena fits. -/
import Derived.Test.YtdapdadcninidaaGreatDoorM2
import Derived.Deep.RegionLaw
set_option linter.unusedSimpArgs false
set_option linter.unusedVariables false
namespace Go.Proofs.YtdapdadcninidaaGreatDoor
open Go.RowKit
attribute [local go_sem ↓] Go.wp_at_zero Go.wp_at_succ

theorem ownsRow_slice {w : World} {b n s : Nat} {e : TypeId} {v : Value} {xs : List Value} (h : w.ownsRow b e s v n xs) : ∃ a c, v = .slice a n c := by
  rcases h.2 with ⟨rfl, rfl⟩ | ⟨g, cap, cur, rfl, _⟩
  · exact ⟨_, _, rfl⟩
  · exact ⟨_, _, rfl⟩
theorem two_new {w W0 : World} {o1 o2 : Obj} (h : (w.alloc o1).alloc o2 = W0) : W0.heap[w.heap.size]? = some o1 ∧ W0.heap[w.heap.size + 1]? = some o2 ∧ W0.heap.size = w.heap.size + 2 ∧ Below w.heap.size w W0 := by
  subst h
  have e1 := World.alloc_heap_new (w.alloc o1) o2
  rw [World.size_alloc] at e1
  exact ⟨(Below.heap_alloc _ _ _ (by simp)).trans (World.alloc_heap_new w o1), e1, by simp, (balloc w o1).alloc (by simp) o2⟩
theorem below_drew {n : Nat} {w w' : World} (h : Below n w w') : Below n w w'.drew := ⟨h.os, h.tape, h.output, h.size, h.block⟩
/-- The call returns a description: its two slices are the caller's own. -/
def DescRet (w : World) (d : Nd) (v : Value) (w' : World) : Prop := ∃ kv av, v = .agg (ndCells d kv av).toArray ∧ w'.ownsRow w.heap.size 3 1 kv d.kids.length (kidCells d.kids) ∧ w'.ownsRow w.heap.size 121 3 av d.attrs.length (attCells d.attrs) ∧ Below w.heap.size w w'
theorem setCells_all {w : World} {b : Nat} {T : TypeId} {fz : Nat × Nat} {cur : Array Value} (vs : List Value) (h : w.heap[b]? = some (.cells cur T fz)) (hs : cur.size = vs.length) (j : Nat) (v : Value) (hj : vs[j]? = some v) : (w.setCells b 0 vs).cell? ⟨b, j, none⟩ = some v := by
  obtain ⟨hl, rfl⟩ := List.getElem?_eq_some_iff.1 hj
  have := World.cell?_setCells_in b vs 0 w (fun k hk => by rw [Nat.zero_add]; exact cell_some h k (by omega)) j hl
  rwa [Nat.zero_add] at this
theorem ret_named {P : Program} {f : Func} {Q : Ending → World → Prop} {a : Act} {W : World} (h : ∀ W3, W3 = W → bodyPost P f Q .ret a W3) : bodyPost P f Q .ret a W := h W rfl
theorem desc_done {d : Nd} {w W0 w1 w2 W3 : World} {kv av : Value} (b0 : Below w.heap.size w W0) (hs : w.heap.size + 1 < W0.heap.size) (b1 : Below W0.heap.size W0 w1) (a1 : Below w1.heap.size w1 w2) (h1 : w1.ownsRow W0.heap.size 3 1 kv d.kids.length (kidCells d.kids))
    (h2 : w2.ownsRow w1.heap.size 121 3 av d.attrs.length (attCells d.attrs)) (hm : Mod (fun k => k = w.heap.size ∨ k = w.heap.size + 1) w2 W3) : DescRet w d (.agg (ndCells d kv av).toArray) W3 := by
  have hb2 : Below w.heap.size w w2 := bthen (bthen b0 b0.size b1) (by have := b0.size; have := b1.size; omega) a1
  have hs1 := b1.size
  have low : ∀ {b n s : Nat} {e : TypeId} {v : Value} {xs : List Value}, w2.ownsRow b e s v n xs → W0.heap.size ≤ b → W3.ownsRow w.heap.size e s v n xs := by
    intro b n s e v xs h hbb
    have h' := ownsRow_mod h hm (fun g hg hS => by
      rcases h.2 with ⟨rfl, _⟩ | ⟨g', cap, cur, rfl, hg', _⟩
      · simp [Value.ownBlock] at hg
      · simp [Value.ownBlock] at hg; omega)
    refine ⟨h'.1, ?_⟩
    rcases h'.2 with h' | ⟨g, cap, cur, hv, hg, r⟩
    · exact .inl h'
    · exact .inr ⟨g, cap, cur, hv, by omega, r⟩
  refine ⟨kv, av, rfl, low (ownsRow_below h1 a1) (Nat.le_refl _), low h2 hs1, ⟨hm.os.trans hb2.os, hm.tape.trans hb2.tape, hm.output.trans hb2.output, Nat.le_trans hb2.size hm.size, fun k hk => (hm.block k (Nat.lt_of_lt_of_le hk hb2.size) (by omega)).trans (hb2.block k hk)⟩⟩
set_option maxRecDepth 100000 in
set_option maxHeartbeats 8000000 in
theorem describe_any (d : Nd) (kv av : Value) (w : World) {g o : Nat} (hn : NdIs w g o d kv av) (hg : g < w.heap.size) (hk : w.ownsRow 0 3 1 kv d.kids.length (kidCells d.kids)) (ha : w.ownsRow 0 121 3 av d.attrs.length (attCells d.attrs))
    (hkl : d.kids.length ≤ 1000000) (hal : d.attrs.length ≤ 1000000) :
    Calls Tryz.prog 61 #[.pointer (some ⟨g, o, none⟩)] w fun e w' => ∃ v, e = .returned v ∧ DescRet w d v w' := by
  have H3 := Lib.hid (fun w' (hb : Below w.heap.size w w') => kidClone_any _ kv w' (ownsRow_below hk hb) (by omega))
  have H4 := Lib.hid (fun w' (hb : Below w.heap.size w w') => attClone_any _ av w' (ownsRow_below ha hb) (by omega))
  obtain ⟨c0, c1, c2, c3, c4, c5, c6, c7, c8, c9, c10, c11, c12, -⟩ := hn
  obtain ⟨ka, kc, rfl⟩ := ownsRow_slice hk
  obtain ⟨aa, ac, rfl⟩ := ownsRow_slice ha
  clear hk ha
  go_enter Tryz.func61, Tryz.ntmps61
  go_wp2_with fail
  generalize hW0 : (w.alloc _).alloc _ = W0
  obtain ⟨hb0, hbx, hs0, b0⟩ := two_new hW0
  have HBX := Lib.hid hbx; have HB0 := Lib.hid hb0; have B0 := Lib.hid b0
  have k2 := (b0.cell (p := ⟨g, o + 2, none⟩) hg).trans c2
  have k6 := (b0.cell (p := ⟨g, o + 6, none⟩) hg).trans c6
  have hga : g < W0.heap.size := by omega
  have e0 : W0.cell? ⟨w.heap.size + 1, 2, none⟩ = some (.slice ka d.kids.length kc) := by rw [cell_of_row _ _ _ _ _ _ hbx]; rfl
  have e1 : W0.cell? ⟨w.heap.size + 1, 6, none⟩ = some (.slice aa d.attrs.length ac) := by rw [cell_of_row _ _ _ _ _ _ hbx]; rfl
  have e2 : W0.frozen? ⟨w.heap.size + 1, 2, none⟩ = false := Lib.frozen_of_heap hbx _
  have e3 : W0.frozen? ⟨w.heap.size + 1, 6, none⟩ = false := Lib.frozen_of_heap hbx _
  have hs1 : w.heap.size + 1 < W0.heap.size := by omega
  have hgs : g ≠ w.heap.size + 1 := by omega
  clear hW0 hbx hb0 b0 c0 c1 c2 c3 c4 c5 c6 c7 c8 c9 c10 c11 c12 hs0
  go_region_with ((first
    | (go_at_call 111
       refine (H3.out _ (by first | exact B0.out | exact below_drew B0.out | exact bthen B0.out B0.out.size a1 | exact below_drew (bthen B0.out B0.out.size a1) | exact bthen B0.out B0.out.size (bdrew a1) | exact below_drew (bthen B0.out B0.out.size (bdrew a1)))).mono ?_
       rintro e w1 ⟨kv', rfl, hr1, b1⟩
       have p2 := (b1.cell (p := ⟨g, o + 2, none⟩) (by first | exact hga | exact gb1)).trans (by first | exact k2 | exact q2)
       have p6 := (b1.cell (p := ⟨g, o + 6, none⟩) (by first | exact hga | exact gb1)).trans (by first | exact k6 | exact q6)
       have r0 := (b1.cell (p := ⟨w.heap.size + 1, 2, none⟩) (by first | exact hs1 | exact gb2)).trans (by first | exact e0 | exact s0)
       have r1 := (b1.cell (p := ⟨w.heap.size + 1, 6, none⟩) (by first | exact hs1 | exact gb2)).trans (by first | exact e1 | exact s1)
       have r2 := (b1.frozen (p := ⟨w.heap.size + 1, 2, none⟩) (by first | exact hs1 | exact gb2)).trans (by first | exact e2 | exact s2)
       have r3 := (b1.frozen (p := ⟨w.heap.size + 1, 6, none⟩) (by first | exact hs1 | exact gb2)).trans (by first | exact e3 | exact s3)
       have ga1 := Nat.lt_of_lt_of_le (by first | exact hga | exact gb1) b1.size
       have ga2 := Nat.lt_of_lt_of_le (by first | exact hs1 | exact gb2) b1.size
       obtain ⟨kx, ky, rfl⟩ := ownsRow_slice hr1)
    | (go_at_call 112
       refine (H4.out _ (by first | exact B0.out | exact below_drew B0.out | exact bthen B0.out B0.out.size b1 | exact below_drew (bthen B0.out B0.out.size b1) | exact bthen B0.out B0.out.size (bdrew b1) | exact below_drew (bthen B0.out B0.out.size (bdrew b1)))).mono ?_
       rintro e w2 ⟨av', rfl, hr2, a1⟩
       have q2 := (a1.cell (p := ⟨g, o + 2, none⟩) (by first | exact hga | exact ga1)).trans (by first | exact k2 | exact p2)
       have q6 := (a1.cell (p := ⟨g, o + 6, none⟩) (by first | exact hga | exact ga1)).trans (by first | exact k6 | exact p6)
       have s0 := (a1.cell (p := ⟨w.heap.size + 1, 2, none⟩) (by first | exact hs1 | exact ga2)).trans (by first | exact e0 | exact r0)
       have s1 := (a1.cell (p := ⟨w.heap.size + 1, 6, none⟩) (by first | exact hs1 | exact ga2)).trans (by first | exact e1 | exact r1)
       have s2 := (a1.frozen (p := ⟨w.heap.size + 1, 2, none⟩) (by first | exact hs1 | exact ga2)).trans (by first | exact e2 | exact r2)
       have s3 := (a1.frozen (p := ⟨w.heap.size + 1, 6, none⟩) (by first | exact hs1 | exact ga2)).trans (by first | exact e3 | exact r3)
       have gb1 := Nat.lt_of_lt_of_le (by first | exact hga | exact ga1) a1.size
       have gb2 := Nat.lt_of_lt_of_le (by first | exact hs1 | exact ga2) a1.size
       obtain ⟨ax, ay, rfl⟩ := ownsRow_slice hr2)))
  all_goals
    have hbx2 := (a1.block (w.heap.size + 1) ga2).trans ((b1.block (w.heap.size + 1) hs1).trans HBX.out)
    have hb02 := (a1.block w.heap.size (Nat.lt_of_succ_lt ga2)).trans ((b1.block w.heap.size (Nat.lt_of_succ_lt hs1)).trans HB0.out)
    have hfin : ∀ W3, Mod (fun k => k = w.heap.size ∨ k = w.heap.size + 1) w2 W3 → _ := fun W3 hm => desc_done B0.out hs1 (by first | exact b1 | exact bdrew b1) (by first | exact a1 | exact bdrew a1) hr1 hr2 hm
    have HF := Lib.hid hfin
    clear hfin hr1 hr2 b1 a1 p2 p6 r0 r1 r2 r3 q2 q6 s0 s1 k2 k6 e0 e1 e2 e3
    have d0 : w2.cell? ⟨w.heap.size + 1, 0, none⟩ = _ := (cell_of_row w2 (w.heap.size + 1) 0 _ _ _ hbx2)
    have z0 : w2.cell? ⟨w.heap.size, 0, none⟩ = _ := (cell_of_row w2 w.heap.size 0 _ _ _ hb02)
    have y0 : w2.frozen? ⟨w.heap.size, 0, none⟩ = false := Lib.frozen_of_heap hb02 _
    have d1 : w2.cell? ⟨w.heap.size + 1, 1, none⟩ = _ := (cell_of_row w2 (w.heap.size + 1) 1 _ _ _ hbx2)
    have z1 : w2.cell? ⟨w.heap.size, 1, none⟩ = _ := (cell_of_row w2 w.heap.size 1 _ _ _ hb02)
    have y1 : w2.frozen? ⟨w.heap.size, 1, none⟩ = false := Lib.frozen_of_heap hb02 _
    have d2 : w2.cell? ⟨w.heap.size + 1, 2, none⟩ = _ := (cell_of_row w2 (w.heap.size + 1) 2 _ _ _ hbx2)
    have z2 : w2.cell? ⟨w.heap.size, 2, none⟩ = _ := (cell_of_row w2 w.heap.size 2 _ _ _ hb02)
    have y2 : w2.frozen? ⟨w.heap.size, 2, none⟩ = false := Lib.frozen_of_heap hb02 _
    have d3 : w2.cell? ⟨w.heap.size + 1, 3, none⟩ = _ := (cell_of_row w2 (w.heap.size + 1) 3 _ _ _ hbx2)
    have z3 : w2.cell? ⟨w.heap.size, 3, none⟩ = _ := (cell_of_row w2 w.heap.size 3 _ _ _ hb02)
    have y3 : w2.frozen? ⟨w.heap.size, 3, none⟩ = false := Lib.frozen_of_heap hb02 _
    have d4 : w2.cell? ⟨w.heap.size + 1, 4, none⟩ = _ := (cell_of_row w2 (w.heap.size + 1) 4 _ _ _ hbx2)
    have z4 : w2.cell? ⟨w.heap.size, 4, none⟩ = _ := (cell_of_row w2 w.heap.size 4 _ _ _ hb02)
    have y4 : w2.frozen? ⟨w.heap.size, 4, none⟩ = false := Lib.frozen_of_heap hb02 _
    have d5 : w2.cell? ⟨w.heap.size + 1, 5, none⟩ = _ := (cell_of_row w2 (w.heap.size + 1) 5 _ _ _ hbx2)
    have z5 : w2.cell? ⟨w.heap.size, 5, none⟩ = _ := (cell_of_row w2 w.heap.size 5 _ _ _ hb02)
    have y5 : w2.frozen? ⟨w.heap.size, 5, none⟩ = false := Lib.frozen_of_heap hb02 _
    have d6 : w2.cell? ⟨w.heap.size + 1, 6, none⟩ = _ := (cell_of_row w2 (w.heap.size + 1) 6 _ _ _ hbx2)
    have z6 : w2.cell? ⟨w.heap.size, 6, none⟩ = _ := (cell_of_row w2 w.heap.size 6 _ _ _ hb02)
    have y6 : w2.frozen? ⟨w.heap.size, 6, none⟩ = false := Lib.frozen_of_heap hb02 _
    have d7 : w2.cell? ⟨w.heap.size + 1, 7, none⟩ = _ := (cell_of_row w2 (w.heap.size + 1) 7 _ _ _ hbx2)
    have z7 : w2.cell? ⟨w.heap.size, 7, none⟩ = _ := (cell_of_row w2 w.heap.size 7 _ _ _ hb02)
    have y7 : w2.frozen? ⟨w.heap.size, 7, none⟩ = false := Lib.frozen_of_heap hb02 _
    have d8 : w2.cell? ⟨w.heap.size + 1, 8, none⟩ = _ := (cell_of_row w2 (w.heap.size + 1) 8 _ _ _ hbx2)
    have z8 : w2.cell? ⟨w.heap.size, 8, none⟩ = _ := (cell_of_row w2 w.heap.size 8 _ _ _ hb02)
    have y8 : w2.frozen? ⟨w.heap.size, 8, none⟩ = false := Lib.frozen_of_heap hb02 _
    have d9 : w2.cell? ⟨w.heap.size + 1, 9, none⟩ = _ := (cell_of_row w2 (w.heap.size + 1) 9 _ _ _ hbx2)
    have z9 : w2.cell? ⟨w.heap.size, 9, none⟩ = _ := (cell_of_row w2 w.heap.size 9 _ _ _ hb02)
    have y9 : w2.frozen? ⟨w.heap.size, 9, none⟩ = false := Lib.frozen_of_heap hb02 _
    have d10 : w2.cell? ⟨w.heap.size + 1, 10, none⟩ = _ := (cell_of_row w2 (w.heap.size + 1) 10 _ _ _ hbx2)
    have z10 : w2.cell? ⟨w.heap.size, 10, none⟩ = _ := (cell_of_row w2 w.heap.size 10 _ _ _ hb02)
    have y10 : w2.frozen? ⟨w.heap.size, 10, none⟩ = false := Lib.frozen_of_heap hb02 _
    have d11 : w2.cell? ⟨w.heap.size + 1, 11, none⟩ = _ := (cell_of_row w2 (w.heap.size + 1) 11 _ _ _ hbx2)
    have z11 : w2.cell? ⟨w.heap.size, 11, none⟩ = _ := (cell_of_row w2 w.heap.size 11 _ _ _ hb02)
    have y11 : w2.frozen? ⟨w.heap.size, 11, none⟩ = false := Lib.frozen_of_heap hb02 _
    have d12 : w2.cell? ⟨w.heap.size + 1, 12, none⟩ = _ := (cell_of_row w2 (w.heap.size + 1) 12 _ _ _ hbx2)
    have z12 : w2.cell? ⟨w.heap.size, 12, none⟩ = _ := (cell_of_row w2 w.heap.size 12 _ _ _ hb02)
    have y12 : w2.frozen? ⟨w.heap.size, 12, none⟩ = false := Lib.frozen_of_heap hb02 _
    simp only [List.getElem?_toArray, List.getElem?_cons_zero, List.getElem?_cons_succ] at d0 z0 d1 z1 d2 z2 d3 z3 d4 z4 d5 z5 d6 z6 d7 z7 d8 z8 d9 z9 d10 z10 d11 z11 d12 z12
    have HB2 := Lib.hid hb02
    clear hbx2 hb02
    go_wp2_with fail
    refine ret_named fun W3 hW3 => ?_
    have hm3 : Mod (fun k => k = w.heap.size ∨ k = w.heap.size + 1) w2 W3 := by
      rw [hW3]
      iterate 13 refine Mod.trans ?_ (Mod.setCell _ _ (.inl rfl))
      iterate 2 refine Mod.trans ?_ (Mod.setCell _ _ (.inr rfl))
      exact Mod.refl _ _
    have hall : ∀ j v, (ndCells d (.slice kx d.kids.length ky) (.slice ax d.attrs.length ay))[j]? = some v → W3.cell? ⟨w.heap.size, j, none⟩ = some v := by
      rw [hW3]
      have h0 := (Below.heap_setCell (w2.setCell ⟨w.heap.size + 1, 2, none⟩ (.slice kx d.kids.length ky)) ⟨w.heap.size + 1, 6, none⟩ (.slice ax d.attrs.length ay) w.heap.size (by simp)).trans ((Below.heap_setCell w2 ⟨w.heap.size + 1, 2, none⟩ (.slice kx d.kids.length ky) w.heap.size (by simp)).trans HB2.out)
      exact setCells_all (ndCells d (.slice kx d.kids.length ky) (.slice ax d.attrs.length ay)) h0 rfl
    have hfin := HF.out W3 hm3
    have HF3 := Lib.hid hfin
    clear hfin hW3 hm3 d0 z0 y0 d1 z1 y1 d2 z2 y2 d3 z3 y3 d4 z4 y4 d5 z5 y5 d6 z6 y6 d7 z7 y7 d8 z8 y8 d9 z9 y9 d10 z10 y10 d11 z11 y11 d12 z12 y12
    have q0 := hall 0 _ rfl
    have q1 := hall 1 _ rfl
    have q2 := hall 2 _ rfl
    have q3 := hall 3 _ rfl
    have q4 := hall 4 _ rfl
    have q5 := hall 5 _ rfl
    have q6 := hall 6 _ rfl
    have q7 := hall 7 _ rfl
    have q8 := hall 8 _ rfl
    have q9 := hall 9 _ rfl
    have q10 := hall 10 _ rfl
    have q11 := hall 11 _ rfl
    have q12 := hall 12 _ rfl
    clear hall
    exact bodyPost_ret (v := .agg (ndCells d (.slice kx d.kids.length ky) (.slice ax d.attrs.length ay)).toArray) (by simp [results, Tryz.results61, go_sem, ndCells, q0, q1, q2, q3, q4, q5, q6, q7, q8, q9, q10, q11, q12]) rfl ⟨_, rfl, HF3.out⟩
end Go.Proofs.YtdapdadcninidaaGreatDoor
namespace Go.Proofs.YtdapdadcninidaaGreatDoor
open Go.RowKit
attribute [local go_sem ↓] Go.wp_at_zero Go.wp_at_succ

/-- Node returns a description and OK, or an error. -/
def NodeRet (ns : List Nd) (h : Int) (w : World) (e : Ending) (w' : World) : Prop :=
  ∃ kv av, e = .returned (.tuple #[.agg (ndCells (if isH ns.length h then ndAt ns h else {}) kv av).toArray, .int .i64 (if isH ns.length h then 0 else 3)]) ∧
    w'.ownsRow w.heap.size 3 1 kv (kidsAt ns h).length (kidCells (kidsAt ns h)) ∧ w'.ownsRow w.heap.size 121 3 av (if isH ns.length h then (ndAt ns h).attrs else []).length (attCells (if isH ns.length h then (ndAt ns h).attrs else [])) ∧ Below w.heap.size w w'
def zeroNd : List Value := [.int .i64 0, .int .i64 0, .slice none 0 0, .int .i64 0, .int .i64 0, .string ⟨#[]⟩, .slice none 0 0, .string ⟨#[]⟩, .string ⟨#[]⟩, .string ⟨#[]⟩, .bool false, .int .i64 0, .int .i64 0]
set_option maxRecDepth 100000 in
set_option maxHeartbeats 8000000 in
theorem Node_any (h : Int) (w : World) {B : AB} {O : List Nat} {ns : List Nd} (hA : ArW B O ns w) (hl : ns.length ≤ 1000000) (hkl : (kidsAt ns h).length ≤ 1000000) (hal : (ndAt ns h).attrs.length ≤ 1000000) :
    Calls Tryz.prog 22 #[.pointer (some ⟨B, 0, none⟩), .int .i64 h] w (NodeRet ns h w) := by
  obtain ⟨W0, hW0⟩ : ∃ W0, (w.alloc (.cells zeroNd.toArray 55)).alloc (.cells #[.int .i64 h] 3) = W0 := ⟨_, rfl⟩
  obtain ⟨hb0, hbx, hs0, b0⟩ := two_new hW0
  have hA0 := hA.later b0
  have H1 := check_any (B := B) (H := w.heap.size + 1) (c := 1) [h] W0 hA0 (by intro j v hj; match j, hj with | 0, hj => simp at hj; subst hj; rw [cell_of_row _ _ _ _ _ _ hbx]; rfl) (by simp)
  have hBl : B < w.heap.size := by
    obtain ⟨ad, cap, hc⟩ := hA.inlen
    exact World.block_lt_of_cell? _ _ hc
  cases hh : isH ns.length h
  · rw [show chkH ns.length [h] = 3 by simp [chkH, hh]] at H1
    have hfin : ∀ W3, Mod (fun k => k = w.heap.size) W0 W3 → NodeRet ns h w (.returned (.tuple #[.agg zeroNd.toArray, .int .i64 3])) W3 := by
      intro W3 hm
      refine ⟨nilS, nilS, ?_, ?_, ?_, ⟨hm.os.trans b0.os, hm.tape.trans b0.tape, hm.output.trans b0.output, Nat.le_trans b0.size hm.size, fun k hk => (hm.block k (Nat.lt_of_lt_of_le hk b0.size) (by omega)).trans (b0.block k hk)⟩⟩
      · simp only [hh]; rfl
      · rw [show kidsAt ns h = [] by simp [kidsAt, hh]]; exact ⟨rfl, .inl ⟨rfl, rfl⟩⟩
      · simp only [hh]; exact ⟨rfl, .inl ⟨rfl, rfl⟩⟩
    have H1 := Lib.hid H1
    have HF := Lib.hid hfin
    have HB := Lib.hid hb0
    have hW0' : (w.alloc (.cells #[.int .i64 0, .int .i64 0, .slice none 0 0, .int .i64 0, .int .i64 0, .string ⟨#[]⟩, .slice none 0 0, .string ⟨#[]⟩, .string ⟨#[]⟩, .string ⟨#[]⟩, .bool false, .int .i64 0, .int .i64 0] 55)).alloc (.cells #[.int .i64 h] 3) = W0 := hW0
    have HW := Lib.hid hW0'
    clear hh hfin hbx b0 hA0 hA hW0 hW0' hkl hal
    go_enter Tryz.func22, Tryz.ntmps22
    go_wp2_with fail
    rw [HW.out]
    refine H1.out.mono ?_
    rintro e w1 ⟨rfl, rfl⟩
    have z0 : W0.cell? ⟨w.heap.size, 0, none⟩ = _ := (cell_of_row W0 w.heap.size 0 _ _ _ hb0)
    have y0 : W0.frozen? ⟨w.heap.size, 0, none⟩ = false := Lib.frozen_of_heap hb0 _
    have z1 : W0.cell? ⟨w.heap.size, 1, none⟩ = _ := (cell_of_row W0 w.heap.size 1 _ _ _ hb0)
    have y1 : W0.frozen? ⟨w.heap.size, 1, none⟩ = false := Lib.frozen_of_heap hb0 _
    have z2 : W0.cell? ⟨w.heap.size, 2, none⟩ = _ := (cell_of_row W0 w.heap.size 2 _ _ _ hb0)
    have y2 : W0.frozen? ⟨w.heap.size, 2, none⟩ = false := Lib.frozen_of_heap hb0 _
    have z3 : W0.cell? ⟨w.heap.size, 3, none⟩ = _ := (cell_of_row W0 w.heap.size 3 _ _ _ hb0)
    have y3 : W0.frozen? ⟨w.heap.size, 3, none⟩ = false := Lib.frozen_of_heap hb0 _
    have z4 : W0.cell? ⟨w.heap.size, 4, none⟩ = _ := (cell_of_row W0 w.heap.size 4 _ _ _ hb0)
    have y4 : W0.frozen? ⟨w.heap.size, 4, none⟩ = false := Lib.frozen_of_heap hb0 _
    have z5 : W0.cell? ⟨w.heap.size, 5, none⟩ = _ := (cell_of_row W0 w.heap.size 5 _ _ _ hb0)
    have y5 : W0.frozen? ⟨w.heap.size, 5, none⟩ = false := Lib.frozen_of_heap hb0 _
    have z6 : W0.cell? ⟨w.heap.size, 6, none⟩ = _ := (cell_of_row W0 w.heap.size 6 _ _ _ hb0)
    have y6 : W0.frozen? ⟨w.heap.size, 6, none⟩ = false := Lib.frozen_of_heap hb0 _
    have z7 : W0.cell? ⟨w.heap.size, 7, none⟩ = _ := (cell_of_row W0 w.heap.size 7 _ _ _ hb0)
    have y7 : W0.frozen? ⟨w.heap.size, 7, none⟩ = false := Lib.frozen_of_heap hb0 _
    have z8 : W0.cell? ⟨w.heap.size, 8, none⟩ = _ := (cell_of_row W0 w.heap.size 8 _ _ _ hb0)
    have y8 : W0.frozen? ⟨w.heap.size, 8, none⟩ = false := Lib.frozen_of_heap hb0 _
    have z9 : W0.cell? ⟨w.heap.size, 9, none⟩ = _ := (cell_of_row W0 w.heap.size 9 _ _ _ hb0)
    have y9 : W0.frozen? ⟨w.heap.size, 9, none⟩ = false := Lib.frozen_of_heap hb0 _
    have z10 : W0.cell? ⟨w.heap.size, 10, none⟩ = _ := (cell_of_row W0 w.heap.size 10 _ _ _ hb0)
    have y10 : W0.frozen? ⟨w.heap.size, 10, none⟩ = false := Lib.frozen_of_heap hb0 _
    have z11 : W0.cell? ⟨w.heap.size, 11, none⟩ = _ := (cell_of_row W0 w.heap.size 11 _ _ _ hb0)
    have y11 : W0.frozen? ⟨w.heap.size, 11, none⟩ = false := Lib.frozen_of_heap hb0 _
    have z12 : W0.cell? ⟨w.heap.size, 12, none⟩ = _ := (cell_of_row W0 w.heap.size 12 _ _ _ hb0)
    have y12 : W0.frozen? ⟨w.heap.size, 12, none⟩ = false := Lib.frozen_of_heap hb0 _
    simp only [zeroNd, List.getElem?_toArray, List.getElem?_cons_zero, List.getElem?_cons_succ] at z0 z1 z2 z3 z4 z5 z6 z7 z8 z9 z10 z11 z12
    clear hb0
    go_wp2_with fail
    refine ret_named fun W3 hW3 => ?_
    have hm3 : Mod (fun k => k = w.heap.size) W0 W3 := by
      rw [hW3]
      iterate 13 refine Mod.trans ?_ (Mod.setCell _ _ rfl)
      exact Mod.refl _ _
    have hall : ∀ j v, zeroNd[j]? = some v → W3.cell? ⟨w.heap.size, j, none⟩ = some v := by
      rw [hW3]
      exact setCells_all zeroNd HB.out rfl
    have HF3 := Lib.hid (HF.out W3 hm3)
    clear hW3 hm3 z0 y0 z1 y1 z2 y2 z3 y3 z4 y4 z5 y5 z6 y6 z7 y7 z8 y8 z9 y9 z10 y10 z11 y11 z12 y12
    have q0 := hall 0 _ rfl
    have q1 := hall 1 _ rfl
    have q2 := hall 2 _ rfl
    have q3 := hall 3 _ rfl
    have q4 := hall 4 _ rfl
    have q5 := hall 5 _ rfl
    have q6 := hall 6 _ rfl
    have q7 := hall 7 _ rfl
    have q8 := hall 8 _ rfl
    have q9 := hall 9 _ rfl
    have q10 := hall 10 _ rfl
    have q11 := hall 11 _ rfl
    have q12 := hall 12 _ rfl
    clear hall
    refine bodyPost_ret (v := .tuple #[.agg zeroNd.toArray, .int .i64 3]) (by simp [results, Tryz.results22, go_sem, zeroNd, q0, q1, q2, q3, q4, q5, q6, q7, q8, q9, q10, q11, q12]) rfl HF3.out
  · rw [show chkH ns.length [h] = 0 by simp [chkH, hh]] at H1
    have hke : kidsAt ns h = (ndAt ns h).kids := by simp [kidsAt, hh]
    rw [hke] at hkl
    obtain ⟨g, cap, kv, av, i, -, -, c0, hn, hkr, har, hat⟩ := atW_any h W0 hA0 hh hl
    have hgl : g < W0.heap.size := World.block_lt_of_cell? _ _ hn.c0
    have hde := describe_any _ kv av W0 hn hgl hkr har hkl hal
    have hfin : ∀ v w1 w2, DescRet W0 (ndAt ns h) v w1 → Mod (fun k => k = w.heap.size) w1 w2 → NodeRet ns h w (.returned (.tuple #[v, .int .i64 0])) w2 := by
      rintro v w1 w2 ⟨kv', av', rfl, r1, r2, b1⟩ hm
      have low : ∀ {n s : Nat} {e : TypeId} {v : Value} {xs : List Value}, w1.ownsRow W0.heap.size e s v n xs → w2.ownsRow w.heap.size e s v n xs := by
        intro n s e v xs h
        have h' := ownsRow_mod h hm (fun g hg hS => by
          rcases h.2 with ⟨rfl, _⟩ | ⟨g', cap, cur, rfl, hg', _⟩
          · simp [Value.ownBlock] at hg
          · simp [Value.ownBlock] at hg; omega)
        refine ⟨h'.1, ?_⟩
        rcases h'.2 with h' | ⟨g, cap, cur, hv, hg, r⟩
        · exact .inl h'
        · exact .inr ⟨g, cap, cur, hv, by omega, r⟩
      have bb := bthen b0 b0.size b1
      refine ⟨kv', av', ?_, ?_, ?_, ⟨hm.os.trans bb.os, hm.tape.trans bb.tape, hm.output.trans bb.output, Nat.le_trans bb.size hm.size, fun k hk => (hm.block k (Nat.lt_of_lt_of_le hk bb.size) (by omega)).trans (bb.block k hk)⟩⟩
      · simp only [hh, if_true]
      · rw [hke]; exact low r1
      · simp only [hh, if_true]; exact low r2
    have H1 := Lib.hid H1
    have H2 := Lib.hid (hat W0 rfl)
    have H3 := Lib.hid hde
    have HF := Lib.hid hfin
    have HB := Lib.hid hb0
    have hs1 : w.heap.size < W0.heap.size := by omega
    have hW0' : (w.alloc (.cells #[.int .i64 0, .int .i64 0, .slice none 0 0, .int .i64 0, .int .i64 0, .string ⟨#[]⟩, .slice none 0 0, .string ⟨#[]⟩, .string ⟨#[]⟩, .string ⟨#[]⟩, .bool false, .int .i64 0, .int .i64 0] 55)).alloc (.cells #[.int .i64 h] 3) = W0 := hW0
    have HW := Lib.hid hW0'
    obtain ⟨dd, hdd⟩ : ∃ dd, ndAt ns h = dd := ⟨_, rfl⟩
    rw [hdd] at H3 HF
    clear hh hn c0 hat hkr har hke hde hfin hb0 hbx b0 hA0 hA hW0 hW0' hdd hkl hal
    go_enter Tryz.func22, Tryz.ntmps22
    go_wp2_with fail
    rw [HW.out]
    refine H1.out.mono ?_
    rintro e w1 ⟨rfl, rfl⟩
    go_wp2_with fail
    refine H2.out.mono ?_
    rintro e w1 ⟨rfl, rfl⟩
    go_wp2_with fail
    refine H3.out.mono ?_
    rintro e w2 ⟨v, rfl, hd⟩
    have HF2 := Lib.hid (fun W3 hm => HF.out v w2 W3 hd hm)
    obtain ⟨kv', av', rfl, r1, r2, b1⟩ := hd
    obtain ⟨kx, ky, rfl⟩ := ownsRow_slice r1
    obtain ⟨ax, ay, rfl⟩ := ownsRow_slice r2
    have hb2 := (b1.block w.heap.size hs1).trans HB.out
    have HB2 := Lib.hid hb2
    have hs2 := Nat.lt_of_lt_of_le hs1 b1.size
    clear r1 r2 b1
    simp only [ndCells, natV, strV]
    have z0 : w2.cell? ⟨w.heap.size, 0, none⟩ = _ := (cell_of_row w2 w.heap.size 0 _ _ _ hb2)
    have y0 : w2.frozen? ⟨w.heap.size, 0, none⟩ = false := Lib.frozen_of_heap hb2 _
    have z1 : w2.cell? ⟨w.heap.size, 1, none⟩ = _ := (cell_of_row w2 w.heap.size 1 _ _ _ hb2)
    have y1 : w2.frozen? ⟨w.heap.size, 1, none⟩ = false := Lib.frozen_of_heap hb2 _
    have z2 : w2.cell? ⟨w.heap.size, 2, none⟩ = _ := (cell_of_row w2 w.heap.size 2 _ _ _ hb2)
    have y2 : w2.frozen? ⟨w.heap.size, 2, none⟩ = false := Lib.frozen_of_heap hb2 _
    have z3 : w2.cell? ⟨w.heap.size, 3, none⟩ = _ := (cell_of_row w2 w.heap.size 3 _ _ _ hb2)
    have y3 : w2.frozen? ⟨w.heap.size, 3, none⟩ = false := Lib.frozen_of_heap hb2 _
    have z4 : w2.cell? ⟨w.heap.size, 4, none⟩ = _ := (cell_of_row w2 w.heap.size 4 _ _ _ hb2)
    have y4 : w2.frozen? ⟨w.heap.size, 4, none⟩ = false := Lib.frozen_of_heap hb2 _
    have z5 : w2.cell? ⟨w.heap.size, 5, none⟩ = _ := (cell_of_row w2 w.heap.size 5 _ _ _ hb2)
    have y5 : w2.frozen? ⟨w.heap.size, 5, none⟩ = false := Lib.frozen_of_heap hb2 _
    have z6 : w2.cell? ⟨w.heap.size, 6, none⟩ = _ := (cell_of_row w2 w.heap.size 6 _ _ _ hb2)
    have y6 : w2.frozen? ⟨w.heap.size, 6, none⟩ = false := Lib.frozen_of_heap hb2 _
    have z7 : w2.cell? ⟨w.heap.size, 7, none⟩ = _ := (cell_of_row w2 w.heap.size 7 _ _ _ hb2)
    have y7 : w2.frozen? ⟨w.heap.size, 7, none⟩ = false := Lib.frozen_of_heap hb2 _
    have z8 : w2.cell? ⟨w.heap.size, 8, none⟩ = _ := (cell_of_row w2 w.heap.size 8 _ _ _ hb2)
    have y8 : w2.frozen? ⟨w.heap.size, 8, none⟩ = false := Lib.frozen_of_heap hb2 _
    have z9 : w2.cell? ⟨w.heap.size, 9, none⟩ = _ := (cell_of_row w2 w.heap.size 9 _ _ _ hb2)
    have y9 : w2.frozen? ⟨w.heap.size, 9, none⟩ = false := Lib.frozen_of_heap hb2 _
    have z10 : w2.cell? ⟨w.heap.size, 10, none⟩ = _ := (cell_of_row w2 w.heap.size 10 _ _ _ hb2)
    have y10 : w2.frozen? ⟨w.heap.size, 10, none⟩ = false := Lib.frozen_of_heap hb2 _
    have z11 : w2.cell? ⟨w.heap.size, 11, none⟩ = _ := (cell_of_row w2 w.heap.size 11 _ _ _ hb2)
    have y11 : w2.frozen? ⟨w.heap.size, 11, none⟩ = false := Lib.frozen_of_heap hb2 _
    have z12 : w2.cell? ⟨w.heap.size, 12, none⟩ = _ := (cell_of_row w2 w.heap.size 12 _ _ _ hb2)
    have y12 : w2.frozen? ⟨w.heap.size, 12, none⟩ = false := Lib.frozen_of_heap hb2 _
    simp only [zeroNd, List.getElem?_toArray, List.getElem?_cons_zero, List.getElem?_cons_succ] at z0 z1 z2 z3 z4 z5 z6 z7 z8 z9 z10 z11 z12
    clear hb2
    go_wp2_with fail
    refine ret_named fun W3 hW3 => ?_
    have hm3 : Mod (fun k => k = w.heap.size) w2 W3 := by
      rw [hW3]
      iterate 13 refine Mod.trans ?_ (Mod.setCell _ _ rfl)
      exact Mod.refl _ _
    have hall : ∀ j v, (ndCells dd (.slice kx dd.kids.length ky) (.slice ax dd.attrs.length ay))[j]? = some v → W3.cell? ⟨w.heap.size, j, none⟩ = some v := by
      rw [hW3]
      exact setCells_all (ndCells dd (.slice kx dd.kids.length ky) (.slice ax dd.attrs.length ay)) HB2.out rfl
    have HF3 := Lib.hid (HF2.out W3 hm3)
    clear hW3 hm3 z0 y0 z1 y1 z2 y2 z3 y3 z4 y4 z5 y5 z6 y6 z7 y7 z8 y8 z9 y9 z10 y10 z11 y11 z12 y12
    have q0 := hall 0 _ rfl
    have q1 := hall 1 _ rfl
    have q2 := hall 2 _ rfl
    have q3 := hall 3 _ rfl
    have q4 := hall 4 _ rfl
    have q5 := hall 5 _ rfl
    have q6 := hall 6 _ rfl
    have q7 := hall 7 _ rfl
    have q8 := hall 8 _ rfl
    have q9 := hall 9 _ rfl
    have q10 := hall 10 _ rfl
    have q11 := hall 11 _ rfl
    have q12 := hall 12 _ rfl
    clear hall
    refine bodyPost_ret (v := .tuple #[.agg (ndCells dd (.slice kx dd.kids.length ky) (.slice ax dd.attrs.length ay)).toArray, .int .i64 0]) (by simp [results, Tryz.results22, go_sem, ndCells, q0, q1, q2, q3, q4, q5, q6, q7, q8, q9, q10, q11, q12]) rfl HF3.out
end Go.Proofs.YtdapdadcninidaaGreatDoor
namespace Go.Proofs.YtdapdadcninidaaGreatDoor
open Go.RowKit
attribute [local go_sem ↓] Go.wp_at_zero Go.wp_at_succ

def setDataE (ns : List Nd) (h : Int) : Int := if isH ns.length h then (if (ndAt ns h).kind = 5 ∨ (ndAt ns h).kind = 6 then 0 else 9) else 3
def setNd (ns : List Nd) (h : Int) (d : Nd) : List Nd := ns.set (h - 1).toNat d
/-- A call that sets something: an error and nothing has turned, or OK and these are the nodes. -/
def Did (B : AB) (O : List Nat) (w : World) (er : Int) (ns' : List Nd) (e : Ending) (w' : World) : Prop :=
  e = .returned (.int .i64 er) ∧ ((er ≠ 0 ∧ Below w.heap.size w w') ∨ (er = 0 ∧ ∃ O', ArW B O' ns' w' ∧ AStep O w O' w'))
set_option maxRecDepth 100000 in
set_option maxHeartbeats 1000000 in
theorem SetData_any (h : Int) (l : List UInt8) (w : World) {B : AB} {O : List Nat} {ns : List Nd} (hA : ArW B O ns w) (hl : ns.length ≤ 1000000) :
    Calls Tryz.prog 53 #[.pointer (some ⟨B, 0, none⟩), .int .i64 h, .string ⟨l.toArray⟩] w (Did B O w (setDataE ns h) (setNd ns h { ndAt ns h with data := l })) := by
  obtain ⟨W0, hW0⟩ : ∃ W0, w.alloc (.cells #[.int .i64 h] 3) = W0 := ⟨_, rfl⟩
  have b0 : Below w.heap.size w W0 := by rw [← hW0]; exact balloc w _
  have hbx : W0.heap[w.heap.size]? = some (.cells #[.int .i64 h] 3) := by rw [← hW0]; exact World.alloc_heap_new w _
  have hA0 := hA.later b0
  have H1 := check_any (B := B) (H := w.heap.size) (c := 1) [h] W0 hA0 (by intro j v hj; match j, hj with | 0, hj => simp at hj; subst hj; rw [cell_of_row _ _ _ _ _ _ hbx]; rfl) (by simp)
  have HW := Lib.hid hW0
  cases hh : isH ns.length h
  · rw [show chkH ns.length [h] = 3 by simp [chkH, hh]] at H1
    have he : setDataE ns h = 3 := by simp [setDataE, hh]
    have HF := Lib.hid (show Did B O w (setDataE ns h) (setNd ns h { ndAt ns h with data := l }) (.returned (.int .i64 3)) W0 from ⟨by rw [he], .inl ⟨by rw [he]; decide, b0⟩⟩)
    have H1 := Lib.hid H1
    clear hh he hA hA0 b0 hbx hW0
    go_enter Tryz.func53, Tryz.ntmps53
    go_wp2_with fail
    rw [HW.out]
    refine H1.out.mono ?_
    rintro e w1 ⟨rfl, rfl⟩
    go_wp2_with fail
    go_ret
    exact HF.out
  · rw [show chkH ns.length [h] = 0 by simp [chkH, hh]] at H1
    obtain ⟨g, cap, kv, av, i, hi, hx, c0, hn, -, -, hat⟩ := atW_any h W0 hA0 hh hl
    have n0 := hn.c0
    have n7 := hn.c7
    have f7 := hn.fz 7 (by omega)
    have hput := hA0.put (j := 7) (d' := { ndAt ns h with data := l }) (v := .string ⟨l.toArray⟩) hx c0 (by omega) (fun _ _ => rfl) rfl rfl
    have hset : ns.set i { ndAt ns h with data := l } = setNd ns h { ndAt ns h with data := l } := by rw [setNd, hi]; congr 1; omega
    rw [hset] at hput
    have HD : Hid (∀ k, (ndAt ns h).kind = k → setDataE ns h = if k = 5 ∨ k = 6 then 0 else 9) := Lib.hid (by rintro k rfl; simp [setDataE, hh])
    obtain ⟨k, hk⟩ : ∃ k, (ndAt ns h).kind = k := ⟨_, rfl⟩
    rw [hk] at n0
    have he := HD.out k hk
    have HP := Lib.hid hput
    have H1 := Lib.hid H1
    have H2 := Lib.hid (hat W0 rfl)
    have B0 := Lib.hid b0
    have HE := Lib.hid he
    clear hh he hA hA0 b0 hbx hW0 hput hset hn hat c0 hi hx hk HD
    by_cases h5 : k = 5 ∨ k = 6
    · have HF := Lib.hid (show Did B O w (setDataE ns h) (setNd ns h { ndAt ns h with data := l }) (.returned (.int .i64 0)) _ from ⟨by rw [HE.out, if_pos h5], .inr ⟨by rw [HE.out, if_pos h5], O, HP.out.1, astep_pre B0.out HP.out.2⟩⟩)
      rcases h5 with rfl | rfl
      all_goals
        go_enter Tryz.func53, Tryz.ntmps53
        go_wp2_with fail
        rw [HW.out]
        refine H1.out.mono ?_
        rintro e w1 ⟨rfl, rfl⟩
        go_wp2_with (go_at_call 37; refine H2.out.mono ?_; rintro e w1 ⟨rfl, rfl⟩)
        go_ret
        exact HF.out
    · have HF := Lib.hid (show Did B O w (setDataE ns h) (setNd ns h { ndAt ns h with data := l }) (.returned (.int .i64 9)) W0 from ⟨by rw [HE.out, if_neg h5], .inl ⟨by rw [HE.out, if_neg h5]; decide, B0.out⟩⟩)
      have h51 : (k != 5) = true := by simp; omega
      have h61 : (k != 6) = true := by simp; omega
      clear h5
      go_enter Tryz.func53, Tryz.ntmps53
      go_wp2_with fail
      rw [HW.out]
      refine H1.out.mono ?_
      rintro e w1 ⟨rfl, rfl⟩
      go_wp2_with (go_at_call 37; refine H2.out.mono ?_; rintro e w1 ⟨rfl, rfl⟩)
      go_ret
      exact HF.out

/-- Field j of node i is set, whatever the rows of the nodes: they are given behind it. -/
theorem ar_setF {w : World} {B g n cap i j : Nat} {tab inv v : Value} {L : List Nv} {x y : Nv} (hd : w.heap[B]? = some (.cells #[tab, inv] 93 (0, 0))) (hrow : w.ownsRow 0 96 13 tab L.length (rowCells L))
    (ht : tab = .slice (some ⟨g, 0, none⟩) n cap) (hx : L[i]? = some x) (hj : j < 13) (hy : y.cells = x.cells.set j v)
    (hown : ∀ z ∈ L.set i y, w.ownsRow 0 3 1 z.kv z.nd.kids.length (kidCells z.nd.kids) ∧ w.ownsRow 0 121 3 z.av z.nd.attrs.length (attCells z.nd.attrs)) (hnd : (blocks B tab (L.set i y)).Nodup) :
    Ar (w.setCell ⟨g, i * 13 + j, none⟩ v) B tab inv (L.set i y) := by
  have hi : i < L.length := (List.getElem?_eq_some_iff.1 hx).1
  have hgt : tab.ownBlock = some g := by rw [ht]; rfl
  obtain ⟨n1, n2⟩ := List.nodup_cons.1 hnd
  have hgB : g ≠ B := fun e => n1 (by simp [hgt, e])
  have hm : Mod (fun k => k = g) w (w.setCell ⟨g, i * 13 + j, none⟩ v) := Mod.setCell _ _ rfl
  have hrest : ∀ z ∈ L.set i y, z.kv.ownBlock ≠ some g ∧ z.av.ownBlock ≠ some g := by
    intro z hz
    have := (List.nodup_append.1 n2).2.2 g (by simp [hgt])
    exact ⟨fun e => this g (List.mem_flatMap.2 ⟨z, hz, by simp [e]⟩) rfl, fun e => this g (List.mem_flatMap.2 ⟨z, hz, by simp [e]⟩) rfl⟩
  refine ⟨(Below.heap_setCell _ _ _ _ (Ne.symm hgB)).trans hd, ?_, fun z hz => ?_, fun z hz => ?_, hnd⟩
  · obtain ⟨h1, ⟨h2, h3⟩ | ⟨g', cap', cur, h2, h3, h4, h5, h6, h7, h8⟩⟩ := hrow
    · omega
    · rw [ht] at h2
      cases h2
      refine ⟨by rw [rowCells_len], .inr ⟨g, cap, cur.setIfInBounds (i * 13 + j) v, by rw [ht, List.length_set], h3, Joins.block_setCell h4 v, by simpa using h5, h6, by simpa using h7, ?_⟩⟩
      rw [rowCells_set L i j x y v hx hj hy, ← h8, List.length_set, Array.toList_setIfInBounds, List.take_set]
  · exact ownsRow_mod (hown z hz).1 hm fun k hkk e => (hrest z hz).1 (by rw [hkk, e])
  · exact ownsRow_mod (hown z hz).2 hm fun k hkk e => (hrest z hz).2 (by rw [hkk, e])
end Go.Proofs.YtdapdadcninidaaGreatDoor
namespace Go.Proofs.YtdapdadcninidaaGreatDoor
open Go.RowKit
attribute [local go_sem ↓] Go.wp_at_zero Go.wp_at_succ

/-- The blocks of all but node i's children. -/
def blocksBut (B : Nat) (tab : Value) (L : List Nv) (i : Nat) (av : Value) : List Nat := B :: (tab.ownBlock.toList ++ ((L.take i).flatMap (fun x => x.kv.ownBlock.toList ++ x.av.ownBlock.toList) ++ (av.ownBlock.toList ++ (L.drop (i + 1)).flatMap fun x => x.kv.ownBlock.toList ++ x.av.ownBlock.toList)))
theorem blocks_perm {B i : Nat} {tab : Value} {L : List Nv} {x : Nv} (hx : L[i]? = some x) : (blocks B tab L).Perm (x.kv.ownBlock.toList ++ blocksBut B tab L i x.av) := by
  obtain ⟨hi, rfl⟩ := List.getElem?_eq_some_iff.1 hx
  have e : L = L.take i ++ L[i] :: L.drop (i + 1) := by rw [← List.drop_eq_getElem_cons hi, List.take_append_drop]
  unfold blocks blocksBut
  conv => lhs; rw [e]
  rw [List.flatMap_append, List.flatMap_cons]
  generalize L[i].kv.ownBlock.toList = K
  generalize L[i].av.ownBlock.toList = A
  generalize (L.take i).flatMap _ = P
  generalize (L.drop (i + 1)).flatMap _ = Q
  generalize tab.ownBlock.toList = T
  rw [← List.cons_append, ← List.cons_append]
  generalize B :: T = S
  have h1 : (S ++ (P ++ (K ++ A ++ Q))).Perm (K ++ (S ++ (P ++ (A ++ Q)))) := by
    have : S ++ (P ++ (K ++ A ++ Q)) = (S ++ P) ++ (K ++ (A ++ Q)) := by simp [List.append_assoc]
    rw [this, show S ++ (P ++ (A ++ Q)) = (S ++ P) ++ (A ++ Q) by simp [List.append_assoc], ← List.append_assoc, ← List.append_assoc K]
    exact List.Perm.append_right _ List.perm_append_comm
  exact h1
theorem take_set_eq {α : Type} (L : List α) (i : Nat) (y : α) : (L.set i y).take i = L.take i := by
  rw [List.take_set, List.set_eq_of_length_le (by rw [List.length_take]; exact Nat.min_le_left _ _)]
theorem drop_set_eq {α : Type} (L : List α) (i : Nat) (y : α) : (L.set i y).drop (i + 1) = L.drop (i + 1) := by
  rw [List.drop_set, if_pos (by omega)]
theorem blocksBut_set {B i : Nat} {tab av : Value} {L : List Nv} {y : Nv} : blocksBut B tab (L.set i y) i av = blocksBut B tab L i av := by
  unfold blocksBut
  rw [take_set_eq, drop_set_eq]
theorem ar_kids {w w1 : World} {B g n cap i : Nat} {tab inv v' : Value} {L : List Nv} {x : Nv} {ks : List Nat} (h : Ar w B tab inv L) (ht : tab = .slice (some ⟨g, 0, none⟩) n cap) (hx : L[i]? = some x)
    (hm : Mod (fun k => x.kv.ownBlock = some k) w w1) (hr : w1.ownsRow 0 3 1 v' ks.length (kidCells ks)) (hb : v'.ownBlock = x.kv.ownBlock ∨ ∃ k, v'.ownBlock = some k ∧ w.heap.size ≤ k) :
    Ar (w1.setCell ⟨g, i * 13 + 2, none⟩ v') B tab inv (L.set i ⟨{ x.nd with kids := ks }, v', x.av⟩) ∧
      AStep (blocks B tab L) w (blocks B tab (L.set i ⟨{ x.nd with kids := ks }, v', x.av⟩)) (w1.setCell ⟨g, i * 13 + 2, none⟩ v') := by
  have hi : i < L.length := (List.getElem?_eq_some_iff.1 hx).1
  have hmx := List.mem_of_getElem? hx
  have hp := blocks_perm (B := B) (tab := tab) hx
  have hnd := hp.nodup_iff.1 h.nd
  obtain ⟨hn1, hn2, hn3⟩ := List.nodup_append.1 hnd
  have hlt : ∀ k ∈ blocksBut B tab L i x.av, k < w.heap.size ∧ x.kv.ownBlock ≠ some k := fun k hk => ⟨h.lt (hp.mem_iff.2 (List.mem_append_right _ hk)), fun e => hn3 k (by simp [e]) k hk rfl⟩
  obtain ⟨y, hy⟩ : ∃ y : Nv, (⟨{ x.nd with kids := ks }, v', x.av⟩ : Nv) = y := ⟨_, rfl⟩
  have hya : y.av = x.av := by rw [← hy]
  have hyk : y.kv = v' := by rw [← hy]
  have hys : (L.set i y)[i]? = some y := by rw [List.getElem?_set_self hi]
  have hp2 := blocks_perm (B := B) (tab := tab) hys
  rw [blocksBut_set, hya, hyk] at hp2
  have hnd2 : (blocks B tab (L.set i y)).Nodup := by
    rw [hp2.nodup_iff, List.nodup_append]
    refine ⟨by cases v'.ownBlock <;> simp, hn2, fun a ha b hb' e => ?_⟩
    subst e
    have ha : v'.ownBlock = some a := by simpa using ha
    rcases hb with hb | ⟨k, hk, hge⟩
    · exact (hlt a hb').2 (by rw [← hb, ha])
    · have : k = a := by rw [ha] at hk; exact (Option.some.inj hk).symm
      have := (hlt a hb').1
      omega
  have hBb : B ∈ blocksBut B tab L i x.av := List.mem_cons_self ..
  have hTb : ∀ k, tab.ownBlock = some k → k ∈ blocksBut B tab L i x.av := fun k hk => List.mem_cons_of_mem _ (List.mem_append_left _ (by simp [hk]))
  have hd1 : w1.heap[B]? = some (.cells #[tab, inv] 93 (0, 0)) := (hm.block B (hlt B hBb).1 (hlt B hBb).2).trans h.hd
  have hrow1 := ownsRow_mod h.row hm fun k hk => (hlt k (hTb k hk)).2
  rw [hy]
  have hoth : ∀ j z, j ≠ i → L[j]? = some z → (∀ k, z.kv.ownBlock = some k → k ∈ blocksBut B tab L i x.av) ∧ ∀ k, z.av.ownBlock = some k → k ∈ blocksBut B tab L i x.av := by
    intro j z hji hz
    have hjl : j < L.length := (List.getElem?_eq_some_iff.1 hz).1
    have hmem : z ∈ L.take i ∨ z ∈ L.drop (i + 1) := by
      by_cases hlt' : j < i
      · exact .inl (List.mem_of_getElem? (by rw [List.getElem?_take, if_pos hlt']; exact hz))
      · exact .inr (List.mem_of_getElem? (i := j - (i + 1)) (by rw [List.getElem?_drop, show i + 1 + (j - (i + 1)) = j by omega]; exact hz))
    have put : ∀ k, (z.kv.ownBlock = some k ∨ z.av.ownBlock = some k) → k ∈ blocksBut B tab L i x.av := by
      intro k hk
      refine List.mem_cons_of_mem _ (List.mem_append_right _ ?_)
      rcases hmem with hmem | hmem
      · exact List.mem_append_left _ (List.mem_flatMap.2 ⟨z, hmem, by simpa using hk⟩)
      · exact List.mem_append_right _ (List.mem_append_right _ (List.mem_flatMap.2 ⟨z, hmem, by simpa using hk⟩))
    exact ⟨fun k hk => put k (.inl hk), fun k hk => put k (.inr hk)⟩
  have hAv : ∀ k, x.av.ownBlock = some k → k ∈ blocksBut B tab L i x.av := fun k hk => List.mem_cons_of_mem _ (List.mem_append_right _ (List.mem_append_right _ (List.mem_append_left _ (by simp [hk]))))
  have hown : ∀ z ∈ L.set i y, w1.ownsRow 0 3 1 z.kv z.nd.kids.length (kidCells z.nd.kids) ∧ w1.ownsRow 0 121 3 z.av z.nd.attrs.length (attCells z.nd.attrs) := by
    intro z hz
    obtain ⟨j, hj⟩ := List.getElem?_of_mem hz
    by_cases hji : j = i
    · subst hji
      rw [hys] at hj
      cases hj
      refine ⟨by rw [← hy]; exact hr, ?_⟩
      rw [hya, show y.nd.attrs = x.nd.attrs by rw [← hy]]
      exact ownsRow_mod (h.att x hmx) hm fun k hk => (hlt k (hAv k hk)).2
    · rw [List.getElem?_set_ne (Ne.symm hji)] at hj
      have hzm := List.mem_of_getElem? hj
      obtain ⟨o1, o2⟩ := hoth j z hji hj
      exact ⟨ownsRow_mod (h.kid z hzm) hm fun k hk => (hlt k (o1 k hk)).2, ownsRow_mod (h.att z hzm) hm fun k hk => (hlt k (o2 k hk)).2⟩
  refine ⟨ar_setF hd1 hrow1 ht hx (by omega) (by rw [← hy]; rfl) hown hnd2, ?_, ?_⟩
  · refine (hm.mono fun k _ hk => ?_).trans (Mod.setCell _ _ ?_)
    · exact hp.mem_iff.2 (List.mem_append_left _ (by simp [hk]))
    · exact mem_blocks.2 (.inr (.inl (by rw [ht]; rfl)))
  · intro k hk
    rcases List.mem_append.1 (hp2.mem_iff.1 hk) with hk | hk
    · have hk : v'.ownBlock = some k := by simpa using hk
      rcases hb with hb | ⟨k', hk', hge⟩
      · exact .inl (hp.mem_iff.2 (List.mem_append_left _ (by simp [← hb, hk])))
      · rw [hk] at hk'
        cases hk'
        exact .inr hge
    · exact .inl (hp.mem_iff.2 (List.mem_append_right _ hk))
/-- The same of the nodes. -/
theorem ArW.kids {B : AB} {g i cap n : Nat} {O : List Nat} {ns : List Nd} {d : Nd} {v' kv : Value} {w w1 : World} {ks : List Nat} (h : ArW B O ns w) (hx : ns[i]? = some d) (hc : w.cell? ⟨B, 0, none⟩ = some (.slice (some ⟨g, 0, none⟩) n cap)) (hk : w.cell? ⟨g, i * 13 + 2, none⟩ = some kv)
    (hm : Mod (fun k => kv.ownBlock = some k) w w1) (hr : w1.ownsRow 0 3 1 v' ks.length (kidCells ks)) (hb : v'.ownBlock = kv.ownBlock ∨ ∃ k, v'.ownBlock = some k ∧ w.heap.size ≤ k) :
    ∃ O', ArW B O' (ns.set i { d with kids := ks }) (w1.setCell ⟨g, i * 13 + 2, none⟩ v') ∧ AStep O w O' (w1.setCell ⟨g, i * 13 + 2, none⟩ v') := by
  obtain ⟨tab, L, h1, rfl, rfl⟩ := h
  rw [List.getElem?_map] at hx
  obtain ⟨x, hy, rfl⟩ := Option.map_eq_some_iff.1 hx
  have ht : tab = .slice (some ⟨g, 0, none⟩) n cap := Option.some.inj (h1.c0.symm.trans hc)
  obtain ⟨g', cap', ht', -, -, hn⟩ := h1.node hy
  have hgg : g' = g := by rw [ht] at ht'; cases ht'; rfl
  subst hgg
  have hkx : kv = x.kv := Option.some.inj (hk.symm.trans hn.c2)
  subst hkx
  obtain ⟨h2, h3⟩ := ar_kids h1 ht hy hm hr hb
  exact ⟨_, ⟨tab, _, h2, rfl, by rw [List.map_set]⟩, h3⟩
theorem ArW.far {B : AB} {g i cap n : Nat} {O : List Nat} {ns : List Nd} {kv : Value} {w : World} (h : ArW B O ns w) (hi : i < ns.length) (hc : w.cell? ⟨B, 0, none⟩ = some (.slice (some ⟨g, 0, none⟩) n cap)) (hk : w.cell? ⟨g, i * 13 + 2, none⟩ = some kv) :
    kv.ownBlock ≠ some g ∧ kv.ownBlock ≠ some B ∧ g ≠ B := by
  obtain ⟨tab, L, h1, rfl, rfl⟩ := h
  rw [List.length_map] at hi
  have hy := List.getElem?_eq_getElem hi
  have ht : tab = .slice (some ⟨g, 0, none⟩) n cap := Option.some.inj (h1.c0.symm.trans hc)
  obtain ⟨g', cap', ht', hgB, -, hn⟩ := h1.node hy
  have hgg : g' = g := by rw [ht] at ht'; cases ht'; rfl
  subst hgg
  have hkx : kv = L[i].kv := Option.some.inj (hk.symm.trans hn.c2)
  subst hkx
  have hp := blocks_perm (B := B) (tab := tab) hy
  obtain ⟨-, -, hn3⟩ := List.nodup_append.1 (hp.nodup_iff.1 h1.nd)
  refine ⟨fun e => ?_, fun e => ?_, hgB⟩
  · exact hn3 g' (by simp [e]) g' (List.mem_cons_of_mem _ (List.mem_append_left _ (by rw [ht]; simp [Value.ownBlock]))) rfl
  · exact hn3 B (by simp [e]) B (List.mem_cons_self ..) rfl
theorem kidIdx_mem {ks : List Nat} {x : Nat} (hx : x ∈ ks) : ∃ i, i < ks.length ∧ kidIdx ks (x : Int) = (i : Int) ∧ ks.eraseIdx i = ks.erase x := by
  refine ⟨ks.idxOf x, List.idxOf_lt_length_of_mem hx, ?_, by rw [List.erase_eq_eraseIdx_of_idxOf rfl]⟩
  have hl := List.idxOf_lt_length_of_mem hx
  have := Lib.idxFrom_hit (x : Int) (kInts ks) (ks.idxOf x) 0 (by rw [kInts_len]; exact hl) (by simp [kInts, hl]) (fun j hj => ?_)
  · rw [Nat.zero_add] at this
    exact this
  · have hjl : j < ks.length := by omega
    have hne : (ks[j] == x) = false := by
      have := List.not_of_lt_findIdx (p := (· == x)) (xs := ks) hj
      simpa using this
    have hne : ks[j] ≠ x := by simpa using hne
    simp [kInts, hjl]
    omega
/-- The nodes with a node cut from its parent. -/
def cutL (ns : List Nd) (h : Int) : List Nd :=
  if (ndAt ns h).parent = 0 then ns
  else setNd (setNd ns (ndAt ns h).parent { ndAt ns (ndAt ns h).parent with kids := (ndAt ns (ndAt ns h).parent).kids.erase h.toNat }) h
    { ndAt (setNd ns (ndAt ns h).parent { ndAt ns (ndAt ns h).parent with kids := (ndAt ns (ndAt ns h).parent).kids.erase h.toNat }) h with parent := 0 }
end Go.Proofs.YtdapdadcninidaaGreatDoor
namespace Go.Proofs.YtdapdadcninidaaGreatDoor
open Go.RowKit
attribute [local go_sem ↓] Go.wp_at_zero Go.wp_at_succ

/-- A node whose parent has it among its children. -/
structure CutOk (ns : List Nd) (h : Int) : Prop where
  here : isH ns.length h = true
  par : (ndAt ns h).parent ≠ 0 → isH ns.length (ndAt ns h).parent = true ∧ h.toNat ∈ (ndAt ns (ndAt ns h).parent).kids ∧ (ndAt ns (ndAt ns h).parent).kids.length ≤ 1000000 ∧ ((ndAt ns h).parent : Int) ≠ h
theorem AStep.refl (O : List Nat) (w : World) : AStep O w O w := ⟨Mod.refl _ _, fun _ hk => .inl hk⟩
set_option maxRecDepth 100000 in
set_option maxHeartbeats 400000 in
theorem cut_any (h : Int) (w : World) {B : AB} {O : List Nat} {ns : List Nd} (hA : ArW B O ns w) (hl : ns.length ≤ 1000000) (hc : CutOk ns h) :
    Calls Tryz.prog 47 #[.pointer (some ⟨B, 0, none⟩), .int .i64 h] w fun e w' => e = .returned (.tuple #[]) ∧ w'.cell? ⟨B, 0, none⟩ = w.cell? ⟨B, 0, none⟩ ∧ ∃ O', ArW B O' (cutL ns h) w' ∧ AStep O w O' w' := by
  obtain ⟨hh, hpar⟩ := hc
  obtain ⟨g, cap, kv, av, i, hi, hx, c0, hn, -, -, hat⟩ := atW_any h w hA hh hl
  have c1 := hn.c1
  by_cases hp0 : (ndAt ns h).parent = 0
  · rw [hp0] at c1
    have H1 := Lib.hid (hat w rfl)
    have HF := Lib.hid (show w.cell? ⟨B, 0, none⟩ = w.cell? ⟨B, 0, none⟩ ∧ ∃ O', ArW B O' (cutL ns h) w ∧ AStep O w O' w from ⟨rfl, O, by rw [cutL, if_pos hp0]; exact hA, AStep.refl O w⟩)
    clear hh hpar hn c0 hat hx hi hA hp0 hl
    go_enter Tryz.func47, Tryz.ntmps47
    go_wp2_with (go_at_call 37; refine H1.out.mono ?_; rintro e w1 ⟨rfl, rfl⟩)
    refine bodyPost_ret (results_none rfl _ _ _) rfl ?_
    exact ⟨rfl, rfl, HF.out.2⟩
  · obtain ⟨hph, hmem, hkl, hne⟩ := hpar hp0
    obtain ⟨p, hpe⟩ : ∃ p : Int, ((ndAt ns h).parent : Int) = p := ⟨_, rfl⟩
    have hcut : cutL ns h = setNd (setNd ns p { ndAt ns p with kids := (ndAt ns p).kids.erase h.toNat }) h { ndAt (setNd ns p { ndAt ns p with kids := (ndAt ns p).kids.erase h.toNat }) h with parent := 0 } := by rw [cutL, if_neg hp0, hpe]
    have hpz : p ≠ 0 := by omega
    rw [hpe] at hph hmem hkl hne c1
    clear hpar
    obtain ⟨g', cap', kvp, avp, ip, hip, hxp, c0', hnp, hkp, -, hatp⟩ := atW_any p w hA hph hl
    have hgg : g' = g ∧ cap' = cap := by
      rw [c0] at c0'
      injection c0' with c0'
      injection c0' with e1 e2 e3
      injection e1 with e1
      injection e1 with e1
      exact ⟨e1.symm, e3.symm⟩
    obtain ⟨rfl, rfl⟩ := hgg
    have hil : i < ns.length := (List.getElem?_eq_some_iff.1 hx).1
    have hipl : ip < ns.length := (List.getElem?_eq_some_iff.1 hxp).1
    have hii : i ≠ ip := by rintro rfl; exact hne (by rw [hi, hip])
    have c2 := hnp.c2
    obtain ⟨far1, far2, far3⟩ := hA.far hipl c0 c2
    obtain ⟨q, hq1, hq2, hq3⟩ := kidIdx_mem hmem
    have hht : ((h.toNat : Nat) : Int) = h := by omega
    rw [hht] at hq2
    have HX := kidIndex_any (ndAt ns p).kids h kvp w hkp
    rw [hq2] at HX
    have HDl := kidDelete_any (ndAt ns p).kids q kvp w hkp hq1 (by omega)
    rw [hq3] at HDl
    have hgw : g' < w.heap.size := by
      have := hn.c1
      exact World.block_lt_of_cell? _ _ this
    have hBw : B < w.heap.size := World.block_lt_of_cell? _ _ c0
    have fp2 := hnp.fz 2 (by omega)
    have fi1 := hn.fz 1 (by omega)
    have HKids := Lib.hid (fun (v' : Value) (w1 : World) (hr : w1.ownsRow 0 3 1 v' ((ndAt ns p).kids.erase h.toNat).length (kidCells ((ndAt ns p).kids.erase h.toNat))) (hb : v'.ownBlock = kvp.ownBlock) (hm : Mod (fun k => kvp.ownBlock = some k) w w1) =>
      show w1.cell? ⟨g', i * 13 + 1, none⟩ = some (.int .i64 p) ∧ w1.cell? ⟨g', ip * 13 + 2, none⟩ = some kvp ∧ w1.frozen? ⟨g', ip * 13 + 2, none⟩ = false ∧ w1.frozen? ⟨g', i * 13 + 1, none⟩ = false ∧ v'.oneCell' = true ∧
        ((w1.setCell ⟨g', ip * 13 + 2, none⟩ v').setCell ⟨g', i * 13 + 1, none⟩ (.int .i64 0)).cell? ⟨B, 0, none⟩ = w.cell? ⟨B, 0, none⟩ ∧ ∃ O', ArW B O' (cutL ns h) ((w1.setCell ⟨g', ip * 13 + 2, none⟩ v').setCell ⟨g', i * 13 + 1, none⟩ (.int .i64 0)) ∧ AStep O w O' ((w1.setCell ⟨g', ip * 13 + 2, none⟩ v').setCell ⟨g', i * 13 + 1, none⟩ (.int .i64 0)) from by
      refine ⟨(hm.cell (p := ⟨g', _, none⟩) hgw far1).trans c1, (hm.cell (p := ⟨g', _, none⟩) hgw far1).trans c2, (hm.frozen (p := ⟨g', _, none⟩) hgw far1).trans fp2, (hm.frozen (p := ⟨g', _, none⟩) hgw far1).trans fi1, ownsRow_one hr, ?_⟩
      obtain ⟨O2, hA2, hS2⟩ := hA.kids hxp c0 c2 hm hr (.inl hb)
      have hs1 : ns.set ip { ndAt ns p with kids := (ndAt ns p).kids.erase h.toNat } = setNd ns p { ndAt ns p with kids := (ndAt ns p).kids.erase h.toNat } := by rw [setNd, hip]; congr 1; omega
      rw [hs1] at hA2
      rw [hcut]
      generalize hN : setNd ns p { ndAt ns p with kids := (ndAt ns p).kids.erase h.toNat } = N at *
      have hxi : N[i]? = some (ndAt N h) := by
        have hiN : i < N.length := by rw [← hN, setNd, List.length_set]; exact hil
        rw [List.getElem?_eq_getElem hiN, hi, ndAt_at (List.getElem?_eq_getElem hiN)]
      have hc0 : (w1.setCell ⟨g', ip * 13 + 2, none⟩ v').cell? ⟨B, 0, none⟩ = some (.slice (some ⟨g', 0, none⟩) ns.length cap') := by
        rw [World.cell?_setCell_far _ _ _ _ far3]; exact (hm.cell (p := ⟨B, 0, none⟩) hBw far2).trans c0
      have hp := hA2.put (j := 1) (d' := { ndAt N h with parent := 0 }) (v := .int .i64 0) hxi hc0 (by omega) (fun _ _ => rfl) rfl rfl
      have hs2 : N.set i { ndAt N h with parent := 0 } = setNd N h { ndAt N h with parent := 0 } := by rw [setNd, hi]; congr 1; omega
      rw [hs2] at hp
      exact ⟨by rw [World.cell?_setCell_far _ _ _ _ far3, World.cell?_setCell_far _ _ _ _ far3]; exact hm.cell (p := ⟨B, 0, none⟩) hBw far2, O2, hp.1, hS2.trans hp.2⟩)
    have hslot : ¬ (i * 13 + 1 = ip * 13 + 2) := by omega
    have H1 := Lib.hid (hat w rfl)
    have H2 := Lib.hid (hatp w rfl)
    obtain ⟨y, hy⟩ : ∃ y : Int, (q : Int) = y := ⟨_, rfl⟩
    have hy1 : ((q + 1 : Nat) : Int) = y + 1 := by omega
    have hy0 : 0 ≤ y ∧ y ≤ 1000000 := by omega
    rw [hy, hy1] at HDl
    rw [hy] at HX
    replace HX := Lib.hid HX
    replace HDl := Lib.hid HDl
    have hpq : (p == 0) = false := by simpa using hpz
    obtain ⟨ka, kc, rfl⟩ := ownsRow_slice hkp
    clear hh hph hmem hkl hne hn hnp c0 c0' hat hatp hx hxp hi hip hA hkp hl hp0 hpe hcut hil hipl hii far1 far2 far3 hq1 hq2 hq3 hht hgw hBw hy hy1 hpz fp2 fi1
    go_enter Tryz.func47, Tryz.ntmps47
    go_wp2_with fail
    refine H1.out.mono ?_
    rintro e w1 ⟨rfl, rfl⟩
    go_wp2_with fail
    refine H2.out.mono ?_
    rintro e w1 ⟨rfl, rfl⟩
    go_wp2_with fail
    refine HX.out.mono ?_
    rintro e w1 ⟨rfl, rfl⟩
    clear H1 H2 HX
    go_wp2_with (go_at_call 89; refine HDl.out.mono ?_; rintro e w1 ⟨v', rfl, hr1, hb1, hm1⟩; obtain ⟨k1, k2, k3, k4, k5, k6⟩ := HKids.out v' w1 hr1 hb1 hm1; obtain ⟨va, vc, rfl⟩ := ownsRow_slice hr1; have K6 := Lib.hid k6; clear k6 hr1 hb1 hm1)
    go_end0
    exact ⟨rfl, K6.out⟩
/-- The error of Cut. -/
def cutE (ns : List Nd) (h : Int) : Int := if isH ns.length h then 0 else 3
set_option maxRecDepth 100000 in
set_option maxHeartbeats 400000 in
theorem Cut_any (h : Int) (w : World) {B : AB} {O : List Nat} {ns : List Nd} (hA : ArW B O ns w) (hl : ns.length ≤ 1000000) (hc : isH ns.length h = true → CutOk ns h) :
    Calls Tryz.prog 32 #[.pointer (some ⟨B, 0, none⟩), .int .i64 h] w (Did B O w (cutE ns h) (cutL ns h)) := by
  obtain ⟨W0, hW0⟩ : ∃ W0, w.alloc (.cells #[.int .i64 h] 3) = W0 := ⟨_, rfl⟩
  have b0 : Below w.heap.size w W0 := by rw [← hW0]; exact balloc w _
  have hbx : W0.heap[w.heap.size]? = some (.cells #[.int .i64 h] 3) := by rw [← hW0]; exact World.alloc_heap_new w _
  have hA0 := hA.later b0
  have H1 := check_any (B := B) (H := w.heap.size) (c := 1) [h] W0 hA0 (by intro j v hj; match j, hj with | 0, hj => simp at hj; subst hj; rw [cell_of_row _ _ _ _ _ _ hbx]; rfl) (by simp)
  have HW := Lib.hid hW0
  cases hh : isH ns.length h
  · rw [show chkH ns.length [h] = 3 by simp [chkH, hh]] at H1
    have he : cutE ns h = 3 := by simp [cutE, hh]
    have HF := Lib.hid (show Did B O w (cutE ns h) (cutL ns h) (.returned (.int .i64 3)) W0 from ⟨by rw [he], .inl ⟨by rw [he]; decide, b0⟩⟩)
    replace H1 := Lib.hid H1
    clear hh he hA hA0 b0 hbx hW0 hc
    go_enter Tryz.func32, Tryz.ntmps32
    go_wp2_with fail
    rw [HW.out]
    refine H1.out.mono ?_
    rintro e w1 ⟨rfl, rfl⟩
    go_wp2_with fail
    go_ret
    exact HF.out
  · rw [show chkH ns.length [h] = 0 by simp [chkH, hh]] at H1
    have he : cutE ns h = 0 := by simp [cutE, hh]
    have H2 := Lib.hid (cut_any h W0 hA0 hl (hc hh))
    have HF := Lib.hid (fun (w' : World) (hr : w'.cell? ⟨B, 0, none⟩ = W0.cell? ⟨B, 0, none⟩ ∧ ∃ O', ArW B O' (cutL ns h) w' ∧ AStep O W0 O' w') => show Did B O w (cutE ns h) (cutL ns h) (.returned (.int .i64 0)) w' from by
      obtain ⟨-, O', h1, h2⟩ := hr
      exact ⟨by rw [he], .inr ⟨he, O', h1, astep_pre b0 h2⟩⟩)
    replace H1 := Lib.hid H1
    clear hh he hA hA0 b0 hbx hW0 hc
    go_enter Tryz.func32, Tryz.ntmps32
    go_wp2_with fail
    rw [HW.out]
    refine H1.out.mono ?_
    rintro e w1 ⟨rfl, rfl⟩
    go_wp2_with fail
    refine H2.out.mono ?_
    rintro e w2 ⟨rfl, hr⟩
    have HR := Lib.hid hr
    clear hr
    go_wp2_with fail
    go_ret
    exact HF.out _ HR.out
end Go.Proofs.YtdapdadcninidaaGreatDoor
namespace Go.Proofs.YtdapdadcninidaaGreatDoor
open Go.RowKit
attribute [local go_sem ↓] Go.wp_at_zero Go.wp_at_succ

/-- An arena of a size that fits. -/
structure Fit (ns : List Nd) : Prop where
  len : ns.length ≤ 1000000
  kid : ∀ d ∈ ns, d.kids.length ≤ 1000000
  att : ∀ d ∈ ns, d.attrs.length ≤ 1000000
theorem ndAt_mem {ns : List Nd} {h : Int} : ndAt ns h ∈ ns ∨ ndAt ns h = {} := by
  unfold ndAt
  rw [List.getD_eq_getElem?_getD]
  cases e : ns[(h - 1).toNat]? with
  | none => exact .inr rfl
  | some d => exact .inl (List.mem_of_getElem? e)
theorem Fit.kid1 {ns : List Nd} (h : Fit ns) (x : Int) : (ndAt ns x).kids.length ≤ 1000000 := by
  rcases ndAt_mem (ns := ns) (h := x) with e | e
  · exact h.kid _ e
  · rw [e]; exact Nat.zero_le _
theorem Fit.att1 {ns : List Nd} (h : Fit ns) (x : Int) : (ndAt ns x).attrs.length ≤ 1000000 := by
  rcases ndAt_mem (ns := ns) (h := x) with e | e
  · exact h.att _ e
  · rw [e]; exact Nat.zero_le _
theorem Fit.kids {ns : List Nd} (h : Fit ns) (x : Int) : (kidsAt ns x).length ≤ 1000000 := by
  unfold kidsAt
  split
  · exact h.kid1 x
  · exact Nat.zero_le _
/-- What Node describes. -/
def descAt (ns : List Nd) (h : Int) : Nd := if isH ns.length h then ndAt ns h else {}
def nodeE (n : Nat) (h : Int) : Int := if isH n h then 0 else 3
/-- Node, its description's cells written out. -/
structure NodeGot (d : Nd) (er : Int) (w : World) (e : Ending) (w' : World) (k1 : Option Addr) (k2 : Nat) (a1 : Option Addr) (a2 : Nat) : Prop where
  e : e = .returned (.tuple #[.agg #[.int .i64 d.kind, .int .i64 (d.parent : Nat), .slice k1 d.kids.length k2, .int .i64 (d.doc : Nat), .int .i64 d.space, .string ⟨d.name.toArray⟩, .slice a1 d.attrs.length a2, .string ⟨d.data.toArray⟩, .string ⟨d.pub.toArray⟩, .string ⟨d.sys.toArray⟩, .bool d.quirks, .int .i64 (d.contents : Nat), .int .i64 (d.host : Nat)], .int .i64 er])
  k : w'.ownsRow w.heap.size 3 1 (.slice k1 d.kids.length k2) d.kids.length (kidCells d.kids)
  a : w'.ownsRow w.heap.size 121 3 (.slice a1 d.attrs.length a2) d.attrs.length (attCells d.attrs)
  b : Below w.heap.size w w'
theorem NodeD_any (h : Int) (w : World) {B : AB} {O : List Nat} {ns : List Nd} (hA : ArW B O ns w) (hf : Fit ns) :
    Calls Tryz.prog 22 #[.pointer (some ⟨B, 0, none⟩), .int .i64 h] w fun e w' => ∃ k1 k2 a1 a2, NodeGot (descAt ns h) (nodeE ns.length h) w e w' k1 k2 a1 a2 := by
  refine (Node_any h w hA hf.len (hf.kids h) (hf.att1 h)).mono ?_
  rintro e w' ⟨kv, av, he, hk, ha, hb⟩
  have hk1 : kidsAt ns h = (descAt ns h).kids := by unfold kidsAt descAt; split <;> rfl
  have ha1 : (if isH ns.length h then (ndAt ns h).attrs else []) = (descAt ns h).attrs := by unfold descAt; split <;> rfl
  rw [hk1] at hk
  rw [ha1] at ha
  obtain ⟨k1, k2, rfl⟩ := ownsRow_slice hk
  obtain ⟨a1, a2, rfl⟩ := ownsRow_slice ha
  exact ⟨k1, k2, a1, a2, he, hk, ha, hb⟩
set_option maxRecDepth 100000 in
theorem kind_any (h : Int) (w : World) {B : AB} {O : List Nat} {ns : List Nd} (hA : ArW B O ns w) (hf : Fit ns) :
    Calls Tryz.prog 81 #[.pointer (some ⟨B, 0, none⟩), .int .i64 h] w (Ret w (.int .i64 (descAt ns h).kind)) := by
  have H1 := Lib.hid (NodeD_any h w hA hf)
  generalize descAt ns h = d at *
  clear hA hf
  go_enter Tryz.func81, Tryz.ntmps81
  go_wp2_with (refine H1.out.mono ?_; rintro e w1 ⟨k1, k2, a1, a2, rfl, -, -, b1⟩)
  go_ret
  exact Ret.mk rfl (b1.alloc b1.size _)
set_option maxRecDepth 100000 in
theorem docOf_any (h : Int) (w : World) {B : AB} {O : List Nat} {ns : List Nd} (hA : ArW B O ns w) (hf : Fit ns) :
    Calls Tryz.prog 85 #[.pointer (some ⟨B, 0, none⟩), .int .i64 h] w (Ret w (.int .i64 ((descAt ns h).doc : Nat))) := by
  have H1 := Lib.hid (NodeD_any h w hA hf)
  generalize descAt ns h = d at *
  clear hA hf
  go_enter Tryz.func85, Tryz.ntmps85
  go_wp2_with (refine H1.out.mono ?_; rintro e w1 ⟨k1, k2, a1, a2, rfl, -, -, b1⟩)
  go_ret
  exact Ret.mk rfl (b1.alloc b1.size _)
/-- The error of check; o: the place that may be 0. -/
def chkFrom (n : Nat) (o : Int) : Int → List Int → Int
  | _, [] => 0
  | i, h :: hs => if h = 0 ∧ i = o then chkFrom n o (i + 1) hs else if isH n h then chkFrom n o (i + 1) hs else 3
def chkD (n : Nat) (o : Int) (hs : List Int) : Int := chkFrom n o 0 hs
set_option maxRecDepth 100000 in
set_option maxHeartbeats 1000000 in
theorem checkD_any (o : Int) (hs : List Int) (w : World) {B : AB} {H c : Nat} {O : List Nat} {ns : List Nd} (hA : ArW B O ns w) (hf : Fit ns) (hc : ∀ j v, hs[j]? = some v → w.cell? ⟨H, j, none⟩ = some (.int .i64 v)) (hn : hs.length ≤ 1000) (hH : H < w.heap.size) :
    Calls Tryz.prog 52 #[.pointer (some ⟨B, 0, none⟩), .int .i64 o, .slice (some ⟨H, 0, none⟩) hs.length c] w (Ret w (.int .i64 (chkD ns.length o hs))) := by
  have H1 := Lib.hid (fun w' h (hb : Below w.heap.size w w') => NodeD_any h w' (hA.later hb) hf)
  have HC := Lib.hid hc
  clear hc hA
  go_enter Tryz.func52, Tryz.ntmps52
  go_wp2
  go_loopw [15] (fun i wr => ∃ k : Nat, k ≤ hs.length ∧ i = .int .i64 k ∧ Below w.heap.size w wr ∧ chkFrom ns.length o k (hs.drop k) = chkD ns.length o hs) (fun i _ => hs.length - (intOf i).toNat)
  case atStart => exact ⟨0, Nat.zero_le _, rfl, Below.refl _ _, rfl⟩
  case round =>
    obtain ⟨k, hk, rfl, hb, hall⟩ := hrel
    have HA := Lib.hid hall; have HB := Lib.hid hb
    clear hall
    by_cases hlt : k < hs.length
    · have hcell := (hb.cell (p := ⟨H, k, none⟩) hH).trans (HC.out k hs[k] (List.getElem?_eq_getElem hlt))
      obtain ⟨z, hz⟩ : ∃ z, hs[k] = z := ⟨_, rfl⟩
      rw [hz] at hcell
      have hdr : hs.drop k = z :: hs.drop (k + 1) := by rw [List.drop_eq_getElem_cons hlt, hz]
      have hst : Hid (chkD ns.length o hs = if z = 0 ∧ (k : Int) = o then chkFrom ns.length o ((k + 1 : Nat) : Int) (hs.drop (k + 1)) else if isH ns.length z then chkFrom ns.length o ((k + 1 : Nat) : Int) (hs.drop (k + 1)) else 3) := Lib.hid (by
        rw [← HA.out, hdr]; rfl)
      clear hb hz hdr HA
      by_cases hskip : z = 0 ∧ (k : Int) = o
      · obtain ⟨rfl, rfl⟩ := hskip
        go_wp2
        go_roundw
        case rel => exact ⟨k + 1, by omega, by go_num, HB.out, by rw [hst.out, if_pos ⟨rfl, rfl⟩]⟩
        case measure => simp [intOf]; omega
      · have H2 := Lib.hid (H1.out wr z HB.out)
        have hsk : ((z == 0) = false) ∨ ((z == 0) = true ∧ ((k : Int) == o) = false) := by
          by_cases h0 : z = 0
          · exact .inr ⟨by simpa using h0, by simpa using fun h => hskip ⟨h0, h⟩⟩
          · exact .inl (by simpa using h0)
        have HST := Lib.hid (hst.out.trans (if_neg hskip))
        clear hst hskip
        have hne : nodeE ns.length z = if isH ns.length z then 0 else 3 := rfl
        cases hz : isH ns.length z
        · rw [hz] at hne HST
          have HST2 : Hid (chkD ns.length o hs = 3) := Lib.hid (by rw [HST.out]; rfl)
          rw [hne] at H2
          clear hz hne HST
          generalize descAt ns z = d at *
          rcases hsk with hsk | ⟨hsk, hsk2⟩
          all_goals
            go_wp2_with (refine H2.out.mono ?_; rintro e w1 ⟨k1, k2, a1, a2, rfl, -, -, b1⟩)
            go_ret
            exact ⟨by rw [HST2.out]; rfl, bthen HB.out HB.out.size (b1.alloc b1.size _)⟩
        · rw [hz] at hne HST
          have HST2 : Hid (chkFrom ns.length o ((k + 1 : Nat) : Int) (hs.drop (k + 1)) = chkD ns.length o hs) := Lib.hid (by rw [HST.out]; rfl)
          rw [hne] at H2
          clear hz hne HST
          generalize descAt ns z = d at *
          rcases hsk with hsk | ⟨hsk, hsk2⟩
          all_goals
            go_wp2_with (refine H2.out.mono ?_; rintro e w1 ⟨k1, k2, a1, a2, rfl, -, -, b1⟩)
            go_roundw
            case rel => exact ⟨k + 1, by omega, by go_num, bthen HB.out HB.out.size (b1.alloc b1.size _), HST2.out⟩
            case measure => simp [intOf]; omega
    · have HR : Hid (chkD ns.length o hs = 0) := Lib.hid (by
        rw [← HA.out, List.drop_of_length_le (by omega)]; rfl)
      go_wp2
      go_ret
      exact Ret.mk (by rw [HR.out]; rfl) HB.out
end Go.Proofs.YtdapdadcninidaaGreatDoor
