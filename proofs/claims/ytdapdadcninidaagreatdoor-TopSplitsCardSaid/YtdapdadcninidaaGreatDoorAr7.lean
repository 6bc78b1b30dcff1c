/- Package arena: Node. -/
import Derived.Test.YtdapdadcninidaaGreatDoorAr6
namespace Go.Proofs.YtdapdadcninidaaGreatDoor
open Go.RowKit
attribute [local go_sem ↓] Go.wp_at_zero Go.wp_at_succ

/-- Node returns a description and OK, or an error. -/
def NodeRet (ns : List Nd) (h : Int) (w : World) (e : Ending) (w' : World) : Prop :=
  ∃ kv av, e = .returned (.tuple #[.agg (ndCells (if isH ns.length h then ndAt ns h else {}) kv av).toArray, .int .i64 (if isH ns.length h then 0 else 3)]) ∧
    w'.ownsRow w.heap.size 3 1 kv (kidsAt ns h).length (kidCells (kidsAt ns h)) ∧ w'.ownsRow w.heap.size 121 3 av (if isH ns.length h then (ndAt ns h).attrs else []).length (attCells (if isH ns.length h then (ndAt ns h).attrs else [])) ∧ Below w.heap.size w w'
def zeroNd : List Value := [.int .i64 0, .int .i64 0, .slice none 0 0, .int .i64 0, .int .i64 0, .string ⟨#[]⟩, .slice none 0 0, .string ⟨#[]⟩, .string ⟨#[]⟩, .string ⟨#[]⟩, .bool false, .int .i64 0, .int .i64 0]
set_option maxRecDepth 100000 in
set_option maxHeartbeats 8000000 in
theorem Node_any (h : Int) (w : World) {B : Nat} {O : List Nat} {ns : List Nd} (hA : ArW B O ns w) (hl : ns.length ≤ 1000000) (hkl : (kidsAt ns h).length ≤ 1000000) (hal : (ndAt ns h).attrs.length ≤ 1000000) :
    Calls Tryz.prog 22 #[.pointer (some ⟨B, 0, none⟩), .int .i64 h] w (NodeRet ns h w) := by
  obtain ⟨W0, hW0⟩ : ∃ W0, (w.alloc (.cells zeroNd.toArray 55)).alloc (.cells #[.int .i64 h] 3) = W0 := ⟨_, rfl⟩
  obtain ⟨hb0, hbx, hs0, b0⟩ := two_new hW0
  have hA0 := hA.later b0
  have H1 := check_any (B := B) (H := w.heap.size + 1) (c := 1) [h] W0 hA0 (by intro j v hj; match j, hj with | 0, hj => simp at hj; subst hj; rw [cell_of_row _ _ _ _ _ _ hbx]; rfl) (by simp)
  have hBl : B < w.heap.size := by
    obtain ⟨ad, cap, hc⟩ := hA.inlen
    exact World.block_lt_of_cell? _ _ hc
  cases hh : isH ns.length h
  · rw [show chkH ns.length [h] = 3 by simp [chkH, hh]] at H1
    have hfin : ∀ W3, Mod (fun k => k = w.heap.size) W0 W3 → NodeRet ns h w (.returned (.tuple #[.agg zeroNd.toArray, .int .i64 3])) W3 := by
      intro W3 hm
      refine ⟨nilS, nilS, ?_, ?_, ?_, ⟨hm.os.trans b0.os, hm.tape.trans b0.tape, hm.output.trans b0.output, Nat.le_trans b0.size hm.size, fun k hk => (hm.block k (Nat.lt_of_lt_of_le hk b0.size) (by omega)).trans (b0.block k hk)⟩⟩
      · simp only [hh]; rfl
      · rw [show kidsAt ns h = [] by simp [kidsAt, hh]]; exact ⟨rfl, .inl ⟨rfl, rfl⟩⟩
      · simp only [hh]; exact ⟨rfl, .inl ⟨rfl, rfl⟩⟩
    have H1 := Lib.hid H1
    have HF := Lib.hid hfin
    have HB := Lib.hid hb0
    have hW0' : (w.alloc (.cells #[.int .i64 0, .int .i64 0, .slice none 0 0, .int .i64 0, .int .i64 0, .string ⟨#[]⟩, .slice none 0 0, .string ⟨#[]⟩, .string ⟨#[]⟩, .string ⟨#[]⟩, .bool false, .int .i64 0, .int .i64 0] 55)).alloc (.cells #[.int .i64 h] 3) = W0 := hW0
    have HW := Lib.hid hW0'
    clear hh hfin hbx b0 hA0 hA hW0 hW0' hkl hal
    go_enter Tryz.func22, Tryz.ntmps22
    go_wp2_with fail
    rw [HW.out]
    refine H1.out.mono ?_
    rintro e w1 ⟨rfl, rfl⟩
    have z0 : W0.cell? ⟨w.heap.size, 0, none⟩ = _ := (cell_of_row W0 w.heap.size 0 _ _ _ hb0)
    have y0 : W0.frozen? ⟨w.heap.size, 0, none⟩ = false := Lib.frozen_of_heap hb0 _
    have z1 : W0.cell? ⟨w.heap.size, 1, none⟩ = _ := (cell_of_row W0 w.heap.size 1 _ _ _ hb0)
    have y1 : W0.frozen? ⟨w.heap.size, 1, none⟩ = false := Lib.frozen_of_heap hb0 _
    have z2 : W0.cell? ⟨w.heap.size, 2, none⟩ = _ := (cell_of_row W0 w.heap.size 2 _ _ _ hb0)
    have y2 : W0.frozen? ⟨w.heap.size, 2, none⟩ = false := Lib.frozen_of_heap hb0 _
    have z3 : W0.cell? ⟨w.heap.size, 3, none⟩ = _ := (cell_of_row W0 w.heap.size 3 _ _ _ hb0)
    have y3 : W0.frozen? ⟨w.heap.size, 3, none⟩ = false := Lib.frozen_of_heap hb0 _
    have z4 : W0.cell? ⟨w.heap.size, 4, none⟩ = _ := (cell_of_row W0 w.heap.size 4 _ _ _ hb0)
    have y4 : W0.frozen? ⟨w.heap.size, 4, none⟩ = false := Lib.frozen_of_heap hb0 _
    have z5 : W0.cell? ⟨w.heap.size, 5, none⟩ = _ := (cell_of_row W0 w.heap.size 5 _ _ _ hb0)
    have y5 : W0.frozen? ⟨w.heap.size, 5, none⟩ = false := Lib.frozen_of_heap hb0 _
    have z6 : W0.cell? ⟨w.heap.size, 6, none⟩ = _ := (cell_of_row W0 w.heap.size 6 _ _ _ hb0)
    have y6 : W0.frozen? ⟨w.heap.size, 6, none⟩ = false := Lib.frozen_of_heap hb0 _
    have z7 : W0.cell? ⟨w.heap.size, 7, none⟩ = _ := (cell_of_row W0 w.heap.size 7 _ _ _ hb0)
    have y7 : W0.frozen? ⟨w.heap.size, 7, none⟩ = false := Lib.frozen_of_heap hb0 _
    have z8 : W0.cell? ⟨w.heap.size, 8, none⟩ = _ := (cell_of_row W0 w.heap.size 8 _ _ _ hb0)
    have y8 : W0.frozen? ⟨w.heap.size, 8, none⟩ = false := Lib.frozen_of_heap hb0 _
    have z9 : W0.cell? ⟨w.heap.size, 9, none⟩ = _ := (cell_of_row W0 w.heap.size 9 _ _ _ hb0)
    have y9 : W0.frozen? ⟨w.heap.size, 9, none⟩ = false := Lib.frozen_of_heap hb0 _
    have z10 : W0.cell? ⟨w.heap.size, 10, none⟩ = _ := (cell_of_row W0 w.heap.size 10 _ _ _ hb0)
    have y10 : W0.frozen? ⟨w.heap.size, 10, none⟩ = false := Lib.frozen_of_heap hb0 _
    have z11 : W0.cell? ⟨w.heap.size, 11, none⟩ = _ := (cell_of_row W0 w.heap.size 11 _ _ _ hb0)
    have y11 : W0.frozen? ⟨w.heap.size, 11, none⟩ = false := Lib.frozen_of_heap hb0 _
    have z12 : W0.cell? ⟨w.heap.size, 12, none⟩ = _ := (cell_of_row W0 w.heap.size 12 _ _ _ hb0)
    have y12 : W0.frozen? ⟨w.heap.size, 12, none⟩ = false := Lib.frozen_of_heap hb0 _
    simp only [zeroNd, List.getElem?_toArray, List.getElem?_cons_zero, List.getElem?_cons_succ] at z0 z1 z2 z3 z4 z5 z6 z7 z8 z9 z10 z11 z12
    clear hb0
    go_wp2_with fail
    refine ret_named fun W3 hW3 => ?_
    have hm3 : Mod (fun k => k = w.heap.size) W0 W3 := by
      rw [hW3]
      iterate 13 refine Mod.trans ?_ (Mod.setCell _ _ rfl)
      exact Mod.refl _ _
    have hall : ∀ j v, zeroNd[j]? = some v → W3.cell? ⟨w.heap.size, j, none⟩ = some v := by
      rw [hW3]
      exact setCells_all zeroNd HB.out rfl
    have HF3 := Lib.hid (HF.out W3 hm3)
    clear hW3 hm3 z0 y0 z1 y1 z2 y2 z3 y3 z4 y4 z5 y5 z6 y6 z7 y7 z8 y8 z9 y9 z10 y10 z11 y11 z12 y12
    have q0 := hall 0 _ rfl
    have q1 := hall 1 _ rfl
    have q2 := hall 2 _ rfl
    have q3 := hall 3 _ rfl
    have q4 := hall 4 _ rfl
    have q5 := hall 5 _ rfl
    have q6 := hall 6 _ rfl
    have q7 := hall 7 _ rfl
    have q8 := hall 8 _ rfl
    have q9 := hall 9 _ rfl
    have q10 := hall 10 _ rfl
    have q11 := hall 11 _ rfl
    have q12 := hall 12 _ rfl
    clear hall
    refine bodyPost_ret (v := .tuple #[.agg zeroNd.toArray, .int .i64 3]) (by simp [results, Tryz.results22, go_sem, zeroNd, q0, q1, q2, q3, q4, q5, q6, q7, q8, q9, q10, q11, q12]) rfl HF3.out
  · rw [show chkH ns.length [h] = 0 by simp [chkH, hh]] at H1
    have hke : kidsAt ns h = (ndAt ns h).kids := by simp [kidsAt, hh]
    rw [hke] at hkl
    obtain ⟨g, cap, kv, av, i, -, -, c0, hn, hkr, har, hat⟩ := atW_any h W0 hA0 hh hl
    have hgl : g < W0.heap.size := World.block_lt_of_cell? _ _ hn.c0
    have hde := describe_any _ kv av W0 hn hgl hkr har hkl hal
    have hfin : ∀ v w1 w2, DescRet W0 (ndAt ns h) v w1 → Mod (fun k => k = w.heap.size) w1 w2 → NodeRet ns h w (.returned (.tuple #[v, .int .i64 0])) w2 := by
      rintro v w1 w2 ⟨kv', av', rfl, r1, r2, b1⟩ hm
      have low : ∀ {n s : Nat} {e : TypeId} {v : Value} {xs : List Value}, w1.ownsRow W0.heap.size e s v n xs → w2.ownsRow w.heap.size e s v n xs := by
        intro n s e v xs h
        have h' := ownsRow_mod h hm (fun g hg hS => by
          rcases h.2 with ⟨rfl, _⟩ | ⟨g', cap, cur, rfl, hg', _⟩
          · simp [Value.ownBlock] at hg
          · simp [Value.ownBlock] at hg; omega)
        refine ⟨h'.1, ?_⟩
        rcases h'.2 with h' | ⟨g, cap, cur, hv, hg, r⟩
        · exact .inl h'
        · exact .inr ⟨g, cap, cur, hv, by omega, r⟩
      have bb := bthen b0 b0.size b1
      refine ⟨kv', av', ?_, ?_, ?_, ⟨hm.os.trans bb.os, hm.tape.trans bb.tape, hm.output.trans bb.output, Nat.le_trans bb.size hm.size, fun k hk => (hm.block k (Nat.lt_of_lt_of_le hk bb.size) (by omega)).trans (bb.block k hk)⟩⟩
      · simp only [hh, if_true]
      · rw [hke]; exact low r1
      · simp only [hh, if_true]; exact low r2
    have H1 := Lib.hid H1
    have H2 := Lib.hid (hat W0 rfl)
    have H3 := Lib.hid hde
    have HF := Lib.hid hfin
    have HB := Lib.hid hb0
    have hs1 : w.heap.size < W0.heap.size := by omega
    have hW0' : (w.alloc (.cells #[.int .i64 0, .int .i64 0, .slice none 0 0, .int .i64 0, .int .i64 0, .string ⟨#[]⟩, .slice none 0 0, .string ⟨#[]⟩, .string ⟨#[]⟩, .string ⟨#[]⟩, .bool false, .int .i64 0, .int .i64 0] 55)).alloc (.cells #[.int .i64 h] 3) = W0 := hW0
    have HW := Lib.hid hW0'
    obtain ⟨dd, hdd⟩ : ∃ dd, ndAt ns h = dd := ⟨_, rfl⟩
    rw [hdd] at H3 HF
    clear hh hn c0 hat hkr har hke hde hfin hb0 hbx b0 hA0 hA hW0 hW0' hdd hkl hal
    go_enter Tryz.func22, Tryz.ntmps22
    go_wp2_with fail
    rw [HW.out]
    refine H1.out.mono ?_
    rintro e w1 ⟨rfl, rfl⟩
    go_wp2_with fail
    refine H2.out.mono ?_
    rintro e w1 ⟨rfl, rfl⟩
    go_wp2_with fail
    refine H3.out.mono ?_
    rintro e w2 ⟨v, rfl, hd⟩
    have HF2 := Lib.hid (fun W3 hm => HF.out v w2 W3 hd hm)
    obtain ⟨kv', av', rfl, r1, r2, b1⟩ := hd
    obtain ⟨kx, ky, rfl⟩ := ownsRow_slice r1
    obtain ⟨ax, ay, rfl⟩ := ownsRow_slice r2
    have hb2 := (b1.block w.heap.size hs1).trans HB.out
    have HB2 := Lib.hid hb2
    have hs2 := Nat.lt_of_lt_of_le hs1 b1.size
    clear r1 r2 b1
    simp only [ndCells, natV, strV]
    have z0 : w2.cell? ⟨w.heap.size, 0, none⟩ = _ := (cell_of_row w2 w.heap.size 0 _ _ _ hb2)
    have y0 : w2.frozen? ⟨w.heap.size, 0, none⟩ = false := Lib.frozen_of_heap hb2 _
    have z1 : w2.cell? ⟨w.heap.size, 1, none⟩ = _ := (cell_of_row w2 w.heap.size 1 _ _ _ hb2)
    have y1 : w2.frozen? ⟨w.heap.size, 1, none⟩ = false := Lib.frozen_of_heap hb2 _
    have z2 : w2.cell? ⟨w.heap.size, 2, none⟩ = _ := (cell_of_row w2 w.heap.size 2 _ _ _ hb2)
    have y2 : w2.frozen? ⟨w.heap.size, 2, none⟩ = false := Lib.frozen_of_heap hb2 _
    have z3 : w2.cell? ⟨w.heap.size, 3, none⟩ = _ := (cell_of_row w2 w.heap.size 3 _ _ _ hb2)
    have y3 : w2.frozen? ⟨w.heap.size, 3, none⟩ = false := Lib.frozen_of_heap hb2 _
    have z4 : w2.cell? ⟨w.heap.size, 4, none⟩ = _ := (cell_of_row w2 w.heap.size 4 _ _ _ hb2)
    have y4 : w2.frozen? ⟨w.heap.size, 4, none⟩ = false := Lib.frozen_of_heap hb2 _
    have z5 : w2.cell? ⟨w.heap.size, 5, none⟩ = _ := (cell_of_row w2 w.heap.size 5 _ _ _ hb2)
    have y5 : w2.frozen? ⟨w.heap.size, 5, none⟩ = false := Lib.frozen_of_heap hb2 _
    have z6 : w2.cell? ⟨w.heap.size, 6, none⟩ = _ := (cell_of_row w2 w.heap.size 6 _ _ _ hb2)
    have y6 : w2.frozen? ⟨w.heap.size, 6, none⟩ = false := Lib.frozen_of_heap hb2 _
    have z7 : w2.cell? ⟨w.heap.size, 7, none⟩ = _ := (cell_of_row w2 w.heap.size 7 _ _ _ hb2)
    have y7 : w2.frozen? ⟨w.heap.size, 7, none⟩ = false := Lib.frozen_of_heap hb2 _
    have z8 : w2.cell? ⟨w.heap.size, 8, none⟩ = _ := (cell_of_row w2 w.heap.size 8 _ _ _ hb2)
    have y8 : w2.frozen? ⟨w.heap.size, 8, none⟩ = false := Lib.frozen_of_heap hb2 _
    have z9 : w2.cell? ⟨w.heap.size, 9, none⟩ = _ := (cell_of_row w2 w.heap.size 9 _ _ _ hb2)
    have y9 : w2.frozen? ⟨w.heap.size, 9, none⟩ = false := Lib.frozen_of_heap hb2 _
    have z10 : w2.cell? ⟨w.heap.size, 10, none⟩ = _ := (cell_of_row w2 w.heap.size 10 _ _ _ hb2)
    have y10 : w2.frozen? ⟨w.heap.size, 10, none⟩ = false := Lib.frozen_of_heap hb2 _
    have z11 : w2.cell? ⟨w.heap.size, 11, none⟩ = _ := (cell_of_row w2 w.heap.size 11 _ _ _ hb2)
    have y11 : w2.frozen? ⟨w.heap.size, 11, none⟩ = false := Lib.frozen_of_heap hb2 _
    have z12 : w2.cell? ⟨w.heap.size, 12, none⟩ = _ := (cell_of_row w2 w.heap.size 12 _ _ _ hb2)
    have y12 : w2.frozen? ⟨w.heap.size, 12, none⟩ = false := Lib.frozen_of_heap hb2 _
    simp only [zeroNd, List.getElem?_toArray, List.getElem?_cons_zero, List.getElem?_cons_succ] at z0 z1 z2 z3 z4 z5 z6 z7 z8 z9 z10 z11 z12
    clear hb2
    go_wp2_with fail
    refine ret_named fun W3 hW3 => ?_
    have hm3 : Mod (fun k => k = w.heap.size) w2 W3 := by
      rw [hW3]
      iterate 13 refine Mod.trans ?_ (Mod.setCell _ _ rfl)
      exact Mod.refl _ _
    have hall : ∀ j v, (ndCells dd (.slice kx dd.kids.length ky) (.slice ax dd.attrs.length ay))[j]? = some v → W3.cell? ⟨w.heap.size, j, none⟩ = some v := by
      rw [hW3]
      exact setCells_all (ndCells dd (.slice kx dd.kids.length ky) (.slice ax dd.attrs.length ay)) HB2.out rfl
    have HF3 := Lib.hid (HF2.out W3 hm3)
    clear hW3 hm3 z0 y0 z1 y1 z2 y2 z3 y3 z4 y4 z5 y5 z6 y6 z7 y7 z8 y8 z9 y9 z10 y10 z11 y11 z12 y12
    have q0 := hall 0 _ rfl
    have q1 := hall 1 _ rfl
    have q2 := hall 2 _ rfl
    have q3 := hall 3 _ rfl
    have q4 := hall 4 _ rfl
    have q5 := hall 5 _ rfl
    have q6 := hall 6 _ rfl
    have q7 := hall 7 _ rfl
    have q8 := hall 8 _ rfl
    have q9 := hall 9 _ rfl
    have q10 := hall 10 _ rfl
    have q11 := hall 11 _ rfl
    have q12 := hall 12 _ rfl
    clear hall
    refine bodyPost_ret (v := .tuple #[.agg (ndCells dd (.slice kx dd.kids.length ky) (.slice ax dd.attrs.length ay)).toArray, .int .i64 0]) (by simp [results, Tryz.results22, go_sem, ndCells, q0, q1, q2, q3, q4, q5, q6, q7, q8, q9, q10, q11, q12]) rfl HF3.out
end Go.Proofs.YtdapdadcninidaaGreatDoor
