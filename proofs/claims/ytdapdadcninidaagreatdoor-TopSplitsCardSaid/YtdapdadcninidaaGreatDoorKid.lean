/- The library's functions on a slice of ints that the caller owns: Index, Clone, Delete, Insert; Clone of a slice of attributes. -/
import Derived.Test.YtdapdadcninidaaGreatDoorAr4
import Derived.Test.YtdapdadcninidaaGreatDoorIns
import Derived.Shelf.SlicesE.Clone
namespace Go.Proofs.YtdapdadcninidaaGreatDoor
open Go.RowKit
attribute [local go_sem ↓] Go.wp_at_zero Go.wp_at_succ

/-- The row's cells, whole. -/
theorem row_cells {w : World} {b n : Nat} {e : TypeId} {v : Value} {xs : List Value} (h : w.ownsRow b e 1 v n xs) : (v = .slice none 0 0 ∧ n = 0 ∧ xs = []) ∨
    ∃ g cap cur, v = .slice (some ⟨g, 0, none⟩) n cap ∧ w.heap[g]? = some (.cells cur e (0, 0)) ∧ n ≤ cap ∧ cap ≤ maxLen ∧ cur.size = cap ∧ cur.toList.take n = xs ∧ xs.length = n := by
  obtain ⟨h1, ⟨h2, h3⟩ | ⟨g, cap, cur, h2, h3, h4, h5, h6, h7, h8⟩⟩ := h
  · exact .inl ⟨h2, h3, List.eq_nil_of_length_eq_zero (by omega)⟩
  · exact .inr ⟨g, cap, cur, h2, h4, h5, h6, by omega, by rwa [Nat.mul_one] at h8, by omega⟩
theorem kidCells_len (ks : List Nat) : (kidCells ks).length = ks.length := by simp [kidCells]
theorem kidCells_one (ks : List Nat) : ∀ u ∈ kidCells ks, u.oneCell' = true := by
  intro u hu
  obtain ⟨k, _, rfl⟩ := List.mem_map.1 hu
  rfl
theorem row_at {w : World} {b n : Nat} {e : TypeId} {g cap : Nat} {xs : List Value} (h : w.ownsRow b e 1 (.slice (some ⟨g, 0, none⟩) n cap) n xs) (j : Nat) (v : Value) (hj : xs[j]? = some v) : w.cell? ⟨g, j, none⟩ = some v := by
  rcases row_cells h with ⟨h, _⟩ | ⟨g', cap', cur, h1, h2, h3, h4, h5, h6, h7⟩
  · cases h
  · cases h1
    rw [cell_of_row w g j cur _ _ h2, ← Array.getElem?_toList]
    rw [← h6, List.getElem?_take] at hj
    split at hj
    · exact hj
    · cases hj
def kInts (ks : List Nat) : List Int := ks.map fun (k : Nat) => (k : Int)
/-- The index of a child, or -1. -/
def kidIdx (ks : List Nat) (x : Int) : Int := Lib.idxOf (kInts ks) x
theorem kInts_len (ks : List Nat) : (kInts ks).length = ks.length := by simp [kInts]
theorem row_ints {w : World} {b : Nat} {e : TypeId} {g cap : Nat} {ks : List Nat} (h : w.ownsRow b e 1 (.slice (some ⟨g, 0, none⟩) ks.length cap) ks.length (kidCells ks)) : ∀ j, j < (kInts ks).length → w.cell? ⟨g, 0 + j, none⟩ = some (.int .i64 ((kInts ks).getD j 0)) := by
  intro j hj
  rw [kInts_len] at hj
  rw [Nat.zero_add, row_at h j (natV ks[j]) (by simp [kidCells, hj])]
  simp [natV, kInts, hj]
theorem kidIndex_any (ks : List Nat) (x : Int) (v : Value) (w : World) (h : w.ownsRow 0 3 1 v ks.length (kidCells ks)) :
    Calls Tryz.prog 48 #[v, .int .i64 x] w fun e w' => e = .returned (.int .i64 (kidIdx ks x)) ∧ w = w' := by
  have hr := row_cells h
  rcases hr with ⟨rfl, h0, _⟩ | ⟨g, cap, cur, rfl, h2, h3, h4, h5, h6, h7⟩
  · obtain rfl : ks = [] := List.eq_nil_of_length_eq_zero h0
    exact (Tryz.slices_Index_int_empty none 0 x w).mono fun e w' ⟨h1, h2⟩ => ⟨h1, h2.symm⟩
  · refine (Tryz.slices_Index_int g 0 ks.length cap (kInts ks) x w (by rw [kInts_len]; exact Nat.le_refl _) (by unfold maxLen at h4; omega) (row_ints h)).mono fun e w' ⟨h1, h2⟩ => ⟨?_, h2.symm⟩
    rw [h1, List.take_of_length_le (by rw [kInts_len]; exact Nat.le_refl _)]; rfl
theorem info3 : (Tryz.prog.info? 3).map (fun i => (i.zero, i.size, i.bytes)) = some (some (.int .i64 0), 1, 8) := by kernel_rfl
/-- slices.Clone: a slice of the caller's own. -/
theorem kidClone_any (ks : List Nat) (v : Value) (w : World) (h : w.ownsRow 0 3 1 v ks.length (kidCells ks)) (hl : ks.length ≤ 1000000000) :
    Calls Tryz.prog 111 #[v] w fun e w' => ∃ v', e = .returned v' ∧ w'.ownsRow w.heap.size 3 1 v' ks.length (kidCells ks) ∧ Below w.heap.size w w' := by
  have hr := row_cells h
  rcases hr with ⟨rfl, h0, _⟩ | ⟨g, cap, cur, rfl, h2, h3, h4, h5, h6, h7⟩
  · obtain rfl : ks = [] := List.eq_nil_of_length_eq_zero h0
    refine (Tryz.slices_Clone_int_nil 0 0 w).mono fun e w' ⟨h1, h2⟩ => ?_
    subst h2
    exact ⟨_, h1, ⟨rfl, .inl ⟨rfl, rfl⟩⟩, Below.refl _ _⟩
  · refine (Tryz.slices_Clone_int g 0 ks.length cap (kInts ks) w (by rw [kInts_len]; exact Nat.le_refl _) (by omega) (row_ints h)).mono fun e w' ⟨v', h1, h2, _, h3⟩ => ⟨v', h1, ?_, h3⟩
    rw [List.take_of_length_le (by rw [kInts_len]; exact Nat.le_refl _)] at h2
    rwa [show kidCells ks = (kInts ks).map (Value.int .i64) by simp [kidCells, kInts, natV]]
def delRen : Go.Shelf.Ren := ⟨fun | 41 => 112 | n => n, fun | 22 => 40 | 23 => 121 | n => n, fun | n => n⟩
theorem attLay : Go.Proofs.SlLaysE0.n41 Tryz.prog delRen := {
  mixed := by kernel_rfl
  f41 := ⟨Tryz.f112.name, by decide, Tryz.func112.trans (congrArg some (by kernel_rfl))⟩
  t4 := Tryz.underlying4
  a4 := Tryz.isAgg4
  z4 := Tryz.sizeOf4
  v4 := Tryz.zeroValue4
  t22 := Tryz.underlying40
  a22 := Tryz.isAgg40
  z22 := Tryz.sizeOf40
  v22 := Tryz.zeroValue40 }
def zeroA : Value := .agg #[.int .i64 0, .string ⟨#[]⟩, .string ⟨#[]⟩]
theorem infoA : (Tryz.prog.info? 121).map (fun i => (i.zero, i.size, i.bytes)) = some (some zeroA, 3, 40) := by kernel_rfl
theorem attCells_len (l : List Att) : (attCells l).length = l.length * 3 := by
  induction l with
  | nil => rfl
  | cons a l ih => simp only [attCells, List.flatMap_cons, List.length_append, List.length_cons] at ih ⊢; rw [ih]; simp; omega
theorem attCells_one (l : List Att) : ∀ u ∈ attCells l, u.oneCell' = true := by
  intro u hu
  obtain ⟨a, _, hu⟩ := List.mem_flatMap.1 hu
  simp at hu
  rcases hu with rfl | rfl | rfl <;> rfl
/-- slices.Clone of attributes. -/
theorem attClone_any (l : List Att) (v : Value) (w : World) (h : w.ownsRow 0 121 3 v l.length (attCells l)) (hl : l.length ≤ 1000000000) :
    Calls Tryz.prog 112 #[v] w fun e w' => ∃ v', e = .returned v' ∧ w'.ownsRow w.heap.size 121 3 v' l.length (attCells l) ∧ Below w.heap.size w w' := by
  obtain ⟨h1, ⟨rfl, h3⟩ | ⟨g, cap, cur, rfl, h3, h4, h5, h6, h7, h8⟩⟩ := h
  · obtain rfl : l = [] := List.eq_nil_of_length_eq_zero h3
    refine (AnyE.slices_Clone_nil attLay 0 0 w).mono fun e w' ⟨h1, h2⟩ => ?_
    subst h2
    exact ⟨_, h1, ⟨rfl, .inl ⟨rfl, rfl⟩⟩, Below.refl _ _⟩
  · obtain ⟨i0, hi, hz0, hz1, hz2⟩ := info_parts infoA
    refine (AnyE.slices_Clone attLay i0 zeroA 3 40 hi hz0 hz1 hz2 (by decide) (by decide) (by intro w; kernel_rfl) g 0 l.length cap (attCells l) w (attCells_len l) (by unfold maxLen; omega) (by omega) (fun j u hj => ?_) (attCells_one l)).mono fun e w' ⟨v', h1, h2, _, h3⟩ => ⟨v', h1, h2, h3⟩
    rw [Nat.zero_add, cell_of_row w g j cur _ _ h4, ← Array.getElem?_toList]
    rw [← h8, List.getElem?_take] at hj
    split at hj
    · exact hj
    · cases hj
theorem zeroCells_size (n : Nat) : (Builtin.zeroCells (Value.int .i64 0).cells n).size = n := by simp [Builtin.zeroCells, Value.cells]
theorem own_of_cells {w : World} {g cap n : Nat} {cur : Array Value} {e : TypeId} {xs : List Value} (hb : w.heap[g]? = some (.cells cur e (0, 0))) (hs : cur.size = cap) (hn : n ≤ cap) (hc : cap ≤ maxLen) (hl : xs.length = n)
    (hx : ∀ j v, xs[j]? = some v → w.cell? ⟨g, j, none⟩ = some v) : w.ownsRow 0 e 1 (.slice (some ⟨g, 0, none⟩) n cap) n xs := by
  refine ⟨by rw [hl, Nat.mul_one], .inr ⟨g, cap, cur, rfl, Nat.zero_le _, hb, hn, hc, by rw [hs, Nat.mul_one], ?_⟩⟩
  rw [Nat.mul_one]
  refine List.ext_getElem? fun j => ?_
  by_cases hj : j < n
  · have := hx j (xs[j]'(by omega)) (List.getElem?_eq_getElem _)
    rw [cell_of_row w g j cur _ _ hb, ← Array.getElem?_toList] at this
    rw [List.getElem?_take, if_pos hj, this, List.getElem?_eq_getElem]
  · rw [List.getElem?_take, if_neg hj, List.getElem?_eq_none (by omega)]
theorem setCells_shape (b : Nat) : ∀ (vs : List Value) (o : Nat) (w : World) (cur : Array Value) (e : TypeId) (fz : Nat × Nat), w.heap[b]? = some (.cells cur e fz) → ∃ cur' : Array Value, (w.setCells b o vs).heap[b]? = some (.cells cur' e fz) ∧ cur'.size = cur.size
  | [], _, _, cur, _, _, h => ⟨cur, h, rfl⟩
  | v :: r, o, w, cur, e, fz, h => by
    obtain ⟨cur', h1, h2⟩ := setCells_shape b r (o + 1) _ _ e fz (Joins.block_setCell (i := o) h v)
    exact ⟨cur', h1, by rw [h2, Array.size_setIfInBounds]⟩
theorem Mod.setCells {S : Nat → Prop} (b : Nat) (hb : S b) : ∀ (vs : List Value) (o : Nat) (w : World), Mod S w (w.setCells b o vs)
  | [], _, w => Mod.refl _ w
  | v :: r, o, w => (Mod.setCell w v hb).trans (Mod.setCells b hb r (o + 1) _)
theorem cell_some {w : World} {g : Nat} {cur : Array Value} {e : TypeId} {fz : Nat × Nat} (h : w.heap[g]? = some (.cells cur e fz)) (j : Nat) (hj : j < cur.size) : (w.cell? ⟨g, j, none⟩).isSome = true := by
  rw [cell_of_row w g j cur _ _ h, Array.getElem?_eq_getElem hj]; rfl
/-- slices.Delete of one child. -/
theorem kidDelete_any (ks : List Nat) (i : Nat) (v : Value) (w : World) (h : w.ownsRow 0 3 1 v ks.length (kidCells ks)) (hi : i < ks.length) (hl : ks.length ≤ 1000000000) :
    Calls Tryz.prog 89 #[v, .int .i64 (i : Int), .int .i64 ((i + 1 : Nat) : Int)] w fun e w' => ∃ v', e = .returned v' ∧ w'.ownsRow 0 3 1 v' (ks.eraseIdx i).length (kidCells (ks.eraseIdx i)) ∧ v'.ownBlock = v.ownBlock ∧ Mod (fun k => v.ownBlock = some k) w w' := by
  have hr := row_cells h
  rcases hr with ⟨rfl, h0, _⟩ | ⟨g, cap, cur, rfl, h2, h3, h4, h5, h6, h7⟩
  · omega
  · refine (Tryz.slices_Delete_int_cells g 0 ks.length cap i (i + 1) (kInts ks) w (by rw [kInts_len]; exact Nat.le_refl _) h3 (by unfold maxLen at h4; omega) (by omega) (by omega) (row_ints h) (fun j _ => Lib.frozen_of_heap h2 _)).mono fun e w' ⟨h1, q, hw⟩ => ?_
    have hlen : ks.length - (i + 1 - i) = (ks.eraseIdx i).length := by rw [List.length_eraseIdx, if_pos hi]; omega
    rw [hlen] at h1
    have htk : (kInts ks).take ks.length = kInts ks := List.take_of_length_le (by rw [kInts_len]; exact Nat.le_refl _)
    have hvs : ((((kInts ks).take ks.length).take i ++ ((kInts ks).take ks.length).drop (i + 1) ++ List.replicate (i + 1 - i) 0).map (Value.int .i64)) = kidCells (ks.eraseIdx i) ++ [.int .i64 0] := by
      rw [htk, Nat.add_sub_cancel_left, List.eraseIdx_eq_take_drop_succ]
      simp [kidCells, kInts, natV, List.map_take, List.map_drop, Function.comp_def]
      rfl
    rw [hvs] at hw
    subst hw
    have hd : (w.drewN q).heap[g]? = some (.cells cur 3 (0, 0)) := h2
    obtain ⟨cur', h8, h9⟩ := setCells_shape g (kidCells (ks.eraseIdx i) ++ [.int .i64 0]) 0 (w.drewN q) _ _ _ hd
    have hin : (kidCells (ks.eraseIdx i) ++ [Value.int .i64 0]).length = ks.length := by simp [kidCells_len, List.length_eraseIdx, hi]; omega
    have hcell := World.cell?_setCells_in g (kidCells (ks.eraseIdx i) ++ [.int .i64 0]) 0 (w.drewN q) (fun j hj => by rw [Nat.zero_add]; exact cell_some hd j (by omega))
    refine ⟨_, h1, own_of_cells h8 (by rw [h9, h5]) (by rw [← hlen]; omega) h4 (kidCells_len _) (fun j u hj => ?_), rfl, ((Mod.refl _ w).drewN q).trans (Mod.setCells (S := fun k => (Value.slice (some ⟨g, 0, none⟩) ks.length cap).ownBlock = some k) g rfl _ _ _)⟩
    have hjl : j < (kidCells (ks.eraseIdx i)).length := (List.getElem?_eq_some_iff.1 hj).1
    have := hcell j (by rw [List.length_append]; omega)
    rw [Nat.zero_add, List.getElem_append_left hjl] at this
    rw [this, ← List.getElem?_eq_getElem, hj]
def insK (ks : List Nat) (i x : Nat) : List Nat := ks.take i ++ x :: ks.drop i
theorem insK_len (ks : List Nat) (i x : Nat) (hi : i ≤ ks.length) : (insK ks i x).length = ks.length + 1 := by simp [insK]; omega
theorem insIdx_cells (ks : List Nat) (i x : Nat) : kidCells (insK ks i x) = (kidCells ks).take i ++ (natV x :: (kidCells ks).drop i) := by simp [kidCells, insK, List.map_take, List.map_drop]
/-- slices.Insert of one child. -/
theorem kidInsert_any (ks : List Nat) (i x : Nat) (v : Value) (vb : Nat) (w : World) (h : w.ownsRow 0 3 1 v ks.length (kidCells ks)) (hv : w.heap[vb]? = some (.cells #[natV x] 3 (0, 0))) (hne : v.ownBlock ≠ some vb) (hi : i ≤ ks.length) (hl : ks.length ≤ 1000000000) :
    Calls Tryz.prog 49 #[v, .int .i64 (i : Int), .slice (some ⟨vb, 0, none⟩) 1 1] w fun e w' => ∃ v', e = .returned v' ∧ w'.ownsRow 0 3 1 v' (insK ks i x).length (kidCells (insK ks i x)) ∧
      (v'.ownBlock = v.ownBlock ∨ ∃ g, v'.ownBlock = some g ∧ w.heap.size ≤ g) ∧ Mod (fun k => v.ownBlock = some k) w w' := by
  have hr := row_cells h
  have hlen : (insK ks i x).length = ks.length + 1 := insK_len ks i x hi
  have hvs : ∀ j u, [natV x][j]? = some u → w.cell? ⟨vb, 0 + j, none⟩ = some u := by
    intro j u hj
    match j, hj with
    | 0, hj => simp at hj; subst hj; rw [cell_of_row w vb _ _ _ _ hv]; rfl
  have h1v : ∀ u ∈ [natV x], u.oneCell' = true := by intro u hu; simp at hu; subst hu; rfl
  by_cases hin : i = ks.length
  · subst hin
    by_cases hroom : ∃ g cap, v = .slice (some ⟨g, 0, none⟩) ks.length cap ∧ ks.length + 1 ≤ cap
    · obtain ⟨g, cap, rfl, hroom⟩ := hroom
      rcases hr with ⟨e, _⟩ | ⟨g', cap', cur, e, h2, h3, h4, h5, h6, h7⟩
      · cases e
      cases e
      refine (Any2.slices_Insert_int_end_room insLay g 0 ks.length cap vb 0 1 1 [natV x] w (by decide) hroom (by unfold maxLen at h4; omega) rfl (fun j hj => cell_some h2 _ (by omega)) (fun j _ => Lib.frozen_of_heap h2 _) hvs h1v).mono fun e w' ⟨h8, hw⟩ => ?_
      subst hw
      obtain ⟨cur', h9, h10⟩ := setCells_shape g [natV x] (0 + ks.length) w _ _ _ h2
      refine ⟨_, h8, ?_, .inl rfl, Mod.setCells (S := fun k => (Value.slice (some ⟨g, 0, none⟩) ks.length cap).ownBlock = some k) g rfl _ _ _⟩
      rw [hlen]
      refine own_of_cells h9 (by rw [h10, h5]) hroom h4 (by rw [kidCells_len, hlen]) fun j u hj => ?_
      rw [insIdx_cells, List.take_of_length_le (by rw [kidCells_len]; exact Nat.le_refl _), List.drop_of_length_le (by rw [kidCells_len]; exact Nat.le_refl _)] at hj
      by_cases hjn : j < ks.length
      · rw [List.getElem?_append_left (by rw [kidCells_len]; exact hjn)] at hj
        rw [World.cell?_setCells_out g [natV x] (0 + ks.length) w ⟨g, j, none⟩ (fun _ _ => Or.inl (by dsimp only; omega))]
        exact row_at h j u hj
      · rw [List.getElem?_append_right (by rw [kidCells_len]; omega), kidCells_len] at hj
        have hj0 : j = ks.length := by
          have := (List.getElem?_eq_some_iff.1 hj).1
          simp at this; omega
        subst hj0
        have := World.cell?_setCells_in g [natV x] (0 + ks.length) w (fun j hj => cell_some h2 _ (by simp at hj; omega)) 0 (by simp)
        rw [show 0 + ks.length + 0 = ks.length by omega] at this
        rw [this, ← hj, Nat.sub_self]
        rfl
    · have hnil : ∃ base c, v = .slice base ks.length c ∧ ks.length ≤ c ∧ c < ks.length + 1 ∧ (base = none → ks.length = 0) ∧ ∀ a, base = some a → ∀ j u, (kidCells ks)[j]? = some u → w.cell? (a.add j) = some u := by
        rcases hr with ⟨rfl, h0, _⟩ | ⟨g, cap, cur, rfl, h2, h3, h4, h5, h6, h7⟩
        · exact ⟨none, 0, by rw [h0], by omega, by omega, fun _ => h0, (fun a e => by cases e)⟩
        · refine ⟨_, _, rfl, h3, Nat.lt_of_not_le fun hc => hroom ⟨g, cap, rfl, hc⟩, (fun e => by cases e), fun a e j u hj => ?_⟩
          cases e
          have hadd : (⟨g, 0, none⟩ : Addr).add j = ⟨g, j, none⟩ := by unfold Addr.add; split <;> simp_all
          rw [hadd]
          exact row_at h j u hj
      obtain ⟨base, c, rfl, hc1, hc2, hb0, hcs⟩ := hnil
      have hge := grownCap_ge w (ks.length + 1) c (insRen.t 3)
      have hle := grownCap_le_maxLen w (ks.length + 1) c (insRen.t 3) (by unfold maxLen; omega)
      refine (Any2.slices_Insert_int_end_grow insLay base ks.length c vb 0 1 1 (kidCells ks) [natV x] w (by decide) hc1 hc2 (by omega) (kidCells_len _) rfl hb0 hcs hvs h1v).mono fun e w' ⟨h8, hw⟩ => ?_
      subst hw
      refine ⟨_, h8, ?_, .inr ⟨_, rfl, Nat.le_refl _⟩, (Mod.refl _ w).drew.trans (Mod.alloc _ _ _)⟩
      rw [hlen]
      have hnew : (w.drew.alloc (.cells ((kidCells ks ++ [natV x]).toArray ++ Builtin.zeroCells (Value.int .i64 0).cells (grownCap w (ks.length + 1) c (insRen.t 3) - (ks.length + 1))) (insRen.t 3))).heap[w.heap.size]? = _ := World.alloc_heap_new w.drew (.cells ((kidCells ks ++ [natV x]).toArray ++ Builtin.zeroCells (Value.int .i64 0).cells (grownCap w (ks.length + 1) c (insRen.t 3) - (ks.length + 1))) (insRen.t 3))
      refine own_of_cells hnew ?_ hge hle (by rw [kidCells_len, hlen]) fun j u hj => ?_
      · rw [Array.size_append, zeroCells_size]; simp [kidCells_len]; omega
      · rw [insIdx_cells, List.take_of_length_le (by rw [kidCells_len]; exact Nat.le_refl _), List.drop_of_length_le (by rw [kidCells_len]; exact Nat.le_refl _)] at hj
        rw [cell_of_row _ _ j _ _ _ hnew, Array.getElem?_append_left (by have := (List.getElem?_eq_some_iff.1 hj).1; simpa using this)]
        simpa using hj
  · have hin' : i < ks.length := by omega
    rcases hr with ⟨rfl, h0, _⟩ | ⟨g, cap, cur, rfl, h2, h3, h4, h5, h6, h7⟩
    · omega
    have hcs : ∀ j u, (kidCells ks)[j]? = some u → w.cell? ⟨g, 0 + j, none⟩ = some u := fun j u hj => by rw [Nat.zero_add]; exact row_at h j u hj
    have hgv : vb ≠ g := fun e => hne (by rw [e]; rfl)
    by_cases hroom : ks.length + 1 ≤ cap
    · refine (Any2.slices_Insert_int_shift insLay g 0 ks.length cap i vb 0 1 1 (kidCells ks) [natV x] w hin' (by decide) hroom (by unfold maxLen at h4; omega) hgv (kidCells_len _) rfl hcs (fun j hj => cell_some h2 _ (by omega)) (fun j _ => Lib.frozen_of_heap h2 _) hvs (kidCells_one _) h1v
        3 3 1 cur.size (by simp [World.shape?, hv]) (by simp [World.shape?, h2]) (by omega) (Lib.frozen_of_heap hv _) (Lib.frozen_of_heap hv _)).mono fun e w' ⟨h8, hw⟩ => ?_
      subst hw
      have hd : w.drew.heap[g]? = some (.cells cur 3 (0, 0)) := h2
      obtain ⟨cur1, h9, h10⟩ := setCells_shape g ((kidCells ks).drop i) (0 + (i + 1)) w.drew _ _ _ hd
      obtain ⟨cur2, h11, h12⟩ := setCells_shape g [natV x] (0 + i) _ _ _ _ h9
      refine ⟨_, h8, ?_, .inl rfl, ((Mod.refl _ w).drew.trans (Mod.setCells (S := fun k => (Value.slice (some ⟨g, 0, none⟩) ks.length cap).ownBlock = some k) g rfl _ _ _)).trans (Mod.setCells (S := fun k => (Value.slice (some ⟨g, 0, none⟩) ks.length cap).ownBlock = some k) g rfl _ _ _)⟩
      rw [hlen]
      refine own_of_cells h11 (by rw [h12, h10, h5]) hroom h4 (by rw [kidCells_len, hlen]) fun j u hj => ?_
      have hjl := (List.getElem?_eq_some_iff.1 hj).1
      rw [kidCells_len, hlen] at hjl
      rw [insIdx_cells] at hj
      by_cases hji : j < i
      · rw [List.getElem?_append_left (by rw [List.length_take, kidCells_len]; omega), List.getElem?_take, if_pos hji] at hj
        rw [World.cell?_setCells_out g [natV x] (0 + i) _ ⟨g, j, none⟩ (fun _ _ => Or.inl (by dsimp only; omega)), World.cell?_setCells_out g ((kidCells ks).drop i) (0 + (i + 1)) _ ⟨g, j, none⟩ (fun _ _ => Or.inl (by dsimp only; omega))]
        exact row_at h j u hj
      · rw [List.getElem?_append_right (by rw [List.length_take, kidCells_len]; omega), List.length_take, kidCells_len, Nat.min_eq_left (by omega)] at hj
        by_cases hje : j = i
        · subst hje
          rw [Nat.sub_self, List.getElem?_cons_zero] at hj
          have := World.cell?_setCells_in g [natV x] (0 + j) (w.drew.setCells g (0 + (j + 1)) ((kidCells ks).drop j)) (fun k hk => cell_some h9 _ (by simp at hk; omega)) 0 (by simp)
          rw [show 0 + j + 0 = j by omega] at this
          rw [this, ← hj]
          rfl
        · obtain ⟨m, rfl⟩ : ∃ m, j = i + 1 + m := ⟨j - (i + 1), by omega⟩
          rw [show i + 1 + m - i = m + 1 by omega, List.getElem?_cons_succ] at hj
          rw [World.cell?_setCells_out g [natV x] (0 + i) _ ⟨g, i + 1 + m, none⟩ (fun _ _ => Or.inr (by simp))]
          have hm : m < ((kidCells ks).drop i).length := (List.getElem?_eq_some_iff.1 hj).1
          have := World.cell?_setCells_in g ((kidCells ks).drop i) (0 + (i + 1)) w.drew (fun k hk => cell_some hd _ (by rw [List.length_drop, kidCells_len] at hk; omega)) m hm
          rw [show 0 + (i + 1) + m = i + 1 + m by omega] at this
          rw [this, ← List.getElem?_eq_getElem, hj]
    · have hge := grownCap_ge w (ks.length + 1) cap (insRen.t 3)
      have hle := grownCap_le_maxLen w (ks.length + 1) cap (insRen.t 3) (by unfold maxLen; omega)
      refine (Any2.slices_Insert_int_grow insLay g 0 ks.length cap i vb 0 1 1 (kidCells ks) [natV x] w hin' (by decide) h3 (by omega) (by omega) (kidCells_len _) rfl hcs hvs (kidCells_one _) h1v).mono fun e w' ⟨h8, hw⟩ => ?_
      obtain ⟨W0, hW0⟩ : ∃ W0, (w.alloc (.cells (((kidCells ks).take i).toArray ++ Builtin.zeroCells (Value.int .i64 0).cells (ks.length + 1 - i) ++ Builtin.zeroCells (Value.int .i64 0).cells (grownCap w (ks.length + 1) cap (insRen.t 3) - (ks.length + 1))) (insRen.t 3))).drew = W0 := ⟨_, rfl⟩
      have hnew : W0.heap[w.heap.size]? = some (.cells (((kidCells ks).take i).toArray ++ Builtin.zeroCells (Value.int .i64 0).cells (ks.length + 1 - i) ++ Builtin.zeroCells (Value.int .i64 0).cells (grownCap w (ks.length + 1) cap (insRen.t 3) - (ks.length + 1))) 3 (0, 0)) := by
        rw [← hW0]; exact World.alloc_heap_new w _
      have hM0 : ∀ S, Mod S w W0 := fun S => by rw [← hW0]; exact (Mod.alloc S w _).drew
      have hsz : (((kidCells ks).take i).toArray ++ Builtin.zeroCells (Value.int .i64 0).cells (ks.length + 1 - i) ++ Builtin.zeroCells (Value.int .i64 0).cells (grownCap w (ks.length + 1) cap (insRen.t 3) - (ks.length + 1))).size = grownCap w (ks.length + 1) cap (insRen.t 3) := by
        rw [Array.size_append, Array.size_append, zeroCells_size, zeroCells_size]; simp [kidCells_len]; omega
      rw [hW0] at hw
      clear hW0
      subst hw
      obtain ⟨cur1, h9, h10⟩ := setCells_shape w.heap.size [natV x] i W0 _ _ _ hnew
      have h9' : (W0.setCells w.heap.size i [natV x]).drew.heap[w.heap.size]? = some (.cells cur1 3 (0, 0)) := h9
      obtain ⟨cur2, h11, h12⟩ := setCells_shape w.heap.size ((kidCells ks).drop i) (i + 1) _ _ _ _ h9'
      have hfr : ∀ (A B : World), w.heap.size ≤ A.heap.size → Mod (fun k => k = w.heap.size) A B → Mod (fun k => (Value.slice (some ⟨g, 0, none⟩) ks.length cap).ownBlock = some k) w A → Mod (fun k => (Value.slice (some ⟨g, 0, none⟩) ks.length cap).ownBlock = some k) w B := fun A B hsA h1 h2 =>
        ⟨h1.os.trans h2.os, h1.tape.trans h2.tape, h1.output.trans h2.output, Nat.le_trans h2.size h1.size, fun k hk hS => (h1.block k (by omega) (by omega)).trans (h2.block k hk hS)⟩
      refine ⟨_, h8, ?_, .inr ⟨_, rfl, Nat.le_refl _⟩, ?_⟩
      · rw [hlen]
        refine own_of_cells h11 (by rw [h12, h10]; exact hsz) hge hle (by rw [kidCells_len, hlen]) fun j u hj => ?_
        have hjl := (List.getElem?_eq_some_iff.1 hj).1
        rw [kidCells_len, hlen] at hjl
        rw [insIdx_cells] at hj
        by_cases hji : j < i
        · rw [List.getElem?_append_left (by rw [List.length_take, kidCells_len]; omega)] at hj
          rw [World.cell?_setCells_out w.heap.size ((kidCells ks).drop i) (i + 1) _ ⟨w.heap.size, j, none⟩ (fun _ _ => Or.inl (by dsimp only; omega))]
          show (W0.setCells w.heap.size i [natV x]).cell? ⟨w.heap.size, j, none⟩ = some u
          rw [World.cell?_setCells_out w.heap.size [natV x] i _ ⟨w.heap.size, j, none⟩ (fun _ _ => Or.inl (by dsimp only; omega)), cell_of_row _ _ j _ _ _ hnew]
          rw [Array.getElem?_append_left (by rw [Array.size_append, zeroCells_size]; simp [kidCells_len]; omega), Array.getElem?_append_left (by simp [kidCells_len]; omega)]
          simpa using hj
        · rw [List.getElem?_append_right (by rw [List.length_take, kidCells_len]; omega), List.length_take, kidCells_len, Nat.min_eq_left (by omega)] at hj
          by_cases hje : j = i
          · subst hje
            rw [Nat.sub_self, List.getElem?_cons_zero] at hj
            rw [World.cell?_setCells_out w.heap.size ((kidCells ks).drop j) (j + 1) _ ⟨w.heap.size, j, none⟩ (fun _ _ => Or.inl (by dsimp only; omega))]
            show (W0.setCells w.heap.size j [natV x]).cell? ⟨w.heap.size, j, none⟩ = some u
            have := World.cell?_setCells_in w.heap.size [natV x] j W0 (fun k hk => cell_some hnew _ (by simp at hk; omega)) 0 (by simp)
            rw [Nat.add_zero] at this
            rw [this, ← hj]
            rfl
          · obtain ⟨m, rfl⟩ : ∃ m, j = i + 1 + m := ⟨j - (i + 1), by omega⟩
            rw [show i + 1 + m - i = m + 1 by omega, List.getElem?_cons_succ] at hj
            have hm : m < ((kidCells ks).drop i).length := (List.getElem?_eq_some_iff.1 hj).1
            have := World.cell?_setCells_in w.heap.size ((kidCells ks).drop i) (i + 1) (W0.setCells w.heap.size i [natV x]).drew (fun k hk => cell_some h9' _ (by rw [List.length_drop, kidCells_len] at hk; omega)) m hm
            rw [this, ← List.getElem?_eq_getElem, hj]
      · have s0 := (hM0 (fun _ => False)).size
        have m1 : Mod (fun k => k = w.heap.size) W0 (W0.setCells w.heap.size i [natV x]) := Mod.setCells (S := fun k => k = w.heap.size) _ rfl _ _ _
        have m2 : Mod (fun k => k = w.heap.size) (W0.setCells w.heap.size i [natV x]).drew (((W0.setCells w.heap.size i [natV x]).drew).setCells w.heap.size (i + 1) ((kidCells ks).drop i)) := Mod.setCells (S := fun k => k = w.heap.size) _ rfl _ _ _
        exact hfr W0 _ s0 (m1.drew.trans m2) (hM0 _)
end Go.Proofs.YtdapdadcninidaaGreatDoor
