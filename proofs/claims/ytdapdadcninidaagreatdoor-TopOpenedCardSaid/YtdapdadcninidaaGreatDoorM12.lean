/- Maps from numbers to numbers in memory: the look-up, the two halves of a store. No condition but the numbers' sizes. Package arena: inertOf, where there is no map yet. No condition but lengths. Package arena: Element, of a template, where there is no inert document yet. No condition but lengths. Package builder: Char, of x, where the place is contents without children. No condition but that the nodes are linked well. thickettop.known07. No condition. thickettop.TopOpened. No condition but that the slices lie as they say. -/
import Derived.Test.YtdapdadcninidaaGreatDoorM1
import Derived.WideKeyEntry
import Derived.Maps.Keyed
import Derived.Test.YtdapdadcninidaaGreatDoorM4
import Derived.StillTailTactics
import Derived.Test.YtdapdadcninidaaGreatDoorM7
import Derived.Test.YtdapdadcninidaaGreatDoorShelf
import Derived.Deep.QuietTactic
import Derived.BigQuiet
import Derived.Test.YtdapdadcninidaaGreatDoorM11
import Derived.Test.YtdapdadcninidaaGreatDoorM8
import Derived.Deep.DeepCutAuto
import Derived.Deep.RegionLaw
set_option linter.unusedSimpArgs false
set_option linter.unusedVariables false
namespace Go.Proofs.YtdapdadcninidaaGreatDoor
open Go.RowKit Go.ChangeMaps

/-- An entry: key, value, stamp. -/
def entV (x : Nat × Nat × Nat) : MapEntry := ⟨.int .i64 (x.1 : Nat), .int .i64 (x.2.1 : Nat), x.2.2⟩
def entA (l : List (Nat × Nat × Nat)) : Array MapEntry := (l.map entV).toArray
/-- A map block's contents. -/
structure EntOk (l : List (Nat × Nat × Nat)) (c : Nat) : Prop where
  bd : ∀ x ∈ l, x.2.2 < c
  nb : (l.map (·.2.2)).Nodup
  ks : ∀ x ∈ l, x.1 < 1000000000
  nk : (l.map (·.1)).Nodup
theorem key_wf {k : Nat} (h : k < 1000000000) : (Lit.int .i64 (k : Int)).wf = true := WalkArith.wf_i64 (by omega)
theorem keyedI : Go.Maps.Keyed Tryz.prog 3 := Go.Maps.int_keyed Tryz.underlying3
theorem key_of {k : Nat} (h : k < 1000000000) : keyOf Tryz.prog 3 (.int .i64 (k : Nat)) = some (.int .i64 (k : Nat)) := Go.Maps.keyOf_int_mk Tryz.underlying3 (key_wf h)
/-- The value of a key. -/
def mapL (l : List (Nat × Nat × Nat)) (k : Nat) : Option Nat := (l.find? fun x => x.1 == k).map (·.2.1)
theorem find_ent (w : World) {l : List (Nat × Nat × Nat)} {k : Nat} (hk : k < 1000000000) (hl : ∀ x ∈ l, x.1 < 1000000000) :
    ((Instr.findKey 3 (.int .i64 (k : Nat)) (entA l).toList).run Tryz.prog w = .ok none w ∧ ∀ x ∈ l, x.1 ≠ k) ∨ ∃ j x, (Instr.findKey 3 (.int .i64 (k : Nat)) (entA l).toList).run Tryz.prog w = .ok (some (j, .int .i64 (x.2.1 : Nat))) w ∧ l[j]? = some x ∧ x.1 = k := by
  rcases keyedI.find w (key_of hk) (entA l).toList (fun e he => by
    simp only [entA, List.mem_map] at he
    obtain ⟨x, hx, rfl⟩ := he
    exact ⟨_, key_of (hl x hx)⟩) with ⟨h1, h2⟩ | ⟨j, e, h1, h2, h3⟩
  · refine .inl ⟨h1, fun x hx e => h2 (entV x) (List.mem_map.2 ⟨x, hx, rfl⟩) ?_⟩
    rw [← e]; rfl
  · rw [show (entA l).toList = l.map entV from rfl, List.getElem?_map] at h2
    obtain ⟨x, hx, rfl⟩ := Option.map_eq_some_iff.1 h2
    refine .inr ⟨j, x, h1, hx, ?_⟩
    simp only [entV, Value.int.injEq, true_and] at h3
    omega
theorem zeroInt (w : World) : (zeroValue 3).run Tryz.prog w = .ok (.int .i64 0) w := by
  have h0 : Tryz.t3.zero = some (.int .i64 0) := by kernel_rfl
  simp [zeroValue, go_sem, h0]
theorem check_int (w : World) (em : Bool) {k : Nat} (hk : k < 1000000000) : (Instr.checkKey em 10000 3 (.int .i64 (k : Nat))).run Tryz.prog w = .ok () w := keyedI.check w em (key_of hk)
theorem mapL_none {l : List (Nat × Nat × Nat)} {k : Nat} (h : ∀ x ∈ l, x.1 ≠ k) : mapL l k = none := by
  rw [mapL, List.find?_eq_none.2 (by simpa using h)]; rfl
theorem mapL_some {l : List (Nat × Nat × Nat)} {k j : Nat} {x : Nat × Nat × Nat} (hn : (l.map (·.1)).Nodup) (h : l[j]? = some x) (hk : x.1 = k) : mapL l k = some x.2.1 := by
  induction l generalizing j with
  | nil => simp at h
  | cons y l ih =>
    rw [mapL, List.find?_cons]
    cases hy : (y.1 == k) with
    | true =>
      cases j with
      | zero =>
        obtain rfl : y = x := by simpa using h
        rfl
      | succ j =>
        exfalso
        have hm := List.mem_of_getElem? (show l[j]? = some x by simpa using h)
        refine (List.nodup_cons.1 hn).1 (List.mem_map.2 ⟨x, hm, ?_⟩)
        rw [beq_iff_eq] at hy
        exact hk.trans hy.symm
    | false =>
      cases j with
      | zero =>
        obtain rfl : y = x := by simpa using h
        simp [hk] at hy
      | succ j => exact ih (List.nodup_cons.1 hn).2 (by simpa using h)
/-- A look-up. -/
theorem run_look {w : World} {M c k : Nat} {l : List (Nat × Nat × Nat)} (hb : w.heap[M]? = some (.map (entA l) c)) (ho : EntOk l c) (hk : k < 1000000000) :
    (Instr.lookup 91 (.map (some M)) (.int .i64 (k : Nat)) true).run Tryz.prog w = .ok (.tuple #[.int .i64 ((mapL l k).getD 0 : Nat), .bool (mapL l k).isSome]) w := by
  rcases find_ent w hk ho.ks with ⟨h1, h2⟩ | ⟨j, x, h1, h2, h3⟩
  · rw [mapL_none h2]
    simp [Instr.lookup, run_underlying Tryz.underlying91, MapKept.run_getObj_map hb, check_int w _ hk, h1, zeroInt, Result.andThen]
  · rw [mapL_some ho.nk h2 h3]
    simp [Instr.lookup, run_underlying Tryz.underlying91, MapKept.run_getObj_map hb, check_int w _ hk, h1, Result.andThen]
theorem run_look_nil {w : World} {k : Nat} (hk : k < 1000000000) :
    (Instr.lookup 91 (.map none) (.int .i64 (k : Nat)) true).run Tryz.prog w = .ok (.tuple #[.int .i64 0, .bool false]) w := by
  rcases find_ent w (l := []) hk (by simp) with ⟨h1, h2⟩ | ⟨j, x, h1, h2, h3⟩
  · have h1' : (Instr.findKey 3 (.int .i64 (k : Nat)) []).run Tryz.prog w = .ok none w := h1
    simp [Instr.lookup, run_underlying Tryz.underlying91, check_int w _ hk, h1', zeroInt, Result.andThen]
  · simp at h2
/-- A world whose block M is this map. -/
def mset (w : World) (M : Nat) (l : List (Nat × Nat × Nat)) (c : Nat) : World := setBlock w M (.map (entA l) c)
theorem mset_heap {w : World} {M : Nat} (h : M < w.heap.size) (l : List (Nat × Nat × Nat)) (c : Nat) : (mset w M l c).heap[M]? = some (.map (entA l) c) := by
  simp [mset, setBlock, h]
theorem mset_mset (w : World) (M : Nat) (l l' : List (Nat × Nat × Nat)) (c c' : Nat) : setBlock (mset w M l c) M (.map (entA l') c') = mset w M l' c' := by
  simp [mset, setBlock]
theorem mset_self {w : World} {M c : Nat} {l : List (Nat × Nat × Nat)} (h : w.heap[M]? = some (.map (entA l) c)) : mset w M l c = w := by
  have e : w.heap.setIfInBounds M (.map (entA l) c) = w.heap := by
    apply Array.ext_getElem?
    intro i
    by_cases hi : i = M
    · subst hi
      rw [h]
      have := (Array.getElem?_eq_some_iff.1 h).1
      simp [this]
    · rw [Array.getElem?_setIfInBounds_ne (Ne.symm hi)]
  unfold mset setBlock
  rw [e]
theorem mset_size (w : World) (M : Nat) (l : List (Nat × Nat × Nat)) (c : Nat) : (mset w M l c).heap.size = w.heap.size := by simp [mset, setBlock]
theorem mset_other (w : World) {M : Nat} (l : List (Nat × Nat × Nat)) (c : Nat) {i : Nat} (h : i ≠ M) : (mset w M l c).heap[i]? = w.heap[i]? := by
  simp [mset, setBlock, Array.getElem?_setIfInBounds_ne (Ne.symm h)]
theorem entA_push (l : List (Nat × Nat × Nat)) (x : Nat × Nat × Nat) : (entA l).push (entV x) = entA (l ++ [x]) := by simp [entA]
/-- The first half of a store: a new entry. -/
theorem run_entry {w : World} {M c k : Nat} {l : List (Nat × Nat × Nat)} (hM : M < w.heap.size) (hl : ∀ x ∈ l, x.1 < 1000000000) (hk : k < 1000000000) (hn : ∀ x ∈ l, x.1 ≠ k) :
    (Instr.mapEntry 91 (.map (some M)) (.int .i64 (k : Nat))).run Tryz.prog (mset w M l c) = .ok (.tuple #[.int .i64 0, .int .i64 (c : Nat)]) (mset w M (l ++ [(k, 0, c)]) (c + 1)) := by
  have hb := mset_heap hM l c
  rcases find_ent (mset w M l c) hk hl with ⟨h1, h2⟩ | ⟨j, x, h1, h2, h3⟩
  · have e : (entA l).push { key := .int .i64 (k : Nat), val := .int .i64 0, born := c } = entA (l ++ [(k, 0, c)]) := entA_push l (k, 0, c)
    have hs : (setObj M (.map (entA (l ++ [(k, 0, c)])) (c + 1))).run Tryz.prog (mset w M l c) = .ok () (mset w M (l ++ [(k, 0, c)]) (c + 1)) := (MapKept.run_setObj_map _ hb).trans (congrArg (Result.ok ()) (mset_mset w M l _ c _))
    simp [Instr.mapEntry, run_underlying Tryz.underlying91, MapKept.run_getObj_map hb, check_int _ _ hk, h1, zeroInt, Result.andThen, e, hs, goInt]
  · exact absurd h3 (hn x (List.mem_of_getElem? h2))
theorem modify_at {α : Type} (f : α → α) (a : α) (r : List α) : ∀ l : List α, (l ++ a :: r).modify l.length f = l ++ f a :: r
  | [] => rfl
  | b :: l => by
    rw [List.cons_append, List.length_cons, List.modify_succ_cons, modify_at f a r l]; rfl
/-- The second half: the entry's value. -/
theorem run_store_ent {w : World} {M c k v : Nat} {l r : List (Nat × Nat × Nat)} {b v0 : Nat} (hM : M < w.heap.size) (hb : ∀ x ∈ l, x.2.2 ≠ b) :
    (Instr.entryStore 91 (.map (some M)) (.int .i64 (b : Nat)) (.int .i64 (v : Nat))).run Tryz.prog (mset w M (l ++ (k, v0, b) :: r) c) = .ok () (mset w M (l ++ (k, v, b) :: r) c) := by
  have hh := mset_heap hM (l ++ (k, v0, b) :: r) c
  have hf : (entA (l ++ (k, v0, b) :: r)).findIdx? (fun e => ((e.born : Nat) : Int) == ((b : Nat) : Int)) = some l.length := by
    rw [WideElems.findIdx_arr]
    show ((l ++ (k, v0, b) :: r).map entV).findIdx? _ = _
    rw [List.findIdx?_map, List.findIdx?_append]
    rw [List.findIdx?_eq_none_iff.2 (by
      intro x hx
      have := hb x hx
      simp only [Function.comp, entV, beq_eq_false_iff_ne, ne_eq]
      omega)]
    simp [List.findIdx?_cons, entV]
  have hm : (entA (l ++ (k, v0, b) :: r)).modify l.length (fun e => { e with val := .int .i64 (v : Nat) }) = entA (l ++ (k, v, b) :: r) := by
    apply Array.ext'
    rw [Array.toList_modify]
    show ((l ++ (k, v0, b) :: r).map entV).modify l.length _ = (l ++ (k, v, b) :: r).map entV
    rw [List.map_append, List.map_append, List.map_cons, List.map_cons]
    have := modify_at (fun e : MapEntry => { e with val := .int .i64 (v : Nat) }) (entV (k, v0, b)) (r.map entV) (l.map entV)
    rw [List.length_map] at this
    exact this
  have hs : (setObj M (.map (entA (l ++ (k, v, b) :: r)) c)).run Tryz.prog (mset w M (l ++ (k, v0, b) :: r) c) = .ok () (mset w M (l ++ (k, v, b) :: r) c) := (MapKept.run_setObj_map _ hh).trans (congrArg (Result.ok ()) (mset_mset w M (l ++ (k, v0, b) :: r) _ c _))
  simp [Instr.entryStore, MapKept.run_getObj_map hh, asInt, asIntOf, hf, hm, hs, Result.andThen]
end Go.Proofs.YtdapdadcninidaaGreatDoor
namespace Go.Proofs.YtdapdadcninidaaGreatDoor
open Go.RowKit
attribute [local go_sem ↓] Go.wp_at_zero Go.wp_at_succ

theorem ArW.c1 {B : AB} {O : List Nat} {ns : List Nd} {w : World} (h : ArW B O ns w) : w.cell? ⟨B, 1, none⟩ = some B.iv := by
  obtain ⟨tab, L, h1, _, _⟩ := h
  exact h1.c1
theorem ArW.f1 {B : AB} {O : List Nat} {ns : List Nd} {w : World} (h : ArW B O ns w) (o : Nat) : w.frozen? ⟨B, o, none⟩ = false := by
  obtain ⟨tab, L, h1, _, _⟩ := h
  exact h1.f0 o
/-- The map's value is set. -/
theorem ArW.setIv {B : AB} {O : List Nat} {ns : List Nd} {w : World} (h : ArW B O ns w) (v : Value) : ArW ⟨B.blk, v⟩ O ns (w.setCell ⟨B, 1, none⟩ v) ∧ AStep O w O (w.setCell ⟨B, 1, none⟩ v) := by
  have hB := h.hasB
  obtain ⟨tab, L, h1, h2, h3⟩ := h
  have hm : Mod (fun k => k = B.blk) w (w.setCell ⟨B, 1, none⟩ v) := Mod.setCell _ _ rfl
  have hne : ∀ k, k ∈ (tab.ownBlock.toList ++ L.flatMap fun x => x.kv.ownBlock.toList ++ x.av.ownBlock.toList) → ¬ k = B.blk := fun k hk e => (List.nodup_cons.1 h1.nd).1 (e ▸ hk)
  refine ⟨⟨tab, L, ⟨?_, ?_, fun x hx => ?_, fun x hx => ?_, h1.nd⟩, h2, h3⟩, hm.mono fun k _ e => e ▸ hB, fun k hk => .inl hk⟩
  · rw [Joins.block_setCell (i := 1) h1.hd]; rfl
  · exact ownsRow_mod h1.row hm fun g hg => hne g (List.mem_append_left _ (by simp [hg]))
  · exact ownsRow_mod (h1.kid x hx) hm fun g hg => hne g (List.mem_append_right _ (List.mem_flatMap.2 ⟨x, hx, by simp [hg]⟩))
  · exact ownsRow_mod (h1.att x hx) hm fun g hg => hne g (List.mem_append_right _ (List.mem_flatMap.2 ⟨x, hx, by simp [hg]⟩))
theorem mset_mod (w : World) (M : Nat) (l : List (Nat × Nat × Nat)) (c : Nat) : Mod (fun k => k = M) w (mset w M l c) :=
  ⟨rfl, rfl, rfl, by rw [mset_size]; exact Nat.le_refl _, fun i _ hi => mset_other w l c hi⟩
theorem ino_fin {O O' : List Nat} {w w1 w2 : World} {M : Nat} (h : AStep O w O' w1) (hm : Mod (fun k => k = M) w1 w2) (hM : w.heap.size ≤ M) : AStep O w O' w2 :=
  ⟨⟨hm.os.trans h.mod.os, hm.tape.trans h.mod.tape, hm.output.trans h.mod.output, Nat.le_trans h.mod.size hm.size, fun k hk hO => (hm.block k (Nat.lt_of_lt_of_le hk h.mod.size) (by omega)).trans (h.mod.block k hk hO)⟩, h.own⟩
theorem AStep.drewI {O O' : List Nat} {w w' : World} (h : AStep O w O' w') : AStep O w O' w'.drew := ⟨⟨h.mod.os, h.mod.tape, h.mod.output, h.mod.size, h.mod.block⟩, h.own⟩
set_option maxRecDepth 100000 in
set_option maxHeartbeats 4000000 in
theorem inertOf_nil (doc : Nat) (w : World) {B : AB} {O : List Nat} {ns : List Nd} (hA : ArW B O ns w) (hl : ns.length ≤ 1000000) (hB : B.iv = .map none) (hd : doc ≤ ns.length) :
    Calls Tryz.prog 42 #[.pointer (some ⟨B, 0, none⟩), .int .i64 (doc : Nat)] w fun e w' => e = .returned (.int .i64 ((ns.length + 1 : Nat) : Int)) ∧ ∃ B' O', B'.blk = B.blk ∧ ArW B' O' (ns ++ [{ kind := 1, doc := ns.length + 1 }]) w' ∧ AStep O w O' w' := by
  have HD := Lib.hid (Document_any false w hA hl)
  have c1 := hA.c1
  rw [hB] at c1
  have hlk : ∀ w, (Instr.lookup 91 (.map none) (.int .i64 (doc : Nat)) true).run Tryz.prog w = .ok (.tuple #[.int .i64 0, .bool false]) w := fun w => run_look_nil (by omega)
  have hmk : ∀ w, (Instr.makeMap 91 none).run Tryz.prog w = .ok (.map (some w.heap.size)) (w.alloc (.map #[] 0)) := fun _ => rfl
  have heq : ∀ w, (binOp .eql 91 (.map none) (.map none)).run Tryz.prog w = .ok (.bool true) w := fun w => by kernel_rfl
  have HB := Lib.hid hB
  clear hA hB
  obtain ⟨i, hi⟩ : ∃ i, ns.length + 1 = i := ⟨_, rfl⟩
  rw [hi] at HD ⊢
  have hdi : doc ≠ i := by omega
  have hd9 : doc < 1000000000 := by omega
  have hi9 : i < 1000000000 := by omega
  have HDI := Lib.hid hdi
  clear hi hd hdi
  go_enter Tryz.func42, Tryz.ntmps42
  go_wp2_with fail
  refine HD.out.mono ?_
  rintro e w2 ⟨rfl, O2, hA2, hs2⟩
  have c2 := hA2.c1
  rw [HB.out] at c2
  have hA3 := hA2.later (balloc w2 (.map #[] 0))
  have c3 := hA3.c1
  have f3 := hA3.f1 1
  rw [HB.out] at c3
  have h3 : (w2.alloc (.map #[] 0)).heap[w2.heap.size]? = some (.map (entA []) 0) := World.alloc_heap_new w2 _
  have hb3 := balloc w2 (.map #[] 0)
  go_wp2_with fail
  have hne : w2.heap.size ≠ B.blk := fun e => by have := hA2.lt hA2.hasB; omega
  obtain ⟨hA4, hs4⟩ := hA3.setIv (.map (some w2.heap.size))
  have h4 := (Below.heap_setCell (w2.alloc (.map #[] 0)) ⟨B.blk, 1, none⟩ (.map (some w2.heap.size)) w2.heap.size hne).trans h3
  have hS4 : AStep O w O2 _ := hs2.trans (astep_pre hb3 hs4 : AStep O2 w2 O2 _)
  have hMO : ∀ k ∈ O2, k ≠ w2.heap.size := fun k hk e => by have := hA2.lt hk; omega
  have hM9 : w.heap.size ≤ w2.heap.size := hs2.mod.size
  have c4 := hA4.c1
  generalize hW : World.setCell _ _ _ = W1
  rw [hW] at hA4 h4 hS4 c4
  clear hW hs4 hA2 hs2 hA3 h3 hb3 c2 c3 f3 hmk hlk heq c1
  generalize w2.heap.size = M at *
  dsimp only at c4
  have hne : B.blk ≠ M := fun e => hMO _ hA4.hasB e
  have hM := (Array.getElem?_eq_some_iff.1 h4).1
  have c5 : ∀ l c, (mset W1 M l c).cell? ⟨B.blk, 1, none⟩ = some (.map (some M)) := fun l c => (World.cell?_of_block (a := ⟨B.blk, 1, none⟩) (mset_other W1 l c hne)).trans c4
  have e1 : (Instr.mapEntry 91 (.map (some M)) (.int .i64 (doc : Nat))).run Tryz.prog (mset W1 M [] 0).drew = .ok (.tuple #[.int .i64 0, .int .i64 0]) (mset W1 M [(doc, 0, 0)] 1).drew := run_entry (w := W1.drew) hM (by simp) hd9 (by simp)
  have e2 : (Instr.entryStore 91 (.map (some M)) (.int .i64 0) (.int .i64 (i : Nat))).run Tryz.prog (mset W1 M [(doc, 0, 0)] 1).drew = .ok () (mset W1 M [(doc, i, 0)] 1).drew := run_store_ent (w := W1.drew) (l := []) (r := []) (b := 0) hM (by simp)
  have e3 : (Instr.mapEntry 91 (.map (some M)) (.int .i64 (i : Nat))).run Tryz.prog (mset W1 M [(doc, i, 0)] 1).drew = .ok (.tuple #[.int .i64 0, .int .i64 1]) (mset W1 M [(doc, i, 0), (i, 0, 1)] 2).drew := run_entry (w := W1.drew) hM (by simp; omega) hi9 (by simp; exact HDI.out)
  have e4 : (Instr.entryStore 91 (.map (some M)) (.int .i64 1) (.int .i64 (i : Nat))).run Tryz.prog (mset W1 M [(doc, i, 0), (i, 0, 1)] 2).drew = .ok () (mset W1 M [(doc, i, 0), (i, i, 1)] 2).drew := run_store_ent (w := W1.drew) (l := [(doc, i, 0)]) (r := []) (b := 1) hM (by simp)
  rw [← mset_self h4]
  have HF := Lib.hid (show ∃ B' O', B'.blk = B.blk ∧ ArW B' O' (ns ++ [{ kind := 1, doc := i }]) (mset W1 M [(doc, i, 0), (i, i, 1)] 2).drew ∧ AStep O w O' (mset W1 M [(doc, i, 0), (i, i, 1)] 2).drew from ⟨⟨B.blk, .map (some M)⟩, O2, rfl, (hA4.kept (mset_mod W1 M _ _) hMO).later ⟨rfl, rfl, rfl, Nat.le_refl _, fun _ _ => rfl⟩, (ino_fin hS4 (mset_mod W1 M _ _) hM9).drewI⟩)
  clear h4 hA4 hS4 hMO hM hne c4
  go_region
  all_goals
    go_wp2_with fail
    go_ret
    exact ⟨rfl, HF.out⟩
end Go.Proofs.YtdapdadcninidaaGreatDoor
namespace Go.Proofs.YtdapdadcninidaaGreatDoor
open Go.RowKit
attribute [local go_sem ↓] Go.wp_at_zero Go.wp_at_succ

set_option maxRecDepth 100000 in
/-- A template. -/
theorem template_yes (d : Nd) (kv av : Value) (w : World) {g o : Nat} (hn : NdIs w g o d kv av) (hk : d.kind = 4) (hs : d.space = 1) (hd : d.name = tmplW) :
    Calls Tryz.prog 41 #[.pointer (some ⟨g, o, none⟩)] w fun e w' => e = .returned (.bool true) ∧ w = w' := by
  have c0 := hn.c0
  have c4 := hn.c4
  have c5 := hn.c5
  rw [hk] at c0
  rw [hs] at c4
  rw [hd] at c5
  unfold tmplW at c5
  clear hn hd hs hk
  go_enter Tryz.func41, Tryz.ntmps41
  go_wp2
  go_ret
  exact ⟨rfl, rfl⟩
/-- The nodes that a template brings. -/
def tmpl3 (n doc : Nat) (l : List Att) : List Nd := [{ kind := 4, space := 1, name := tmplW, doc := doc, attrs := l, contents := n + 3 }, { kind := 1, doc := n + 2 }, { kind := 2, host := n + 1, doc := n + 2 }]
theorem set_mid {ns : List Nd} {a b : Nd} {r : List Nd} : (ns ++ a :: r).set ns.length b = ns ++ b :: r := by
  rw [List.set_append_right _ _ (Nat.le_refl _), Nat.sub_self, List.set_cons_zero]
set_option maxRecDepth 100000 in
set_option maxHeartbeats 4000000 in
theorem ElementT_nil (doc : Nat) (l : List Att) (w : World) {B : AB} {O : List Nat} {ns : List Nd} {a : Option Addr} {c : Nat} (hA : ArW B O ns w) (hl : ns.length ≤ 900000) (hd : docE ns doc = 0) (hB : B.iv = .map none) (hal : l.length ≤ 100000) (hc : AttsAt w a l) (hok : (onceF [] l).2 = true) :
    Calls Tryz.prog 9 #[.pointer (some ⟨B, 0, none⟩), .int .i64 (doc : Int), .int .i64 1, .string ⟨tmplW.toArray⟩, .slice a l.length c] w fun e w' =>
      e = .returned (.tuple #[.int .i64 ((ns.length + 1 : Nat) : Int), .int .i64 0]) ∧ ∃ B' O', B'.blk = B.blk ∧ ArW B' O' (ns ++ tmpl3 ns.length doc (onceF [] l).1) w' ∧ AStep O w O' w' := by
  have H1 := document_any (doc : Int) w hA (by omega)
  rw [hd] at H1
  have hdn : doc ≤ ns.length := by
    unfold docE at hd
    split at hd
    · rename_i h
      obtain ⟨i, hi, e⟩ := isH_iff.1 h
      omega
    · cases hd
  have H1 := Lib.hid H1
  have H2 := Lib.hid (fun w' (hb : Below w.heap.size w w') => once_any l w' (a := a) (c := c) hal (hc.later hb))
  have HS := Lib.hid (fun w' H c hc => spaces_one 1 w' (H := H) (c := c) hc)
  rw [show spaceOk 1 = true from rfl] at HS
  have HA := Lib.hid hA; have HB := Lib.hid hB; have HDN := Lib.hid hdn
  have hol := onceF_len [] l
  generalize onceF [] l = oc at *
  obtain ⟨ol, ok⟩ := oc
  dsimp only at *
  subst hok
  clear hA hc hd hB hdn
  unfold tmplW
  obtain ⟨h1, e1⟩ : ∃ h, ns.length + 1 = h := ⟨_, rfl⟩
  obtain ⟨h2, e2⟩ : ∃ h, ns.length + 2 = h := ⟨_, rfl⟩
  obtain ⟨h3, e3⟩ : ∃ h, ns.length + 3 = h := ⟨_, rfl⟩
  have E1 := Lib.hid e1; have E2 := Lib.hid e2; have E3 := Lib.hid e3
  unfold tmpl3
  rw [e1, e2, e3]
  clear e1 e2 e3
  go_enter Tryz.func9, Tryz.ntmps9
  go_wp2_with fail
  refine H1.out.mono ?_
  rintro e w1 ⟨rfl, b1⟩
  have H3 := Lib.hid (H2.out w1 b1)
  have HB1 := Lib.hid b1
  clear b1 H1 H2
  go_wp2_with fail
  refine H3.out.mono ?_
  rintro e w2 ⟨va, vc, rfl, hr, b2⟩
  have HR := Lib.hid hr; have HB2 := Lib.hid (bthen HB1.out HB1.out.size b2)
  clear hr b2 H3
  go_wp2_with fail
  refine (HS.out _ _ _ (by simp)).mono ?_
  rintro e w3 ⟨rfl, rfl⟩
  have HB3 := Lib.hid (HB2.out.alloc HB2.out.size (.cells #[.int .i64 1] 29))
  have H5 := addA_any { kind := 4, space := 1, name := tmplW, doc := doc, attrs := ol } (.slice va ol.length vc) w _ (HA.out.later HB3.out) (by omega) (fun k hk => HA.out.lt hk) HB3.out rfl (ownsRow_base (Nat.le_trans HB1.out.size (Nat.le_refl _)) (ownsRow_below HR.out (balloc w2 _)))
  rw [E1.out] at H5
  have H5 := Lib.hid H5
  go_wp2_with fail
  refine H5.out.mono ?_
  rintro e w4 ⟨rfl, O4, hA4, hs4⟩
  have hx : (ns ++ [({ kind := 4, space := 1, name := tmplW, doc := doc, attrs := ol } : Nd)])[ns.length]? = some { kind := 4, space := 1, name := tmplW, doc := doc, attrs := ol } := by simp
  obtain ⟨g, cap, kv, av, c0, hn, -, -⟩ := hA4.node hx
  have hlen : (ns ++ [({ kind := 4, space := 1, name := tmplW, doc := doc, attrs := ol } : Nd)]).length = ns.length + 1 := by simp
  rw [hlen] at c0
  have H6 := at_any ns.length w4 c0 (Nat.lt_succ_self _) (by omega)
  rw [E1.out] at H6
  have H6 := Lib.hid H6
  have H7 := Lib.hid (template_yes _ kv av w4 hn rfl rfl rfl)
  have H8 := inertOf_nil doc w4 hA4 (by rw [hlen]; omega) HB.out (by rw [hlen]; have := HDN.out; omega)
  rw [hlen, show ns.length + 1 + 1 = ns.length + 2 from rfl, E2.out] at H8
  have H8 := Lib.hid H8
  have HST4 := Lib.hid hs4
  clear hA4 hn c0 hlen hx H5 hs4
  go_wp2_with (first | (go_at_call 37; refine H6.out.mono ?_; rintro e w5 ⟨rfl, rfl⟩) | (go_at_call 41; refine H7.out.mono ?_; rintro e w5 ⟨rfl, rfl⟩))
  refine H8.out.mono ?_
  rintro e w5 ⟨rfl, B5, O5, hB5, hA5, hs5⟩
  have H9 := addW_any { kind := 2, host := h1, doc := h2 } w5 hA5 (by simp; omega) rfl rfl
  rw [hB5] at H9
  have hlen5 : ((ns ++ [({ kind := 4, space := 1, name := tmplW, doc := doc, attrs := ol } : Nd)]) ++ [({ kind := 1, doc := h2 } : Nd)]).length + 1 = h3 := by rw [← E3.out]; simp
  rw [hlen5] at H9
  have H9 := Lib.hid H9
  have HST5 := Lib.hid (HST4.out.trans hs5)
  have HB5 := Lib.hid hB5
  clear hA5 hs5 hB5 H8 hlen5 HST4
  go_wp2_with fail
  refine H9.out.mono ?_
  rintro e w6 ⟨rfl, O6, hA6, hs6⟩
  have hls : (ns ++ [({ kind := 4, space := 1, name := tmplW, doc := doc, attrs := ol } : Nd)]) ++ [({ kind := 1, doc := h2 } : Nd)] ++ [({ kind := 2, host := h1, doc := h2 } : Nd)] = ns ++ [{ kind := 4, space := 1, name := tmplW, doc := doc, attrs := ol }, { kind := 1, doc := h2 }, { kind := 2, host := h1, doc := h2 }] := by simp
  rw [hls] at hA6
  have hx : (ns ++ [({ kind := 4, space := 1, name := tmplW, doc := doc, attrs := ol } : Nd), { kind := 1, doc := h2 }, { kind := 2, host := h1, doc := h2 }])[ns.length]? = some { kind := 4, space := 1, name := tmplW, doc := doc, attrs := ol } := by simp
  obtain ⟨g, cap, kv, av, c0, hn, -, -⟩ := hA6.node hx
  have c11 := hn.c11
  have f11 := hn.fz 11 (by omega)
  obtain ⟨hA7, hs7⟩ := hA6.put (j := 11) (d' := { kind := 4, space := 1, name := tmplW, doc := doc, attrs := ol, contents := h3 }) (v := .int .i64 (h3 : Nat)) hx c0 (by omega) (fun _ _ => rfl) rfl rfl
  rw [set_mid] at hA7
  have hlen : (ns ++ [({ kind := 4, space := 1, name := tmplW, doc := doc, attrs := ol } : Nd), { kind := 1, doc := h2 }, { kind := 2, host := h1, doc := h2 }]).length = ns.length + 3 := by simp
  rw [hlen, HB5.out] at c0
  have H10 := at_any ns.length w6 c0 (by omega) (by omega)
  rw [E1.out] at H10
  have H10 := Lib.hid H10
  have HF := Lib.hid (show ∃ B' O', B'.blk = B.blk ∧ ArW B' O' (ns ++ [{ kind := 4, space := 1, name := tmplW, doc := doc, attrs := ol, contents := h3 }, { kind := 1, doc := h2 }, { kind := 2, host := h1, doc := h2 }]) _ ∧ AStep O w O' _ from ⟨B5, O6, HB5.out, hA7, (HST5.out.trans hs6).trans hs7⟩)
  clear hA6 hs6 hA7 hs7 hx hn c0 hlen hls H9 HST5
  go_wp2_with (go_at_call 37; refine H10.out.mono ?_; rintro e w7 ⟨rfl, rfl⟩)
  go_ret2
  exact ⟨rfl, HF.out⟩
end Go.Proofs.YtdapdadcninidaaGreatDoor
namespace Go.Proofs.YtdapdadcninidaaGreatDoor
open Go.RowKit
attribute [local go_sem ↓] Go.wp_at_zero Go.wp_at_succ

def txD (doc : Nat) : Nd := { kind := 5, data := [120], doc := doc }
theorem rune_x (w : World) : Calls Tryz.prog 103 #[.slice none 0 0, .int .i32 120] w fun e w' => ∃ v, e = .returned v ∧ OwnB w.heap.size w' v [120] ∧ Below w.heap.size w w' := by
  refine (Tryz.utf8_AppendRune_row w.heap.size (.slice none 0 0) 0 [] 120 (by omega) (by omega) w (World.ownsRowF_nil _ _ _ _) (by omega) (Nat.le_refl _)).mono ?_
  rintro e w' ⟨v, he, hown, o, hg⟩
  have hr : Lib.runeCells 120 = byteVals [120] := by simp [Lib.runeCells, Lib.encodeRuneZ_one (r := 120) (by omega) (by omega), byteVals, Lib.byteCells]
  rw [hr] at hown
  refine ⟨v, he, ?_, ?_⟩
  · unfold OwnB OwnV
    exact hown
  · have hb := balloc w o
    exact ⟨hg.os.trans hb.os, hg.tape.trans hb.tape, hg.output.trans hb.output, Nat.le_trans hb.size hg.size, fun k hk => (hg.block k (by simp; omega) (by simp [Value.ownBlock])).trans (hb.block k hk)⟩
/-- A call on the arena, as a step of the builder. -/
theorem bu_step {b : Nat} {OA O' : List Nat} {w w1 w2 : World} (hb : Below w.heap.size w w1) (hs : AStep OA w1 O' w2) : AStep (b :: OA) w (b :: O') w2 := by
  have h1 := astep_pre hb hs
  exact ⟨h1.mod.mono fun k _ hk => List.mem_cons_of_mem _ hk, fun k hk => by
    rcases List.mem_cons.1 hk with rfl | hk
    · exact .inl List.mem_cons_self
    · exact (h1.own k hk).imp (List.mem_cons_of_mem _) id⟩
set_option maxRecDepth 100000 in
set_option maxHeartbeats 4000000 in
theorem Char_x (p : Nat) (w : World) {b : Nat} {B : AB} {OA : List Nat} {ns : List Nd} {its : List It} {iv : Value} {doc dd : Nat} {d : Nd} (hS : BuS b B OA ns its iv doc w) (hf : Fit ns) (hil : its.length ≤ 1000000) (hpl : placeL ns its doc = p)
    (hd : descAt ns (p : Nat) = d) (hk : d.kind = 2) (hks : d.kids = []) (hdd : d.doc = dd) (hdo : docE ns (dd : Nat) = 0) (hf1 : Fit (ns ++ [txD dd])) (hkd : (descAt (ns ++ [txD dd]) (p : Nat)).kind = 1 → kidsAt (ns ++ [txD dd]) (p : Nat) = []) (hok : PutOk (ns ++ [txD dd]) (p : Nat) ((ns.length + 1 : Nat) : Int) 0) :
    Calls Tryz.prog 57 #[.pointer (some ⟨b, 0, none⟩), .int .i32 120] w fun e w' => e = .returned (.tuple #[]) ∧ ∃ O', BuS b B O' (putR (ns ++ [txD dd]) (p : Nat) ((ns.length + 1 : Nat) : Int) 0) its iv doc w' ∧ AStep (b :: OA) w (b :: O') w' := by
  have H1 := Lib.hid (there_any w hS.c0)
  have H2 := Place_any w hS hf hil
  rw [hpl] at H2
  have H3 := fun w' (hb : Below w.heap.size w w') => bnode_any (p : Nat) w' (hS.later hb) hf
  rw [hd] at H3
  have H4 := Lib.hid rune_x
  have H5 := Lib.hid (fun w' (hb : Below w.heap.size w w') => Text_any dd [120] w' (hS.later hb).ar hf.len)
  have H6 := Lib.hid (fun O1 w' (hb : BuS b B O1 (ns ++ [txD dd]) its iv doc w') => bput_any ((ns.length + 1 : Nat) : Int) (p : Nat) 0 w' hb hf1 hkd hok)
  have HS := Lib.hid hS; have H2 := Lib.hid H2; have H3 := Lib.hid H3; have HDO := Lib.hid hdo
  have hlt := hS.lt
  generalize putR (ns ++ [txD dd]) (p : Nat) ((ns.length + 1 : Nat) : Int) 0 = n2 at *
  clear hS hf hil hpl hd hdo hf1 hkd hok
  obtain ⟨dk, dp, dks, ddo, dsp, dn, da, ddt, dpu, dsy, dq, dc, dh⟩ := d
  dsimp only at hk hks hdd
  subst hk; subst hks; subst hdd
  go_enter Tryz.func57, Tryz.ntmps57
  go_wp2_with fail
  refine H1.out.mono ?_
  rintro e w1 ⟨rfl, rfl⟩
  go_wp2_with fail
  refine H2.out.mono ?_
  rintro e w1 ⟨rfl, b1⟩
  have HB1 := Lib.hid b1
  clear b1 H2
  go_wp2_with fail
  refine (H3.out w1 HB1.out).mono ?_
  rintro e w2 ⟨k1, k2, a1, a2, rfl, -, -, b2⟩
  have HB2 := Lib.hid (fun o => (bthen HB1.out HB1.out.size b2).alloc (bthen HB1.out HB1.out.size b2).size o)
  clear b2 H3
  simp only [ndArr]
  go_wp2_with fail
  generalize hW : w2.alloc _ = W3
  have hx3 : W3.heap[w2.heap.size]? = some (.cells #[.int .i64 2, .int .i64 (dp : Nat), .slice k1 0 k2, .int .i64 (ddo : Nat), .int .i64 dsp, .string ⟨dn.toArray⟩, .slice a1 da.length a2, .string ⟨ddt.toArray⟩, .string ⟨dpu.toArray⟩, .string ⟨dsy.toArray⟩, .bool dq, .int .i64 (dc : Nat), .int .i64 (dh : Nat)] 55 (0, 0)) := by rw [← hW]; exact World.alloc_heap_new w2 _
  have hb3 : Below w.heap.size w W3 := by rw [← hW]; exact HB2.out _
  refine (H4.out W3).mono ?_
  rintro e w4 ⟨v, rfl, hown, b4⟩
  have hcv := own_convert hown
  have hx4 := (b4.block _ (Array.getElem?_eq_some_iff.1 hx3).1).trans hx3
  have hb4 := bthen hb3 hb3.size b4
  have y3 : w4.cell? ⟨w2.heap.size, 3, none⟩ = some (.int .i64 (ddo : Nat)) := by rw [cell_of_row _ _ _ _ _ _ hx4]; rfl
  have q4 := (HS.out.later hb4).c0
  have HB4 := Lib.hid hb4
  have HB4d := Lib.hid (bdrewA hb4)
  clear hW hx3 hb3 b4 hx4 hb4 hown
  go_wp2_with fail
  go_region_with ((go_at_call 11
                   refine (H5.out _ (by first | exact HB4.out | exact HB4d.out)).mono ?_
                   rintro e w5 hm
                   rcases hm with ⟨h0, _, _⟩ | ⟨_, rfl, O5, hA5, hs5⟩
                   · exact absurd HDO.out h0
                   have hS5 := (HS.out.later (by first | exact HB4.out | exact HB4d.out)).call rfl hA5 hs5
                   have HS5 := Lib.hid (show BuS b B O5 (ns ++ [txD ddo]) its iv doc w5 from hS5)
                   have HST5 := Lib.hid (show AStep (b :: OA) w (b :: O5) w5 from (by first | exact bu_step HB4.out hs5 | exact bu_step HB4d.out hs5))
                   clear hA5 hs5 hS5))
  all_goals
    go_wp2_with fail
    refine (H6.out O5 w5 HS5.out).mono ?_
    rintro e w6 ⟨rfl, O6, hS6, hs6⟩
    have HF := Lib.hid (show ∃ O', BuS b B O' n2 its iv doc w6 ∧ AStep (b :: OA) w (b :: O') w6 from ⟨O6, hS6, HST5.out.trans hs6⟩)
    clear hS6 hs6
    go_wp2_with fail
    go_end0
    exact ⟨rfl, HF.out⟩
end Go.Proofs.YtdapdadcninidaaGreatDoor
namespace Go.Proofs.YtdapdadcninidaaGreatDoor
open Go.RowKit
attribute [local go_sem ↓] Go.wp_at_zero Go.wp_at_succ

theorem attsNil (w : World) (a : Option Addr) : AttsAt w a [] := fun j y hj => by simp at hj
theorem s_cat : s2 ++ [txD 4] = s3a := rfl
theorem s_d5 : descAt s2 ((5 : Nat) : Int) = sF [] := rfl
theorem s_k5 : (descAt s3a ((5 : Nat) : Int)).kind = 2 := rfl
theorem s_e4 : docE s2 ((4 : Nat) : Int) = 0 := rfl
theorem s_char (w : World) {b : Nat} {B : AB} {OA : List Nat} {iv : Value} (hS : BuS b B OA s2 [si1, si2] iv 1 w) :
    Calls Tryz.prog 57 #[.pointer (some ⟨b, 0, none⟩), .int .i32 120] w fun e w' => e = .returned (.tuple #[]) ∧ ∃ O', BuS b B O' s3 [si1, si2] iv 1 w' ∧ AStep (b :: OA) w (b :: O') w' := by
  have h := Char_x 5 w (dd := 4) (d := sF []) hS s_f2 (by decide) s_pl2 s_d5 rfl rfl rfl s_e4 (by rw [s_cat]; exact s_f3a) (by rw [s_cat, s_k5]; intro h; exact absurd h (by decide)) (by rw [s_cat]; exact s_ok3)
  rw [s_cat, show putR s3a ((5 : Nat) : Int) ((s2.length + 1 : Nat) : Int) 0 = s3 from s_p3] at h
  exact h
theorem s_d3 : descAt s3 3 = sE 2 := rfl
theorem s_n3 : nodeE s3.length 3 = 0 := rfl
set_option maxRecDepth 100000 in
set_option maxHeartbeats 2000000 in
theorem known07_any (w : World) : Calls Tryz.prog 19 #[] w (Ret w (.bool true)) := by
  have H1 := Lib.hid (Begin_zero w)
  unfold startV at H1
  go_enter Tryz.func19, Tryz.ntmps19
  go_wp2_with fail
  refine H1.out.mono ?_
  rintro e w1 ⟨b, B, OA, rfl, hiv, hS, hb1, hbb, hO⟩
  have hS1 : BuS b B OA (chn [] []) (chI []) (.slice none 0 0) 1 w1 := hS
  have H2 := Lib.hid (bInsert_any htmlW [] 1 w1 (a := none) (c := 0) hS1 (attsNil _ _) (chn_ok [] [] htmlW (by simp) (by simp) (by simp) rfl))
  have HB1 := Lib.hid hb1; have HBB := Lib.hid hbb; have HO := Lib.hid hO; have HIV := Lib.hid hiv
  clear hS hS1 hb1 hbb hO hiv H1
  unfold tokV at H2
  go_wp2_with fail
  refine H2.out.mono ?_
  rintro e w2 ⟨rfl, O2, iv2, hS2, hs2⟩
  have hS2 : BuS b B O2 s1 [si1] iv2 1 w2 := by rw [show binL (chn [] []) htmlW [] 1 = chn [] [htmlW] from chn_step [] [] htmlW] at hS2; exact hS2
  have hb2 := astep_under hs2 HB1.out HB1.out.size (fun k hk => by
    rcases List.mem_cons.1 hk with rfl | hk
    · exact HBB.out
    · exact HO.out k hk)
  have hO2 : ∀ k ∈ O2, w.heap.size ≤ k := fun k hk => by
    rcases hs2.own k (List.mem_cons_of_mem _ hk) with h | h
    · rcases List.mem_cons.1 h with rfl | h
      · exact HBB.out
      · exact HO.out k h
    · exact Nat.le_trans HB1.out.size h
  have H3 := bInsert_gen tmplW [] 3 w2 (a := none) (c := 0) (PB := fun B' => B'.blk = B.blk) (n2 := s2) (its' := [si1, si2]) hS2 (fun w' hb => by
    have hi := binsert_gen tmplW [] 2 w' (a := none) (c := 0) (fun B' => B'.blk = B.blk) s2a 2 (hS2.later hb) s_pl1 s_f1 (by decide) s_f2a (fun h => absurd h (by decide)) s_ok2 (fun w'' hb2 =>
      Create_gen tmplW [] 2 w'' s2a 2 (fun B' => B'.blk = B.blk) (fun _ h => h) ((hS2.later hb).later hb2) s_f1 (by decide) (by simp) (attsNil _ _) rfl (by decide) (fun va vc w3 hat hA =>
        (ElementT_nil 1 [] w3 (B := B) (ns := s1) hA (by decide) rfl HIV.out (by decide) hat rfl).mono fun e w4 h => h))
    rw [show putR s2a ((2 : Nat) : Int) ((2 + 1 : Nat) : Int) 0 = s2 from s_p2] at hi
    exact hi)
  have H3 := Lib.hid H3
  have HB2 := Lib.hid hb2; have HO2 := Lib.hid hO2
  clear hS2 hs2 hb2 hO2 H2 HB1 HO
  unfold tokV tmplW at H3
  go_wp2_with fail
  refine H3.out.mono ?_
  rintro e w3 ⟨rfl, B3, O3, iv3, hB3, hS3, hs3⟩
  have hb3 := astep_under hs3 HB2.out HB2.out.size (fun k hk => by
    rcases List.mem_cons.1 hk with rfl | hk
    · exact HBB.out
    · exact HO2.out k hk)
  have hO3 : ∀ k ∈ O3, w.heap.size ≤ k := fun k hk => by
    rcases hs3.own k (List.mem_cons_of_mem _ hk) with h | h
    · rcases List.mem_cons.1 h with rfl | h
      · exact HBB.out
      · exact HO2.out k h
    · exact Nat.le_trans HB2.out.size h
  have H4 := s_char w3 hS3
  have H4 := Lib.hid H4
  have HB3 := Lib.hid hb3; have HO3 := Lib.hid hO3
  clear hS3 hs3 hb3 hO3 H3 HB2 HO2
  go_wp2_with fail
  refine H4.out.mono ?_
  rintro e w4 ⟨rfl, O4, hS4, hs4⟩
  have hb4 := astep_under hs4 HB3.out HB3.out.size (fun k hk => by
    rcases List.mem_cons.1 hk with rfl | hk
    · exact HBB.out
    · exact HO3.out k hk)
  have H5 := NodeD_any 3 w4 hS4.ar s_f3
  have H6 := (fun w' (hb : Below w4.heap.size w4 w') => Dump_any 3 sTx w' (hS4.ar.later hb) s_f3.len s_f3.kid1 rfl s_dump (by decide))
  have c0 := hS4.c0
  have HC := (fun w' (hb : Below w4.heap.size w4 w') => (hS4.later hb).c0)
  have HB4 := Lib.hid hb4
  clear hS4 hs4 hb4 H4 HB3 HO3
  rw [s_d3, s_n3, hB3] at H5
  simp only [hB3] at H6 HC c0
  unfold sE at H5
  have H5 := Lib.hid H5; have H6 := Lib.hid H6; have HC := Lib.hid HC
  go_wp2_with fail
  refine H5.out.mono ?_
  rintro e w5 ⟨k1, k2, a1, a2, rfl, -, -, b5⟩
  have hb5 := fun o => (b5.alloc b5.size o : Below w4.heap.size w4 (w5.alloc o))
  have c5 := fun o => HC.out _ (hb5 o)
  have H7 := Lib.hid (fun o => H6.out _ (hb5 o))
  have HB5 := Lib.hid (fun o => bthen HB4.out HB4.out.size (hb5 o))
  clear b5 hb5 H5 H6 c0
  unfold sTx at H7
  go_wp2_with fail
  refine (H7.out _).mono ?_
  rintro e w6 ⟨rfl, b6⟩
  have HB6 := Lib.hid (bthen (HB5.out _) (HB5.out _).size b6)
  clear b6 H7
  go_wp2_with fail
  go_ret
  exact Ret.mk (by simp) HB6.out
end Go.Proofs.YtdapdadcninidaaGreatDoor
namespace Go.Proofs.YtdapdadcninidaaGreatDoor
open Go.RowKit
attribute [local go_sem ↓] Go.wp_at_zero Go.wp_at_succ
attribute [local go_sem] sapp
attribute [local go_sem] run_field_it

theorem zkept {w0 w1 : World} {Z : Array Value} {T : TypeId} (b : Below (w0.alloc (.cells Z T)).heap.size (w0.alloc (.cells Z T)) w1) : w1.heap[w0.heap.size]? = some (.cells Z T (0, 0)) := (b.block _ (by simp)).trans (World.alloc_heap_new w0 _)
theorem zbox {w : World} {bx : Nat} {T : TypeId} (h : w.heap[bx]? = some (.cells #[.int .i64 0, .int .i64 0, .slice none 0 0, .int .i64 0, .int .i64 0, .string ⟨#[]⟩, .slice none 0 0, .string ⟨#[]⟩, .string ⟨#[]⟩, .string ⟨#[]⟩, .bool false, .int .i64 0, .int .i64 0] T (0, 0))) : (∀ j, w.frozen? ⟨bx, j, none⟩ = false) ∧ w.cell? ⟨bx, 0, none⟩ = some (.int .i64 0) ∧ w.cell? ⟨bx, 1, none⟩ = some (.int .i64 0) ∧ w.cell? ⟨bx, 2, none⟩ = some (.slice none 0 0) ∧ w.cell? ⟨bx, 3, none⟩ = some (.int .i64 0) ∧ w.cell? ⟨bx, 4, none⟩ = some (.int .i64 0) ∧ w.cell? ⟨bx, 5, none⟩ = some (.string ⟨#[]⟩) ∧ w.cell? ⟨bx, 6, none⟩ = some (.slice none 0 0) ∧ w.cell? ⟨bx, 7, none⟩ = some (.string ⟨#[]⟩) ∧ w.cell? ⟨bx, 8, none⟩ = some (.string ⟨#[]⟩) ∧ w.cell? ⟨bx, 9, none⟩ = some (.string ⟨#[]⟩) ∧ w.cell? ⟨bx, 10, none⟩ = some (.bool false) ∧ w.cell? ⟨bx, 11, none⟩ = some (.int .i64 0) ∧ w.cell? ⟨bx, 12, none⟩ = some (.int .i64 0) :=
  ⟨fun j => Lib.frozen_of_heap h j, by rw [cell_of_row _ _ _ _ _ _ h]; rfl, by rw [cell_of_row _ _ _ _ _ _ h]; rfl, by rw [cell_of_row _ _ _ _ _ _ h]; rfl, by rw [cell_of_row _ _ _ _ _ _ h]; rfl, by rw [cell_of_row _ _ _ _ _ _ h]; rfl, by rw [cell_of_row _ _ _ _ _ _ h]; rfl, by rw [cell_of_row _ _ _ _ _ _ h]; rfl, by rw [cell_of_row _ _ _ _ _ _ h]; rfl, by rw [cell_of_row _ _ _ _ _ _ h]; rfl, by rw [cell_of_row _ _ _ _ _ _ h]; rfl, by rw [cell_of_row _ _ _ _ _ _ h]; rfl, by rw [cell_of_row _ _ _ _ _ _ h]; rfl, by rw [cell_of_row _ _ _ _ _ _ h]; rfl⟩
/-- The box of a description, its cells stored one by one. -/
theorem zput {w : World} {bx : Nat} {d : Nd} {k1 : Option Addr} {k2 : Nat} {a1 : Option Addr} {a2 : Nat} (h : w.heap[bx]? = some (.cells #[.int .i64 0, .int .i64 0, .slice none 0 0, .int .i64 0, .int .i64 0, .string ⟨#[]⟩, .slice none 0 0, .string ⟨#[]⟩, .string ⟨#[]⟩, .string ⟨#[]⟩, .bool false, .int .i64 0, .int .i64 0] 55 (0, 0))) : (putCells bx w 0 (ndArr d k1 k2 a1 a2).toList).heap[bx]? = some (.cells (ndArr d k1 k2 a1 a2) 55 (0, 0)) :=
  putCells_full (ndArr d k1 k2 a1 a2).toList [.int .i64 0, .int .i64 0, .slice none 0 0, .int .i64 0, .int .i64 0, .string ⟨#[]⟩, .slice none 0 0, .string ⟨#[]⟩, .string ⟨#[]⟩, .string ⟨#[]⟩, .bool false, .int .i64 0, .int .i64 0] w rfl h
theorem ToB.box {w0 w : World} {ns : List Nd} {its : List It} {b : Nat} {B : AB} {bx : Nat} {vs : List Value} {wc : World} (h : ToB w0 ns its b B wc) (hb : Below wc.heap.size wc w) (hx : wc.heap.size ≤ bx) : ToB w0 ns its b B (putCells bx w 0 vs) :=
  h.later (hb.trans ((putCells_mod bx vs 0 w).below hb.size fun k hk e => by omega))
theorem AttsAt.box {w : World} {a : Option Addr} {l : List Att} {bx : Nat} {vs : List Value} {H : Nat} (h : AttsAt w a l) (ha : ∀ g o, a = some ⟨g, o, none⟩ → H ≤ g) (hx : bx < H) : AttsAt (putCells bx w 0 vs) a l := by
  intro j y hj
  obtain ⟨g, e, c0, c1, c2⟩ := h j y hj
  have hg := ha g 0 e
  have hm := putCells_mod bx vs 0 w
  have hl := World.block_lt_of_cell? _ _ c0
  have ne : ¬ g = bx := by omega
  exact ⟨g, e, (hm.cell (p := ⟨g, j * 3, none⟩) hl ne).trans c0, (hm.cell (p := ⟨g, j * 3 + 1, none⟩) hl ne).trans c1, (hm.cell (p := ⟨g, j * 3 + 2, none⟩) hl ne).trans c2⟩
theorem own_far {w : World} {H c n s : Nat} {a : Option Addr} {e : TypeId} {xs : List Value} (h : w.ownsRow H e s (.slice a n c) n xs) : ∀ g o, a = some ⟨g, o, none⟩ → H ≤ g := fun g o ha => by
  subst ha
  exact ownsRow_ge h rfl
/-- The box of a description is written, cell after cell. -/
theorem zfin {w0 wc w7 : World} {ns : List Nd} {its : List It} {b : Nat} {B : AB} {bx H : Nat} {d : Nd} {k1 : Option Addr} {k2 : Nat} {a1 : Option Addr} {a2 : Nat} (hT : ToB w0 ns its b B wc) (hb : Below wc.heap.size wc w7)
    (hx : w7.heap[bx]? = some (.cells #[.int .i64 0, .int .i64 0, .slice none 0 0, .int .i64 0, .int .i64 0, .string ⟨#[]⟩, .slice none 0 0, .string ⟨#[]⟩, .string ⟨#[]⟩, .string ⟨#[]⟩, .bool false, .int .i64 0, .int .i64 0] 55 (0, 0))) (hat : AttsAt w7 a1 d.attrs) (hfa : ∀ g o, a1 = some ⟨g, o, none⟩ → H ≤ g) (hlt : bx < H) (hle : wc.heap.size ≤ bx) :
    NBox d bx (World.setCell (World.setCell (World.setCell (World.setCell (World.setCell (World.setCell (World.setCell (World.setCell (World.setCell (World.setCell (World.setCell (World.setCell (World.setCell w7 ⟨bx, 0, none⟩ (.int .i64 d.kind)) ⟨bx, 1, none⟩ (.int .i64 (d.parent : Nat))) ⟨bx, 2, none⟩ (.slice k1 d.kids.length k2)) ⟨bx, 3, none⟩ (.int .i64 (d.doc : Nat))) ⟨bx, 4, none⟩ (.int .i64 d.space)) ⟨bx, 5, none⟩ (.string ⟨d.name.toArray⟩)) ⟨bx, 6, none⟩ (.slice a1 d.attrs.length a2)) ⟨bx, 7, none⟩ (.string ⟨d.data.toArray⟩)) ⟨bx, 8, none⟩ (.string ⟨d.pub.toArray⟩)) ⟨bx, 9, none⟩ (.string ⟨d.sys.toArray⟩)) ⟨bx, 10, none⟩ (.bool d.quirks)) ⟨bx, 11, none⟩ (.int .i64 (d.contents : Nat))) ⟨bx, 12, none⟩ (.int .i64 (d.host : Nat))) ∧ ToB w0 ns its b B (World.setCell (World.setCell (World.setCell (World.setCell (World.setCell (World.setCell (World.setCell (World.setCell (World.setCell (World.setCell (World.setCell (World.setCell (World.setCell w7 ⟨bx, 0, none⟩ (.int .i64 d.kind)) ⟨bx, 1, none⟩ (.int .i64 (d.parent : Nat))) ⟨bx, 2, none⟩ (.slice k1 d.kids.length k2)) ⟨bx, 3, none⟩ (.int .i64 (d.doc : Nat))) ⟨bx, 4, none⟩ (.int .i64 d.space)) ⟨bx, 5, none⟩ (.string ⟨d.name.toArray⟩)) ⟨bx, 6, none⟩ (.slice a1 d.attrs.length a2)) ⟨bx, 7, none⟩ (.string ⟨d.data.toArray⟩)) ⟨bx, 8, none⟩ (.string ⟨d.pub.toArray⟩)) ⟨bx, 9, none⟩ (.string ⟨d.sys.toArray⟩)) ⟨bx, 10, none⟩ (.bool d.quirks)) ⟨bx, 11, none⟩ (.int .i64 (d.contents : Nat))) ⟨bx, 12, none⟩ (.int .i64 (d.host : Nat))) :=
  show NBox d bx (putCells bx w7 0 (ndArr d k1 k2 a1 a2).toList) ∧ ToB w0 ns its b B (putCells bx w7 0 (ndArr d k1 k2 a1 a2).toList) from
    ⟨⟨k1, k2, a1, a2, zput hx, hat.box hfa hlt⟩, hT.box hb hle⟩
theorem nd_cells {w : World} {bx : Nat} {T : TypeId} {d : Nd} {k1 : Option Addr} {k2 : Nat} {a1 : Option Addr} {a2 : Nat} (h : w.heap[bx]? = some (.cells (ndArr d k1 k2 a1 a2) T (0, 0))) : w.cell? ⟨bx, 0, none⟩ = some (.int .i64 d.kind) ∧ w.cell? ⟨bx, 1, none⟩ = some (.int .i64 (d.parent : Nat)) ∧ w.cell? ⟨bx, 2, none⟩ = some (.slice k1 d.kids.length k2) ∧ w.cell? ⟨bx, 3, none⟩ = some (.int .i64 (d.doc : Nat)) ∧ w.cell? ⟨bx, 4, none⟩ = some (.int .i64 d.space) ∧ w.cell? ⟨bx, 5, none⟩ = some (.string ⟨d.name.toArray⟩) ∧ w.cell? ⟨bx, 6, none⟩ = some (.slice a1 d.attrs.length a2) ∧ w.cell? ⟨bx, 7, none⟩ = some (.string ⟨d.data.toArray⟩) ∧ w.cell? ⟨bx, 8, none⟩ = some (.string ⟨d.pub.toArray⟩) ∧ w.cell? ⟨bx, 9, none⟩ = some (.string ⟨d.sys.toArray⟩) ∧ w.cell? ⟨bx, 10, none⟩ = some (.bool d.quirks) ∧ w.cell? ⟨bx, 11, none⟩ = some (.int .i64 (d.contents : Nat)) ∧ w.cell? ⟨bx, 12, none⟩ = some (.int .i64 (d.host : Nat)) :=
  ⟨by rw [cell_of_row _ _ _ _ _ _ h]; rfl, by rw [cell_of_row _ _ _ _ _ _ h]; rfl, by rw [cell_of_row _ _ _ _ _ _ h]; rfl, by rw [cell_of_row _ _ _ _ _ _ h]; rfl, by rw [cell_of_row _ _ _ _ _ _ h]; rfl, by rw [cell_of_row _ _ _ _ _ _ h]; rfl, by rw [cell_of_row _ _ _ _ _ _ h]; rfl, by rw [cell_of_row _ _ _ _ _ _ h]; rfl, by rw [cell_of_row _ _ _ _ _ _ h]; rfl, by rw [cell_of_row _ _ _ _ _ _ h]; rfl, by rw [cell_of_row _ _ _ _ _ _ h]; rfl, by rw [cell_of_row _ _ _ _ _ _ h]; rfl, by rw [cell_of_row _ _ _ _ _ _ h]; rfl⟩
/-- The reference's line of the newest element. -/
theorem to_line {d : Nd} {a : List Att} {nm : List UInt8} {k : Nat} {w : World} {k1 : Option Addr} {k2 : Nat} {a1 : Option Addr} {a2 : Nat} (hd : chE a nm k (k + 1) = d) (hsm : smallA a = true) (hn : nm.length ≤ 40) (hat : AttsAt w a1 d.attrs) :
    Calls Tryz.prog 25 #[.agg #[.int .i64 d.kind, .int .i64 (d.parent : Nat), .slice k1 d.kids.length k2, .int .i64 (d.doc : Nat), .int .i64 d.space, .string ⟨d.name.toArray⟩, .slice a1 d.attrs.length a2, .string ⟨d.data.toArray⟩, .string ⟨d.pub.toArray⟩, .string ⟨d.sys.toArray⟩, .bool d.quirks, .int .i64 (d.contents : Nat), .int .i64 (d.host : Nat)]] w (Ret w (.string ⟨(lineL (chE a nm 0 0)).toArray⟩)) := by
  subst hd
  have h := rLine_any (chE a nm k (k + 1)) (.slice k1 (chE a nm k (k + 1)).kids.length k2) w (a := a1) (c := a2) rfl ⟨by show (0 : Int) ≤ 1; omega, by show (1 : Int) < 100; omega⟩ (by show nm.length ≤ _; omega) (by have := htmlA_len a; have := (small_names hsm).2; show (htmlA a).length ≤ _; omega) (htmlA_ok hsm) hat
  rw [chE_line] at h
  exact h
set_option maxRecDepth 100000 in
set_option maxHeartbeats 8000000 in
theorem TopOpened_any (names : List (List UInt8)) (a : List Att) (w : World) {na aa : Option Addr} {nc ac : Nat} (hn : StrsIn w na names) (ha : AttsIn w aa a) (hnl : names.length ≤ maxLen) (hal : a.length ≤ maxLen) (hac : aa = none → ac = 0) :
    Calls Tryz.prog 4 #[.slice na names.length nc, .slice aa a.length ac] w (Ret w (.bool true)) := by
  have HK := Lib.hid known07_any
  have HSA := Lib.hid (SmallAttrs_any a w (a := aa) (c := ac) (by unfold maxLen at hal; exact hal) ha)
  have HBG := Lib.hid (Begin_zero w)
  unfold startV at HBG
  by_cases h40 : 40 < names.length
  · have h40i : (40 : Int) < (names.length : Int) := by omega
    go_enter Tryz.func4, Tryz.ntmps4
    go_wp2_with fail
    refine (HK.out w).mono ?_
    rintro e w1 ⟨rfl, b1⟩
    have HB1 := Lib.hid b1
    clear b1
    go_wp2_with fail
    go_ret
    exact Ret.mk rfl HB1.out
  · have h40i : ¬ (40 : Int) < (names.length : Int) := by omega
    by_cases h0 : names.length = 0
    · rw [h0]
      go_enter Tryz.func4, Tryz.ntmps4
      go_wp2_with fail
      refine (HK.out w).mono ?_
      rintro e w1 ⟨rfl, b1⟩
      have HB1 := Lib.hid b1
      clear b1
      go_wp2_with fail
      go_ret
      exact Ret.mk rfl HB1.out
    · have h0i : ((names.length : Int) == 0) = false := by simpa using h0
      cases hsm : smallA a
      · rw [hsm] at HSA
        clear hsm
        go_enter Tryz.func4, Tryz.ntmps4
        go_wp2_with fail
        refine HSA.out.mono ?_
        rintro e w1 ⟨rfl, rfl⟩
        go_wp2_with fail
        refine (HK.out w).mono ?_
        rintro e w1 ⟨rfl, b1⟩
        have HB1 := Lib.hid b1
        clear b1
        go_wp2_with fail
        go_ret
        exact Ret.mk rfl HB1.out
      · rw [hsm] at HSA
        have HN := Lib.hid hn; have HA := Lib.hid ha; have HSM := Lib.hid hsm; have HAC := Lib.hid hac
        have ha20 := (small_names hsm).2
        have HAN := Lib.hid (small_names hsm).1
        clear hn ha hsm hac hnl hal
        go_enter Tryz.func4, Tryz.ntmps4
        go_wp2_with fail
        refine HSA.out.mono ?_
        rintro e w1 ⟨rfl, rfl⟩
        go_wp2_with fail
        refine HBG.out.mono ?_
        rintro e w1 ⟨b, B, OA, rfl, -, hS, hb1, hbb, hO⟩
        have HT1 := Lib.hid (ToB.begun (a := a) hS hb1 hbb hO)
        clear hS hb1 hbb hO HBG HSA
        go_wp2_with fail
        have hk1 : names.length ≤ 40 := by omega
        go_loopw [6, 7, 8] (fun s6 s7 s8 wr => ∃ k : Nat, k ≤ names.length ∧ s8 = .int .i64 (k : Nat) ∧ (∀ nm ∈ names.take k, nm.length ≤ 40) ∧ s6 = .string ⟨(wantL a (names.take k)).toArray⟩ ∧ s7 = .string ⟨(indL (k + 1)).toArray⟩ ∧ ToB w (chn a (names.take k)) (chI (names.take k)) b B wr) (fun _ _ s8 _ => names.length - (intOf s8).toNat)
        case atStart => exact ⟨0, Nat.zero_le _, rfl, by simp, rfl, rfl, HT1.out⟩
        case round =>
          obtain ⟨k, hk, rfl, hsh, rfl, rfl, hT⟩ := hrel
          have HSH := Lib.hid hsh; have HT := Lib.hid hT
          clear hsh hT
          by_cases hlt : k < names.length
          · obtain ⟨g, o, rfl, cn⟩ := (HN.out.later HT.out.bl) k names[k] (List.getElem?_eq_getElem hlt)
            have hki : (k : Int) < (names.length : Int) := by omega
            have HTK : Hid (names.take (k + 1) = names.take k ++ [names[k]]) := Lib.hid (List.take_succ_eq_append_getElem hlt)
            have hdl : (names.take k).length = k := by simp; omega
            obtain ⟨nm, hnm⟩ : ∃ nm, names[k] = nm := ⟨_, rfl⟩
            rw [hnm] at cn HTK
            clear hnm
            by_cases hlong : 40 < nm.length
            · have hl2 : (40 : Int) < (nm.length : Int) := by omega
              go_wp2_with fail
              refine (HK.out wr).mono ?_
              rintro e w1 ⟨rfl, b1⟩
              have HB1 := Lib.hid (bthen HT.out.bl HT.out.bl.size b1)
              clear b1
              go_wp2_with fail
              go_ret
              exact Ret.mk rfl HB1.out
            · have hl2 : ¬ (40 : Int) < (nm.length : Int) := by omega
              cases htm : (nm == tmplW)
              · have htm2 : (nm == [116, 101, 109, 112, 108, 97, 116, 101]) = false := htm
                have hshn : ∀ m ∈ names.take k ++ [nm], m.length ≤ 40 := fun m hm => by
                  rcases List.mem_append.1 hm with hm | hm
                  · exact HSH.out m hm
                  · rw [List.mem_singleton.1 hm]; omega
                have HSN := Lib.hid hshn
                generalize hl0 : names.take k = l0 at *
                have H13 := Lib.hid (fun w' aa c (hb : Below wr.heap.size wr w') (hat : AttsAt w' aa a) => (HT.out.later hb).insert (c := c) nm hat (by omega) (by omega) HAN.out htm)
                clear hshn htm
                unfold tokV at H13
                have hbd : Below wr.heap.size wr wr.drew := ⟨rfl, rfl, rfl, Nat.le_refl _, fun _ _ => rfl⟩
                have HAD := Lib.hid ((HA.out.later HT.out.bl).later hbd)
                have HBD := Lib.hid hbd
                clear hbd
                go_upto_region 13 with fail
                go_cut [58] (fun _ wx => ToB w (chn a (l0 ++ [nm])) (chI (l0 ++ [nm])) b B wx)
                case first =>
                  go_region_law (first
                    | (refine step_atts rfl _ _ rfl rfl aa ac a rfl HAD.out HAC.out (by omega) ?_; intro va vc w5 hown5 b5; have HAT5 := Lib.hid (AttsAt.own hown5); have HB5 := Lib.hid (bthen HBD.out HBD.out.size b5); have cn5 := (HB5.out.cell (p := ⟨g, o + k, none⟩) (World.block_lt_of_cell? _ _ cn)).trans cn; clear hown5 b5)
                    | (go_simp; go_at_call 21; refine (H13.out _ va vc HB5.out HAT5.out).mono ?_; rintro e w6 ⟨⟨m, rfl⟩, hT6⟩; have HT6 := Lib.hid hT6; clear hT6))
                  all_goals
                    go_wp2_with fail
                    go_meet
                    exact HT6.out
                case rest =>
                  have HT2 := Lib.hid hcut
                  clear hcut H13 HAD HBD
                  have hnl1 : (l0 ++ [nm]).length = k + 1 := by rw [List.length_append, hdl]; rfl
                  have hz := chI_top (l0 ++ [nm]) (by omega)
                  rw [hnl1] at hz
                  have HCur := fun w' (hb : Below wc.heap.size wc w') => (HT2.out.later hb).current (by rw [chI_len]; omega)
                  obtain ⟨z, hzz⟩ : ∃ z, itAt (chI (l0 ++ [nm])) (((chI (l0 ++ [nm])).length : Int) - 1) = z := ⟨_, rfl⟩
                  rw [hzz] at hz HCur
                  unfold itV at HCur
                  rw [hz] at HCur
                  have HNode := fun w' (hb : Below wc.heap.size wc w') => (HT2.out.later hb).node ((k + 1 + 1 : Nat) : Int) (chn_fit a (l0 ++ [nm]) (by omega) (by omega))
                  have hdn := chn_new a l0 nm
                  rw [hdl] at hdn
                  have hne : nodeE (chn a (l0 ++ [nm])).length ((k + 1 + 1 : Nat) : Int) = 0 := by rw [nodeE, if_pos (isH_iff.2 ⟨k + 1, by rw [chn_len]; omega, rfl⟩)]
                  rw [show k + 1 + 1 = k + 2 from rfl] at hne HNode HCur
                  rw [hdn, hne] at HNode
                  obtain ⟨m, hm⟩ : ∃ m, k + 2 = m := ⟨_, rfl⟩
                  rw [hm] at HNode HCur
                  have c0 := HT2.out.c0
                  have HCur := Lib.hid HCur
                  have HM := Lib.hid hm
                  obtain ⟨d, hd⟩ : ∃ d, chE a nm k (k + 1) = d := ⟨_, rfl⟩
                  rw [hd] at HNode
                  have HNode := Lib.hid HNode; have HD := Lib.hid hd
                  clear hz hzz hdn hne hm hd
                  go_upto_region 14 with fail
                  go_cut [9, 10] (fun s9 s10 wx => ∃ bx, s9 = .pointer (some ⟨bx, 0, none⟩) ∧ s10 = .int .i64 0 ∧ NBox d bx wx ∧ ToB w (chn a (l0 ++ [nm])) (chI (l0 ++ [nm])) b B wx)
                  case first =>
                    have hbd : Below wc.heap.size wc wc.drew := ⟨rfl, rfl, rfl, Nat.le_refl _, fun _ _ => rfl⟩
                    have HBD := Lib.hid hbd
                    clear hbd
                    have HBA := Lib.hid (fun o => HBD.out.alloc (Nat.le_refl _) o)
                    have c0a := fun o => (HT2.out.later (balloc wc o)).c0
                    go_region_with (first
                      | (go_at_call 23
                         refine (HCur.out _ (by first | exact HBD.out | exact HBA.out _)).mono ?_
                         rintro e w6 ⟨rfl, b6⟩
                         have HB6 := Lib.hid (show Below wc.heap.size wc w6 from (by first | exact bthen HBD.out HBD.out.size b6 | exact bthen (HBA.out _) (HBA.out _).size b6))
                         have c06 := (HT2.out.later HB6.out).c0
                         have c06a := (fun o => (HT2.out.later (HB6.out.alloc HB6.out.size o)).c0)
                         try (have hx6 := zkept (bdrew b6))
                         clear b6)
                      | (go_at_call 22
                         refine (HNode.out _ (by first | exact HB6.out | exact HB6.out.alloc HB6.out.size _)).mono ?_
                         rintro e w7 ⟨k1, k2, a1, a2, rfl, -, hna, b7⟩
                         have HB7 := Lib.hid (show Below wc.heap.size wc w7 from (by first | exact bthen HB6.out HB6.out.size b7 | exact bthen (HB6.out.alloc HB6.out.size _) (HB6.out.alloc HB6.out.size _).size b7))
                         have HAT7 := Lib.hid (AttsAt.own hna)
                         have HFA7 := Lib.hid (own_far hna)
                         first
                           | (have hx7 : w7.heap[w6.heap.size]? = _ := zkept b7
                              obtain ⟨zf, d0, d1, d2, d3, d4, d5, d6, d7, d8, d9, d10, d11, d12⟩ := zbox hx7
                              have HX7 := Lib.hid hx7
                              clear hx7)
                           | (have hx7 := (b7.block _ (Array.getElem?_eq_some_iff.1 hx6).1).trans hx6
                              obtain ⟨zf, d0, d1, d2, d3, d4, d5, d6, d7, d8, d9, d10, d11, d12⟩ := zbox hx7
                              have HX7 := Lib.hid hx7
                              clear hx7)
                           | skip
                         clear b7 hna))
                    all_goals
                      go_wp2_with fail
                      go_meet
                      first
                        | (have hq := hx6
                           clear hq
                           exact ⟨_, rfl, rfl, zfin HT2.out HB7.out HX7.out HAT7.out HFA7.out (Array.getElem?_eq_some_iff.1 hx6).1 (Nat.le_refl _)⟩)
                        | (have hq := HX7
                           clear hq
                           exact ⟨_, rfl, rfl, zfin HT2.out HB7.out HX7.out HAT7.out HFA7.out (by simp) HB6.out.size⟩)
                        | exact ⟨_, rfl, rfl, ⟨k1, k2, a1, a2, World.alloc_heap_new w7 _, HAT7.out.later (balloc w7 _)⟩, HT2.out.later (HB7.out.alloc HB7.out.size _)⟩
                  case rest =>
                    obtain ⟨bx, rfl, rfl, ⟨k1, k2, a1, a2, hbx, hat⟩, hT3⟩ := hcut
                    rename World => w3
                    obtain ⟨y0, y1, y2, y3, y4, y5, y6, y7, y8, y9, y10, y11, y12⟩ := nd_cells hbx
                    have hdnm : d.name = nm := by rw [← HD.out]; rfl
                    rw [hdnm] at y5
                    obtain ⟨g', o', he, cn3⟩ := (HN.out.later hT3.bl) k nm (by rw [← List.take_append_drop (k + 1) names, List.getElem?_append_left (by simp; omega), HTK.out, List.getElem?_append_right (by omega)]; simp [hdl])
                    cases he
                    have HT3 := Lib.hid hT3
                    have hlen3 : (chI (l0 ++ [nm])).length = k + 1 := by rw [chI_len]; exact hnl1
                    have HLen := Lib.hid (fun n => show Calls Tryz.prog 24 #[.pointer (some ⟨b, 2, none⟩)] (w3.drewN n) fun e w' => e = .returned (.int .i64 ((k + 1 : Nat) : Int)) ∧ w' = w3.drewN n from by
                      have h := (hT3.later (bdrewsQ (Below.refl _ _) n)).len
                      rw [hlen3] at h
                      exact h.mono fun e w' ⟨h1, h2⟩ => ⟨h1, h2.symm⟩)
                    have HLine := fun w' (hb : Below w3.heap.size w3 w') => to_line (k1 := k1) (k2 := k2) (a2 := a2) HD.out HSM.out (show nm.length ≤ 40 by omega) (hat.later hb)
                    rw [hdnm] at HLine
                    have HWN := Lib.hid (show wantL a (names.take (k + 1)) = wantL a l0 ++ (indL (k + 1) ++ (lineL (chE a nm 0 0) ++ [10])) by rw [HTK.out, wantL_next, hdl])
                    have HIN := Lib.hid (indL_next (k + 1))
                    have hLl := chE_short HSM.out (show nm.length ≤ 40 by omega)
                    have hWl := wantL_len HSM.out (ns := l0) (by omega) HSH.out
                    have hIl : (indL (k + 1)).length ≤ 100 := by rw [indL_len]; omega
                    obtain ⟨L0, hL0⟩ : ∃ L, lineL (chE a nm 0 0) = L := ⟨_, rfl⟩
                    obtain ⟨I0, hI0⟩ : ∃ I, indL (k + 1) = I := ⟨_, rfl⟩
                    obtain ⟨W0, hW0⟩ : ∃ W, wantL a l0 = W := ⟨_, rfl⟩
                    rw [hL0] at HLine HWN hLl
                    rw [hI0] at HWN HIN hIl ⊢
                    rw [hW0] at HWN hWl ⊢
                    have HLine := Lib.hid HLine
                    clear hL0 hI0 hW0 hT3 hat hbx hlen3
                    go_wp2_with fail
                    go_quiet ((go_at_call 24; exact quiet_leftI (HLen.out _)))
                    generalize hW4 : w3.drewN _ = w4
                    have HB4 := Lib.hid (show Below w3.heap.size w3 w4 by rw [← hW4]; exact bdrewsQ (Below.refl _ _) _)
                    have hcl : ∀ p, w4.cell? p = w3.cell? p := fun p => by rw [← hW4]; rfl
                    rw [← hcl] at y0 y1 y2 y3 y4 y5 y6 y7 y8 y9 y10 y11 y12
                    clear hW4 hcl cn3 HLen
                    have HT4 := Lib.hid (HT3.out.later HB4.out)
                    go_wp2_with fail
                    refine (HLine.out w4 HB4.out).mono ?_
                    rintro e w5 ⟨rfl, b5⟩
                    have HT5 := Lib.hid (HT4.out.later b5)
                    clear b5 HLine
                    go_wp2_with fail
                    go_roundw
                    case rel => exact ⟨k + 1, by omega, by go_num, by rw [HTK.out]; exact HSN.out, by rw [HWN.out], by rw [HIN.out], by rw [HTK.out]; exact HT5.out⟩
                    case measure => simp [intOf]; omega
              · have htm2 : nm = tmplW := by simpa using htm
                subst htm2
                unfold tmplW at cn
                go_wp2_with fail
                refine (HK.out wr).mono ?_
                rintro e w1 ⟨rfl, b1⟩
                have HB1 := Lib.hid (bthen HT.out.bl HT.out.bl.size b1)
                clear b1
                go_wp2_with fail
                go_ret
                exact Ret.mk rfl HB1.out
          · obtain rfl : k = names.length := by omega
            rw [List.take_length] at HT HSH
            have hfit := chn_fit a names (by omega) (by omega)
            have hdmp := wantL_dump HSM.out (ns := names) (by omega) HSH.out
            have hWl := wantL_len HSM.out (ns := names) (by omega) HSH.out
            have hh : isH (chn a names).length 1 = true := isH_iff.2 ⟨0, by rw [chn_len]; omega, rfl⟩
            have HDM := Lib.hid (fun its w' (h : ToB w (chn a names) its b B w') => h.dump (wantL a names) hfit hh hdmp (by omega))
            have HAL := Lib.hid (fun its w' (h : ToB w (chn a names) its b B w') => h.alen)
            rw [chn_len] at HAL
            rw [List.take_length]
            obtain ⟨W0, hW0⟩ : ∃ W, wantL a names = W := ⟨_, rfl⟩
            rw [hW0] at HDM ⊢
            clear hfit hdmp hWl hh hW0
            have c0 := HT.out.c0
            go_wp2_with fail
            refine (HDM.out _ _ HT.out).mono ?_
            rintro e w2 ⟨rfl, b2⟩
            have HT2 := Lib.hid (HT.out.later b2)
            have c2 := HT2.out.c0
            clear b2 c0
            go_wp2_with fail
            refine (HAL.out _ _ HT2.out).mono ?_
            rintro e w3 ⟨rfl, rfl⟩
            go_wp2_with fail
            have htkl : names.take (names.length - 1 + 1) = names := by rw [show names.length - 1 + 1 = names.length by omega, List.take_length]
            go_loopw [11] (fun s11 wr => ∃ k : Nat, k < names.length ∧ s11 = .int .i64 (k : Nat) ∧ ToB w (chn a names) (chI (names.take (k + 1))) b B wr) (fun s11 _ => (intOf s11).toNat)
            case atStart => exact ⟨names.length - 1, by omega, by go_num, by rw [htkl]; exact HT2.out⟩
            case round =>
              obtain ⟨k, hk, rfl, hT⟩ := hrel
              have HT3 := Lib.hid hT
              clear hT
              have hl1 : (names.take (k + 1)).length = k + 1 := by simp; omega
              by_cases hk0 : 0 < k
              · have hki : (0 : Int) < (k : Int) := by omega
                have hPop := HT3.out.pop (by rw [chI_len]; omega) (by rw [chI_len]; omega)
                rw [chI_take, chI_len, hl1, show k + 1 - 1 = k from rfl, List.take_take, Nat.min_eq_left (Nat.le_succ k)] at hPop
                have hz := chI_at (names.take (k + 1)) k (by omega)
                rw [show (((k + 1 : Nat) : Int) - 1) = (k : Int) by omega] at hPop
                obtain ⟨z, hzz⟩ : ∃ z, itAt (chI (names.take (k + 1))) (k : Int) = z := ⟨_, rfl⟩
                rw [hzz] at hz hPop
                unfold itV at hPop
                rw [hz] at hPop
                have HPop := Lib.hid hPop
                have hl2 : (names.take k).length = k := by simp; omega
                have hz2 := chI_at (names.take k) (k - 1) (by omega)
                obtain ⟨y, hy⟩ : ∃ y, itAt (chI (names.take k)) ((k : Int) - 1) = y := ⟨_, rfl⟩
                have hcur := fun w' (h : ToB w (chn a names) (chI (names.take k)) b B w') => h.current (by rw [chI_len]; omega)
                rw [chI_len, hl2, hy] at hcur
                rw [show ((k - 1 : Nat) : Int) = (k : Int) - 1 by omega, hy, show k - 1 + 2 = k + 1 by omega] at hz2
                unfold itV at hcur
                rw [hz2] at hcur
                have HCur := Lib.hid hcur
                clear hPop hcur hz hzz hz2 hy
                go_wp2_with fail
                refine HPop.out.mono ?_
                rintro e w4 ⟨rfl, hT4⟩
                have HT4 := Lib.hid hT4
                clear hT4
                go_wp2_with fail
                refine (HCur.out _ HT4.out).mono ?_
                rintro e w5 ⟨rfl, b5⟩
                have HT5 := Lib.hid (HT4.out.later b5)
                clear b5
                go_wp2_with fail
                go_roundw
                case rel => exact ⟨k - 1, by omega, by go_num, by rw [show k - 1 + 1 = k by omega]; exact HT5.out⟩
                case measure => simp [intOf]; omega
              · obtain rfl : k = 0 := by omega
                have hLen := HT3.out.len
                rw [chI_len, hl1] at hLen
                have hPop := HT3.out.popLess (by rw [chI_len, hl1]; omega)
                unfold itV at hPop
                have HLen := Lib.hid hLen; have HPop := Lib.hid hPop
                clear hLen hPop
                go_wp2_with fail
                refine HLen.out.mono ?_
                rintro e w4 ⟨rfl, rfl⟩
                go_wp2_with fail
                refine HPop.out.mono ?_
                rintro e w5 ⟨rfl, b5⟩
                have HT5 := Lib.hid (HT3.out.later b5)
                have c5 := HT5.out.c0
                clear b5
                go_wp2_with fail
                refine (HDM.out _ _ HT5.out).mono ?_
                rintro e w6 ⟨rfl, b6⟩
                have HT6 := Lib.hid (HT5.out.later b6)
                clear b6 c5
                go_wp2_with fail
                refine (HK.out w6).mono ?_
                rintro e w7 ⟨rfl, b7⟩
                have HB7 := Lib.hid (bthen HT6.out.bl HT6.out.bl.size b7)
                clear b7
                go_wp2_with fail
                go_ret
                exact Ret.mk (by simp) HB7.out
end Go.Proofs.YtdapdadcninidaaGreatDoor
