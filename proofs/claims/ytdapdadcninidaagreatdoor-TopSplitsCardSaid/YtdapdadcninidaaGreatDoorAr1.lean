/- Package arena: what a stored arena looks like in memory; the look-ups. -/
import Derived.Test.YtdapdadcninidaaGreatDoorBase
import Derived.Test.YtdapdadcninidaaGreatDoorIter
import Derived.Test.YtdapdadcninidaaGreatDoorBld
import Derived.Test.YtdapdadcninidaaGreatDoorShelf
import Derived.Deep.AppendLies
import Derived.Deep.RegionHeld3
import Derived.Deep.MidRow
import Derived.Deep.RegionLaw
import Derived.Deep.DrawnRows
namespace Go.Proofs.YtdapdadcninidaaGreatDoor
open Go.RowKit
attribute [local go_sem ↓] Go.wp_at_zero Go.wp_at_succ

/-- An attribute. -/
structure Att where
  space : Int := 0
  name : List UInt8 := []
  value : List UInt8 := []
deriving DecidableEq
/-- A node. -/
structure Nd where
  kind : Int := 0
  parent : Nat := 0
  kids : List Nat := []
  doc : Nat := 0
  space : Int := 0
  name : List UInt8 := []
  attrs : List Att := []
  data : List UInt8 := []
  pub : List UInt8 := []
  sys : List UInt8 := []
  quirks : Bool := false
  contents : Nat := 0
  host : Nat := 0
deriving DecidableEq
def strV (l : List UInt8) : Value := .string ⟨l.toArray⟩
def natV (n : Nat) : Value := .int .i64 (n : Int)
/-- A node as it is stored: the values of its two slices. -/
structure Nv where
  nd : Nd
  kv : Value
  av : Value
def ndCells (d : Nd) (kv av : Value) : List Value :=
  [.int .i64 d.kind, natV d.parent, kv, natV d.doc, .int .i64 d.space, strV d.name, av, strV d.data, strV d.pub, strV d.sys, .bool d.quirks, natV d.contents, natV d.host]
def Nv.cells (x : Nv) : List Value := ndCells x.nd x.kv x.av
def rowCells (L : List Nv) : List Value := L.flatMap Nv.cells
def attCells (l : List Att) : List Value := l.flatMap fun a => [.int .i64 a.space, strV a.name, strV a.value]
def kidCells (l : List Nat) : List Value := l.map natV
def blocks (B : Nat) (tab : Value) (L : List Nv) : List Nat := B :: (tab.ownBlock.toList ++ L.flatMap fun x => x.kv.ownBlock.toList ++ x.av.ownBlock.toList)
/-- An arena lies at block B; tab: its slice of nodes; inv: its map. -/
structure Ar (w : World) (B : Nat) (tab inv : Value) (L : List Nv) : Prop where
  hd : w.heap[B]? = some (.cells #[tab, inv] 93 (0, 0))
  row : w.ownsRow 0 96 13 tab L.length (rowCells L)
  kid : ∀ x ∈ L, w.ownsRow 0 3 1 x.kv x.nd.kids.length (kidCells x.nd.kids)
  att : ∀ x ∈ L, w.ownsRow 0 121 3 x.av x.nd.attrs.length (attCells x.nd.attrs)
  nd : (blocks B tab L).Nodup
theorem Ar.c0 {w : World} {B : Nat} {tab inv : Value} {L : List Nv} (h : Ar w B tab inv L) : w.cell? ⟨B, 0, none⟩ = some tab := by rw [Lib.cell_of_heap h.hd]; rfl
theorem Ar.c1 {w : World} {B : Nat} {tab inv : Value} {L : List Nv} (h : Ar w B tab inv L) : w.cell? ⟨B, 1, none⟩ = some inv := by rw [Lib.cell_of_heap h.hd]; rfl
theorem Ar.f0 {w : World} {B : Nat} {tab inv : Value} {L : List Nv} (h : Ar w B tab inv L) (o : Nat) : w.frozen? ⟨B, o, none⟩ = false := Lib.frozen_of_heap h.hd o
theorem rowCells_len (L : List Nv) : (rowCells L).length = L.length * 13 := by
  induction L with
  | nil => rfl
  | cons x L ih => simp only [rowCells, List.flatMap_cons, List.length_append, List.length_cons] at ih ⊢; rw [ih]; simp [Nv.cells, ndCells]; omega
theorem rowCells_at : ∀ (L : List Nv) (i : Nat) (x : Nv), L[i]? = some x → ∀ j, j < 13 → (rowCells L)[i * 13 + j]? = x.cells[j]?
  | [], _, _, h, _, _ => by simp at h
  | y :: L, 0, x, h, j, hj => by
    obtain rfl : y = x := by simpa using h
    rw [rowCells, List.flatMap_cons, List.getElem?_append_left (by simpa [Nv.cells, ndCells] using hj), Nat.zero_mul, Nat.zero_add]
  | y :: L, i + 1, x, h, j, hj => by
    have := rowCells_at L i x (by simpa using h) j hj
    rw [rowCells, List.flatMap_cons, List.getElem?_append_right (by simp [Nv.cells, ndCells]; omega)]
    rw [show (i + 1) * 13 + j - y.cells.length = i * 13 + j by simp [Nv.cells, ndCells]; omega]
    exact this
/-- The slice of nodes, written out. -/
theorem Ar.tab {w : World} {B : Nat} {tab inv : Value} {L : List Nv} (h : Ar w B tab inv L) : (tab = .slice none 0 0 ∧ L = []) ∨
    ∃ g cap, tab = .slice (some ⟨g, 0, none⟩) L.length cap ∧ g < w.heap.size ∧ L.length ≤ cap ∧ cap ≤ maxLen ∧ g ≠ B ∧
      ∀ i x, L[i]? = some x → ∀ j v, x.cells[j]? = some v → w.cell? ⟨g, i * 13 + j, none⟩ = some v ∧ w.frozen? ⟨g, i * 13 + j, none⟩ = false := by
  obtain ⟨h1, ⟨h2, h3⟩ | ⟨g, cap, cur, h2, h3, h4, h5, h6, h7, h8⟩⟩ := h.row
  · exact .inl ⟨h2, List.eq_nil_of_length_eq_zero h3⟩
  · refine .inr ⟨g, cap, h2, (Array.getElem?_eq_some_iff.1 h4).1, h5, h6, fun e => ?_, fun i x hx j v hv => ⟨?_, Lib.frozen_of_heap h4 _⟩⟩
    · have := h.nd
      rw [blocks, h2] at this
      simp [Value.ownBlock, e] at this
    · have hj : j < 13 := by have := (List.getElem?_eq_some_iff.1 hv).1; simpa [Nv.cells, ndCells] using this
      have hr := rowCells_at L i x hx j hj
      rw [hv] at hr
      rw [cell_of_row w g _ cur _ _ h4, ← Array.getElem?_toList]
      have hi : i < L.length := (List.getElem?_eq_some_iff.1 hx).1
      rw [← h8, List.getElem?_take, if_pos (by omega)] at hr
      exact hr

theorem Ar.tab_ne {w : World} {B : Nat} {tab inv : Value} {L : List Nv} (h : Ar w B tab inv L) : some B ≠ tab.ownBlock := by
  intro e
  have := h.nd
  rw [blocks, ← e] at this
  simp at this
theorem Ar.tab_new {w : World} {B : Nat} {tab inv : Value} {L : List Nv} (h : Ar w B tab inv L) : some w.heap.size ≠ tab.ownBlock := by
  rcases h.tab with ⟨rfl, _⟩ | ⟨g, cap, rfl, hg, _⟩
  · simp [Value.ownBlock]
  · simp [Value.ownBlock]; omega
theorem Ar.form {w : World} {B : Nat} {tab inv : Value} {L : List Nv} (h : Ar w B tab inv L) : ∃ ad cap, tab = .slice ad L.length cap := by
  rcases h.tab with ⟨ht, hl⟩ | ⟨g, cap, ht, _⟩
  · subst hl; exact ⟨none, 0, ht⟩
  · exact ⟨_, _, ht⟩
def isH (n : Nat) (h : Int) : Bool := decide (1 ≤ h) && decide (h ≤ (n : Int))
set_option maxRecDepth 100000 in
theorem has_any (h : Int) (w : World) {B : Nat} {tab inv : Value} {L : List Nv} (hA : Ar w B tab inv L) : Calls Tryz.prog 45 #[.pointer (some ⟨B, 0, none⟩), .int .i64 h] w fun e w' => e = .returned (.bool (isH L.length h)) ∧ w = w' := by
  have c0 := hA.c0
  obtain ⟨ad, cap, rfl⟩ := hA.form
  clear hA
  unfold isH
  by_cases h1 : 1 ≤ h
  · go_enter Tryz.func45, Tryz.ntmps45
    go_wp2
    all_goals
      go_ret
      exact ⟨by simp [*], rfl⟩
  · have h2 : decide (1 ≤ h) = false := by simpa using h1
    go_enter Tryz.func45, Tryz.ntmps45
    go_wp2
    all_goals
      go_ret
      exact ⟨by simp, rfl⟩
set_option maxRecDepth 100000 in
theorem at_any (i : Nat) (w : World) {B g n cap : Nat} (c0 : w.cell? ⟨B, 0, none⟩ = some (.slice (some ⟨g, 0, none⟩) n cap)) (hi : i < n) (hn : n ≤ 1000000000) :
    Calls Tryz.prog 37 #[.pointer (some ⟨B, 0, none⟩), .int .i64 ((i + 1 : Nat) : Int)] w fun e w' => e = .returned (.pointer (some ⟨g, i * 13, none⟩)) ∧ w = w' := by
  go_enter Tryz.func37, Tryz.ntmps37
  go_wp2
  go_ret
  exact ⟨by simp, rfl⟩
def zeroN : Value := .agg #[.int .i64 0, .int .i64 0, .slice none 0 0, .int .i64 0, .int .i64 0, .string ⟨#[]⟩, .slice none 0 0, .string ⟨#[]⟩, .string ⟨#[]⟩, .string ⟨#[]⟩, .bool false, .int .i64 0, .int .i64 0]
theorem ownsRow_below {w w' : World} {b n s : Nat} {e : TypeId} {v : Value} {xs : List Value} (h : w.ownsRow b e s v n xs) (hb : Below w.heap.size w w') : w'.ownsRow b e s v n xs := by
  refine ⟨h.1, ?_⟩
  rcases h.2 with h | ⟨g, cap, cur, hv, hg, hgg, r⟩
  · exact .inl h
  · exact .inr ⟨g, cap, cur, hv, hg, (hb.block g (Array.getElem?_eq_some_iff.1 hgg).1).trans hgg, r⟩
theorem ownsRow_one {w : World} {b n s : Nat} {e : TypeId} {v : Value} {xs : List Value} (h : w.ownsRow b e s v n xs) : v.oneCell' = true := by
  rcases h.2 with ⟨rfl, _⟩ | ⟨g, cap, cur, rfl, _⟩ <;> rfl
/-- The cells of the newest block, as what is to be appended. -/
theorem news_new {w : World} {H : Nat} {cs : List Value} {t : TypeId} (h : w.heap.size = H) : ∀ j u, cs[j]? = some u → (w.alloc (.cells cs.toArray t)).cell? ((⟨H, 0, none⟩ : Addr).add j) = some u := by
  subst h
  intro j u hj
  exact World.news_of_block (World.alloc_heap_new w _) j u (by simpa using hj)
/-- A step of the program on an arena: only its own blocks have turned; what it owns then it owned before, or is new. -/
structure AStep (O : List Nat) (w : World) (O' : List Nat) (w' : World) : Prop where
  mod : Mod (· ∈ O) w w'
  own : ∀ k ∈ O', k ∈ O ∨ w.heap.size ≤ k
theorem AStep.trans {O O1 O2 : List Nat} {w w1 w2 : World} (h : AStep O w O1 w1) (k : AStep O1 w1 O2 w2) : AStep O w O2 w2 := by
  refine ⟨⟨k.mod.os.trans h.mod.os, k.mod.tape.trans h.mod.tape, k.mod.output.trans h.mod.output, Nat.le_trans h.mod.size k.mod.size, fun i hi hO => ?_⟩, fun i hi => ?_⟩
  · refine (k.mod.block i (Nat.lt_of_lt_of_le hi h.mod.size) fun hO1 => ?_).trans (h.mod.block i hi hO)
    rcases h.own i hO1 with h1 | h1
    · exact hO h1
    · omega
  · rcases k.own i hi with h1 | h1
    · exact h.own i h1
    · exact .inr (Nat.le_trans h.mod.size h1)
theorem ownsRow_mod {S : Nat → Prop} {w w' : World} {b n s : Nat} {e : TypeId} {v : Value} {xs : List Value} (h : w.ownsRow b e s v n xs) (hm : Mod S w w') (hS : ∀ g, v.ownBlock = some g → ¬ S g) : w'.ownsRow b e s v n xs := by
  refine ⟨h.1, ?_⟩
  rcases h.2 with h | ⟨g, cap, cur, hv, hg, hgg, r⟩
  · exact .inl h
  · exact .inr ⟨g, cap, cur, hv, hg, (hm.block g (Array.getElem?_eq_some_iff.1 hgg).1 (hS g (by rw [hv]; rfl))).trans hgg, r⟩
theorem ownsRow_lt {w : World} {b n s : Nat} {e : TypeId} {v : Value} {xs : List Value} (h : w.ownsRow b e s v n xs) {g : Nat} (hg : v.ownBlock = some g) : g < w.heap.size := by
  rcases h.2 with ⟨rfl, _⟩ | ⟨g', cap, cur, rfl, _, hgg, _⟩
  · simp [Value.ownBlock] at hg
  · simp [Value.ownBlock] at hg
    subst hg
    exact (Array.getElem?_eq_some_iff.1 hgg).1
theorem mem_blocks {B k : Nat} {tab : Value} {L : List Nv} : k ∈ blocks B tab L ↔ k = B ∨ tab.ownBlock = some k ∨ ∃ x ∈ L, x.kv.ownBlock = some k ∨ x.av.ownBlock = some k := by
  simp only [blocks, List.mem_cons, List.mem_append, Option.mem_toList, List.mem_flatMap]
theorem Ar.lt {w : World} {B : Nat} {tab inv : Value} {L : List Nv} (h : Ar w B tab inv L) {k : Nat} (hk : k ∈ blocks B tab L) : k < w.heap.size := by
  rcases mem_blocks.1 hk with rfl | hk | ⟨x, hx, hk | hk⟩
  · exact (Array.getElem?_eq_some_iff.1 h.hd).1
  · exact ownsRow_lt h.row hk
  · exact ownsRow_lt (h.kid x hx) hk
  · exact ownsRow_lt (h.att x hx) hk
theorem Ar.kept {S : Nat → Prop} {w w' : World} {B : Nat} {tab inv : Value} {L : List Nv} (h : Ar w B tab inv L) (hm : Mod S w w') (hS : ∀ k ∈ blocks B tab L, ¬ S k) : Ar w' B tab inv L :=
  ⟨(hm.block B (Array.getElem?_eq_some_iff.1 h.hd).1 (hS B (mem_blocks.2 (.inl rfl)))).trans h.hd, ownsRow_mod h.row hm fun g hg => hS g (mem_blocks.2 (.inr (.inl hg))),
    fun x hx => ownsRow_mod (h.kid x hx) hm fun g hg => hS g (mem_blocks.2 (.inr (.inr ⟨x, hx, .inl hg⟩))), fun x hx => ownsRow_mod (h.att x hx) hm fun g hg => hS g (mem_blocks.2 (.inr (.inr ⟨x, hx, .inr hg⟩))), h.nd⟩
theorem Ar.later {w w' : World} {B : Nat} {tab inv : Value} {L : List Nv} (h : Ar w B tab inv L) (hb : Below w.heap.size w w') : Ar w' B tab inv L := h.kept (S := fun _ => False) (Mod.of_below hb) fun _ _ h => h
theorem rowCells_app (L M : List Nv) : rowCells (L ++ M) = rowCells L ++ rowCells M := by simp [rowCells]
theorem ar_added {w w1 : World} {B g cap : Nat} {tab inv : Value} {L : List Nv} {x : Nv} (h : Ar w B tab inv L) (hk : w.ownsRow 0 3 1 x.kv x.nd.kids.length (kidCells x.nd.kids)) (ha : w.ownsRow 0 121 3 x.av x.nd.attrs.length (attCells x.nd.attrs))
    (hnd : (blocks B tab (L ++ [x])).Nodup) (hown : w1.ownsRow 0 96 13 (.slice (some ⟨g, 0, none⟩) (L.length + 1) cap) (L.length + 1) (rowCells L ++ x.cells))
    (hm : Mod (fun k => tab.ownBlock = some k) w w1) (hat : tab.ownBlock = some g ∨ w.heap.size ≤ g) :
    Ar (w1.setCell ⟨B, 0, none⟩ (.slice (some ⟨g, 0, none⟩) (L.length + 1) cap)) B (.slice (some ⟨g, 0, none⟩) (L.length + 1) cap) inv (L ++ [x]) ∧
      AStep (blocks B tab (L ++ [x])) w (blocks B (.slice (some ⟨g, 0, none⟩) (L.length + 1) cap) (L ++ [x])) (w1.setCell ⟨B, 0, none⟩ (.slice (some ⟨g, 0, none⟩) (L.length + 1) cap)) := by
  have hBl := (Array.getElem?_eq_some_iff.1 h.hd).1
  have hBt : tab.ownBlock ≠ some B := fun e => h.tab_ne e.symm
  have hgB : g ≠ B := by
    rintro rfl
    rcases hat with e | e
    · exact hBt e
    · omega
  have hd1 : w1.heap[B]? = some (.cells #[tab, inv] 93 (0, 0)) := (hm.block B hBl hBt).trans h.hd
  have hd2 := Joins.block_setCell (i := 0) hd1 (.slice (some ⟨g, 0, none⟩) (L.length + 1) cap)
  -- the nodes' own blocks
  have hx : ∀ y ∈ L ++ [x], w.ownsRow 0 3 1 y.kv y.nd.kids.length (kidCells y.nd.kids) ∧ w.ownsRow 0 121 3 y.av y.nd.attrs.length (attCells y.nd.attrs) := by
    intro y hy
    rcases List.mem_append.1 hy with hy | hy
    · exact ⟨h.kid y hy, h.att y hy⟩
    · obtain rfl : y = x := by simpa using hy
      exact ⟨hk, ha⟩
  have hrest : ∀ k, k ∈ ((L ++ [x]).flatMap fun x => x.kv.ownBlock.toList ++ x.av.ownBlock.toList) → k < w.heap.size ∧ k ≠ B ∧ tab.ownBlock ≠ some k := by
    intro k hkm
    refine ⟨?_, ?_, ?_⟩
    · simp only [List.mem_flatMap, List.mem_append, Option.mem_toList] at hkm
      obtain ⟨y, hy, hyk⟩ := hkm
      rcases hyk with hyk | hyk
      · exact ownsRow_lt (hx y (by simpa using hy)).1 hyk
      · exact ownsRow_lt (hx y (by simpa using hy)).2 hyk
    · rintro rfl
      exact (List.nodup_cons.1 hnd).1 (List.mem_append_right _ hkm)
    · intro e
      have := (List.nodup_append.1 (List.nodup_cons.1 hnd).2).2.2 k (by simp [e]) k hkm
      exact this rfl
  have hm2 : Mod (fun k => k = B ∨ tab.ownBlock = some k) w (w1.setCell ⟨B, 0, none⟩ (.slice (some ⟨g, 0, none⟩) (L.length + 1) cap)) :=
    (hm.mono fun k _ hk => .inr hk).trans (Mod.setCell _ _ (.inl rfl))
  have hkeep : ∀ k, k ∈ ((L ++ [x]).flatMap fun x => x.kv.ownBlock.toList ++ x.av.ownBlock.toList) → ¬ (k = B ∨ tab.ownBlock = some k) := fun k hk h => h.elim (hrest k hk).2.1 (hrest k hk).2.2
  refine ⟨⟨?_, ?_, fun y hy => ?_, fun y hy => ?_, ?_⟩, ⟨?_, ?_⟩⟩
  · rw [hd2]; rfl
  · refine ⟨by rw [rowCells_len], ?_⟩
    rcases hown.2 with ⟨e, _⟩ | ⟨g', cap', cur, e, _, hgg, r⟩
    · cases e
    · cases e
      refine .inr ⟨g, cap, cur, by simp, Nat.zero_le _, (Below.heap_setCell _ _ _ _ hgB).trans hgg, ?_⟩
      rw [rowCells_app, show rowCells [x] = x.cells by simp [rowCells], List.length_append]
      exact r
  · exact ownsRow_mod (hx y hy).1 hm2 fun k hk => hkeep k (List.mem_flatMap.2 ⟨y, hy, by simp [hk]⟩)
  · exact ownsRow_mod (hx y hy).2 hm2 fun k hk => hkeep k (List.mem_flatMap.2 ⟨y, hy, by simp [hk]⟩)
  · obtain ⟨n1, n2⟩ := List.nodup_cons.1 hnd
    refine List.nodup_cons.2 ⟨fun hmem => ?_, ?_⟩
    · rcases List.mem_append.1 hmem with hmem | hmem
      · simp [Value.ownBlock] at hmem; exact hgB hmem.symm
      · exact (hrest B hmem).2.1 rfl
    · refine List.nodup_append.2 ⟨by simp [Value.ownBlock], (List.nodup_append.1 n2).2.1, ?_⟩
      rintro a ha b hb rfl
      have : a = g := by simpa [Value.ownBlock] using ha
      subst this
      rcases hat with e | e
      · exact (hrest a hb).2.2 e
      · have := (hrest a hb).1; omega
  · refine hm2.mono fun k _ hk => mem_blocks.2 ?_
    rcases hk with hk | hk
    · exact .inl hk
    · exact .inr (.inl hk)
  · intro k hk
    rcases mem_blocks.1 hk with rfl | hk | ⟨y, hy, hk⟩
    · exact .inl (mem_blocks.2 (.inl rfl))
    · have : k = g := by simpa [Value.ownBlock] using hk.symm
      subst this
      rcases hat with e | e
      · exact .inl (mem_blocks.2 (.inr (.inl e)))
      · exact .inr e
    · exact .inl (mem_blocks.2 (.inr (.inr ⟨y, hy, hk⟩)))
theorem infoN : (Tryz.prog.info? 96).map (fun i => (i.zero, i.size, i.bytes)) = some (some zeroN, 13, 168) := by kernel_rfl
set_option maxRecDepth 100000 in
set_option maxHeartbeats 1000000 in
theorem add_any (x : Nv) (w : World) {B : Nat} {tab inv : Value} {L : List Nv} (hA : Ar w B tab inv L) (hl : L.length ≤ 1000000) (hk : w.ownsRow 0 3 1 x.kv x.nd.kids.length (kidCells x.nd.kids)) (ha : w.ownsRow 0 121 3 x.av x.nd.attrs.length (attCells x.nd.attrs))
    (hnd : (blocks B tab (L ++ [x])).Nodup) :
    Calls Tryz.prog 36 #[.pointer (some ⟨B, 0, none⟩), .agg x.cells.toArray] w fun e w' => e = .returned (natV (L.length + 1)) ∧ ∃ tab', Ar w' B tab' inv (L ++ [x]) ∧ AStep (blocks B tab (L ++ [x])) w (blocks B tab' (L ++ [x])) w' := by
  have hkv := ownsRow_one hk
  have hav := ownsRow_one ha
  have c0 := hA.c0
  have hrow := hA.row
  obtain ⟨d, kv, av⟩ := x
  simp only [Nv.cells, ndCells]
  obtain ⟨i0, hi, hz0, hz1, hz2⟩ := info_parts infoN
  have hz3 : zeroN.cells.size = 13 := by decide
  have hm1 : L.length + 1 ≤ maxLen := by unfold maxLen; omega
  have hm2 : (L.length + 1) * 168 ≤ 140737488355328 := by omega
  have hone : ∀ u ∈ ndCells d kv av, u.oneCell' = true := by
    intro u hu
    simp only [ndCells, List.mem_cons, List.not_mem_nil, or_false] at hu
    rcases hu with rfl | rfl | rfl | rfl | rfl | rfl | rfl | rfl | rfl | rfl | rfl | rfl | rfl <;> first | rfl | exact hkv | exact hav
  have HR := Lib.hid hrow
  have hBl : B < w.heap.size := World.block_lt_of_cell? _ _ c0
  have hnB : some B ≠ tab.ownBlock := hA.tab_ne
  have hnH : some w.heap.size ≠ tab.ownBlock := hA.tab_new
  have f0 : w.frozen? ⟨B, 0, none⟩ = false := hA.f0 0
  have HA := Lib.hid hA; have HK := Lib.hid hk; have HAT := Lib.hid ha; have HND := Lib.hid hnd
  clear hrow hA hk ha hnd
  go_enter Tryz.func36, Tryz.ntmps36
  go_wp2
  go_region_law ((refine step_append_lies _ (by rfl) _ _ _ (by rfl) 0 96 i0 zeroN 13 168 Tryz.underlying90 hi hz0 hz1 hz2 hz3 (by decide) tab L.length (rowCells L) (by rfl) (ownsRow_below HR.out (by go_grown)) ⟨w.heap.size + 1, 0, none⟩ 1 1 (ndCells d kv av) (by rfl) (by rfl) (news_new (by simp)) hone (by decide) hm1 hm2 (Nat.zero_le _) (w.heap.size + 2) (by simp) ?_; intro g cap w1 hown hgrow hat hlt; have hfz : w1.frozen? ⟨B, 0, none⟩ = false := (hgrow.frozen_far _ (by simp; omega) hnB).trans (by go_simp); have hcz : w1.cell? ⟨B, 0, none⟩ = some tab := (hgrow.cell_far _ (by simp; omega) hnB).trans (by go_simp)))
  all_goals
    have hfin := ar_added HA.out HK.out HAT.out HND.out (w1 := w1) (g := g) (cap := cap) (by first | exact hown | simpa using hown) (by first | exact ((Mod.alloc _ w _).trans (Mod.alloc _ _ _)).trans (Mod.of_grown hgrow fun _ h => h) | exact ((Mod.alloc _ w _).trans (Mod.alloc _ _ _)).drew.trans (Mod.of_grown hgrow fun _ h => h) | exact ((Mod.alloc _ w _).drew.trans (Mod.alloc _ _ _)).trans (Mod.of_grown hgrow fun _ h => h) | exact ((Mod.alloc _ w _).drew.trans (Mod.alloc _ _ _)).drew.trans (Mod.of_grown hgrow fun _ h => h)) (by rcases hat with h | h; (· exact .inl h); (· exact .inr (by omega)))
    have HF := Lib.hid hfin
    clear hfin hown hgrow hat
    go_wp2
    go_ret
    exact ⟨by simp [natV], _, HF.out⟩
end Go.Proofs.YtdapdadcninidaaGreatDoor
