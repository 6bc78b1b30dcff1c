/- Package arena: nodes are looked at and created. Package arena: New, Document, Element. slices.Insert[[]int,int] at this dump: the kit's contract for it, laid by hand. The library's functions on a slice of ints that the caller owns: Index, Clone, Delete, Insert; Clone of a slice of attributes. Package arena: a node's description, its children, its parent, its index; its data is set. -/
import Derived.Test.YtdapdadcninidaaGreatDoorM1
import Derived.Test.YtdapdadcninidaaGreatDoorShelf
import Derived.Shelf.Spec.SlicesInsert
import Derived.Shelf.Spec.SlicesInsertGrow
import Derived.Shelf.SlicesE.Clone
set_option linter.unusedSimpArgs false
set_option linter.unusedVariables false
namespace Go.Proofs.YtdapdadcninidaaGreatDoor
open Go.RowKit
attribute [local go_sem ↓] Go.wp_at_zero Go.wp_at_succ

def nilS : Value := .slice none 0 0
def ndAt (ns : List Nd) (h : Int) : Nd := ns.getD (h - 1).toNat {}
theorem isH_iff {n : Nat} {h : Int} : isH n h = true ↔ ∃ i : Nat, i < n ∧ h = ((i + 1 : Nat) : Int) := by
  simp only [isH, Bool.and_eq_true, decide_eq_true_eq]
  constructor
  · rintro ⟨h1, h2⟩
    exact ⟨(h - 1).toNat, by omega, by omega⟩
  · rintro ⟨i, hi, rfl⟩
    omega
theorem ndAt_at {ns : List Nd} {i : Nat} {d : Nd} (h : ns[i]? = some d) : ndAt ns ((i + 1 : Nat) : Int) = d := by
  unfold ndAt
  rw [show (((i + 1 : Nat) : Int) - 1).toNat = i by omega, List.getD_eq_getElem?_getD, h]; rfl
/-- What lies at a node. -/
structure NdIs (w : World) (g o : Nat) (d : Nd) (kv av : Value) : Prop where
  c0 : w.cell? ⟨g, o, none⟩ = some (.int .i64 d.kind)
  c1 : w.cell? ⟨g, o + 1, none⟩ = some (.int .i64 (d.parent : Nat))
  c2 : w.cell? ⟨g, o + 2, none⟩ = some kv
  c3 : w.cell? ⟨g, o + 3, none⟩ = some (.int .i64 (d.doc : Nat))
  c4 : w.cell? ⟨g, o + 4, none⟩ = some (.int .i64 d.space)
  c5 : w.cell? ⟨g, o + 5, none⟩ = some (.string ⟨d.name.toArray⟩)
  c6 : w.cell? ⟨g, o + 6, none⟩ = some av
  c7 : w.cell? ⟨g, o + 7, none⟩ = some (.string ⟨d.data.toArray⟩)
  c8 : w.cell? ⟨g, o + 8, none⟩ = some (.string ⟨d.pub.toArray⟩)
  c9 : w.cell? ⟨g, o + 9, none⟩ = some (.string ⟨d.sys.toArray⟩)
  c10 : w.cell? ⟨g, o + 10, none⟩ = some (.bool d.quirks)
  c11 : w.cell? ⟨g, o + 11, none⟩ = some (.int .i64 (d.contents : Nat))
  c12 : w.cell? ⟨g, o + 12, none⟩ = some (.int .i64 (d.host : Nat))
  fz : ∀ j, j < 13 → w.frozen? ⟨g, o + j, none⟩ = false
theorem Ar.node {w : World} {B i : Nat} {tab inv : Value} {L : List Nv} {x : Nv} (h : Ar w B tab inv L) (hx : L[i]? = some x) :
    ∃ g cap, tab = .slice (some ⟨g, 0, none⟩) L.length cap ∧ g ≠ B ∧ g < w.heap.size ∧ NdIs w g (i * 13) x.nd x.kv x.av := by
  rcases h.tab with ⟨_, rfl⟩ | ⟨g, cap, ht, hg, _, _, hgB, hc⟩
  · simp at hx
  · have hx := hc i x hx
    refine ⟨g, cap, ht, hgB, hg, (hx 0 _ rfl).1, (hx 1 _ rfl).1, (hx 2 _ rfl).1, (hx 3 _ rfl).1, (hx 4 _ rfl).1, (hx 5 _ rfl).1, (hx 6 _ rfl).1, (hx 7 _ rfl).1, (hx 8 _ rfl).1, (hx 9 _ rfl).1, (hx 10 _ rfl).1, (hx 11 _ rfl).1, (hx 12 _ rfl).1, fun j hj => ?_⟩
    exact (hx j (x.cells[j]'(by rw [Nv.cells_len]; exact hj)) (List.getElem?_eq_getElem _)).2
theorem ArW.node {w : World} {B : AB} {i : Nat} {O : List Nat} {ns : List Nd} {d : Nd} (h : ArW B O ns w) (hx : ns[i]? = some d) :
    ∃ g cap kv av, w.cell? ⟨B, 0, none⟩ = some (.slice (some ⟨g, 0, none⟩) ns.length cap) ∧ NdIs w g (i * 13) d kv av ∧
      w.ownsRow 0 3 1 kv d.kids.length (kidCells d.kids) ∧ w.ownsRow 0 121 3 av d.attrs.length (attCells d.attrs) := by
  obtain ⟨tab, L, h1, h2, rfl⟩ := h
  rw [List.getElem?_map] at hx
  obtain ⟨x, hy, rfl⟩ := Option.map_eq_some_iff.1 hx
  obtain ⟨g, cap, ht, _, _, hn⟩ := h1.node hy
  have hm := List.mem_of_getElem? hy
  exact ⟨g, cap, x.kv, x.av, by rw [List.length_map, ← ht]; exact h1.c0, hn, h1.kid x hm, h1.att x hm⟩
def docE (ns : List Nd) (h : Int) : Int := if isH ns.length h then (if (ndAt ns h).kind = 1 then 0 else 9) else 3
set_option maxRecDepth 100000 in
set_option maxHeartbeats 1000000 in
theorem document_any (h : Int) (w : World) {B : AB} {O : List Nat} {ns : List Nd} (hA : ArW B O ns w) (hl : ns.length ≤ 1000000) : Calls Tryz.prog 38 #[.pointer (some ⟨B, 0, none⟩), .int .i64 h] w (Ret w (.int .i64 (docE ns h))) := by
  have hb : Below w.heap.size w (w.alloc (.cells #[.int .i64 h] 3)) := balloc w _
  have hc := check_any (B := B) (H := w.heap.size) (c := 1) [h] (w.alloc (.cells #[.int .i64 h] 3)) (hA.later hb) (by intro j v hj; match j, hj with | 0, hj => simp at hj; subst hj; simp) (by simp)
  cases hh : isH ns.length h
  · rw [show chkH ns.length [h] = 3 by simp [chkH, hh]] at hc
    rw [show docE ns h = 3 by simp [docE, hh]]
    have HC := Lib.hid hc
    clear hc hA hh
    go_enter Tryz.func38, Tryz.ntmps38
    go_wp2_with fail
    refine HC.out.mono ?_
    rintro e w1 ⟨rfl, rfl⟩
    go_wp2_with fail
    go_ret
    exact Ret.mk rfl hb
  · rw [show chkH ns.length [h] = 0 by simp [chkH, hh]] at hc
    obtain ⟨i, hi, rfl⟩ := isH_iff.1 hh
    have hx := List.getElem?_eq_getElem hi
    obtain ⟨g, cap, kv, av, c0, hn, -, -⟩ := (hA.later hb).node hx
    have n0 := hn.c0
    have hat := at_any i (w.alloc (.cells #[.int .i64 ((i + 1 : Nat) : Int)] 3)) c0 hi (by omega)
    have hk : docE ns ((i + 1 : Nat) : Int) = if ns[i].kind = 1 then 0 else 9 := by simp only [docE, hh, if_true]; rw [ndAt_at hx]
    rw [hk]
    obtain ⟨z, hz⟩ : ∃ z, ns[i].kind = z := ⟨_, rfl⟩
    rw [hz] at n0 ⊢
    have HC := Lib.hid hc; have HA := Lib.hid hat
    clear hc hat hA hh hx hn c0 hz hk
    obtain ⟨y, hy⟩ : ∃ y : Int, ((i + 1 : Nat) : Int) = y := ⟨_, rfl⟩
    rw [hy] at HC HA n0 hb ⊢
    clear hy
    by_cases h1 : z = 1
    · subst h1
      go_enter Tryz.func38, Tryz.ntmps38
      go_wp2_with (first | (go_at_call 44; refine HC.out.mono ?_; rintro e w1 ⟨rfl, rfl⟩) | (go_at_call 37; refine HA.out.mono ?_; rintro e w1 ⟨rfl, rfl⟩))
      go_ret
      exact Ret.mk rfl hb
    · have h2 : (z != 1) = true := by simpa using h1
      go_enter Tryz.func38, Tryz.ntmps38
      go_wp2_with (first | (go_at_call 44; refine HC.out.mono ?_; rintro e w1 ⟨rfl, rfl⟩) | (go_at_call 37; refine HA.out.mono ?_; rintro e w1 ⟨rfl, rfl⟩))
      go_ret
      exact Ret.mk (by simp [h1]) hb
/-- add, of a node without children and attributes. -/
theorem addW_any (d : Nd) (w : World) {B : AB} {O : List Nat} {ns : List Nd} (hA : ArW B O ns w) (hl : ns.length ≤ 1000000) (hk : d.kids = []) (ha : d.attrs = []) :
    Calls Tryz.prog 36 #[.pointer (some ⟨B, 0, none⟩), .agg (ndCells d nilS nilS).toArray] w fun e w' => e = .returned (.int .i64 ((ns.length + 1 : Nat) : Int)) ∧ ∃ O', ArW B O' (ns ++ [d]) w' ∧ AStep O w O' w' := by
  obtain ⟨tab, L, h1, rfl, rfl⟩ := hA
  have hb : blocks B tab (L ++ [⟨d, nilS, nilS⟩]) = blocks B tab L := by simp [blocks, nilS, Value.ownBlock]
  have := add_any ⟨d, nilS, nilS⟩ w h1 (by simpa using hl) ⟨by rw [hk]; rfl, .inl ⟨rfl, by rw [hk]; rfl⟩⟩ ⟨by rw [ha]; rfl, .inl ⟨rfl, by rw [ha]; rfl⟩⟩ (by rw [hb]; exact h1.nd)
  rw [hb] at this
  refine this.mono fun e w' ⟨he, tab', h2, h3⟩ => ⟨by rw [he, List.length_map]; rfl, _, ⟨tab', _, h2, rfl, by simp⟩, h3⟩
/-- A node is made: its number, or an error. -/
def Made (B : AB) (O : List Nat) (ns : List Nd) (w : World) (doc : Int) (d : Nd) (e : Ending) (w' : World) : Prop :=
  (docE ns doc ≠ 0 ∧ e = .returned (.tuple #[.int .i64 0, .int .i64 (docE ns doc)]) ∧ Below w.heap.size w w') ∨
  (docE ns doc = 0 ∧ e = .returned (.tuple #[.int .i64 ((ns.length + 1 : Nat) : Int), .int .i64 0]) ∧ ∃ O', ArW B O' (ns ++ [{ d with doc := doc.toNat }]) w' ∧ AStep O w O' w')
theorem Made.mono {B : AB} {O : List Nat} {ns : List Nd} {w : World} {doc : Int} {d : Nd} {e : Ending} {w' : World} (h : Made B O ns w doc d e w') : Made B O ns w doc d e w' := h
theorem astep_pre {O O' : List Nat} {w w1 w2 : World} (hb : Below w.heap.size w w1) (h : AStep O w1 O' w2) : AStep O w O' w2 :=
  ⟨(Mod.of_below hb).trans h.mod, fun k hk => (h.own k hk).imp id fun h' => Nat.le_trans hb.size h'⟩
set_option maxRecDepth 100000 in
set_option maxHeartbeats 1000000 in
theorem create_any (doc : Nat) (d : Nd) (w : World) {B : AB} {O : List Nat} {ns : List Nd} (hA : ArW B O ns w) (hl : ns.length ≤ 1000000) (hk : d.kids = []) (ha : d.attrs = []) (hd : d.doc = 0) :
    Calls Tryz.prog 43 #[.pointer (some ⟨B, 0, none⟩), .int .i64 (doc : Int), .agg (ndCells d nilS nilS).toArray] w (Made B O ns w doc d) := by
  have H1 := Lib.hid (fun w' (h : ArW B O ns w') => document_any (doc : Int) w' h hl)
  have H2 := Lib.hid (fun w' (h : ArW B O ns w') => addW_any { d with doc := doc } w' h hl hk ha)
  have HA := Lib.hid hA
  have hb : ∀ o, Below w.heap.size w (w.alloc o) := fun o => balloc w o
  have HB := Lib.hid hb
  have hu : ndCells d nilS nilS = [.int .i64 d.kind, natV d.parent, nilS, .int .i64 0, .int .i64 d.space, strV d.name, nilS, strV d.data, strV d.pub, strV d.sys, .bool d.quirks, natV d.contents, natV d.host] := by simp only [ndCells, hd]; rfl
  rw [hu]
  clear hA hb hd hu hk ha
  obtain ⟨z, hz⟩ : ∃ z, docE ns (doc : Int) = z := ⟨_, rfl⟩
  rw [hz] at H1
  have HZ := Lib.hid hz
  clear hz
  by_cases h0 : z = 0
  · subst h0
    go_enter Tryz.func43, Tryz.ntmps43
    go_wp2_with fail
    refine (H1.out _ (HA.out.later (HB.out _))).mono ?_
    rintro e w1 ⟨rfl, b1⟩
    obtain ⟨hc, hf⟩ := bcell b1
    have hzz := b1.size
    simp at hzz
    have bw : ∀ v, Below w.heap.size w (w1.setCell ⟨w.heap.size, 3, none⟩ v) := fun v => ((HB.out _).trans (b1.mono (by simp))).setCell (Nat.le_refl _) v
    have BW := Lib.hid bw
    clear bw
    go_wp2_with fail
    refine (H2.out _ (HA.out.later (BW.out _))).mono ?_
    rintro e w2 ⟨rfl, O', hA2, hS⟩
    have hfin : Made B O ns w (doc : Int) d (.returned (.tuple #[.int .i64 ((ns.length + 1 : Nat) : Int), .int .i64 0])) w2 := .inr ⟨HZ.out, rfl, O', hA2, astep_pre (BW.out _) hS⟩
    have HF := Lib.hid hfin
    clear hfin hA2 hS
    go_wp2_with fail
    go_ret2
    exact HF.out
  · have h1 : (z != 0) = true := by simpa using h0
    go_enter Tryz.func43, Tryz.ntmps43
    go_wp2_with fail
    refine (H1.out _ (HA.out.later (HB.out _))).mono ?_
    rintro e w1 ⟨rfl, b1⟩
    have hfin : Made B O ns w (doc : Int) d (.returned (.tuple #[.int .i64 0, .int .i64 z])) w1 := .inl ⟨by rw [HZ.out]; exact h0, by rw [HZ.out], (HB.out _).trans (b1.mono (by simp))⟩
    have HF := Lib.hid hfin
    clear hfin b1
    go_wp2_with fail
    go_ret2
    exact HF.out
set_option maxRecDepth 100000 in
theorem Text_any (doc : Nat) (l : List UInt8) (w : World) {B : AB} {O : List Nat} {ns : List Nd} (hA : ArW B O ns w) (hl : ns.length ≤ 1000000) :
    Calls Tryz.prog 11 #[.pointer (some ⟨B, 0, none⟩), .int .i64 (doc : Int), .string ⟨l.toArray⟩] w (Made B O ns w doc { kind := 5, data := l }) := by
  have H1 := Lib.hid (create_any doc { kind := 5, data := l } w hA hl rfl rfl rfl)
  clear hA
  go_enter Tryz.func11, Tryz.ntmps11
  go_wp2_with fail
  refine H1.out.mono ?_
  rintro e w1 hm
  have HM := Lib.hid hm
  obtain ⟨v1, v2, rfl⟩ : ∃ v1 v2, e = .returned (.tuple #[v1, v2]) := by
    rcases hm with ⟨_, rfl, _⟩ | ⟨_, rfl, _⟩ <;> exact ⟨_, _, rfl⟩
  clear hm
  go_wp2_with fail
  go_ret2
  exact HM.out
set_option maxRecDepth 100000 in
theorem Comment_any (doc : Nat) (l : List UInt8) (w : World) {B : AB} {O : List Nat} {ns : List Nd} (hA : ArW B O ns w) (hl : ns.length ≤ 1000000) :
    Calls Tryz.prog 10 #[.pointer (some ⟨B, 0, none⟩), .int .i64 (doc : Int), .string ⟨l.toArray⟩] w (Made B O ns w doc { kind := 6, data := l }) := by
  have H1 := Lib.hid (create_any doc { kind := 6, data := l } w hA hl rfl rfl rfl)
  clear hA
  go_enter Tryz.func10, Tryz.ntmps10
  go_wp2_with fail
  refine H1.out.mono ?_
  rintro e w1 hm
  have HM := Lib.hid hm
  obtain ⟨v1, v2, rfl⟩ : ∃ v1 v2, e = .returned (.tuple #[v1, v2]) := by
    rcases hm with ⟨_, rfl, _⟩ | ⟨_, rfl, _⟩ <;> exact ⟨_, _, rfl⟩
  clear hm
  go_wp2_with fail
  go_ret2
  exact HM.out
end Go.Proofs.YtdapdadcninidaaGreatDoor
namespace Go.Proofs.YtdapdadcninidaaGreatDoor
open Go.RowKit
attribute [local go_sem ↓] Go.wp_at_zero Go.wp_at_succ

theorem ArW.put {B : AB} {g i j cap n : Nat} {O : List Nat} {ns : List Nd} {d d' : Nd} {v : Value} {w : World} (h : ArW B O ns w) (hx : ns[i]? = some d) (hc : w.cell? ⟨B, 0, none⟩ = some (.slice (some ⟨g, 0, none⟩) n cap)) (hj : j < 13)
    (hd : ∀ kv av, ndCells d' kv av = (ndCells d kv av).set j v) (hk : d'.kids = d.kids) (ha : d'.attrs = d.attrs) :
    ArW B O (ns.set i d') (w.setCell ⟨g, i * 13 + j, none⟩ v) ∧ AStep O w O (w.setCell ⟨g, i * 13 + j, none⟩ v) := by
  obtain ⟨tab, L, h1, rfl, rfl⟩ := h
  rw [List.getElem?_map] at hx
  obtain ⟨x, hy, rfl⟩ := Option.map_eq_some_iff.1 hx
  have ht : tab = .slice (some ⟨g, 0, none⟩) n cap := Option.some.inj (h1.c0.symm.trans hc)
  obtain ⟨h2, h3⟩ := ar_put (d := d') h1 ht hy hj (hd x.kv x.av) hk ha
  have hb := blocks_set (B := B) (tab := tab) (y := ⟨d', x.kv, x.av⟩) hy rfl rfl
  rw [hb] at h3
  exact ⟨⟨tab, _, h2, hb, by rw [List.map_set]⟩, h3⟩
theorem ArW.inlen {B : AB} {O : List Nat} {ns : List Nd} {w : World} (h : ArW B O ns w) : ∃ ad cap, w.cell? ⟨B, 0, none⟩ = some (.slice ad ns.length cap) := by
  obtain ⟨tab, L, h1, rfl, rfl⟩ := h
  obtain ⟨ad, cap, ht⟩ := h1.form
  exact ⟨ad, cap, by rw [List.length_map, ← ht]; exact h1.c0⟩
set_option maxRecDepth 100000 in
theorem New_any (w : World) : Calls Tryz.prog 7 #[] w fun e w' => e = .returned (.pointer (some ⟨w.heap.size, 0, none⟩)) ∧ ArW ⟨w.heap.size, .map none⟩ [w.heap.size] [] w' ∧ Below w.heap.size w w' := by
  go_enter Tryz.func7, Tryz.ntmps7
  go_wp2_with fail
  go_ret
  refine ⟨rfl, ⟨.slice none 0 0, [], ⟨World.alloc_heap_new w _, ⟨rfl, .inl ⟨rfl, rfl⟩⟩, (fun x hx => by cases hx), (fun x hx => by cases hx), by simp [blocks, Value.ownBlock]⟩, by simp [blocks, Value.ownBlock], rfl⟩, by go_grown⟩
set_option maxRecDepth 100000 in
set_option maxHeartbeats 1000000 in
theorem Document_any (q : Bool) (w : World) {B : AB} {O : List Nat} {ns : List Nd} (hA : ArW B O ns w) (hl : ns.length ≤ 1000000) :
    Calls Tryz.prog 8 #[.pointer (some ⟨B, 0, none⟩), .bool q] w fun e w' => e = .returned (.int .i64 ((ns.length + 1 : Nat) : Int)) ∧ ∃ O', ArW B O' (ns ++ [{ kind := 1, quirks := q, doc := ns.length + 1 }]) w' ∧ AStep O w O' w' := by
  have H1 := Lib.hid (addW_any { kind := 1, quirks := q } w hA hl rfl rfl)
  clear hA
  go_enter Tryz.func8, Tryz.ntmps8
  go_wp2_with fail
  refine H1.out.mono ?_
  rintro e w1 ⟨rfl, O', hA2, hS⟩
  have hx : (ns ++ [{ kind := 1, quirks := q }])[ns.length]? = some { kind := 1, quirks := q } := by simp
  obtain ⟨g, cap, kv, av, c0, hn, -, -⟩ := hA2.node hx
  have c3 := hn.c3
  have f3 := hn.fz 3 (by omega)
  obtain ⟨hA3, hS3⟩ := hA2.put (j := 3) (d' := { kind := 1, quirks := q, doc := ns.length + 1 }) (v := .int .i64 ((ns.length + 1 : Nat) : Int)) hx c0 (by omega) (fun _ _ => rfl) rfl rfl
  have hlen : (ns ++ [({ kind := 1, quirks := q } : Nd)]).length = ns.length + 1 := by simp
  rw [hlen] at c0
  rw [List.set_append_right _ _ (Nat.le_refl _), Nat.sub_self, List.set_cons_zero] at hA3
  have H2 := Lib.hid (at_any ns.length w1 c0 (Nat.lt_succ_self _) (by omega))
  have HF := Lib.hid (show ∃ O', ArW B O' (ns ++ [{ kind := 1, quirks := q, doc := ns.length + 1 }]) _ ∧ AStep O w O' _ from ⟨O', hA3, hS.trans hS3⟩)
  clear hA2 hS hA3 hS3 hx hn c0 hlen
  obtain ⟨y, hy⟩ : ∃ y : Int, ((ns.length + 1 : Nat) : Int) = y := ⟨_, rfl⟩
  rw [hy] at HF H2 ⊢
  have HY := Lib.hid hy
  clear hy
  go_wp2_with (go_at_call 37; refine H2.out.mono ?_; rintro e w1 ⟨rfl, rfl⟩)
  go_ret
  exact ⟨by rw [HY.out]; rfl, HF.out⟩
def spaceOk (s : Int) : Bool := decide (0 ≤ s) && decide (s ≤ 7)
set_option maxRecDepth 100000 in
set_option maxHeartbeats 1000000 in
theorem spaces_one (s : Int) (w : World) {H c : Nat} (hc : w.cell? ⟨H, 0, none⟩ = some (.int .i64 s)) : Calls Tryz.prog 40 #[.slice (some ⟨H, 0, none⟩) 1 c] w fun e w' => e = .returned (.bool (spaceOk s)) ∧ w = w' := by
  unfold spaceOk
  go_enter Tryz.func40, Tryz.ntmps40
  go_wp2
  go_loop [4, 7] (fun _ i => ∃ k : Nat, k ≤ 1 ∧ i = .int .i64 k ∧ (1 ≤ k → (decide (0 ≤ s) && decide (s ≤ 7)) = true)) (fun _ i => 1 - (intOf i).toNat)
  case atStart => exact ⟨0, Nat.zero_le _, rfl, fun h => absurd h (by omega)⟩
  case round =>
    obtain ⟨k, hk, rfl, hall⟩ := hrel
    by_cases h0 : k = 0
    · subst h0
      clear hall
      by_cases h1 : 0 ≤ s
      · by_cases h2 : s ≤ 7
        · have HN : Hid ((decide (0 ≤ s) && decide (s ≤ 7)) = true) := Lib.hid (by simp [h1, h2])
          go_wp2
          go_round
          case rel => exact ⟨1, by omega, rfl, fun _ => HN.out⟩
          case measure => simp [intOf]
        · have HN : Hid ((decide (0 ≤ s) && decide (s ≤ 7)) = false) := Lib.hid (by simp [h2])
          go_wp2
          go_ret
          exact ⟨by first | (rw [HN.out]; rfl) | (simp [*]; done), rfl⟩
      · have HN : Hid ((decide (0 ≤ s) && decide (s ≤ 7)) = false) := Lib.hid (by simp [h1])
        go_wp2
        go_ret
        exact ⟨by first | (rw [HN.out]; rfl) | (simp [*]; done), rfl⟩
    · obtain rfl : k = 1 := by omega
      have HN := Lib.hid (hall (Nat.le_refl _))
      clear hall
      go_wp2
      go_ret
      exact ⟨by first | (rw [HN.out]; rfl) | (simp [*]; done), rfl⟩
set_option maxRecDepth 100000 in
theorem once_nil (w : World) : Calls Tryz.prog 39 #[.slice none 0 0] w fun e w' => e = .returned (.tuple #[.slice none 0 0, .bool true]) ∧ w = w' := by
  go_enter Tryz.func39, Tryz.ntmps39
  go_wp2
  go_loop [4, 6, 9] (fun o _ i => o = .slice none 0 0 ∧ i = .int .i64 0) (fun _ _ _ => 0)
  case atStart => exact ⟨rfl, rfl⟩
  case round =>
    obtain ⟨rfl, rfl⟩ := hrel
    go_wp2
    go_ret2
    exact ⟨rfl, rfl⟩
def tmplW : List UInt8 := [116, 101, 109, 112, 108, 97, 116, 101]
def isTmpl (d : Nd) : Bool := decide (d.kind = 4) && (decide (d.space = 1) && (d.name == tmplW))
/-- No template. -/
theorem template_no (d : Nd) (kv av : Value) (w : World) {g o : Nat} (hn : NdIs w g o d kv av) (hk : d.kind = 4) (hd : (d.name == tmplW) = false) :
    Calls Tryz.prog 41 #[.pointer (some ⟨g, o, none⟩)] w fun e w' => e = .returned (.bool false) ∧ w = w' := by
  have c0 := hn.c0
  have c4 := hn.c4
  have c5 := hn.c5
  rw [hk] at c0
  obtain ⟨nm, hnm⟩ : ∃ nm, d.name = nm := ⟨_, rfl⟩
  rw [hnm] at c5 hd
  have hd2 : (nm == [116, 101, 109, 112, 108, 97, 116, 101]) = false := hd
  clear hn hd
  go_enter Tryz.func41, Tryz.ntmps41
  go_wp2
  all_goals
    go_ret
    exact ⟨rfl, rfl⟩
set_option maxRecDepth 100000 in
set_option maxHeartbeats 1000000 in
theorem Element_any (doc : Nat) (s : Int) (nm : List UInt8) (w : World) {B : AB} {O : List Nat} {ns : List Nd} (hA : ArW B O ns w) (hl : ns.length ≤ 1000000) (hs : spaceOk s = true) (ht : (nm == tmplW) = false) :
    Calls Tryz.prog 9 #[.pointer (some ⟨B, 0, none⟩), .int .i64 (doc : Int), .int .i64 s, .string ⟨nm.toArray⟩, .slice none 0 0] w (Made B O ns w doc { kind := 4, space := s, name := nm }) := by
  have H1 := Lib.hid (fun w' (h : ArW B O ns w') => document_any (doc : Int) w' h hl)
  have H2 := Lib.hid (fun w' (h : ArW B O ns w') => addW_any { kind := 4, space := s, name := nm, doc := doc } w' h hl rfl rfl)
  have HA := Lib.hid hA
  have HON := Lib.hid once_nil
  have HS := Lib.hid (fun w' H c hc => hs ▸ spaces_one s w' (H := H) (c := c) hc)
  have HT := Lib.hid ht
  clear hA ht hs
  obtain ⟨z, hz⟩ : ∃ z, docE ns (doc : Int) = z := ⟨_, rfl⟩
  rw [hz] at H1
  have HZ := Lib.hid hz
  clear hz
  by_cases h0 : z = 0
  · subst h0
    go_enter Tryz.func9, Tryz.ntmps9
    go_wp2_with fail
    refine (H1.out _ HA.out).mono ?_
    rintro e w1 ⟨rfl, b1⟩
    go_wp2_with fail
    refine (HON.out _).mono ?_
    rintro e w2 ⟨rfl, rfl⟩
    go_wp2_with fail
    refine (HS.out _ _ _ (by simp)).mono ?_
    rintro e w3 ⟨rfl, rfl⟩
    have bw : Below w.heap.size w (w1.alloc (.cells #[.int .i64 s] 29)) := b1.alloc b1.size _
    have BW := Lib.hid bw
    clear bw
    go_wp2_with fail
    refine (H2.out _ (HA.out.later BW.out)).mono ?_
    rintro e w4 ⟨rfl, O', hA2, hS2⟩
    have hx : (ns ++ [({ kind := 4, space := s, name := nm, doc := doc } : Nd)])[ns.length]? = some { kind := 4, space := s, name := nm, doc := doc } := by simp
    obtain ⟨g, cap, kv, av, c0, hn, -, -⟩ := hA2.node hx
    have hlen : (ns ++ [({ kind := 4, space := s, name := nm, doc := doc } : Nd)]).length = ns.length + 1 := by simp
    rw [hlen] at c0
    have H3 := Lib.hid (at_any ns.length w4 c0 (Nat.lt_succ_self _) (by omega))
    have H4 := Lib.hid (template_no _ kv av w4 hn rfl HT.out)
    have hfin : Made B O ns w (doc : Int) { kind := 4, space := s, name := nm } (.returned (.tuple #[.int .i64 ((ns.length + 1 : Nat) : Int), .int .i64 0])) w4 := .inr ⟨HZ.out, rfl, O', hA2, astep_pre BW.out hS2⟩
    have HF := Lib.hid hfin
    clear hfin hA2 hS2 hn c0 hlen hx
    obtain ⟨y, hy⟩ : ∃ y : Int, ((ns.length + 1 : Nat) : Int) = y := ⟨_, rfl⟩
    rw [hy] at HF H3 ⊢
    clear hy
    go_wp2_with (first | (go_at_call 37; refine H3.out.mono ?_; rintro e w5 ⟨rfl, rfl⟩) | (go_at_call 41; refine H4.out.mono ?_; rintro e w5 ⟨rfl, rfl⟩))
    go_ret2
    exact HF.out
  · have h1 : (z != 0) = true := by simpa using h0
    go_enter Tryz.func9, Tryz.ntmps9
    go_wp2_with fail
    refine (H1.out _ HA.out).mono ?_
    rintro e w1 ⟨rfl, b1⟩
    have hfin : Made B O ns w (doc : Int) { kind := 4, space := s, name := nm } (.returned (.tuple #[.int .i64 0, .int .i64 z])) w1 := .inl ⟨by rw [HZ.out]; exact h0, by rw [HZ.out], b1⟩
    have HF := Lib.hid hfin
    clear hfin b1
    go_wp2_with fail
    go_ret2
    exact HF.out
end Go.Proofs.YtdapdadcninidaaGreatDoor
namespace Go.Proofs.YtdapdadcninidaaGreatDoor
open Go.RowKit
def insRen : Go.Shelf.Ren := ⟨fun | 21 => 49 | 27 => 90 | 28 => 91 | 35 => 139 | 39 => 170 | n => n, fun | 22 => 53 | n => n, fun n => n⟩
theorem insLay : Go.Proofs.Lays2.n21 Tryz.prog insRen := {
  mixed := by kernel_rfl
  f21 := Tryz.func49.trans (congrArg some (by kernel_rfl))
  f27 := Tryz.func90.trans (congrArg some (by kernel_rfl))
  f28 := Tryz.func91.trans (congrArg some (by kernel_rfl))
  f35 := Tryz.func139.trans (congrArg some (by kernel_rfl))
  f39 := Tryz.func170.trans (congrArg some (by kernel_rfl))
  t0 := Tryz.underlying0
  a0 := Tryz.isAgg0
  z0 := Tryz.sizeOf0
  v0 := Tryz.zeroValue0
  t3 := Tryz.underlying3
  a3 := Tryz.isAgg3
  z3 := Tryz.sizeOf3
  v3 := Tryz.zeroValue3
  t4 := Tryz.underlying4
  a4 := Tryz.isAgg4
  z4 := Tryz.sizeOf4
  v4 := Tryz.zeroValue4
  t22 := Tryz.underlying53
  a22 := Tryz.isAgg53
  z22 := Tryz.sizeOf53
  v22 := Tryz.zeroValue53
  i3 := by kernel_rfl }
end Go.Proofs.YtdapdadcninidaaGreatDoor
namespace Go.Proofs.YtdapdadcninidaaGreatDoor
open Go.RowKit
attribute [local go_sem ↓] Go.wp_at_zero Go.wp_at_succ

/-- The row's cells, whole. -/
theorem row_cells {w : World} {b n : Nat} {e : TypeId} {v : Value} {xs : List Value} (h : w.ownsRow b e 1 v n xs) : (v = .slice none 0 0 ∧ n = 0 ∧ xs = []) ∨
    ∃ g cap cur, v = .slice (some ⟨g, 0, none⟩) n cap ∧ w.heap[g]? = some (.cells cur e (0, 0)) ∧ n ≤ cap ∧ cap ≤ maxLen ∧ cur.size = cap ∧ cur.toList.take n = xs ∧ xs.length = n := by
  obtain ⟨h1, ⟨h2, h3⟩ | ⟨g, cap, cur, h2, h3, h4, h5, h6, h7, h8⟩⟩ := h
  · exact .inl ⟨h2, h3, List.eq_nil_of_length_eq_zero (by omega)⟩
  · exact .inr ⟨g, cap, cur, h2, h4, h5, h6, by omega, by rwa [Nat.mul_one] at h8, by omega⟩
theorem kidCells_len (ks : List Nat) : (kidCells ks).length = ks.length := by simp [kidCells]
theorem kidCells_one (ks : List Nat) : ∀ u ∈ kidCells ks, u.oneCell' = true := by
  intro u hu
  obtain ⟨k, _, rfl⟩ := List.mem_map.1 hu
  rfl
theorem row_at {w : World} {b n : Nat} {e : TypeId} {g cap : Nat} {xs : List Value} (h : w.ownsRow b e 1 (.slice (some ⟨g, 0, none⟩) n cap) n xs) (j : Nat) (v : Value) (hj : xs[j]? = some v) : w.cell? ⟨g, j, none⟩ = some v := by
  rcases row_cells h with ⟨h, _⟩ | ⟨g', cap', cur, h1, h2, h3, h4, h5, h6, h7⟩
  · cases h
  · cases h1
    rw [cell_of_row w g j cur _ _ h2, ← Array.getElem?_toList]
    rw [← h6, List.getElem?_take] at hj
    split at hj
    · exact hj
    · cases hj
def kInts (ks : List Nat) : List Int := ks.map fun (k : Nat) => (k : Int)
/-- The index of a child, or -1. -/
def kidIdx (ks : List Nat) (x : Int) : Int := Lib.idxOf (kInts ks) x
theorem kInts_len (ks : List Nat) : (kInts ks).length = ks.length := by simp [kInts]
theorem row_ints {w : World} {b : Nat} {e : TypeId} {g cap : Nat} {ks : List Nat} (h : w.ownsRow b e 1 (.slice (some ⟨g, 0, none⟩) ks.length cap) ks.length (kidCells ks)) : ∀ j, j < (kInts ks).length → w.cell? ⟨g, 0 + j, none⟩ = some (.int .i64 ((kInts ks).getD j 0)) := by
  intro j hj
  rw [kInts_len] at hj
  rw [Nat.zero_add, row_at h j (natV ks[j]) (by simp [kidCells, hj])]
  simp [natV, kInts, hj]
theorem kidIndex_any (ks : List Nat) (x : Int) (v : Value) (w : World) (h : w.ownsRow 0 3 1 v ks.length (kidCells ks)) :
    Calls Tryz.prog 48 #[v, .int .i64 x] w fun e w' => e = .returned (.int .i64 (kidIdx ks x)) ∧ w = w' := by
  have hr := row_cells h
  rcases hr with ⟨rfl, h0, _⟩ | ⟨g, cap, cur, rfl, h2, h3, h4, h5, h6, h7⟩
  · obtain rfl : ks = [] := List.eq_nil_of_length_eq_zero h0
    exact (Tryz.slices_Index_int_empty none 0 x w).mono fun e w' ⟨h1, h2⟩ => ⟨h1, h2.symm⟩
  · refine (Tryz.slices_Index_int g 0 ks.length cap (kInts ks) x w (by rw [kInts_len]; exact Nat.le_refl _) (by unfold maxLen at h4; omega) (row_ints h)).mono fun e w' ⟨h1, h2⟩ => ⟨?_, h2.symm⟩
    rw [h1, List.take_of_length_le (by rw [kInts_len]; exact Nat.le_refl _)]; rfl
theorem info3 : (Tryz.prog.info? 3).map (fun i => (i.zero, i.size, i.bytes)) = some (some (.int .i64 0), 1, 8) := by kernel_rfl
/-- slices.Clone: a slice of the caller's own. -/
theorem kidClone_any (ks : List Nat) (v : Value) (w : World) (h : w.ownsRow 0 3 1 v ks.length (kidCells ks)) (hl : ks.length ≤ 1000000000) :
    Calls Tryz.prog 111 #[v] w fun e w' => ∃ v', e = .returned v' ∧ w'.ownsRow w.heap.size 3 1 v' ks.length (kidCells ks) ∧ Below w.heap.size w w' := by
  have hr := row_cells h
  rcases hr with ⟨rfl, h0, _⟩ | ⟨g, cap, cur, rfl, h2, h3, h4, h5, h6, h7⟩
  · obtain rfl : ks = [] := List.eq_nil_of_length_eq_zero h0
    refine (Tryz.slices_Clone_int_nil 0 0 w).mono fun e w' ⟨h1, h2⟩ => ?_
    subst h2
    exact ⟨_, h1, ⟨rfl, .inl ⟨rfl, rfl⟩⟩, Below.refl _ _⟩
  · refine (Tryz.slices_Clone_int g 0 ks.length cap (kInts ks) w (by rw [kInts_len]; exact Nat.le_refl _) (by omega) (row_ints h)).mono fun e w' ⟨v', h1, h2, _, h3⟩ => ⟨v', h1, ?_, h3⟩
    rw [List.take_of_length_le (by rw [kInts_len]; exact Nat.le_refl _)] at h2
    rwa [show kidCells ks = (kInts ks).map (Value.int .i64) by simp [kidCells, kInts, natV]]
def delRen : Go.Shelf.Ren := ⟨fun | 41 => 112 | n => n, fun | 22 => 40 | 23 => 121 | n => n, fun | n => n⟩
theorem attLay : Go.Proofs.SlLaysE0.n41 Tryz.prog delRen := {
  mixed := by kernel_rfl
  f41 := ⟨Tryz.f112.name, by decide, Tryz.func112.trans (congrArg some (by kernel_rfl))⟩
  t4 := Tryz.underlying4
  a4 := Tryz.isAgg4
  z4 := Tryz.sizeOf4
  v4 := Tryz.zeroValue4
  t22 := Tryz.underlying40
  a22 := Tryz.isAgg40
  z22 := Tryz.sizeOf40
  v22 := Tryz.zeroValue40 }
def zeroA : Value := .agg #[.int .i64 0, .string ⟨#[]⟩, .string ⟨#[]⟩]
theorem infoA : (Tryz.prog.info? 121).map (fun i => (i.zero, i.size, i.bytes)) = some (some zeroA, 3, 40) := by kernel_rfl
theorem attCells_len (l : List Att) : (attCells l).length = l.length * 3 := by
  induction l with
  | nil => rfl
  | cons a l ih => simp only [attCells, List.flatMap_cons, List.length_append, List.length_cons] at ih ⊢; rw [ih]; simp; omega
theorem attCells_one (l : List Att) : ∀ u ∈ attCells l, u.oneCell' = true := by
  intro u hu
  obtain ⟨a, _, hu⟩ := List.mem_flatMap.1 hu
  simp at hu
  rcases hu with rfl | rfl | rfl <;> rfl
/-- slices.Clone of attributes. -/
theorem attClone_any (l : List Att) (v : Value) (w : World) (h : w.ownsRow 0 121 3 v l.length (attCells l)) (hl : l.length ≤ 1000000000) :
    Calls Tryz.prog 112 #[v] w fun e w' => ∃ v', e = .returned v' ∧ w'.ownsRow w.heap.size 121 3 v' l.length (attCells l) ∧ Below w.heap.size w w' := by
  obtain ⟨h1, ⟨rfl, h3⟩ | ⟨g, cap, cur, rfl, h3, h4, h5, h6, h7, h8⟩⟩ := h
  · obtain rfl : l = [] := List.eq_nil_of_length_eq_zero h3
    refine (AnyE.slices_Clone_nil attLay 0 0 w).mono fun e w' ⟨h1, h2⟩ => ?_
    subst h2
    exact ⟨_, h1, ⟨rfl, .inl ⟨rfl, rfl⟩⟩, Below.refl _ _⟩
  · obtain ⟨i0, hi, hz0, hz1, hz2⟩ := info_parts infoA
    refine (AnyE.slices_Clone attLay i0 zeroA 3 40 hi hz0 hz1 hz2 (by decide) (by decide) (by intro w; kernel_rfl) g 0 l.length cap (attCells l) w (attCells_len l) (by unfold maxLen; omega) (by omega) (fun j u hj => ?_) (attCells_one l)).mono fun e w' ⟨v', h1, h2, _, h3⟩ => ⟨v', h1, h2, h3⟩
    rw [Nat.zero_add, cell_of_row w g j cur _ _ h4, ← Array.getElem?_toList]
    rw [← h8, List.getElem?_take] at hj
    split at hj
    · exact hj
    · cases hj
theorem zeroCells_size (n : Nat) : (Builtin.zeroCells (Value.int .i64 0).cells n).size = n := by simp [Builtin.zeroCells, Value.cells]
theorem own_of_cells {w : World} {g cap n : Nat} {cur : Array Value} {e : TypeId} {xs : List Value} (hb : w.heap[g]? = some (.cells cur e (0, 0))) (hs : cur.size = cap) (hn : n ≤ cap) (hc : cap ≤ maxLen) (hl : xs.length = n)
    (hx : ∀ j v, xs[j]? = some v → w.cell? ⟨g, j, none⟩ = some v) : w.ownsRow 0 e 1 (.slice (some ⟨g, 0, none⟩) n cap) n xs := by
  refine ⟨by rw [hl, Nat.mul_one], .inr ⟨g, cap, cur, rfl, Nat.zero_le _, hb, hn, hc, by rw [hs, Nat.mul_one], ?_⟩⟩
  rw [Nat.mul_one]
  refine List.ext_getElem? fun j => ?_
  by_cases hj : j < n
  · have := hx j (xs[j]'(by omega)) (List.getElem?_eq_getElem _)
    rw [cell_of_row w g j cur _ _ hb, ← Array.getElem?_toList] at this
    rw [List.getElem?_take, if_pos hj, this, List.getElem?_eq_getElem]
  · rw [List.getElem?_take, if_neg hj, List.getElem?_eq_none (by omega)]
theorem setCells_shape (b : Nat) : ∀ (vs : List Value) (o : Nat) (w : World) (cur : Array Value) (e : TypeId) (fz : Nat × Nat), w.heap[b]? = some (.cells cur e fz) → ∃ cur' : Array Value, (w.setCells b o vs).heap[b]? = some (.cells cur' e fz) ∧ cur'.size = cur.size
  | [], _, _, cur, _, _, h => ⟨cur, h, rfl⟩
  | v :: r, o, w, cur, e, fz, h => by
    obtain ⟨cur', h1, h2⟩ := setCells_shape b r (o + 1) _ _ e fz (Joins.block_setCell (i := o) h v)
    exact ⟨cur', h1, by rw [h2, Array.size_setIfInBounds]⟩
theorem Mod.setCells {S : Nat → Prop} (b : Nat) (hb : S b) : ∀ (vs : List Value) (o : Nat) (w : World), Mod S w (w.setCells b o vs)
  | [], _, w => Mod.refl _ w
  | v :: r, o, w => (Mod.setCell w v hb).trans (Mod.setCells b hb r (o + 1) _)
theorem cell_some {w : World} {g : Nat} {cur : Array Value} {e : TypeId} {fz : Nat × Nat} (h : w.heap[g]? = some (.cells cur e fz)) (j : Nat) (hj : j < cur.size) : (w.cell? ⟨g, j, none⟩).isSome = true := by
  rw [cell_of_row w g j cur _ _ h, Array.getElem?_eq_getElem hj]; rfl
/-- slices.Delete of one child. -/
theorem kidDelete_any (ks : List Nat) (i : Nat) (v : Value) (w : World) (h : w.ownsRow 0 3 1 v ks.length (kidCells ks)) (hi : i < ks.length) (hl : ks.length ≤ 1000000000) :
    Calls Tryz.prog 89 #[v, .int .i64 (i : Int), .int .i64 ((i + 1 : Nat) : Int)] w fun e w' => ∃ v', e = .returned v' ∧ w'.ownsRow 0 3 1 v' (ks.eraseIdx i).length (kidCells (ks.eraseIdx i)) ∧ v'.ownBlock = v.ownBlock ∧ Mod (fun k => v.ownBlock = some k) w w' := by
  have hr := row_cells h
  rcases hr with ⟨rfl, h0, _⟩ | ⟨g, cap, cur, rfl, h2, h3, h4, h5, h6, h7⟩
  · omega
  · refine (Tryz.slices_Delete_int_cells g 0 ks.length cap i (i + 1) (kInts ks) w (by rw [kInts_len]; exact Nat.le_refl _) h3 (by unfold maxLen at h4; omega) (by omega) (by omega) (row_ints h) (fun j _ => Lib.frozen_of_heap h2 _)).mono fun e w' ⟨h1, q, hw⟩ => ?_
    have hlen : ks.length - (i + 1 - i) = (ks.eraseIdx i).length := by rw [List.length_eraseIdx, if_pos hi]; omega
    rw [hlen] at h1
    have htk : (kInts ks).take ks.length = kInts ks := List.take_of_length_le (by rw [kInts_len]; exact Nat.le_refl _)
    have hvs : ((((kInts ks).take ks.length).take i ++ ((kInts ks).take ks.length).drop (i + 1) ++ List.replicate (i + 1 - i) 0).map (Value.int .i64)) = kidCells (ks.eraseIdx i) ++ [.int .i64 0] := by
      rw [htk, Nat.add_sub_cancel_left, List.eraseIdx_eq_take_drop_succ]
      simp [kidCells, kInts, natV, List.map_take, List.map_drop, Function.comp_def]
      rfl
    rw [hvs] at hw
    subst hw
    have hd : (w.drewN q).heap[g]? = some (.cells cur 3 (0, 0)) := h2
    obtain ⟨cur', h8, h9⟩ := setCells_shape g (kidCells (ks.eraseIdx i) ++ [.int .i64 0]) 0 (w.drewN q) _ _ _ hd
    have hin : (kidCells (ks.eraseIdx i) ++ [Value.int .i64 0]).length = ks.length := by simp [kidCells_len, List.length_eraseIdx, hi]; omega
    have hcell := World.cell?_setCells_in g (kidCells (ks.eraseIdx i) ++ [.int .i64 0]) 0 (w.drewN q) (fun j hj => by rw [Nat.zero_add]; exact cell_some hd j (by omega))
    refine ⟨_, h1, own_of_cells h8 (by rw [h9, h5]) (by rw [← hlen]; omega) h4 (kidCells_len _) (fun j u hj => ?_), rfl, ((Mod.refl _ w).drewN q).trans (Mod.setCells (S := fun k => (Value.slice (some ⟨g, 0, none⟩) ks.length cap).ownBlock = some k) g rfl _ _ _)⟩
    have hjl : j < (kidCells (ks.eraseIdx i)).length := (List.getElem?_eq_some_iff.1 hj).1
    have := hcell j (by rw [List.length_append]; omega)
    rw [Nat.zero_add, List.getElem_append_left hjl] at this
    rw [this, ← List.getElem?_eq_getElem, hj]
def insK (ks : List Nat) (i x : Nat) : List Nat := ks.take i ++ x :: ks.drop i
theorem insK_len (ks : List Nat) (i x : Nat) (hi : i ≤ ks.length) : (insK ks i x).length = ks.length + 1 := by simp [insK]; omega
theorem insIdx_cells (ks : List Nat) (i x : Nat) : kidCells (insK ks i x) = (kidCells ks).take i ++ (natV x :: (kidCells ks).drop i) := by simp [kidCells, insK, List.map_take, List.map_drop]
/-- slices.Insert of one child. -/
theorem kidInsert_any (ks : List Nat) (i x : Nat) (v : Value) (vb : Nat) (w : World) (h : w.ownsRow 0 3 1 v ks.length (kidCells ks)) (hv : w.heap[vb]? = some (.cells #[natV x] 3 (0, 0))) (hne : v.ownBlock ≠ some vb) (hi : i ≤ ks.length) (hl : ks.length ≤ 1000000000) :
    Calls Tryz.prog 49 #[v, .int .i64 (i : Int), .slice (some ⟨vb, 0, none⟩) 1 1] w fun e w' => ∃ v', e = .returned v' ∧ w'.ownsRow 0 3 1 v' (insK ks i x).length (kidCells (insK ks i x)) ∧
      (v'.ownBlock = v.ownBlock ∨ ∃ g, v'.ownBlock = some g ∧ w.heap.size ≤ g) ∧ Mod (fun k => v.ownBlock = some k) w w' := by
  have hr := row_cells h
  have hlen : (insK ks i x).length = ks.length + 1 := insK_len ks i x hi
  have hvs : ∀ j u, [natV x][j]? = some u → w.cell? ⟨vb, 0 + j, none⟩ = some u := by
    intro j u hj
    match j, hj with
    | 0, hj => simp at hj; subst hj; rw [cell_of_row w vb _ _ _ _ hv]; rfl
  have h1v : ∀ u ∈ [natV x], u.oneCell' = true := by intro u hu; simp at hu; subst hu; rfl
  by_cases hin : i = ks.length
  · subst hin
    by_cases hroom : ∃ g cap, v = .slice (some ⟨g, 0, none⟩) ks.length cap ∧ ks.length + 1 ≤ cap
    · obtain ⟨g, cap, rfl, hroom⟩ := hroom
      rcases hr with ⟨e, _⟩ | ⟨g', cap', cur, e, h2, h3, h4, h5, h6, h7⟩
      · cases e
      cases e
      refine (Any2.slices_Insert_int_end_room insLay g 0 ks.length cap vb 0 1 1 [natV x] w (by decide) hroom (by unfold maxLen at h4; omega) rfl (fun j hj => cell_some h2 _ (by omega)) (fun j _ => Lib.frozen_of_heap h2 _) hvs h1v).mono fun e w' ⟨h8, hw⟩ => ?_
      subst hw
      obtain ⟨cur', h9, h10⟩ := setCells_shape g [natV x] (0 + ks.length) w _ _ _ h2
      refine ⟨_, h8, ?_, .inl rfl, Mod.setCells (S := fun k => (Value.slice (some ⟨g, 0, none⟩) ks.length cap).ownBlock = some k) g rfl _ _ _⟩
      rw [hlen]
      refine own_of_cells h9 (by rw [h10, h5]) hroom h4 (by rw [kidCells_len, hlen]) fun j u hj => ?_
      rw [insIdx_cells, List.take_of_length_le (by rw [kidCells_len]; exact Nat.le_refl _), List.drop_of_length_le (by rw [kidCells_len]; exact Nat.le_refl _)] at hj
      by_cases hjn : j < ks.length
      · rw [List.getElem?_append_left (by rw [kidCells_len]; exact hjn)] at hj
        rw [World.cell?_setCells_out g [natV x] (0 + ks.length) w ⟨g, j, none⟩ (fun _ _ => Or.inl (by dsimp only; omega))]
        exact row_at h j u hj
      · rw [List.getElem?_append_right (by rw [kidCells_len]; omega), kidCells_len] at hj
        have hj0 : j = ks.length := by
          have := (List.getElem?_eq_some_iff.1 hj).1
          simp at this; omega
        subst hj0
        have := World.cell?_setCells_in g [natV x] (0 + ks.length) w (fun j hj => cell_some h2 _ (by simp at hj; omega)) 0 (by simp)
        rw [show 0 + ks.length + 0 = ks.length by omega] at this
        rw [this, ← hj, Nat.sub_self]
        rfl
    · have hnil : ∃ base c, v = .slice base ks.length c ∧ ks.length ≤ c ∧ c < ks.length + 1 ∧ (base = none → ks.length = 0) ∧ ∀ a, base = some a → ∀ j u, (kidCells ks)[j]? = some u → w.cell? (a.add j) = some u := by
        rcases hr with ⟨rfl, h0, _⟩ | ⟨g, cap, cur, rfl, h2, h3, h4, h5, h6, h7⟩
        · exact ⟨none, 0, by rw [h0], by omega, by omega, fun _ => h0, (fun a e => by cases e)⟩
        · refine ⟨_, _, rfl, h3, Nat.lt_of_not_le fun hc => hroom ⟨g, cap, rfl, hc⟩, (fun e => by cases e), fun a e j u hj => ?_⟩
          cases e
          have hadd : (⟨g, 0, none⟩ : Addr).add j = ⟨g, j, none⟩ := by unfold Addr.add; split <;> simp_all
          rw [hadd]
          exact row_at h j u hj
      obtain ⟨base, c, rfl, hc1, hc2, hb0, hcs⟩ := hnil
      have hge := grownCap_ge w (ks.length + 1) c (insRen.t 3)
      have hle := grownCap_le_maxLen w (ks.length + 1) c (insRen.t 3) (by unfold maxLen; omega)
      refine (Any2.slices_Insert_int_end_grow insLay base ks.length c vb 0 1 1 (kidCells ks) [natV x] w (by decide) hc1 hc2 (by omega) (kidCells_len _) rfl hb0 hcs hvs h1v).mono fun e w' ⟨h8, hw⟩ => ?_
      subst hw
      refine ⟨_, h8, ?_, .inr ⟨_, rfl, Nat.le_refl _⟩, (Mod.refl _ w).drew.trans (Mod.alloc _ _ _)⟩
      rw [hlen]
      have hnew : (w.drew.alloc (.cells ((kidCells ks ++ [natV x]).toArray ++ Builtin.zeroCells (Value.int .i64 0).cells (grownCap w (ks.length + 1) c (insRen.t 3) - (ks.length + 1))) (insRen.t 3))).heap[w.heap.size]? = _ := World.alloc_heap_new w.drew (.cells ((kidCells ks ++ [natV x]).toArray ++ Builtin.zeroCells (Value.int .i64 0).cells (grownCap w (ks.length + 1) c (insRen.t 3) - (ks.length + 1))) (insRen.t 3))
      refine own_of_cells hnew ?_ hge hle (by rw [kidCells_len, hlen]) fun j u hj => ?_
      · rw [Array.size_append, zeroCells_size]; simp [kidCells_len]; omega
      · rw [insIdx_cells, List.take_of_length_le (by rw [kidCells_len]; exact Nat.le_refl _), List.drop_of_length_le (by rw [kidCells_len]; exact Nat.le_refl _)] at hj
        rw [cell_of_row _ _ j _ _ _ hnew, Array.getElem?_append_left (by have := (List.getElem?_eq_some_iff.1 hj).1; simpa using this)]
        simpa using hj
  · have hin' : i < ks.length := by omega
    rcases hr with ⟨rfl, h0, _⟩ | ⟨g, cap, cur, rfl, h2, h3, h4, h5, h6, h7⟩
    · omega
    have hcs : ∀ j u, (kidCells ks)[j]? = some u → w.cell? ⟨g, 0 + j, none⟩ = some u := fun j u hj => by rw [Nat.zero_add]; exact row_at h j u hj
    have hgv : vb ≠ g := fun e => hne (by rw [e]; rfl)
    by_cases hroom : ks.length + 1 ≤ cap
    · refine (Any2.slices_Insert_int_shift insLay g 0 ks.length cap i vb 0 1 1 (kidCells ks) [natV x] w hin' (by decide) hroom (by unfold maxLen at h4; omega) hgv (kidCells_len _) rfl hcs (fun j hj => cell_some h2 _ (by omega)) (fun j _ => Lib.frozen_of_heap h2 _) hvs (kidCells_one _) h1v
        3 3 1 cur.size (by simp [World.shape?, hv]) (by simp [World.shape?, h2]) (by omega) (Lib.frozen_of_heap hv _) (Lib.frozen_of_heap hv _)).mono fun e w' ⟨h8, hw⟩ => ?_
      subst hw
      have hd : w.drew.heap[g]? = some (.cells cur 3 (0, 0)) := h2
      obtain ⟨cur1, h9, h10⟩ := setCells_shape g ((kidCells ks).drop i) (0 + (i + 1)) w.drew _ _ _ hd
      obtain ⟨cur2, h11, h12⟩ := setCells_shape g [natV x] (0 + i) _ _ _ _ h9
      refine ⟨_, h8, ?_, .inl rfl, ((Mod.refl _ w).drew.trans (Mod.setCells (S := fun k => (Value.slice (some ⟨g, 0, none⟩) ks.length cap).ownBlock = some k) g rfl _ _ _)).trans (Mod.setCells (S := fun k => (Value.slice (some ⟨g, 0, none⟩) ks.length cap).ownBlock = some k) g rfl _ _ _)⟩
      rw [hlen]
      refine own_of_cells h11 (by rw [h12, h10, h5]) hroom h4 (by rw [kidCells_len, hlen]) fun j u hj => ?_
      have hjl := (List.getElem?_eq_some_iff.1 hj).1
      rw [kidCells_len, hlen] at hjl
      rw [insIdx_cells] at hj
      by_cases hji : j < i
      · rw [List.getElem?_append_left (by rw [List.length_take, kidCells_len]; omega), List.getElem?_take, if_pos hji] at hj
        rw [World.cell?_setCells_out g [natV x] (0 + i) _ ⟨g, j, none⟩ (fun _ _ => Or.inl (by dsimp only; omega)), World.cell?_setCells_out g ((kidCells ks).drop i) (0 + (i + 1)) _ ⟨g, j, none⟩ (fun _ _ => Or.inl (by dsimp only; omega))]
        exact row_at h j u hj
      · rw [List.getElem?_append_right (by rw [List.length_take, kidCells_len]; omega), List.length_take, kidCells_len, Nat.min_eq_left (by omega)] at hj
        by_cases hje : j = i
        · subst hje
          rw [Nat.sub_self, List.getElem?_cons_zero] at hj
          have := World.cell?_setCells_in g [natV x] (0 + j) (w.drew.setCells g (0 + (j + 1)) ((kidCells ks).drop j)) (fun k hk => cell_some h9 _ (by simp at hk; omega)) 0 (by simp)
          rw [show 0 + j + 0 = j by omega] at this
          rw [this, ← hj]
          rfl
        · obtain ⟨m, rfl⟩ : ∃ m, j = i + 1 + m := ⟨j - (i + 1), by omega⟩
          rw [show i + 1 + m - i = m + 1 by omega, List.getElem?_cons_succ] at hj
          rw [World.cell?_setCells_out g [natV x] (0 + i) _ ⟨g, i + 1 + m, none⟩ (fun _ _ => Or.inr (by simp))]
          have hm : m < ((kidCells ks).drop i).length := (List.getElem?_eq_some_iff.1 hj).1
          have := World.cell?_setCells_in g ((kidCells ks).drop i) (0 + (i + 1)) w.drew (fun k hk => cell_some hd _ (by rw [List.length_drop, kidCells_len] at hk; omega)) m hm
          rw [show 0 + (i + 1) + m = i + 1 + m by omega] at this
          rw [this, ← List.getElem?_eq_getElem, hj]
    · have hge := grownCap_ge w (ks.length + 1) cap (insRen.t 3)
      have hle := grownCap_le_maxLen w (ks.length + 1) cap (insRen.t 3) (by unfold maxLen; omega)
      refine (Any2.slices_Insert_int_grow insLay g 0 ks.length cap i vb 0 1 1 (kidCells ks) [natV x] w hin' (by decide) h3 (by omega) (by omega) (kidCells_len _) rfl hcs hvs (kidCells_one _) h1v).mono fun e w' ⟨h8, hw⟩ => ?_
      obtain ⟨W0, hW0⟩ : ∃ W0, (w.alloc (.cells (((kidCells ks).take i).toArray ++ Builtin.zeroCells (Value.int .i64 0).cells (ks.length + 1 - i) ++ Builtin.zeroCells (Value.int .i64 0).cells (grownCap w (ks.length + 1) cap (insRen.t 3) - (ks.length + 1))) (insRen.t 3))).drew = W0 := ⟨_, rfl⟩
      have hnew : W0.heap[w.heap.size]? = some (.cells (((kidCells ks).take i).toArray ++ Builtin.zeroCells (Value.int .i64 0).cells (ks.length + 1 - i) ++ Builtin.zeroCells (Value.int .i64 0).cells (grownCap w (ks.length + 1) cap (insRen.t 3) - (ks.length + 1))) 3 (0, 0)) := by
        rw [← hW0]; exact World.alloc_heap_new w _
      have hM0 : ∀ S, Mod S w W0 := fun S => by rw [← hW0]; exact (Mod.alloc S w _).drew
      have hsz : (((kidCells ks).take i).toArray ++ Builtin.zeroCells (Value.int .i64 0).cells (ks.length + 1 - i) ++ Builtin.zeroCells (Value.int .i64 0).cells (grownCap w (ks.length + 1) cap (insRen.t 3) - (ks.length + 1))).size = grownCap w (ks.length + 1) cap (insRen.t 3) := by
        rw [Array.size_append, Array.size_append, zeroCells_size, zeroCells_size]; simp [kidCells_len]; omega
      rw [hW0] at hw
      clear hW0
      subst hw
      obtain ⟨cur1, h9, h10⟩ := setCells_shape w.heap.size [natV x] i W0 _ _ _ hnew
      have h9' : (W0.setCells w.heap.size i [natV x]).drew.heap[w.heap.size]? = some (.cells cur1 3 (0, 0)) := h9
      obtain ⟨cur2, h11, h12⟩ := setCells_shape w.heap.size ((kidCells ks).drop i) (i + 1) _ _ _ _ h9'
      have hfr : ∀ (A B : World), w.heap.size ≤ A.heap.size → Mod (fun k => k = w.heap.size) A B → Mod (fun k => (Value.slice (some ⟨g, 0, none⟩) ks.length cap).ownBlock = some k) w A → Mod (fun k => (Value.slice (some ⟨g, 0, none⟩) ks.length cap).ownBlock = some k) w B := fun A B hsA h1 h2 =>
        ⟨h1.os.trans h2.os, h1.tape.trans h2.tape, h1.output.trans h2.output, Nat.le_trans h2.size h1.size, fun k hk hS => (h1.block k (by omega) (by omega)).trans (h2.block k hk hS)⟩
      refine ⟨_, h8, ?_, .inr ⟨_, rfl, Nat.le_refl _⟩, ?_⟩
      · rw [hlen]
        refine own_of_cells h11 (by rw [h12, h10]; exact hsz) hge hle (by rw [kidCells_len, hlen]) fun j u hj => ?_
        have hjl := (List.getElem?_eq_some_iff.1 hj).1
        rw [kidCells_len, hlen] at hjl
        rw [insIdx_cells] at hj
        by_cases hji : j < i
        · rw [List.getElem?_append_left (by rw [List.length_take, kidCells_len]; omega)] at hj
          rw [World.cell?_setCells_out w.heap.size ((kidCells ks).drop i) (i + 1) _ ⟨w.heap.size, j, none⟩ (fun _ _ => Or.inl (by dsimp only; omega))]
          show (W0.setCells w.heap.size i [natV x]).cell? ⟨w.heap.size, j, none⟩ = some u
          rw [World.cell?_setCells_out w.heap.size [natV x] i _ ⟨w.heap.size, j, none⟩ (fun _ _ => Or.inl (by dsimp only; omega)), cell_of_row _ _ j _ _ _ hnew]
          rw [Array.getElem?_append_left (by rw [Array.size_append, zeroCells_size]; simp [kidCells_len]; omega), Array.getElem?_append_left (by simp [kidCells_len]; omega)]
          simpa using hj
        · rw [List.getElem?_append_right (by rw [List.length_take, kidCells_len]; omega), List.length_take, kidCells_len, Nat.min_eq_left (by omega)] at hj
          by_cases hje : j = i
          · subst hje
            rw [Nat.sub_self, List.getElem?_cons_zero] at hj
            rw [World.cell?_setCells_out w.heap.size ((kidCells ks).drop j) (j + 1) _ ⟨w.heap.size, j, none⟩ (fun _ _ => Or.inl (by dsimp only; omega))]
            show (W0.setCells w.heap.size j [natV x]).cell? ⟨w.heap.size, j, none⟩ = some u
            have := World.cell?_setCells_in w.heap.size [natV x] j W0 (fun k hk => cell_some hnew _ (by simp at hk; omega)) 0 (by simp)
            rw [Nat.add_zero] at this
            rw [this, ← hj]
            rfl
          · obtain ⟨m, rfl⟩ : ∃ m, j = i + 1 + m := ⟨j - (i + 1), by omega⟩
            rw [show i + 1 + m - i = m + 1 by omega, List.getElem?_cons_succ] at hj
            have hm : m < ((kidCells ks).drop i).length := (List.getElem?_eq_some_iff.1 hj).1
            have := World.cell?_setCells_in w.heap.size ((kidCells ks).drop i) (i + 1) (W0.setCells w.heap.size i [natV x]).drew (fun k hk => cell_some h9' _ (by rw [List.length_drop, kidCells_len] at hk; omega)) m hm
            rw [this, ← List.getElem?_eq_getElem, hj]
      · have s0 := (hM0 (fun _ => False)).size
        have m1 : Mod (fun k => k = w.heap.size) W0 (W0.setCells w.heap.size i [natV x]) := Mod.setCells (S := fun k => k = w.heap.size) _ rfl _ _ _
        have m2 : Mod (fun k => k = w.heap.size) (W0.setCells w.heap.size i [natV x]).drew (((W0.setCells w.heap.size i [natV x]).drew).setCells w.heap.size (i + 1) ((kidCells ks).drop i)) := Mod.setCells (S := fun k => k = w.heap.size) _ rfl _ _ _
        exact hfr W0 _ s0 (m1.drew.trans m2) (hM0 _)
end Go.Proofs.YtdapdadcninidaaGreatDoor
namespace Go.Proofs.YtdapdadcninidaaGreatDoor
open Go.RowKit
attribute [local go_sem ↓] Go.wp_at_zero Go.wp_at_succ

theorem atW_any (h : Int) (w : World) {B : AB} {O : List Nat} {ns : List Nd} (hA : ArW B O ns w) (hh : isH ns.length h = true) (hl : ns.length ≤ 1000000) :
    ∃ g cap kv av i, h = ((i + 1 : Nat) : Int) ∧ ns[i]? = some (ndAt ns h) ∧ w.cell? ⟨B, 0, none⟩ = some (.slice (some ⟨g, 0, none⟩) ns.length cap) ∧ NdIs w g (i * 13) (ndAt ns h) kv av ∧
      w.ownsRow 0 3 1 kv (ndAt ns h).kids.length (kidCells (ndAt ns h).kids) ∧ w.ownsRow 0 121 3 av (ndAt ns h).attrs.length (attCells (ndAt ns h).attrs) ∧
      ∀ w', w'.cell? ⟨B, 0, none⟩ = w.cell? ⟨B, 0, none⟩ → Calls Tryz.prog 37 #[.pointer (some ⟨B, 0, none⟩), .int .i64 h] w' fun e w'' => e = .returned (.pointer (some ⟨g, i * 13, none⟩)) ∧ w' = w'' := by
  obtain ⟨i, hi, rfl⟩ := isH_iff.1 hh
  have hx := List.getElem?_eq_getElem hi
  rw [ndAt_at hx]
  obtain ⟨g, cap, kv, av, c0, hn, hk, ha⟩ := hA.node hx
  exact ⟨g, cap, kv, av, i, rfl, hx, c0, hn, hk, ha, fun w' hw => at_any i w' (hw.trans c0) hi (by omega)⟩
set_option maxRecDepth 100000 in
/-- Parent. -/
theorem Parent_any (h : Int) (w : World) {B : AB} {O : List Nat} {ns : List Nd} (hA : ArW B O ns w) (hl : ns.length ≤ 1000000) :
    Calls Tryz.prog 15 #[.pointer (some ⟨B, 0, none⟩), .int .i64 h] w fun e w' => e = .returned (.int .i64 (if isH ns.length h then ((ndAt ns h).parent : Int) else 0)) ∧ w = w' := by
  have H1 := isH_any h w hA
  cases hh : isH ns.length h
  · rw [hh] at H1
    have H1 := Lib.hid H1
    clear hh
    go_enter Tryz.func15, Tryz.ntmps15
    go_wp2_with (go_at_call 45; refine H1.out.mono ?_; rintro e w1 ⟨rfl, rfl⟩)
    go_ret
    exact ⟨rfl, rfl⟩
  · obtain ⟨g, cap, kv, av, i, -, -, c0, hn, -, -, hat⟩ := atW_any h w hA hh hl
    have c1 := hn.c1
    rw [hh] at H1
    have H1 := Lib.hid H1
    have H2 := Lib.hid (hat w rfl)
    clear hh hn c0 hat
    go_enter Tryz.func15, Tryz.ntmps15
    go_wp2_with (first | (go_at_call 45; refine H1.out.mono ?_; rintro e w1 ⟨rfl, rfl⟩) | (go_at_call 37; refine H2.out.mono ?_; rintro e w1 ⟨rfl, rfl⟩))
    go_ret
    exact ⟨rfl, rfl⟩
/-- The call returns a slice of its own with these children. -/
def KidsRet (w : World) (ks : List Nat) (e : Ending) (w' : World) : Prop := ∃ v, e = .returned v ∧ w'.ownsRow w.heap.size 3 1 v ks.length (kidCells ks) ∧ Below w.heap.size w w'
def kidsAt (ns : List Nd) (h : Int) : List Nat := if isH ns.length h then (ndAt ns h).kids else []
set_option maxRecDepth 100000 in
theorem Kids_any (h : Int) (w : World) {B : AB} {O : List Nat} {ns : List Nd} (hA : ArW B O ns w) (hl : ns.length ≤ 1000000) (hk : (kidsAt ns h).length ≤ 1000000) :
    Calls Tryz.prog 96 #[.pointer (some ⟨B, 0, none⟩), .int .i64 h] w (KidsRet w (kidsAt ns h)) := by
  have H1 := isH_any h w hA
  cases hh : isH ns.length h
  · rw [hh] at H1
    have H1 := Lib.hid H1
    rw [show kidsAt ns h = [] by simp [kidsAt, hh]]
    clear hh hk
    go_enter Tryz.func96, Tryz.ntmps96
    go_wp2_with (go_at_call 45; refine H1.out.mono ?_; rintro e w1 ⟨rfl, rfl⟩)
    go_ret
    exact ⟨_, rfl, ⟨rfl, .inl ⟨rfl, rfl⟩⟩, Below.refl _ _⟩
  · have hke : kidsAt ns h = (ndAt ns h).kids := by simp [kidsAt, hh]
    rw [hke] at hk ⊢
    obtain ⟨g, cap, kv, av, i, -, -, c0, hn, hkr, -, hat⟩ := atW_any h w hA hh hl
    have c2 := hn.c2
    rw [hh] at H1
    have H1 := Lib.hid H1
    have H2 := Lib.hid (hat w rfl)
    have H3 := Lib.hid (kidClone_any _ kv w hkr (by omega))
    clear hh hn c0 hat hkr hke
    go_enter Tryz.func96, Tryz.ntmps96
    go_wp2_with (first | (go_at_call 45; refine H1.out.mono ?_; rintro e w1 ⟨rfl, rfl⟩) | (go_at_call 37; refine H2.out.mono ?_; rintro e w1 ⟨rfl, rfl⟩) | (go_at_call 111; refine H3.out.mono ?_; rintro e w1 ⟨v', rfl, hr1, b1⟩))
    go_ret
    exact ⟨_, rfl, hr1, b1⟩
/-- Index. -/
def indexAt (ns : List Nd) (h : Int) : Int := if isH ns.length h = true ∧ (ndAt ns h).parent ≠ 0 then kidIdx (ndAt ns (ndAt ns h).parent).kids h else -1
set_option maxRecDepth 100000 in
theorem Index_any (h : Int) (w : World) {B : AB} {O : List Nat} {ns : List Nd} (hA : ArW B O ns w) (hl : ns.length ≤ 1000000) (hp : isH ns.length h = true → (ndAt ns h).parent ≤ ns.length) :
    Calls Tryz.prog 97 #[.pointer (some ⟨B, 0, none⟩), .int .i64 h] w fun e w' => e = .returned (.int .i64 (indexAt ns h)) ∧ w = w' := by
  have H1 := Parent_any h w hA hl
  by_cases hq : isH ns.length h = true ∧ (ndAt ns h).parent ≠ 0
  · have hi : indexAt ns h = kidIdx (ndAt ns (ndAt ns h).parent).kids h := by rw [indexAt, if_pos hq]
    obtain ⟨hh, hne⟩ := hq
    rw [hi]
    rw [if_pos hh] at H1
    have hpl := hp hh
    obtain ⟨p, hpe⟩ : ∃ p, (ndAt ns h).parent = p := ⟨_, rfl⟩
    rw [hpe] at H1 hne hpl ⊢
    obtain ⟨g, cap, kv, av, i, -, -, c0, hn, hkr, -, hat⟩ := atW_any (p : Int) w hA (by simp [isH]; omega) hl
    have c2 := hn.c2
    have H1 := Lib.hid H1
    have H2 := Lib.hid (hat w rfl)
    have H3 := Lib.hid (kidIndex_any _ h kv w hkr)
    have hpz : ((p : Int) == 0) = false := by simpa using hne
    clear hn c0 hat hkr hpe hi hh hp
    go_enter Tryz.func97, Tryz.ntmps97
    go_wp2_with (first | (go_at_call 15; refine H1.out.mono ?_; rintro e w1 ⟨rfl, rfl⟩) | (go_at_call 37; refine H2.out.mono ?_; rintro e w1 ⟨rfl, rfl⟩) | (go_at_call 48; refine H3.out.mono ?_; rintro e w1 ⟨rfl, rfl⟩))
    go_ret
    exact ⟨rfl, rfl⟩
  · have hi : indexAt ns h = -1 := by rw [indexAt, if_neg hq]
    rw [hi]
    have hz : (if isH ns.length h then ((ndAt ns h).parent : Int) else 0) = 0 := by
      split
      · rename_i h1
        have : (ndAt ns h).parent = 0 := by
          by_cases e : (ndAt ns h).parent = 0
          · exact e
          · exact absurd ⟨h1, e⟩ hq
        simp [this]
      · rfl
    rw [hz] at H1
    have H1 := Lib.hid H1
    clear hi hz hq hp
    go_enter Tryz.func97, Tryz.ntmps97
    go_wp2_with (go_at_call 15; refine H1.out.mono ?_; rintro e w1 ⟨rfl, rfl⟩)
    go_ret
    exact ⟨rfl, rfl⟩
end Go.Proofs.YtdapdadcninidaaGreatDoor
