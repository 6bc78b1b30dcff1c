/- Package arena: nodes are looked at and created. -/
import Derived.Test.YtdapdadcninidaaGreatDoorAr2
namespace Go.Proofs.YtdapdadcninidaaGreatDoor
open Go.RowKit
attribute [local go_sem ↓] Go.wp_at_zero Go.wp_at_succ

def nilS : Value := .slice none 0 0
def ndAt (ns : List Nd) (h : Int) : Nd := ns.getD (h - 1).toNat {}
theorem isH_iff {n : Nat} {h : Int} : isH n h = true ↔ ∃ i : Nat, i < n ∧ h = ((i + 1 : Nat) : Int) := by
  simp only [isH, Bool.and_eq_true, decide_eq_true_eq]
  constructor
  · rintro ⟨h1, h2⟩
    exact ⟨(h - 1).toNat, by omega, by omega⟩
  · rintro ⟨i, hi, rfl⟩
    omega
theorem ndAt_at {ns : List Nd} {i : Nat} {d : Nd} (h : ns[i]? = some d) : ndAt ns ((i + 1 : Nat) : Int) = d := by
  unfold ndAt
  rw [show (((i + 1 : Nat) : Int) - 1).toNat = i by omega, List.getD_eq_getElem?_getD, h]; rfl
/-- What lies at a node. -/
structure NdIs (w : World) (g o : Nat) (d : Nd) (kv av : Value) : Prop where
  c0 : w.cell? ⟨g, o, none⟩ = some (.int .i64 d.kind)
  c1 : w.cell? ⟨g, o + 1, none⟩ = some (.int .i64 (d.parent : Nat))
  c2 : w.cell? ⟨g, o + 2, none⟩ = some kv
  c3 : w.cell? ⟨g, o + 3, none⟩ = some (.int .i64 (d.doc : Nat))
  c4 : w.cell? ⟨g, o + 4, none⟩ = some (.int .i64 d.space)
  c5 : w.cell? ⟨g, o + 5, none⟩ = some (.string ⟨d.name.toArray⟩)
  c6 : w.cell? ⟨g, o + 6, none⟩ = some av
  c7 : w.cell? ⟨g, o + 7, none⟩ = some (.string ⟨d.data.toArray⟩)
  c8 : w.cell? ⟨g, o + 8, none⟩ = some (.string ⟨d.pub.toArray⟩)
  c9 : w.cell? ⟨g, o + 9, none⟩ = some (.string ⟨d.sys.toArray⟩)
  c10 : w.cell? ⟨g, o + 10, none⟩ = some (.bool d.quirks)
  c11 : w.cell? ⟨g, o + 11, none⟩ = some (.int .i64 (d.contents : Nat))
  c12 : w.cell? ⟨g, o + 12, none⟩ = some (.int .i64 (d.host : Nat))
  fz : ∀ j, j < 13 → w.frozen? ⟨g, o + j, none⟩ = false
theorem Ar.node {w : World} {B i : Nat} {tab inv : Value} {L : List Nv} {x : Nv} (h : Ar w B tab inv L) (hx : L[i]? = some x) :
    ∃ g cap, tab = .slice (some ⟨g, 0, none⟩) L.length cap ∧ g ≠ B ∧ g < w.heap.size ∧ NdIs w g (i * 13) x.nd x.kv x.av := by
  rcases h.tab with ⟨_, rfl⟩ | ⟨g, cap, ht, hg, _, _, hgB, hc⟩
  · simp at hx
  · have hx := hc i x hx
    refine ⟨g, cap, ht, hgB, hg, (hx 0 _ rfl).1, (hx 1 _ rfl).1, (hx 2 _ rfl).1, (hx 3 _ rfl).1, (hx 4 _ rfl).1, (hx 5 _ rfl).1, (hx 6 _ rfl).1, (hx 7 _ rfl).1, (hx 8 _ rfl).1, (hx 9 _ rfl).1, (hx 10 _ rfl).1, (hx 11 _ rfl).1, (hx 12 _ rfl).1, fun j hj => ?_⟩
    exact (hx j (x.cells[j]'(by rw [Nv.cells_len]; exact hj)) (List.getElem?_eq_getElem _)).2
theorem ArW.node {w : World} {B i : Nat} {O : List Nat} {ns : List Nd} {d : Nd} (h : ArW B O ns w) (hx : ns[i]? = some d) :
    ∃ g cap kv av, w.cell? ⟨B, 0, none⟩ = some (.slice (some ⟨g, 0, none⟩) ns.length cap) ∧ NdIs w g (i * 13) d kv av ∧
      w.ownsRow 0 3 1 kv d.kids.length (kidCells d.kids) ∧ w.ownsRow 0 121 3 av d.attrs.length (attCells d.attrs) := by
  obtain ⟨tab, inv, L, h1, h2, rfl⟩ := h
  rw [List.getElem?_map] at hx
  obtain ⟨x, hy, rfl⟩ := Option.map_eq_some_iff.1 hx
  obtain ⟨g, cap, ht, _, _, hn⟩ := h1.node hy
  have hm := List.mem_of_getElem? hy
  exact ⟨g, cap, x.kv, x.av, by rw [List.length_map, ← ht]; exact h1.c0, hn, h1.kid x hm, h1.att x hm⟩
def docE (ns : List Nd) (h : Int) : Int := if isH ns.length h then (if (ndAt ns h).kind = 1 then 0 else 9) else 3
set_option maxRecDepth 100000 in
set_option maxHeartbeats 1000000 in
theorem document_any (h : Int) (w : World) {B : Nat} {O : List Nat} {ns : List Nd} (hA : ArW B O ns w) (hl : ns.length ≤ 1000000) : Calls Tryz.prog 38 #[.pointer (some ⟨B, 0, none⟩), .int .i64 h] w (Ret w (.int .i64 (docE ns h))) := by
  have hb : Below w.heap.size w (w.alloc (.cells #[.int .i64 h] 3)) := balloc w _
  have hc := check_any (B := B) (H := w.heap.size) (c := 1) [h] (w.alloc (.cells #[.int .i64 h] 3)) (hA.later hb) (by intro j v hj; match j, hj with | 0, hj => simp at hj; subst hj; simp) (by simp)
  cases hh : isH ns.length h
  · rw [show chkH ns.length [h] = 3 by simp [chkH, hh]] at hc
    rw [show docE ns h = 3 by simp [docE, hh]]
    have HC := Lib.hid hc
    clear hc hA hh
    go_enter Tryz.func38, Tryz.ntmps38
    go_wp2_with fail
    refine HC.out.mono ?_
    rintro e w1 ⟨rfl, rfl⟩
    go_wp2_with fail
    go_ret
    exact Ret.mk rfl hb
  · rw [show chkH ns.length [h] = 0 by simp [chkH, hh]] at hc
    obtain ⟨i, hi, rfl⟩ := isH_iff.1 hh
    have hx := List.getElem?_eq_getElem hi
    obtain ⟨g, cap, kv, av, c0, hn, -, -⟩ := (hA.later hb).node hx
    have n0 := hn.c0
    have hat := at_any i (w.alloc (.cells #[.int .i64 ((i + 1 : Nat) : Int)] 3)) c0 hi (by omega)
    have hk : docE ns ((i + 1 : Nat) : Int) = if ns[i].kind = 1 then 0 else 9 := by simp only [docE, hh, if_true]; rw [ndAt_at hx]
    rw [hk]
    obtain ⟨z, hz⟩ : ∃ z, ns[i].kind = z := ⟨_, rfl⟩
    rw [hz] at n0 ⊢
    have HC := Lib.hid hc; have HA := Lib.hid hat
    clear hc hat hA hh hx hn c0 hz hk
    obtain ⟨y, hy⟩ : ∃ y : Int, ((i + 1 : Nat) : Int) = y := ⟨_, rfl⟩
    rw [hy] at HC HA n0 hb ⊢
    clear hy
    by_cases h1 : z = 1
    · subst h1
      go_enter Tryz.func38, Tryz.ntmps38
      go_wp2_with (first | (go_at_call 44; refine HC.out.mono ?_; rintro e w1 ⟨rfl, rfl⟩) | (go_at_call 37; refine HA.out.mono ?_; rintro e w1 ⟨rfl, rfl⟩))
      go_ret
      exact Ret.mk rfl hb
    · have h2 : (z != 1) = true := by simpa using h1
      go_enter Tryz.func38, Tryz.ntmps38
      go_wp2_with (first | (go_at_call 44; refine HC.out.mono ?_; rintro e w1 ⟨rfl, rfl⟩) | (go_at_call 37; refine HA.out.mono ?_; rintro e w1 ⟨rfl, rfl⟩))
      go_ret
      exact Ret.mk (by simp [h1]) hb
/-- add, of a node without children and attributes. -/
theorem addW_any (d : Nd) (w : World) {B : Nat} {O : List Nat} {ns : List Nd} (hA : ArW B O ns w) (hl : ns.length ≤ 1000000) (hk : d.kids = []) (ha : d.attrs = []) :
    Calls Tryz.prog 36 #[.pointer (some ⟨B, 0, none⟩), .agg (ndCells d nilS nilS).toArray] w fun e w' => e = .returned (.int .i64 ((ns.length + 1 : Nat) : Int)) ∧ ∃ O', ArW B O' (ns ++ [d]) w' ∧ AStep O w O' w' := by
  obtain ⟨tab, inv, L, h1, rfl, rfl⟩ := hA
  have hb : blocks B tab (L ++ [⟨d, nilS, nilS⟩]) = blocks B tab L := by simp [blocks, nilS, Value.ownBlock]
  have := add_any ⟨d, nilS, nilS⟩ w h1 (by simpa using hl) ⟨by rw [hk]; rfl, .inl ⟨rfl, by rw [hk]; rfl⟩⟩ ⟨by rw [ha]; rfl, .inl ⟨rfl, by rw [ha]; rfl⟩⟩ (by rw [hb]; exact h1.nd)
  rw [hb] at this
  refine this.mono fun e w' ⟨he, tab', h2, h3⟩ => ⟨by rw [he, List.length_map]; rfl, _, ⟨tab', inv, _, h2, rfl, by simp⟩, h3⟩
/-- A node is made: its number, or an error. -/
def Made (B : Nat) (O : List Nat) (ns : List Nd) (w : World) (doc : Int) (d : Nd) (e : Ending) (w' : World) : Prop :=
  (docE ns doc ≠ 0 ∧ e = .returned (.tuple #[.int .i64 0, .int .i64 (docE ns doc)]) ∧ Below w.heap.size w w') ∨
  (docE ns doc = 0 ∧ e = .returned (.tuple #[.int .i64 ((ns.length + 1 : Nat) : Int), .int .i64 0]) ∧ ∃ O', ArW B O' (ns ++ [{ d with doc := doc.toNat }]) w' ∧ AStep O w O' w')
theorem Made.mono {B : Nat} {O : List Nat} {ns : List Nd} {w : World} {doc : Int} {d : Nd} {e : Ending} {w' : World} (h : Made B O ns w doc d e w') : Made B O ns w doc d e w' := h
theorem astep_pre {O O' : List Nat} {w w1 w2 : World} (hb : Below w.heap.size w w1) (h : AStep O w1 O' w2) : AStep O w O' w2 :=
  ⟨(Mod.of_below hb).trans h.mod, fun k hk => (h.own k hk).imp id fun h' => Nat.le_trans hb.size h'⟩
set_option maxRecDepth 100000 in
set_option maxHeartbeats 1000000 in
theorem create_any (doc : Nat) (d : Nd) (w : World) {B : Nat} {O : List Nat} {ns : List Nd} (hA : ArW B O ns w) (hl : ns.length ≤ 1000000) (hk : d.kids = []) (ha : d.attrs = []) (hd : d.doc = 0) :
    Calls Tryz.prog 43 #[.pointer (some ⟨B, 0, none⟩), .int .i64 (doc : Int), .agg (ndCells d nilS nilS).toArray] w (Made B O ns w doc d) := by
  have H1 := Lib.hid (fun w' (h : ArW B O ns w') => document_any (doc : Int) w' h hl)
  have H2 := Lib.hid (fun w' (h : ArW B O ns w') => addW_any { d with doc := doc } w' h hl hk ha)
  have HA := Lib.hid hA
  have hb : ∀ o, Below w.heap.size w (w.alloc o) := fun o => balloc w o
  have HB := Lib.hid hb
  have hu : ndCells d nilS nilS = [.int .i64 d.kind, natV d.parent, nilS, .int .i64 0, .int .i64 d.space, strV d.name, nilS, strV d.data, strV d.pub, strV d.sys, .bool d.quirks, natV d.contents, natV d.host] := by simp only [ndCells, hd]; rfl
  rw [hu]
  clear hA hb hd hu hk ha
  obtain ⟨z, hz⟩ : ∃ z, docE ns (doc : Int) = z := ⟨_, rfl⟩
  rw [hz] at H1
  have HZ := Lib.hid hz
  clear hz
  by_cases h0 : z = 0
  · subst h0
    go_enter Tryz.func43, Tryz.ntmps43
    go_wp2_with fail
    refine (H1.out _ (HA.out.later (HB.out _))).mono ?_
    rintro e w1 ⟨rfl, b1⟩
    obtain ⟨hc, hf⟩ := bcell b1
    have hzz := b1.size
    simp at hzz
    have bw : ∀ v, Below w.heap.size w (w1.setCell ⟨w.heap.size, 3, none⟩ v) := fun v => ((HB.out _).trans (b1.mono (by simp))).setCell (Nat.le_refl _) v
    have BW := Lib.hid bw
    clear bw
    go_wp2_with fail
    refine (H2.out _ (HA.out.later (BW.out _))).mono ?_
    rintro e w2 ⟨rfl, O', hA2, hS⟩
    have hfin : Made B O ns w (doc : Int) d (.returned (.tuple #[.int .i64 ((ns.length + 1 : Nat) : Int), .int .i64 0])) w2 := .inr ⟨HZ.out, rfl, O', hA2, astep_pre (BW.out _) hS⟩
    have HF := Lib.hid hfin
    clear hfin hA2 hS
    go_wp2_with fail
    go_ret2
    exact HF.out
  · have h1 : (z != 0) = true := by simpa using h0
    go_enter Tryz.func43, Tryz.ntmps43
    go_wp2_with fail
    refine (H1.out _ (HA.out.later (HB.out _))).mono ?_
    rintro e w1 ⟨rfl, b1⟩
    have hfin : Made B O ns w (doc : Int) d (.returned (.tuple #[.int .i64 0, .int .i64 z])) w1 := .inl ⟨by rw [HZ.out]; exact h0, by rw [HZ.out], (HB.out _).trans (b1.mono (by simp))⟩
    have HF := Lib.hid hfin
    clear hfin b1
    go_wp2_with fail
    go_ret2
    exact HF.out
set_option maxRecDepth 100000 in
theorem Text_any (doc : Nat) (l : List UInt8) (w : World) {B : Nat} {O : List Nat} {ns : List Nd} (hA : ArW B O ns w) (hl : ns.length ≤ 1000000) :
    Calls Tryz.prog 11 #[.pointer (some ⟨B, 0, none⟩), .int .i64 (doc : Int), .string ⟨l.toArray⟩] w (Made B O ns w doc { kind := 5, data := l }) := by
  have H1 := Lib.hid (create_any doc { kind := 5, data := l } w hA hl rfl rfl rfl)
  clear hA
  go_enter Tryz.func11, Tryz.ntmps11
  go_wp2_with fail
  refine H1.out.mono ?_
  rintro e w1 hm
  have HM := Lib.hid hm
  obtain ⟨v1, v2, rfl⟩ : ∃ v1 v2, e = .returned (.tuple #[v1, v2]) := by
    rcases hm with ⟨_, rfl, _⟩ | ⟨_, rfl, _⟩ <;> exact ⟨_, _, rfl⟩
  clear hm
  go_wp2_with fail
  go_ret2
  exact HM.out
set_option maxRecDepth 100000 in
theorem Comment_any (doc : Nat) (l : List UInt8) (w : World) {B : Nat} {O : List Nat} {ns : List Nd} (hA : ArW B O ns w) (hl : ns.length ≤ 1000000) :
    Calls Tryz.prog 10 #[.pointer (some ⟨B, 0, none⟩), .int .i64 (doc : Int), .string ⟨l.toArray⟩] w (Made B O ns w doc { kind := 6, data := l }) := by
  have H1 := Lib.hid (create_any doc { kind := 6, data := l } w hA hl rfl rfl rfl)
  clear hA
  go_enter Tryz.func10, Tryz.ntmps10
  go_wp2_with fail
  refine H1.out.mono ?_
  rintro e w1 hm
  have HM := Lib.hid hm
  obtain ⟨v1, v2, rfl⟩ : ∃ v1 v2, e = .returned (.tuple #[v1, v2]) := by
    rcases hm with ⟨_, rfl, _⟩ | ⟨_, rfl, _⟩ <;> exact ⟨_, _, rfl⟩
  clear hm
  go_wp2_with fail
  go_ret2
  exact HM.out
end Go.Proofs.YtdapdadcninidaaGreatDoor
