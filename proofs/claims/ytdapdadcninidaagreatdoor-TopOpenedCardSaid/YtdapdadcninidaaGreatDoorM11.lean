/- arena.line of an element with attributes. Package arena: dump, Dump. No condition but that the tree below the node ends and its nodes' lines can be written. The dump of the chain. Plain. law04.SmallAttrs. The law TopOpened, plainly: what the chain's text is, step by step; its size. What arguments read as: a slice of strings, a slice of attributes. append of attributes that lie anywhere; the row of the new slice. thickettop.TopOpened: what its steps leave. The states that thickettop.known07 goes through: a document, html, a template with its contents, a text in them. Plain. -/
import Derived.Test.YtdapdadcninidaaGreatDoorM10
import Derived.Test.YtdapdadcninidaaGreatDoorM6
import Derived.Test.YtdapdadcninidaaGreatDoorM3
import Derived.Test.YtdapdadcninidaaGreatDoorM1
import Derived.Test.YtdapdadcninidaaGreatDoorM8
import Derived.Test.YtdapdadcninidaaGreatDoorM4
import Derived.SliceStrings
import Derived.Deep.Strs
import Derived.Laws.AppendOwn
import Derived.Laws.AppendOwnNone
import Derived.Deep.AppendLies
set_option linter.unusedSimpArgs false
set_option linter.unusedVariables false
namespace Go.Proofs.YtdapdadcninidaaGreatDoor
open Go.RowKit
attribute [local go_sem ↓] Go.wp_at_zero Go.wp_at_succ
attribute [local go_sem] sapp

set_option maxRecDepth 100000 in
set_option maxHeartbeats 8000000 in
theorem lineE_any (d : Nd) (kv : Value) (w : World) {g o : Nat} {a : Option Addr} {c : Nat} (hnd : NdIs w g o d kv (.slice a d.attrs.length c)) (hk : d.kind = 4) (hs : 0 ≤ d.space ∧ d.space < 100) (hn : d.name.length ≤ 1000000000) (hal : d.attrs.length ≤ 100000) (hao : ∀ y ∈ d.attrs, AttOk y) (hc : AttsAt w a d.attrs) :
    Calls Tryz.prog 94 #[.pointer (some ⟨g, o, none⟩)] w (Ret w (.string ⟨(lineL d).toArray⟩)) := by
  have hL : lineL d = [101, 108, 101, 109, 101, 110, 116, 32] ++ (numL d.space ++ 32 :: (quoteL d.name ++ d.attrs.flatMap attL)) := by simp [lineL, hk]
  have hql := quoteL_le d.name
  have hdl := decDigits_len d.space.toNat (by omega)
  have HI := Lib.hid (fun i (hi : i < 100) w => Tryz.strconv_Itoa_small i hi w)
  have HQ := Lib.hid (fun l w (hl : l.length ≤ 1000000000) => quote_any l w hl)
  rw [hL]
  clear hL
  obtain ⟨si, hsi⟩ : ∃ i : Nat, d.space = (i : Int) := ⟨d.space.toNat, by omega⟩
  have HAO := Lib.hid hao
  have c0 := hnd.c0
  have c4 := hnd.c4
  have c5 := hnd.c5
  have c6 := hnd.c6
  have hgw := World.block_lt_of_cell? _ _ c0
  rw [hk] at c0
  rw [hsi] at c4 hs hdl ⊢
  have hs1 : si < 100 := by omega
  rw [show numL (si : Int) = Lib.decDigits si by simp [numL]]
  simp only [Int.toNat_natCast] at hdl
  have HC := Lib.hid hc
  obtain ⟨nm, hnm⟩ : ∃ nm, d.name = nm := ⟨_, rfl⟩
  obtain ⟨l, hl⟩ : ∃ l, d.attrs = l := ⟨_, rfl⟩
  rw [hnm] at hn hql c5 ⊢
  rw [hl] at hal HC HAO c6 ⊢
  clear hc hao hnm hl hk hsi hnd
  go_enter Tryz.func94, Tryz.ntmps94
  go_wp2_with fail
  refine region_class (Below w.heap.size w) (by kernel_rfl) (by kernel_rfl) (bdrewA (Below.refl _ _)) ?_
  iterate 4
    refine wpQuiet_step (fun K hK => ?_)
    go_simp
    apply Exists.intro
    refine ⟨fun W hW => ?_, hK _ ?_⟩
    · have d4 := (hW.cell (p := ⟨g, o + 4, none⟩) hgw).trans c4
      have d5 := (hW.cell (p := ⟨g, o + 5, none⟩) hgw).trans c5
      first
        | exact ⟨rfl, hW⟩
        | exact rfl
        | (go_simp; exact rfl)
        | (go_simp; exact ⟨rfl, hW⟩)
        | (rw [if_neg (by simp; omega)]; exact ⟨rfl, rfl⟩)
        | (go_simp; rw [if_neg (by simp; omega)]; exact ⟨rfl, rfl⟩)
    clear hK K
  refine wpQuiet_step (fun K hK => ?_)
  go_simp
  apply Exists.intro
  refine ⟨fun W hW => ?_, hK _ ?_⟩
  · refine (HI.out _ hs1 _).mono ?_
    rintro e w1 ⟨rfl, rfl⟩
    exact ⟨rfl, hW⟩
  clear hK K
  iterate 6
    refine wpQuiet_step (fun K hK => ?_)
    go_simp
    apply Exists.intro
    refine ⟨fun W hW => ?_, hK _ ?_⟩
    · have d4 := (hW.cell (p := ⟨g, o + 4, none⟩) hgw).trans c4
      have d5 := (hW.cell (p := ⟨g, o + 5, none⟩) hgw).trans c5
      first
        | exact ⟨rfl, hW⟩
        | exact rfl
        | (go_simp; exact rfl)
        | (go_simp; exact ⟨rfl, hW⟩)
        | (rw [if_neg (by simp; omega)]; exact ⟨rfl, rfl⟩)
        | (go_simp; rw [if_neg (by simp; omega)]; exact ⟨rfl, rfl⟩)
    clear hK K
  refine wpQuiet_step (fun K hK => ?_)
  go_simp
  apply Exists.intro
  refine ⟨fun W hW => ?_, hK _ ?_⟩
  · refine (HQ.out _ _ hn).mono ?_
    rintro e w1 ⟨rfl, b1⟩
    exact ⟨rfl, bthen hW hW.size b1⟩
  clear hK K
  iterate 2
    refine wpQuiet_step (fun K hK => ?_)
    go_simp
    apply Exists.intro
    refine ⟨fun W hW => ?_, hK _ ?_⟩
    · have d4 := (hW.cell (p := ⟨g, o + 4, none⟩) hgw).trans c4
      have d5 := (hW.cell (p := ⟨g, o + 5, none⟩) hgw).trans c5
      first
        | exact ⟨rfl, hW⟩
        | exact rfl
        | (go_simp; exact rfl)
        | (go_simp; exact ⟨rfl, hW⟩)
        | (rw [if_neg (by simp; omega)]; exact ⟨rfl, rfl⟩)
        | (go_simp; rw [if_neg (by simp; omega)]; exact ⟨rfl, rfl⟩)
    clear hK K
  refine wpQuiet_nil ?_
  intro W1 hW1
  have HT : Hid (∀ k (h : k < l.length), (l.take (k + 1)).flatMap attL = (l.take k).flatMap attL ++ attL l[k]) := Lib.hid (fun k h => by
    rw [List.take_succ_eq_append_getElem h, List.flatMap_append, List.flatMap_cons, List.flatMap_nil, List.append_nil])
  have HZ : Hid (∀ k, k ≤ l.length → ((l.take k).flatMap attL).length ≤ 5000 * k) := Lib.hid (fun k hk => by
    have := attsL_le (l := l.take k) (fun y hy => HAO.out y (List.mem_of_mem_take hy))
    rwa [List.length_take_of_le hk] at this)
  have HE : Hid ((l.take l.length).flatMap attL = l.flatMap attL) := Lib.hid (by rw [List.take_length])
  rw [← HE.out]
  clear HE
  obtain ⟨pre, hpre⟩ : ∃ pre : List UInt8, [101, 108, 101, 109, 101, 110, 116, 32] ++ (Lib.decDigits si ++ 32 :: quoteL nm) = pre := ⟨_, rfl⟩
  have hpl : pre.length ≤ 2000010000 := by rw [← hpre]; simp; omega
  have HPR := Lib.hid hpre
  have d6 := (hW1.cell (p := ⟨g, o + 6, none⟩) hgw).trans c6
  have HB1 := Lib.hid hW1
  clear hpre hW1
  go_wp2_with fail
  go_loopw [3, 5, 79] (fun s3 _ s79 wr => ∃ k : Nat, k ≤ l.length ∧ s79 = .int .i64 k ∧ s3 = .string ⟨(pre ++ (l.take k).flatMap attL).toArray⟩ ∧ Below w.heap.size w wr) (fun _ _ s79 _ => l.length - (intOf s79).toNat)
  case atStart => exact ⟨0, Nat.zero_le _, rfl, by rw [← HPR.out]; simp, HB1.out⟩
  case round =>
    obtain ⟨k, hk, rfl, rfl, hb⟩ := hrel
    have hzk := HZ.out k hk
    have HB := Lib.hid hb
    by_cases hlt : k < l.length
    · obtain ⟨ga, rfl, e0, e1, e2⟩ := (HC.out.later hb) k l[k] (List.getElem?_eq_getElem hlt)
      have HN := Lib.hid (HT.out k hlt)
      obtain ⟨out, hout⟩ : ∃ out, (l.take k).flatMap attL = out := ⟨_, rfl⟩
      rw [hout] at HN hzk ⊢
      clear hout
      obtain ⟨zsp, znm, zvl⟩ := HAO.out l[k] (List.getElem_mem hlt)
      obtain ⟨z, hz⟩ : ∃ z, l[k] = z := ⟨_, rfl⟩
      rw [hz] at e0 e1 e2 HN zsp znm zvl
      clear hb hz
      obtain ⟨zs, zn, zv⟩ := z
      dsimp only at e0 e1 e2 zsp znm zvl
      obtain ⟨zi, rfl⟩ : ∃ i : Nat, zs = (i : Int) := ⟨zs.toNat, by omega⟩
      have hq1 := quoteL_le zn
      have hq2 := quoteL_le zv
      have hzd := decDigits_len zi (by omega)
      have hzi : zi < 100 := by omega
      have hki : (k : Int) < (l.length : Int) := by omega
      go_wp2_with fail
      generalize hW2 : wr.alloc _ = W2
      have hb2 : Below wr.heap.size wr W2 := by rw [← hW2]; exact balloc wr _
      have hx2 := World.alloc_heap_new wr (.cells #[.int .i64 (zi : Int), .string ⟨zn.toArray⟩, .string ⟨zv.toArray⟩] 121)
      rw [hW2] at hx2
      have f0 : W2.cell? ⟨wr.heap.size, 0, none⟩ = some (.int .i64 (zi : Int)) := by rw [cell_of_row _ _ _ _ _ _ hx2]; rfl
      have f1 : W2.cell? ⟨wr.heap.size, 1, none⟩ = some (.string ⟨zn.toArray⟩) := by rw [cell_of_row _ _ _ _ _ _ hx2]; rfl
      have f2 : W2.cell? ⟨wr.heap.size, 2, none⟩ = some (.string ⟨zv.toArray⟩) := by rw [cell_of_row _ _ _ _ _ _ hx2]; rfl
      have hxw := World.block_lt_of_cell? _ _ f0
      have HB2 := Lib.hid (bthen HB.out HB.out.size hb2)
      clear hx2 hb2 hW2 e0 e1 e2
      refine region_class (Below W2.heap.size W2) (by kernel_rfl) (by kernel_rfl) (bdrewA (Below.refl _ _)) ?_
      iterate 3
        refine wpQuiet_step (fun K hK => ?_)
        go_simp
        apply Exists.intro
        refine ⟨fun W hW => ?_, hK _ ?_⟩
        · have p0 := (hW.cell (p := ⟨wr.heap.size, 0, none⟩) hxw).trans f0
          have p1 := (hW.cell (p := ⟨wr.heap.size, 1, none⟩) hxw).trans f1
          have p2 := (hW.cell (p := ⟨wr.heap.size, 2, none⟩) hxw).trans f2
          first
            | exact ⟨rfl, hW⟩
            | exact rfl
            | (go_simp; exact rfl)
            | (go_simp; exact ⟨rfl, hW⟩)
            | (rw [if_neg (by simp; omega)]; exact ⟨rfl, rfl⟩)
            | (go_simp; rw [if_neg (by simp; omega)]; exact ⟨rfl, rfl⟩)
        clear hK K
      refine wpQuiet_step (fun K hK => ?_)
      go_simp
      apply Exists.intro
      refine ⟨fun W hW => ?_, hK _ ?_⟩
      · refine (HI.out _ hzi _).mono ?_
        rintro e w1 ⟨rfl, rfl⟩
        exact ⟨rfl, hW⟩
      clear hK K
      iterate 4
        refine wpQuiet_step (fun K hK => ?_)
        go_simp
        apply Exists.intro
        refine ⟨fun W hW => ?_, hK _ ?_⟩
        · have p0 := (hW.cell (p := ⟨wr.heap.size, 0, none⟩) hxw).trans f0
          have p1 := (hW.cell (p := ⟨wr.heap.size, 1, none⟩) hxw).trans f1
          have p2 := (hW.cell (p := ⟨wr.heap.size, 2, none⟩) hxw).trans f2
          first
            | exact ⟨rfl, hW⟩
            | exact rfl
            | (go_simp; exact rfl)
            | (go_simp; exact ⟨rfl, hW⟩)
            | (rw [if_neg (by simp; omega)]; exact ⟨rfl, rfl⟩)
            | (go_simp; rw [if_neg (by simp; omega)]; exact ⟨rfl, rfl⟩)
        clear hK K
      refine wpQuiet_step (fun K hK => ?_)
      go_simp
      apply Exists.intro
      refine ⟨fun W hW => ?_, hK _ ?_⟩
      · refine (HQ.out _ _ (by omega)).mono ?_
        rintro e w1 ⟨rfl, b1⟩
        exact ⟨rfl, bthen hW hW.size b1⟩
      clear hK K
      iterate 4
        refine wpQuiet_step (fun K hK => ?_)
        go_simp
        apply Exists.intro
        refine ⟨fun W hW => ?_, hK _ ?_⟩
        · have p0 := (hW.cell (p := ⟨wr.heap.size, 0, none⟩) hxw).trans f0
          have p1 := (hW.cell (p := ⟨wr.heap.size, 1, none⟩) hxw).trans f1
          have p2 := (hW.cell (p := ⟨wr.heap.size, 2, none⟩) hxw).trans f2
          first
            | exact ⟨rfl, hW⟩
            | exact rfl
            | (go_simp; exact rfl)
            | (go_simp; exact ⟨rfl, hW⟩)
            | (rw [if_neg (by simp; omega)]; exact ⟨rfl, rfl⟩)
            | (go_simp; rw [if_neg (by simp; omega)]; exact ⟨rfl, rfl⟩)
        clear hK K
      refine wpQuiet_step (fun K hK => ?_)
      go_simp
      apply Exists.intro
      refine ⟨fun W hW => ?_, hK _ ?_⟩
      · refine (HQ.out _ _ (by omega)).mono ?_
        rintro e w1 ⟨rfl, b1⟩
        exact ⟨rfl, bthen hW hW.size b1⟩
      clear hK K
      iterate 3
        refine wpQuiet_step (fun K hK => ?_)
        go_simp
        apply Exists.intro
        refine ⟨fun W hW => ?_, hK _ ?_⟩
        · have p0 := (hW.cell (p := ⟨wr.heap.size, 0, none⟩) hxw).trans f0
          have p1 := (hW.cell (p := ⟨wr.heap.size, 1, none⟩) hxw).trans f1
          have p2 := (hW.cell (p := ⟨wr.heap.size, 2, none⟩) hxw).trans f2
          first
            | exact ⟨rfl, hW⟩
            | exact rfl
            | (go_simp; exact rfl)
            | (go_simp; exact ⟨rfl, hW⟩)
            | (rw [if_neg (by simp; omega)]; exact ⟨rfl, rfl⟩)
            | (go_simp; rw [if_neg (by simp; omega)]; exact ⟨rfl, rfl⟩)
        clear hK K
      refine wpQuiet_nil ?_
      intro W3 hW3
      have HB3 := Lib.hid (bthen HB2.out HB2.out.size hW3)
      clear hW3
      go_wp2_with fail
      go_roundw
      case rel => exact ⟨k + 1, by omega, by go_num, by rw [HN.out]; simp [attL, numL], HB3.out⟩
      case measure => simp [intOf]; omega
    · obtain rfl : k = l.length := by omega
      go_wp2_with fail
      go_ret
      exact Ret.mk (by rw [← HPR.out]; simp) HB.out
/-- An element whose attributes are short. -/
structure LineE (d : Nd) : Prop where
  kd : d.kind = 4
  sp : 0 ≤ d.space ∧ d.space < 100
  nm : d.name.length ≤ 1000000000
  al : d.attrs.length ≤ 100000
  ao : ∀ y ∈ d.attrs, AttOk y
/-- What line leans on: either. -/
def LineP (d : Nd) : Prop := LineOk d ∨ LineE d
theorem lineP_any (d : Nd) (kv av : Value) (w : World) {g o : Nat} (hn : NdIs w g o d kv av) (hav : w.ownsRow 0 121 3 av d.attrs.length (attCells d.attrs)) (hd : LineP d) :
    Calls Tryz.prog 94 #[.pointer (some ⟨g, o, none⟩)] w (Ret w (.string ⟨(lineL d).toArray⟩)) := by
  rcases hd with hd | hd
  · exact line_any d kv av w hn (ownsRow_slice hav) hd
  · obtain ⟨a, c, rfl⟩ := ownsRow_slice hav
    exact lineE_any d kv w hn hd.kd hd.sp hd.nm hd.al hd.ao (AttsAt.own hav)
end Go.Proofs.YtdapdadcninidaaGreatDoor
namespace Go.Proofs.YtdapdadcninidaaGreatDoor
open Go.RowKit
attribute [local go_sem ↓] Go.wp_at_zero Go.wp_at_succ

theorem NdIs.mod {S : Nat → Prop} {w w' : World} {g o : Nat} {d : Nd} {kv av : Value} (h : NdIs w g o d kv av) (hm : Mod S w w') (hg : ¬ S g) : NdIs w' g o d kv av := by
  have hl := World.block_lt_of_cell? _ _ h.c0
  have c : ∀ j, w'.cell? ⟨g, j, none⟩ = w.cell? ⟨g, j, none⟩ := fun j => hm.cell (p := ⟨g, j, none⟩) hl hg
  have f : ∀ j, w'.frozen? ⟨g, j, none⟩ = w.frozen? ⟨g, j, none⟩ := fun j => hm.frozen (p := ⟨g, j, none⟩) hl hg
  exact ⟨(c _).trans h.c0, (c _).trans h.c1, (c _).trans h.c2, (c _).trans h.c3, (c _).trans h.c4, (c _).trans h.c5, (c _).trans h.c6, (c _).trans h.c7, (c _).trans h.c8, (c _).trans h.c9, (c _).trans h.c10, (c _).trans h.c11, (c _).trans h.c12, fun j hj => (f _).trans (h.fz j hj)⟩
/-- A node, and that its blocks are the arena's own. -/
theorem ArW.nodeX {w : World} {B : AB} {O : List Nat} {ns : List Nd} {h : Int} (hA : ArW B O ns w) (hh : isH ns.length h = true) :
    ∃ g cap kv av i, h = ((i + 1 : Nat) : Int) ∧ i < ns.length ∧ w.cell? ⟨B, 0, none⟩ = some (.slice (some ⟨g, 0, none⟩) ns.length cap) ∧ NdIs w g (i * 13) (ndAt ns h) kv av ∧ g ∈ O ∧ B.blk ∈ O ∧ (∀ k, kv.ownBlock = some k → k ∈ O) ∧
      w.ownsRow 0 3 1 kv (ndAt ns h).kids.length (kidCells (ndAt ns h).kids) ∧ w.ownsRow 0 121 3 av (ndAt ns h).attrs.length (attCells (ndAt ns h).attrs) ∧ (∀ k, av.ownBlock = some k → k ∈ O) := by
  obtain ⟨i, hi, rfl⟩ := isH_iff.1 hh
  have hx := List.getElem?_eq_getElem hi
  rw [ndAt_at hx]
  obtain ⟨tab, L, h1, h2, h3⟩ := hA
  subst h3
  rw [List.getElem?_map] at hx
  obtain ⟨x, hy, hxe⟩ := Option.map_eq_some_iff.1 hx
  obtain ⟨g, cap, ht, _, _, hn⟩ := h1.node hy
  have hm := List.mem_of_getElem? hy
  rw [hxe] at hn
  refine ⟨g, cap, x.kv, x.av, i, rfl, hi, by rw [List.length_map, ← ht]; exact h1.c0, hn, ?_, ?_, fun k hk => ?_, ?_, ?_, fun k hk => ?_⟩
  · rw [← h2]; exact mem_blocks.2 (.inr (.inl (by rw [ht]; rfl)))
  · rw [← h2]; exact mem_blocks.2 (.inl rfl)
  · rw [← h2]; exact mem_blocks.2 (.inr (.inr ⟨x, hm, .inl hk⟩))
  · rw [← hxe]; exact h1.kid x hm
  · rw [← hxe]; exact h1.att x hm
  · rw [← h2]; exact mem_blocks.2 (.inr (.inr ⟨x, hm, .inr hk⟩))
def indL (dp : Nat) : List UInt8 := Lib.repeatL [32, 32] dp
/-- The nodes right below a node: its contents, its children. -/
def downs (d : Nd) : List Nat := (if d.contents = 0 then [] else [d.contents]) ++ d.kids
/-- The dump of these nodes, at this depth. -/
inductive DumpT (ns : List Nd) : Nat → List Nat → List UInt8 → Prop
  | nil (dp : Nat) : DumpT ns dp [] []
  | cons {dp k : Nat} {ks : List Nat} {t1 t2 : List UInt8} : dp ≤ 1000000 → isH ns.length k = true → LineP (ndAt ns k) → DumpT ns (dp + 1) (downs (ndAt ns k)) t1 → DumpT ns dp ks t2 →
      DumpT ns dp (k :: ks) (indL dp ++ (lineL (ndAt ns k) ++ 10 :: t1) ++ t2)
/-- What dump leans on: the arena, and a builder behind it. -/
structure DmpC (B : AB) (O : List Nat) (ns : List Nd) (R b : Nat) (bs : List Value) (w : World) : Prop where
  ar : ArW B O ns w
  lo : ∀ k ∈ O, k < b
  bl : Bld R b bs w
  br : b < R
  rs : R ≤ w.heap.size
theorem DmpC.next {B : AB} {O : List Nat} {ns : List Nd} {R b : Nat} {bs bs' : List Value} {w w' : World} (h : DmpC B O ns R b bs w) (hm : Mod (BlS R b) w w') (hb : Bld R b bs' w') : DmpC B O ns R b bs' w' := by
  obtain ⟨h1, h2, h3, h4, h5⟩ := h
  exact ⟨h1.kept hm fun k hk hS => by
    have := h2 k hk
    rcases hS with rfl | hS
    · omega
    · omega, h2, hb, h4, Nat.le_trans h5 hm.size⟩
theorem DmpC.later {B : AB} {O : List Nat} {ns : List Nd} {R b : Nat} {bs : List Value} {w w' : World} (h : DmpC B O ns R b bs w) (hb : Below w.heap.size w w') : DmpC B O ns R b bs w' :=
  h.next (Mod.of_below hb) (h.bl.kept fun k hk _ => hb.block k hk)
theorem DmpC.wrote {B : AB} {O : List Nat} {ns : List Nd} {R b : Nat} {bs bs' : List Value} {v : Value} {e : Ending} {w w' : World} (h : DmpC B O ns R b bs w) (hr : RetB R b w v bs' e w') : DmpC B O ns R b bs' w' ∧ Mod (BlS R b) w w' :=
  have hm := h.bl.mod hr.2.2
  ⟨h.next hm (.inr hr.2.1), hm⟩
def DmpQ (R b : Nat) (bs : List Value) (t : List UInt8) (w : World) (e : Ending) (w' : World) : Prop := e = .returned (.tuple #[]) ∧ Bld R b (bs ++ Lib.byteCells t) w' ∧ Mod (BlS R b) w w'
/-- The contract of dump at a node, where this is its text. -/
def DmpAt (B : AB) (O : List Nat) (ns : List Nd) (R b dp k : Nat) (t : List UInt8) : Prop := ∀ (bs : List Value) (w : World), DmpC B O ns R b bs w → bs.length + t.length ≤ 100000000000 →
  Calls Tryz.prog 50 #[.pointer (some ⟨B, 0, none⟩), .pointer (some ⟨b, 0, none⟩), .int .i64 (k : Int), .int .i64 (dp : Int)] w (DmpQ R b bs t w)
theorem row_some {w : World} {ka : Option Addr} {n kc : Nat} {xs : List Value} (h : w.ownsRow 0 3 1 (.slice ka n kc) n xs) (hn : 0 < n) : ∃ gk, ka = some ⟨gk, 0, none⟩ := by
  rcases row_cells h with ⟨_, h0, _⟩ | ⟨gk, cap, cur, hv, _⟩
  · omega
  · cases hv; exact ⟨gk, rfl⟩
theorem flat_take (ps : List (List UInt8)) (i : Nat) (hi : i < ps.length) : (ps.take i).flatten.length + ps[i].length ≤ ps.flatten.length := by
  have h : ((ps.take (i + 1)) ++ ps.drop (i + 1)).flatten.length = ps.flatten.length := by rw [List.take_append_drop]
  rw [List.take_succ_eq_append_getElem hi, List.flatten_append, List.flatten_append, List.length_append, List.length_append] at h
  simp at h ⊢
  omega
set_option maxRecDepth 100000 in
set_option maxHeartbeats 4000000 in
theorem dump_step {B : AB} {R b dp k : Nat} {O : List Nat} {ns : List Nd} (ps : List (List UInt8)) (hl : ns.length ≤ 1000000) (hdp : dp ≤ 1000000) (hk : isH ns.length k = true) (hln : LineP (ndAt ns k)) (hpl : ps.length = (downs (ndAt ns k)).length)
    (IH : ∀ (j c : Nat) (p : List UInt8), (downs (ndAt ns k))[j]? = some c → ps[j]? = some p → DmpAt B O ns R b (dp + 1) c p) (hkl : (ndAt ns k).kids.length ≤ 1000000) :
    DmpAt B O ns R b dp k (indL dp ++ (lineL (ndAt ns k) ++ 10 :: ps.flatten)) := by
  intro bs w hC hlen
  obtain ⟨g, cap, kv, av, i, hki, hi, c0, hn, hgO, hBO, hkvO, hkr, hav, havO⟩ := hC.ar.nodeX hk
  have hlo := hC.lo
  have hgb := hlo g hgO
  have hBb := hlo B hBO
  have hbR := hC.br
  have H1 := Lib.hid (fun w' (hw : w'.cell? ⟨B, 0, none⟩ = w.cell? ⟨B, 0, none⟩) => at_any i w' (hw.trans c0) hi (by omega))
  have H2 := Lib.hid (fun w' => Tryz.strings_Repeat ⟨#[32, 32]⟩ dp w' (by omega) (by show 2 * dp ≤ _; omega))
  have hS : ¬ BlS R b g := by rintro (h | h) <;> omega
  have hSB : ¬ BlS R b B := by rintro (h | h) <;> omega
  have hSk : ∀ k, kv.ownBlock = some k → ¬ BlS R b k := fun k hk => by have := hlo k (hkvO k hk); rintro (h | h) <;> omega
  have hSa : ∀ k, av.ownBlock = some k → ¬ BlS R b k := fun k hk => by have := hlo k (havO k hk); rintro (h | h) <;> omega
  obtain ⟨I, hI⟩ : ∃ I, indL dp = I := ⟨_, rfl⟩
  obtain ⟨L, hL⟩ : ∃ L, lineL (ndAt ns k) = L := ⟨_, rfl⟩
  have H3 := Lib.hid (fun kv' av' w' (h : NdIs w' g (i * 13) (ndAt ns k) kv' av') h2 => hL ▸ lineP_any (ndAt ns k) kv' av' w' h h2 hln)
  rw [show Lib.repeatL (⟨#[32, 32]⟩ : ByteArray).data.toList dp = I from hI] at H2
  rw [hI, hL] at hlen ⊢
  simp only [List.length_append, List.length_cons] at hlen
  clear hI hL
  have hdpi : (dp : Int) ≤ 1000000 := by omega
  obtain ⟨d, hd⟩ : ∃ d, ndAt ns k = d := ⟨_, rfl⟩
  rw [hd] at hn hkr hav H3 hpl IH hkl
  obtain ⟨ka, kc, rfl⟩ := ownsRow_slice hkr
  replace IH : ∀ (j c : Nat) (p : List UInt8), (downs d)[j]? = some c → ps[j]? = some p → ∀ (bs : List Value) (w : World), DmpC B O ns R b bs w → bs.length + p.length ≤ 100000000000 →
      Calls Tryz.prog 50 #[.pointer (some ⟨B, 0, none⟩), .pointer (some ⟨b, 0, none⟩), .int .i64 (c : Int), .int .i64 ((dp : Int) + 1)] w (DmpQ R b bs p w) := fun j c p h1 h2 bs w h3 h4 => by
    have := IH j c p h1 h2 bs w h3 h4
    rwa [show ((dp + 1 : Nat) : Int) = (dp : Int) + 1 by omega] at this
  have HC := Lib.hid hC; have HN := Lib.hid hn; have HKR := Lib.hid hkr; have HAV := Lib.hid hav; have HIH := Lib.hid IH; have HPL := Lib.hid hpl
  clear hC hn hkr hav hd c0 hlo hkvO hgO hBO hk IH hpl
  rw [← hki] at H1
  have HS := Lib.hid hS; have HSB := Lib.hid hSB; have HSK := Lib.hid hSk; have HSA := Lib.hid hSa
  clear hki hS hSB hSk hSa havO hi hl hdp hln
  go_enter Tryz.func50, Tryz.ntmps50
  go_wp2_with fail
  refine (H1.out w rfl).mono ?_
  rintro e w1 ⟨rfl, rfl⟩
  go_wp2_with fail
  refine (H2.out w).mono ?_
  rintro e w1 ⟨rfl, b1⟩
  have C1 := Lib.hid (HC.out.later b1)
  have M1 := Lib.hid (Mod.of_below (S := BlS R b) b1)
  clear b1
  go_wp2_with fail
  refine (WriteString_bld R b bs I w1 C1.out.bl C1.out.rs (by omega)).mono ?_
  rintro e w2 hr
  obtain ⟨hC2, hM2⟩ := C1.out.wrote hr
  obtain ⟨rfl, -, -⟩ := hr
  have C2 := Lib.hid hC2; have M2 := Lib.hid (M1.out.trans hM2)
  clear hC2 hM2 C1 M1
  go_wp2_with fail
  refine (H3.out _ _ w2 (HN.out.mod M2.out HS.out) (ownsRow_mod HAV.out M2.out HSA.out)).mono ?_
  rintro e w3 ⟨rfl, b3⟩
  have C3 := Lib.hid (C2.out.later b3)
  have M3 := Lib.hid (M2.out.trans (Mod.of_below (S := BlS R b) b3))
  clear b3 C2 M2
  go_wp2_with fail
  refine (WriteString_bld R b _ L w3 C3.out.bl C3.out.rs (by rw [List.length_append, Lib.byteCells_length]; omega)).mono ?_
  rintro e w4 hr
  obtain ⟨hC4, hM4⟩ := C3.out.wrote hr
  obtain ⟨rfl, -, -⟩ := hr
  have C4 := Lib.hid hC4; have M4 := Lib.hid (M3.out.trans hM4)
  clear hC4 hM4 C3 M3
  go_wp2_with fail
  refine (WriteByte_bld R b _ 10 w4 C4.out.bl C4.out.rs (by rw [List.length_append, List.length_append, Lib.byteCells_length, Lib.byteCells_length]; omega)).mono ?_
  rintro e w5 hr
  obtain ⟨hC5, hM5⟩ := C4.out.wrote hr
  obtain ⟨rfl, -, -⟩ := hr
  have C5 := Lib.hid hC5; have M5 := Lib.hid (M4.out.trans hM5)
  clear hC5 hM5 C4 M4
  have hN5 := HN.out.mod M5.out HS.out
  have c11 := hN5.c11
  have c2 := hN5.c2
  clear hN5
  by_cases hc0 : d.contents = 0
  · have HC00 := Lib.hid hc0
    rw [hc0] at c11
    clear hc0
    go_wp2_with fail
    go_loopw [48] (fun s48 wr => ∃ j : Nat, j ≤ d.kids.length ∧ s48 = .int .i64 (j : Nat) ∧ DmpC B O ns R b (bs ++ Lib.byteCells (I ++ (L ++ 10 :: (ps.take (0 + j)).flatten))) wr ∧ Mod (BlS R b) w wr) (fun i _ => d.kids.length - (intOf i).toNat)
    case atStart => exact ⟨0, Nat.zero_le _, rfl, by simpa [Lib.byteCells, List.append_assoc] using C5.out, M5.out⟩
    case round =>
      obtain ⟨j, hj, rfl, hC6, hM6⟩ := hrel
      have C6 := Lib.hid hC6; have M6 := Lib.hid hM6
      clear hC6 hM6
      by_cases hlt : j < d.kids.length
      · obtain ⟨gk, hka⟩ := row_some HKR.out (by omega)
        subst hka
        have hcell := row_at (ownsRow_mod HKR.out M6.out HSK.out) j (natV d.kids[j]) (by simp [kidCells, hlt])
        have hdj : (downs d)[0 + j]? = some d.kids[j] := by rw [Nat.add_comm]; simp [downs, HC00.out, hlt]
        have hpj : 0 + j < ps.length := by rw [HPL.out]; simp [downs, HC00.out]; omega
        have H7 := HIH.out (0 + j) _ ps[0 + j] hdj (List.getElem?_eq_getElem hpj) _ wr C6.out (by
          have := flat_take ps (0 + j) hpj
          simp only [List.length_append, List.length_cons, Lib.byteCells_length]
          omega)
        have htk : Hid ((ps.take (0 + (j + 1))).flatten = (ps.take (0 + j)).flatten ++ ps[0 + j]) := Lib.hid (by rw [show 0 + (j + 1) = 0 + j + 1 by omega, List.take_succ_eq_append_getElem hpj, List.flatten_append]; simp)
        obtain ⟨p, hp⟩ : ∃ p, ps[0 + j] = p := ⟨_, rfl⟩
        rw [hp] at H7 htk
        obtain ⟨c, hc⟩ : ∃ c, d.kids[j] = c := ⟨_, rfl⟩
        rw [hc] at H7 hcell
        have H7 := Lib.hid H7
        have hji : (j : Int) < (d.kids.length : Int) := by omega
        clear hdj hpj hp hc
        go_wp2_with fail
        refine H7.out.mono ?_
        rintro e w7 ⟨rfl, hb7, hm7⟩
        have C7 := Lib.hid (C6.out.next hm7 hb7)
        have M7 := Lib.hid (M6.out.trans hm7)
        clear hb7 hm7
        go_wp2
        go_roundw
        case rel => exact ⟨j + 1, by omega, by go_num, by
          have := C7.out
          rw [htk.out]
          simpa [Lib.byteCells, List.append_assoc] using this, M7.out⟩
        case measure => simp [intOf]; omega
      · have hje : j = d.kids.length := by omega
        subst hje
        have hfull : ps.take (0 + d.kids.length) = ps := List.take_of_length_le (by rw [HPL.out]; simp [downs, HC00.out]; try omega)
        rw [hfull] at C6
        clear hfull
        go_wp2
        go_end0
        exact ⟨rfl, C6.out.bl, M6.out⟩
  · have HC00 := Lib.hid hc0
    have hcz : ((d.contents : Int) != 0) = true := by simpa using hc0
    have hd0 : (downs d)[0]? = some d.contents := by simp [downs, hc0]
    have hp0 : 0 < ps.length := by rw [HPL.out]; simp [downs, hc0]
    have H6 := HIH.out 0 _ ps[0] hd0 (List.getElem?_eq_getElem hp0) _ w5 C5.out (by
      have := flat_take ps 0 hp0
      simp only [List.length_append, Lib.byteCells_length, List.length_cons, List.length_nil]
      omega)
    have htk0 : Hid ((ps.take (1 + 0)).flatten = ps[0]) := Lib.hid (by rw [show 1 + 0 = 0 + 1 from rfl, List.take_succ_eq_append_getElem hp0]; simp)
    obtain ⟨p, hp⟩ : ∃ p, ps[0] = p := ⟨_, rfl⟩
    rw [hp] at H6 htk0
    replace H6 := Lib.hid H6
    clear hd0 hp0 hp hc0
    go_wp2_with fail
    refine H6.out.mono ?_
    rintro e w6 ⟨rfl, hb6, hm6⟩
    have C6' := Lib.hid (C5.out.next hm6 hb6)
    have M6' := Lib.hid (M5.out.trans hm6)
    have hN6 := HN.out.mod M6'.out HS.out
    have d2 := hN6.c2
    clear hN6 hb6 hm6 C5 M5 c2 c11
    go_wp2_with fail
    go_loopw [48] (fun s48 wr => ∃ j : Nat, j ≤ d.kids.length ∧ s48 = .int .i64 (j : Nat) ∧ DmpC B O ns R b (bs ++ Lib.byteCells (I ++ (L ++ 10 :: (ps.take (1 + j)).flatten))) wr ∧ Mod (BlS R b) w wr) (fun i _ => d.kids.length - (intOf i).toNat)
    case atStart => exact ⟨0, Nat.zero_le _, rfl, by rw [htk0.out]; simpa [Lib.byteCells, List.append_assoc] using C6'.out, M6'.out⟩
    case round =>
      obtain ⟨j, hj, rfl, hC6, hM6⟩ := hrel
      have C6 := Lib.hid hC6; have M6 := Lib.hid hM6
      clear hC6 hM6
      by_cases hlt : j < d.kids.length
      · obtain ⟨gk, hka⟩ := row_some HKR.out (by omega)
        subst hka
        have hcell := row_at (ownsRow_mod HKR.out M6.out HSK.out) j (natV d.kids[j]) (by simp [kidCells, hlt])
        have hdj : (downs d)[1 + j]? = some d.kids[j] := by rw [Nat.add_comm]; simp [downs, HC00.out, hlt]
        have hpj : 1 + j < ps.length := by rw [HPL.out]; simp [downs, HC00.out]; omega
        have H7 := HIH.out (1 + j) _ ps[1 + j] hdj (List.getElem?_eq_getElem hpj) _ wr C6.out (by
          have := flat_take ps (1 + j) hpj
          simp only [List.length_append, List.length_cons, Lib.byteCells_length]
          omega)
        have htk : Hid ((ps.take (1 + (j + 1))).flatten = (ps.take (1 + j)).flatten ++ ps[1 + j]) := Lib.hid (by rw [show 1 + (j + 1) = 1 + j + 1 by omega, List.take_succ_eq_append_getElem hpj, List.flatten_append]; simp)
        obtain ⟨p, hp⟩ : ∃ p, ps[1 + j] = p := ⟨_, rfl⟩
        rw [hp] at H7 htk
        obtain ⟨c, hc⟩ : ∃ c, d.kids[j] = c := ⟨_, rfl⟩
        rw [hc] at H7 hcell
        have H7 := Lib.hid H7
        have hji : (j : Int) < (d.kids.length : Int) := by omega
        clear hdj hpj hp hc
        go_wp2_with fail
        refine H7.out.mono ?_
        rintro e w7 ⟨rfl, hb7, hm7⟩
        have C7 := Lib.hid (C6.out.next hm7 hb7)
        have M7 := Lib.hid (M6.out.trans hm7)
        clear hb7 hm7
        go_wp2
        go_roundw
        case rel => exact ⟨j + 1, by omega, by go_num, by
          have := C7.out
          rw [htk.out]
          simpa [Lib.byteCells, List.append_assoc] using this, M7.out⟩
        case measure => simp [intOf]; omega
      · have hje : j = d.kids.length := by omega
        subst hje
        have hfull : ps.take (1 + d.kids.length) = ps := List.take_of_length_le (by rw [HPL.out]; simp [downs, HC00.out]; try omega)
        rw [hfull] at C6
        clear hfull
        go_wp2
        go_end0
        exact ⟨rfl, C6.out.bl, M6.out⟩
theorem dump_all {B : AB} {R b : Nat} {O : List Nat} {ns : List Nd} (hl : ns.length ≤ 1000000) (hkl : ∀ k : Int, (ndAt ns k).kids.length ≤ 1000000) {dp : Nat} {ks : List Nat} {t : List UInt8} (h : DumpT ns dp ks t) :
    ∃ ps : List (List UInt8), ps.length = ks.length ∧ t = ps.flatten ∧ ∀ (j c : Nat) (p : List UInt8), ks[j]? = some c → ps[j]? = some p → DmpAt B O ns R b dp c p := by
  induction h with
  | nil dp => exact ⟨[], rfl, rfl, fun j c p h _ => by simp at h⟩
  | @cons dp k ks t1 t2 hdp hk hln _ _ ih1 ih2 =>
    obtain ⟨ps1, e1, f1, g1⟩ := ih1
    obtain ⟨ps2, e2, f2, g2⟩ := ih2
    refine ⟨(indL dp ++ (lineL (ndAt ns k) ++ 10 :: t1)) :: ps2, by simp [e2], by simp [f2], fun j c p h1 h2 => ?_⟩
    match j, h1, h2 with
    | 0, h1, h2 =>
      simp at h1 h2
      subst h1
      subst h2
      subst f1
      exact dump_step ps1 hl hdp hk hln e1 g1 (hkl k)
    | j + 1, h1, h2 => exact g2 j c p (by simpa using h1) (by simpa using h2)
set_option maxRecDepth 100000 in
set_option maxHeartbeats 1000000 in
/-- Dump, at a node whose dump is t. -/
theorem Dump_any (h : Nat) (t : List UInt8) (w : World) {B : AB} {O : List Nat} {ns : List Nd} (hA : ArW B O ns w) (hl : ns.length ≤ 1000000) (hkl : ∀ k : Int, (ndAt ns k).kids.length ≤ 1000000) (hh : isH ns.length h = true) (hT : DumpT ns 0 [h] t) (htl : t.length ≤ 1000000000) :
    Calls Tryz.prog 13 #[.pointer (some ⟨B, 0, none⟩), .int .i64 (h : Int)] w (Ret w (.string ⟨t.toArray⟩)) := by
  obtain ⟨W0, hW0⟩ : ∃ W0, w.alloc (.cells #[.pointer none, .slice none 0 0] 112) = W0 := ⟨_, rfl⟩
  have b0 : Below w.heap.size w W0 := by rw [← hW0]; exact balloc w _
  have hbx : W0.heap[w.heap.size]? = some (.cells #[.pointer none, .slice none 0 0] 112 (0, 0)) := by rw [← hW0]; exact World.alloc_heap_new w _
  have hsz : W0.heap.size = w.heap.size + 1 := by rw [← hW0]; simp
  have hC : DmpC B O ns (w.heap.size + 1) w.heap.size [] W0 := ⟨hA.later b0, fun k hk => hA.lt hk, Bld.fresh hbx (Nat.lt_succ_self _), Nat.lt_succ_self _, by omega⟩
  obtain ⟨ps, e1, e2, e3⟩ := dump_all (B := B) (R := w.heap.size + 1) (b := w.heap.size) (O := O) hl hkl hT
  obtain ⟨p, rfl⟩ : ∃ p, ps = [p] := by
    match ps, e1 with
    | [p], _ => exact ⟨p, rfl⟩
  replace e2 : t = p := by simpa using e2
  subst e2
  have H2 := Lib.hid (e3 0 h t rfl rfl [] W0 hC (by simp; omega))
  have H1 := isH_any h w hA
  rw [hh] at H1
  replace H1 := Lib.hid H1
  have HSZ := Lib.hid hsz
  have HW := Lib.hid hW0; have HB0 := Lib.hid b0
  clear hsz hC hbx b0 hW0 e3 hA hT hh e1 hkl htl hl
  go_enter Tryz.func13, Tryz.ntmps13
  go_wp2_with fail
  refine H1.out.mono ?_
  rintro e w1 ⟨rfl, rfl⟩
  go_wp2_with fail
  rw [HW.out]
  refine H2.out.mono ?_
  rintro e w2 ⟨rfl, hb2, hm2⟩
  have H3 := Lib.hid (String_bld _ _ t w2 (by simpa using hb2))
  have HM := Lib.hid hm2
  clear hb2 hm2
  go_wp2_with fail
  refine H3.out.mono ?_
  rintro e w3 ⟨rfl, b3, -⟩
  have HF := Lib.hid ((HB0.out.trans (HM.out.below (by have := HSZ.out; omega) (fun k hk h => by have := HSZ.out; rcases h with h | h <;> omega))).trans b3)
  clear b3
  go_wp2_with fail
  go_ret
  exact Ret.mk rfl HF.out
end Go.Proofs.YtdapdadcninidaaGreatDoor
namespace Go.Proofs.YtdapdadcninidaaGreatDoor
open Go.RowKit

/-- The text of the elements of a chain from the i-th on. -/
def chnT (a : List Att) : Nat → List (List UInt8) → List UInt8
  | _, [] => []
  | i, nm :: t => indL (i + 1) ++ (lineL (chE a nm 0 0) ++ [10]) ++ chnT a (i + 1) t
theorem chE_line (a : List Att) (nm : List UInt8) (i n : Nat) : lineL (chE a nm i n) = lineL (chE a nm 0 0) := rfl
theorem chn_dump (a : List Att) (ns : List (List UInt8)) (hn : ns.length ≤ 1000) (ha : a.length ≤ 1000) (hs : ∀ nm ∈ ns, nm.length ≤ 1000) (hao : ∀ y ∈ htmlA a, AttOk y) : ∀ m i, i + m = ns.length → DumpT (chn a ns) (i + 1) (if i < ns.length then [i + 2] else []) (chnT a i (ns.drop i))
  | 0, i, h => by
    obtain rfl : i = ns.length := by omega
    rw [if_neg (by omega), List.drop_length]
    exact .nil _
  | m + 1, i, h => by
    have hi : i < ns.length := by omega
    have ih := chn_dump a ns hn ha hs hao m (i + 1) (by omega)
    rw [if_pos hi, List.drop_eq_getElem_cons hi, chnT]
    have e1 : isH (chn a ns).length ((i + 2 : Nat) : Int) = true := isH_iff.2 ⟨i + 1, by rw [chn_len]; omega, rfl⟩
    have e2 : ndAt (chn a ns) ((i + 2 : Nat) : Int) = chE a ns[i] i ns.length := ndAt_at (chn_at a ns i hi)
    have hl : LineP (ndAt (chn a ns) ((i + 2 : Nat) : Int)) := by
      rw [e2]
      exact .inr ⟨rfl, (show (0 : Int) ≤ 1 ∧ (1 : Int) < 100 by decide), by have := hs ns[i] (List.getElem_mem hi); show (ns[i]).length ≤ _; omega, by have := htmlA_len a; show (htmlA a).length ≤ _; omega, hao⟩
    have hd : downs (ndAt (chn a ns) ((i + 2 : Nat) : Int)) = if i + 1 < ns.length then [i + 1 + 2] else [] := by rw [e2]; rfl
    have := DumpT.cons (ns := chn a ns) (dp := i + 1) (k := i + 2) (ks := []) (t2 := []) (by omega) e1 hl (by rw [hd]; exact ih) (.nil _)
    rw [e2, chE_line] at this
    simpa using this
/-- The whole dump. -/
theorem chn_dump0 (a : List Att) (ns : List (List UInt8)) (hn : ns.length ≤ 1000) (ha : a.length ≤ 1000) (hs : ∀ nm ∈ ns, nm.length ≤ 1000) (hao : ∀ y ∈ htmlA a, AttOk y) : DumpT (chn a ns) 0 [1] ([100, 111, 99, 117, 109, 101, 110, 116, 10] ++ chnT a 0 ns) := by
  have h := chn_dump a ns hn ha hs hao ns.length 0 (by omega)
  rw [List.drop_zero] at h
  have e2 : ndAt (chn a ns) ((1 : Nat) : Int) = chD ns.length := ndAt_at (i := 0) (chn_zero a ns)
  have hd : downs (ndAt (chn a ns) ((1 : Nat) : Int)) = if 0 < ns.length then [0 + 2] else [] := by
    rw [e2]
    by_cases h0 : ns.length = 0
    · simp [downs, chD, h0]
    · simp [downs, chD, h0, Nat.pos_of_ne_zero h0]
  have hl : LineP (ndAt (chn a ns) ((1 : Nat) : Int)) := by
    rw [e2]
    exact .inl ⟨.inl rfl, rfl, (show (0 : Int) ≤ 0 ∧ (0 : Int) < 100 by decide), Nat.zero_le _, Nat.zero_le _⟩
  have := DumpT.cons (ns := chn a ns) (dp := 0) (k := 1) (ks := []) (t2 := []) (by omega) (isH_iff.2 ⟨0, by rw [chn_len]; omega, rfl⟩) hl (by rw [hd]; exact h) (.nil _)
  rw [e2] at this
  have e3 : lineL (chD ns.length) = [100, 111, 99, 117, 109, 101, 110, 116] := rfl
  have e4 : indL 0 = [] := rfl
  rw [e3, e4] at this
  simpa using this
end Go.Proofs.YtdapdadcninidaaGreatDoor
namespace Go.Proofs.YtdapdadcninidaaGreatDoor
open Go.RowKit
attribute [local go_sem ↓] Go.wp_at_zero Go.wp_at_succ

/-- These attributes lie there, wherever in a block. -/
def AttsIn (w : World) (a : Option Addr) (l : List Att) : Prop := ∀ j y, l[j]? = some y → ∃ g o, a = some ⟨g, o, none⟩ ∧ w.cell? ⟨g, o + j * 3, none⟩ = some (.int .i64 y.space) ∧ w.cell? ⟨g, o + j * 3 + 1, none⟩ = some (.string ⟨y.name.toArray⟩) ∧ w.cell? ⟨g, o + j * 3 + 2, none⟩ = some (.string ⟨y.value.toArray⟩)
def shortA (y : Att) : Bool := decide (y.name.length ≤ 400) && decide (y.value.length ≤ 400)
def smallA (l : List Att) : Bool := l.all shortA && decide (l.length ≤ 20)
set_option maxRecDepth 100000 in
set_option maxHeartbeats 2000000 in
theorem SmallAttrs_any (l : List Att) (w : World) {a : Option Addr} {c : Nat} (hl : l.length ≤ 9223372036854775807) (hc : AttsIn w a l) :
    Calls Tryz.prog 18 #[.slice a l.length c] w (Same w (.bool (smallA l))) := by
  have HC := Lib.hid hc
  clear hc
  go_enter Tryz.func18, Tryz.ntmps18
  go_wp2_with fail
  go_loopw [3] (fun s3 wr => ∃ k : Nat, k ≤ l.length ∧ k ≤ 21 ∧ s3 = .int .i64 k ∧ (l.take k).all shortA = true ∧ wr = w) (fun s3 _ => 21 - (intOf s3).toNat)
  case atStart => exact ⟨0, Nat.zero_le _, by omega, rfl, rfl, rfl⟩
  case round =>
    obtain ⟨k, hk, hk2, rfl, hal, rfl⟩ := hrel
    have HAL := Lib.hid hal
    clear hal
    by_cases hlt : k < l.length
    · by_cases h20 : k ≤ 20
      · obtain ⟨g, o, rfl, c0, c1, c2⟩ := HC.out k l[k] (List.getElem?_eq_getElem hlt)
        have HT : Hid ((l.take (k + 1)).all shortA = ((l.take k).all shortA && shortA l[k])) := Lib.hid (by rw [List.take_succ_eq_append_getElem hlt, List.all_append, List.all_cons, List.all_nil, Bool.and_true])
        have HF : Hid (shortA l[k] = false → l.all shortA = false) := Lib.hid (fun h => by
          rw [Bool.eq_false_iff]; intro h2
          rw [List.all_eq_true] at h2
          rw [h2 _ (List.getElem_mem hlt)] at h
          cases h)
        obtain ⟨y, hy⟩ : ∃ y, l[k] = y := ⟨_, rfl⟩
        rw [hy] at c0 c1 c2 HT HF
        clear hy
        obtain ⟨ys, yn, yv⟩ := y
        dsimp only at c0 c1 c2
        have hki : (k : Int) < (l.length : Int) := by omega
        by_cases h1 : yn.length ≤ 400
        · by_cases h2 : yv.length ≤ 400
          · have e1 : ¬ (400 : Int) < (yn.length : Int) := by omega
            have e2 : ¬ (400 : Int) < (yv.length : Int) := by omega
            have HR : Hid ((l.take (k + 1)).all shortA = true) := Lib.hid (by rw [HT.out, HAL.out]; simp [shortA, h1, h2])
            go_wp2_with fail
            go_roundw
            case rel => exact ⟨k + 1, by omega, by omega, by go_num, HR.out, trivial⟩
            case measure => simp [intOf]; omega
          · have e1 : ¬ (400 : Int) < (yn.length : Int) := by omega
            have e2 : (400 : Int) < (yv.length : Int) := by omega
            have HR : Hid (smallA l = false) := Lib.hid (by rw [smallA, HF.out (by simp [shortA]; omega)]; rfl)
            go_wp2_with fail
            go_ret
            exact Same.mk (by first | (rw [HR.out]; done) | (rw [HR.out]; simp; done) | (rw [HR.out]; simp; omega))
        · have e1 : (400 : Int) < (yn.length : Int) := by omega
          have HR : Hid (smallA l = false) := Lib.hid (by rw [smallA, HF.out (by simp [shortA]; omega)]; rfl)
          go_wp2_with fail
          go_ret
          exact Same.mk (by first | (rw [HR.out]; done) | (rw [HR.out]; simp; done) | (rw [HR.out]; simp; omega))
      · have hki : (k : Int) < (l.length : Int) := by omega
        have e1 : ¬ (k : Int) ≤ 20 := by omega
        have e2 : ¬ (l.length : Int) ≤ 20 := by omega
        have HR : Hid (smallA l = false) := Lib.hid (by rw [smallA]; simp; omega)
        go_wp2_with fail
        go_ret
        exact Same.mk (by rw [HR.out]; simp [*])
    · obtain rfl : k = l.length := by omega
      have HR : Hid (smallA l = decide (l.length ≤ 20)) := Lib.hid (by
        have := HAL.out
        rw [List.take_length] at this
        rw [smallA, this, Bool.true_and])
      have e3 : decide ((l.length : Int) ≤ 20) = decide (l.length ≤ 20) := by rw [decide_eq_decide]; omega
      go_wp2_with fail
      go_ret
      exact Same.mk (by first | (rw [HR.out, ← e3]; done) | (rw [HR.out]; simp; done) | (rw [HR.out]; simp; omega))
end Go.Proofs.YtdapdadcninidaaGreatDoor
namespace Go.Proofs.YtdapdadcninidaaGreatDoor
open Go.RowKit

theorem chnT_next (a : List Att) (nm : List UInt8) : ∀ (ns : List (List UInt8)) (i : Nat), chnT a i (ns ++ [nm]) = chnT a i ns ++ (indL (i + ns.length + 1) ++ (lineL (chE a nm 0 0) ++ [10]))
  | [], i => by simp [chnT]
  | n :: ns, i => by
    have ih := chnT_next a nm ns (i + 1)
    rw [List.cons_append, chnT, chnT, ih, show i + 1 + ns.length + 1 = i + (n :: ns).length + 1 by simp; omega]
    simp only [List.append_assoc]
theorem mem_onceF : ∀ (l out : List Att), ∀ y ∈ (onceF out l).1, y ∈ out ∨ y ∈ l
  | [], out, y, h => .inl h
  | x :: l, out, y, h => by
    rw [onceF] at h
    split at h
    · split at h
      · exact (mem_onceF l out y h).imp id (List.mem_cons_of_mem _)
      · rcases mem_onceF l _ y h with h | h
        · rcases List.mem_append.1 h with h | h
          · exact .inl h
          · exact .inr (by rw [List.mem_singleton.1 h]; exact List.mem_cons_self)
        · exact .inr (List.mem_cons_of_mem _ h)
    · cases h
/-- Attributes that are small can be dumped. -/
theorem htmlA_ok {a : List Att} (h : smallA a = true) : ∀ y ∈ htmlA a, AttOk y := by
  intro y hy
  rcases mem_onceF _ _ y hy with h1 | h1
  · cases h1
  · simp only [adjL, List.mem_map] at h1
    obtain ⟨z, hz, rfl⟩ := h1
    simp only [smallA, Bool.and_eq_true, List.all_eq_true, shortA, decide_eq_true_eq] at h
    obtain ⟨h2, h3⟩ := h.1 z hz
    exact ⟨⟨by show (0 : Int) ≤ 0; omega, by show (0 : Int) < 100; omega⟩, by show z.name.length ≤ _; omega, by show z.value.length ≤ _; omega⟩
theorem small_names {a : List Att} (h : smallA a = true) : (∀ y ∈ a, y.name.length ≤ 1000) ∧ a.length ≤ 20 := by
  simp only [smallA, Bool.and_eq_true, List.all_eq_true, shortA, decide_eq_true_eq] at h
  exact ⟨fun y hy => by have := (h.1 y hy).1; omega, h.2⟩
theorem chE_short {a : List Att} (h : smallA a = true) {nm : List UInt8} (hn : nm.length ≤ 40) : (lineL (chE a nm 0 0)).length ≤ 200000 := by
  have h1 := quoteL_le nm
  have h2 := attsL_le (htmlA_ok h)
  have h3 := htmlA_len a
  have h4 := (small_names h).2
  have h5 : numL 1 = [49] := by decide +kernel
  have e : lineL (chE a nm 0 0) = [101, 108, 101, 109, 101, 110, 116, 32] ++ (numL 1 ++ 32 :: (quoteL nm ++ (htmlA a).flatMap attL)) := rfl
  rw [e, h5]
  simp only [List.length_append, List.length_cons, List.length_nil]
  omega
theorem indL_len (n : Nat) : (indL n).length = 2 * n := by
  unfold indL
  induction n with
  | zero => rfl
  | succ n ih => simp only [Lib.repeatL, List.replicate_succ, List.flatten_cons, List.length_append] at ih ⊢; rw [ih]; simp; omega
theorem chnT_len {a : List Att} (h : smallA a = true) : ∀ (ns : List (List UInt8)) (i : Nat), (∀ nm ∈ ns, nm.length ≤ 40) → (chnT a i ns).length ≤ ns.length * (200001 + 2 * (i + ns.length))
  | [], i, _ => by simp [chnT]
  | n :: ns, i, hs => by
    have ih := chnT_len h ns (i + 1) fun m hm => hs m (List.mem_cons_of_mem _ hm)
    have h1 := chE_short h (hs n List.mem_cons_self)
    rw [chnT]
    simp only [List.length_append, List.length_cons, List.length_nil, indL_len]
    have e : (ns.length + 1) * (200001 + 2 * (i + (ns.length + 1))) = ns.length * (200001 + 2 * (i + 1 + ns.length)) + (200001 + 2 * (i + (ns.length + 1))) := by
      rw [Nat.add_mul, Nat.one_mul, show i + (ns.length + 1) = i + 1 + ns.length by omega]
    omega
/-- The text ahead of the k-th name. -/
def wantL (a : List Att) (ns : List (List UInt8)) : List UInt8 := [100, 111, 99, 117, 109, 101, 110, 116, 10] ++ chnT a 0 ns
theorem wantL_next (a : List Att) (ns : List (List UInt8)) (nm : List UInt8) : wantL a (ns ++ [nm]) = wantL a ns ++ (indL (ns.length + 1) ++ (lineL (chE a nm 0 0) ++ [10])) := by
  rw [wantL, chnT_next, wantL, Nat.zero_add, List.append_assoc]
theorem wantL_len {a : List Att} (h : smallA a = true) {ns : List (List UInt8)} (hn : ns.length ≤ 40) (hs : ∀ nm ∈ ns, nm.length ≤ 40) : (wantL a ns).length ≤ 10000000 := by
  have h1 := chnT_len h ns 0 hs
  have h2 : ns.length * (200001 + 2 * (0 + ns.length)) ≤ 40 * 200081 := Nat.mul_le_mul hn (by omega)
  rw [wantL, List.length_append]
  simp only [List.length_cons, List.length_nil]
  omega
theorem indL_next : ∀ n, indL (n + 1) = indL n ++ [32, 32]
  | 0 => rfl
  | n + 1 => by
    have ih := indL_next n
    have e : ∀ m, [32, 32] ++ indL m = indL (m + 1) := fun _ => rfl
    rw [← e (n + 1), ih, ← List.append_assoc, e n, ih]
theorem wantL_dump {a : List Att} (h : smallA a = true) {ns : List (List UInt8)} (hn : ns.length ≤ 40) (hs : ∀ nm ∈ ns, nm.length ≤ 40) : DumpT (chn a ns) 0 [1] (wantL a ns) :=
  chn_dump0 a ns (by omega) (by have := (small_names h).2; omega) (fun nm hm => by have := hs nm hm; omega) (htmlA_ok h)
/-- The items behind the second loop's rounds. -/
theorem chI_take (ns : List (List UInt8)) (k : Nat) : (chI ns).take k = chI (ns.take k) := by
  refine List.ext_getElem? fun i => ?_
  simp only [chI, List.getElem?_take, List.getElem?_mapIdx]
  split <;> rfl
theorem chI_at (ns : List (List UInt8)) (k : Nat) (h : k < ns.length) : (itAt (chI ns) (k : Int)).node = k + 2 := by
  rw [itAt, if_pos (by omega), Int.toNat_natCast, List.getD_eq_getElem?_getD]
  simp only [chI, List.getElem?_mapIdx]
  rw [List.getElem?_eq_getElem h]
  rfl
/-- The newest element, as it is described. -/
theorem chn_new (a : List Att) (ns : List (List UInt8)) (nm : List UInt8) : descAt (chn a (ns ++ [nm])) ((ns.length + 2 : Nat) : Int) = chE a nm ns.length (ns.length + 1) := by
  have e1 : isH (chn a (ns ++ [nm])).length ((ns.length + 2 : Nat) : Int) = true := isH_iff.2 ⟨ns.length + 1, by rw [chn_len]; simp, rfl⟩
  have h1 := chn_at a (ns ++ [nm]) ns.length (by simp)
  rw [List.getElem_append_right (Nat.le_refl _)] at h1
  simp only [Nat.sub_self, List.getElem_cons_zero, List.length_append, List.length_cons, List.length_nil, Nat.zero_add] at h1
  rw [descAt, if_pos e1]
  exact ndAt_at h1
end Go.Proofs.YtdapdadcninidaaGreatDoor
namespace Go.Proofs.YtdapdadcninidaaGreatDoor
open Go.ChangeShapes Go.WideShapes Go.RowKit Go.Deep

instance : Inhabited Att := ⟨{}⟩
/-- These strings lie there. -/
def StrsIn (w : World) (a : Option Addr) (l : List (List UInt8)) : Prop := ∀ j s, l[j]? = some s → ∃ g o, a = some ⟨g, o, none⟩ ∧ w.cell? ⟨g, o + j, none⟩ = some (.string ⟨s.toArray⟩)
theorem StrsIn.later {w w' : World} {a : Option Addr} {l : List (List UInt8)} (h : StrsIn w a l) (hb : Below w.heap.size w w') : StrsIn w' a l := by
  intro j s hj
  obtain ⟨g, o, e, c0⟩ := h j s hj
  exact ⟨g, o, e, (hb.cell (p := ⟨g, o + j, none⟩) (World.block_lt_of_cell? _ _ c0)).trans c0⟩
theorem addr_plain {w : World} {a : Addr} {v : Value} (h : w.cell? a = some v) : a = ⟨a.block, a.off, none⟩ := by
  obtain ⟨b, o, s⟩ := a
  cases s with
  | none => rfl
  | some s =>
    unfold World.cell? at h
    split at h
    · simp at h
    · cases h
theorem add_plainN (g o n : Nat) : (⟨g, o, none⟩ : Addr).add n = ⟨g, o + n, none⟩ := by
  unfold Addr.add
  split
  · rename_i h; rw [h]; rfl
  · rfl
theorem getD_of {l : List ByteArray} {j : Nat} (h : j < l.length) : l.getD j ByteArray.empty = l[j] := by rw [List.getD_eq_getElem?_getD, List.getElem?_eq_getElem h]; rfl
theorem strsIn_open {H : Type} {enc : TypeId × Value → H} {w : World} {fuel len cap : Nat} {a : Option Addr} {x : DataW H × List MemPlace} (hc : Tryz.prog.cellsOf 9 = 1)
    (h : DataW.trod enc Tryz.prog w 0 (fun _ => true) true fuel 39 [.slice a len cap] = some x) : ∃ l : List (List UInt8), l.length = len ∧ len ≤ maxLen ∧ StrsIn w a l := by
  rcases open_strings Tryz.underlying39 Tryz.underlying9 hc h with ⟨hcs, _⟩ | ⟨b, len', cap', ss, hcs, _, hl, hm, hz, _, hcell, _⟩
  · simp only [List.cons.injEq, Value.slice.injEq, and_true] at hcs
    obtain ⟨rfl, rfl, rfl⟩ := hcs
    exact ⟨[], rfl, Nat.zero_le _, fun j s hj => by simp at hj⟩
  · simp only [List.cons.injEq, Value.slice.injEq, and_true] at hcs
    obtain ⟨rfl, rfl, rfl⟩ := hcs
    simp only [if_true] at hz
    refine ⟨(ss.take len).map (·.data.toList), by simp; omega, by omega, fun j s hj => ?_⟩
    rw [List.getElem?_map] at hj
    obtain ⟨y, hy, rfl⟩ := Option.map_eq_some_iff.1 hj
    have hjl : j < len := by
      have := (List.getElem?_eq_some_iff.1 hy).1
      rw [List.length_take] at this; omega
    have h0 := hcell 0 (by omega)
    have hj1 := hcell j (by omega)
    rw [show b.add 0 = b from rfl] at h0
    have hb := addr_plain h0
    rw [hb, add_plainN] at hj1
    refine ⟨b.block, b.off, by rw [← hb], hj1.trans ?_⟩
    rw [List.getElem?_take, if_pos hjl] at hy
    rw [List.getD_eq_getElem?_getD, hy]
    rfl
set_option maxRecDepth 100000 in
theorem attsIn_open {H : Type} {enc : TypeId × Value → H} {w : World} {fuel len cap : Nat} {a : Option Addr} {x : DataW H × List MemPlace} (hc : Tryz.prog.cellsOf 121 = 3) (hi : Tryz.prog.cellsOf 29 = 1) (hs : Tryz.prog.cellsOf 9 = 1)
    (h : DataW.trod enc Tryz.prog w 0 (fun _ => true) true fuel 40 [.slice a len cap] = some x) : ∃ l : List Att, l.length = len ∧ len ≤ maxLen ∧ AttsIn w a l ∧ (a = none → cap = 0) := by
  rcases open_slice Tryz.underlying40 h with ⟨hcs, _⟩ | ⟨b, len', cap', m, n, D, Pl, hcs, _, hl, hm, hmm, _, hx⟩
  · simp only [List.cons.injEq, Value.slice.injEq, and_true] at hcs
    obtain ⟨rfl, rfl, rfl⟩ := hcs
    exact ⟨[], rfl, Nat.zero_le _, fun j s hj => by simp at hj, fun _ => rfl⟩
  · simp only [List.cons.injEq, Value.slice.injEq, and_true] at hcs
    obtain ⟨rfl, rfl, rfl⟩ := hcs
    simp only [if_true] at hmm
    have each : ∀ i, i < len → ∃ y : Att, w.cell? (b.add (i * 3)) = some (.int .i64 y.space) ∧ w.cell? ((b.add (i * 3)).add 1) = some (.string ⟨y.name.toArray⟩) ∧ w.cell? ((b.add (i * 3)).add 2) = some (.string ⟨y.value.toArray⟩) := by
      intro i hil
      obtain ⟨cs', h1, h2⟩ := hx i (by omega)
      rw [hc] at h1
      obtain ⟨_, hlen, hcell⟩ := World.cells?_some h1
      obtain ⟨y0, y1, y2, k, _, _, g0, g1, g2⟩ := trod_struct3 Tryz.underlying121 h2
      match cs', hlen with
      | [v0, v1, v2], _ =>
        simp [hi, hs] at g0 g1 g2
        obtain ⟨z, hz, _⟩ := DataW.trod_int Tryz.underlying29 g0
        obtain ⟨s1, hz1, _⟩ := DataW.trod_string Tryz.underlying9 g1
        obtain ⟨s2, hz2, _⟩ := DataW.trod_string Tryz.underlying9 g2
        simp at hz hz1 hz2
        subst hz; subst hz1; subst hz2
        have e0 := hcell 0 (by omega)
        have e1 := hcell 1 (by omega)
        have e2 := hcell 2 (by omega)
        refine ⟨⟨z, s1.data.toList, s2.data.toList⟩, ?_, ?_, ?_⟩
        · simpa [Addr.add] using e0
        · simpa using e1
        · simpa using e2
    obtain ⟨f, hf⟩ := choose_lt (α := Att) each
    refine ⟨(List.range len).map f, by simp, by omega, fun j y hj => ?_, fun h => by cases h⟩
    rw [List.getElem?_map] at hj
    obtain ⟨i, hi2, rfl⟩ := Option.map_eq_some_iff.1 hj
    have hjl : j < len := by
      have := (List.getElem?_eq_some_iff.1 hi2).1
      simpa using this
    obtain rfl : i = j := by
      rw [List.getElem?_range hjl] at hi2
      exact (Option.some.inj hi2).symm
    have h0 := (hf 0 (by omega)).1
    rw [Nat.zero_mul, show b.add 0 = b from rfl] at h0
    have hb := addr_plain h0
    obtain ⟨c0, c1, c2⟩ := hf i hjl
    rw [hb, add_plainN] at c0 c1 c2
    rw [add_plainN] at c1 c2
    exact ⟨b.block, b.off, by rw [← hb], c0, c1, c2⟩
end Go.Proofs.YtdapdadcninidaaGreatDoor
namespace Go.Proofs.YtdapdadcninidaaGreatDoor
open Go.RowKit
attribute [local go_sem ↓] Go.wp_at_zero Go.wp_at_succ

theorem attCells_lenA (l : List Att) : (attCells l).length = l.length * 3 := by
  induction l with
  | nil => rfl
  | cons y l ih => simp only [attCells, List.flatMap_cons, List.length_append, List.length_cons, List.length_nil] at ih ⊢; omega
/-- The cells of attributes that lie there. -/
theorem AttsIn.news {w : World} {g o : Nat} {l : List Att} (h : AttsIn w (some ⟨g, o, none⟩) l) (i : Nat) (u : Value) (hu : (attCells l)[i]? = some u) : w.cell? ((⟨g, o, none⟩ : Addr).add i) = some u := by
  have hi := (List.getElem?_eq_some_iff.1 hu).1
  rw [attCells_lenA] at hi
  have hj : i / 3 < l.length := by omega
  obtain ⟨g', o', e, c0, c1, c2⟩ := h (i / 3) l[i / 3] (List.getElem?_eq_getElem hj)
  cases e
  obtain ⟨a0, a1, a2⟩ := attCells_at l (i / 3) l[i / 3] (List.getElem?_eq_getElem hj)
  have ea : ((⟨g, o, none⟩ : Addr).add i) = ⟨g, o + i, none⟩ := by unfold Addr.add; split <;> simp_all
  rw [ea]
  have hm : i = i / 3 * 3 ∨ i = i / 3 * 3 + 1 ∨ i = i / 3 * 3 + 2 := by omega
  rcases hm with hm | hm | hm
  · rw [← hm] at a0 c0
    rw [a0] at hu
    exact c0.trans hu
  · rw [← hm] at a1
    rw [show o + i / 3 * 3 + 1 = o + i by omega] at c1
    rw [a1] at hu
    exact c1.trans hu
  · rw [← hm] at a2
    rw [show o + i / 3 * 3 + 2 = o + i by omega] at c2
    rw [a2] at hu
    exact c2.trans hu
theorem AttsIn.later {w w' : World} {a : Option Addr} {l : List Att} (h : AttsIn w a l) (hb : Below w.heap.size w w') : AttsIn w' a l := by
  intro j y hj
  obtain ⟨g, o, e, c0, c1, c2⟩ := h j y hj
  have hg := World.block_lt_of_cell? _ _ c0
  exact ⟨g, o, e, (hb.cell (p := ⟨g, o + j * 3, none⟩) hg).trans c0, (hb.cell (p := ⟨g, o + j * 3 + 1, none⟩) hg).trans c1, (hb.cell (p := ⟨g, o + j * 3 + 2, none⟩) hg).trans c2⟩
theorem append_atts {ops : Array Oper} {rest : List Oper} {o : Oper} {a : Act} {Q : Exit → Act → World → Prop} {W : World} (hgd : o.guard = none) (s x : Operand)
    (ho : o.op = .call { callee := .builtin .append, args := #[s, x], argTypes := #[40, 40] })
    (R : Nat) (v : Value) (l1 : List Att) (hs : a.eval s = v) (hown : W.ownsRow R 121 3 v l1.length (attCells l1)) (ad : Addr) (c : Nat) (l2 : List Att) (hx : a.eval x = .slice (some ad) l2.length c)
    (hnews : ∀ j u, (attCells l2)[j]? = some u → W.cell? (ad.add j) = some u) (hlen : l1.length + l2.length ≤ 1000000) (hR : R ≤ W.heap.size)
    (h : ∀ v' w', w'.ownsRow R 121 3 v' (l1.length + l2.length) (attCells (l1 ++ l2)) → Below R W w' → wpList Tryz.prog ops Q rest (a.put o.dst v') w') :
    wpList Tryz.prog ops Q (o :: rest) a W := by
  obtain ⟨i0, hi, hz0, hz1, hz2⟩ := info_parts infoA
  refine wpList_append_own _ hgd s x 40 ho R 121 i0 _ 3 40 Tryz.underlying40 hi hz0 hz1 hz2 rfl (by decide) v l1.length (attCells l1) hs hown ad l2.length c (attCells l2) hx (attCells_lenA l2) hnews ?_ ?_ ?_ hR ?_
  · intro u hu
    simp only [attCells, List.mem_flatMap] at hu
    obtain ⟨y, _, hu⟩ := hu
    simp at hu
    rcases hu with rfl | rfl | rfl <;> rfl
  · unfold maxLen; omega
  · omega
  · intro v' w' hown' hg _
    refine h v' w' (by rw [attCells_app]; exact hown') ⟨hg.os, hg.tape, hg.output, hg.size, fun k hk => hg.block k (by omega) (fun e => ?_)⟩
    have := ownsRow_ge hown e.symm
    omega
/-- Attributes that lie anywhere, copied onto nothing: as one operation. -/
theorem wp_atts {o : Oper} {a : Act} {K : Act → World → Prop} {Q : Exit → Act → World → Prop} {W : World} (s x : Operand)
    (ho : o.op = .call { callee := .builtin .append, args := #[s, x], argTypes := #[40, 40] })
    (hs : a.eval s = .slice none 0 0) (ad : Option Addr) (c : Nat) (l : List Att) (hx : a.eval x = .slice ad l.length c) (hin : AttsIn W ad l) (hn : ad = none → c = 0) (hlen : l.length ≤ 1000000)
    (h : ∀ va vc w', w'.ownsRow W.heap.size 121 3 (.slice va l.length vc) l.length (attCells l) → Below W.heap.size W w' → K (a.put o.dst (.slice va l.length vc)) w') : o.wp Tryz.prog a W K Q := by
  obtain ⟨i0, hi, hz0, hz1, hz2⟩ := info_parts infoA
  cases ad with
  | none =>
    obtain rfl : c = 0 := hn rfl
    obtain rfl : l = [] := by
      cases l with
      | nil => rfl
      | cons y l =>
        obtain ⟨g, o', e, _⟩ := hin 0 y rfl
        cases e
    have hown : W.ownsRow W.heap.size 121 3 (.slice none 0 0) 0 [] := World.ownsRow_nil _ _ _ _
    have hrun := run_append_owned_none (P := Tryz.prog) (w := W) W.heap.size 40 o.type 121 i0 3 Tryz.underlying40 hi (.slice none 0 0) 0 [] hown
    rw [List.length_nil] at hx
    unfold Oper.wp execOp
    simp only [ho, resolve, invoke, builtin, Sem.run_bind, Sem.run_pure, Result.andThen_ok, List.map_toArray, List.map_cons, List.map_nil, hs, hx, hrun]
    exact h none 0 W (World.ownsRow_nil _ _ _ _) (Below.refl _ _)
  | some ad =>
    have hnews : ∀ j u, (attCells l)[j]? = some u → W.cell? (ad.add j) = some u := fun j u hj => by
      have hl : 0 < l.length := by
        have := (List.getElem?_eq_some_iff.1 hj).1
        rw [attCells_lenA] at this; omega
      obtain ⟨g, o', e, _⟩ := hin 0 l[0] (List.getElem?_eq_getElem hl)
      cases e
      exact hin.news j u hj
    refine wp_append_own W s x 40 ho W.heap.size 121 i0 _ 3 40 Tryz.underlying40 hi hz0 hz1 hz2 rfl (by decide) (.slice none 0 0) 0 [] hs (World.ownsRow_nil _ _ _ _) ad l.length c (attCells l) hx (attCells_lenA l) hnews ?_ ?_ ?_ (Nat.le_refl _) ?_
    · intro u hu
      simp only [attCells, List.mem_flatMap] at hu
      obtain ⟨y, _, hu⟩ := hu
      simp at hu
      rcases hu with rfl | rfl | rfl <;> rfl
    · unfold maxLen; omega
    · omega
    · intro v' w' hown' hg _
      rw [Nat.zero_add, List.nil_append] at hown'
      obtain ⟨va, vc, rfl⟩ := ownsRow_slice hown'
      exact h va vc w' hown' ⟨hg.os, hg.tape, hg.output, hg.size, fun k hk => hg.block k hk (by simp [Value.ownBlock])⟩
/-- .. at a step of a region that draws. -/
theorem step_atts {ops : Array Oper} {o : Oper} {a : Act} {K : Act → World → Prop} {Q : Exit → Act → World → Prop} {E : Prop} {W : World} (hgd : o.guard = none) (s x : Operand)
    (ho : o.op = .call { callee := .builtin .append, args := #[s, x], argTypes := #[40, 40] })
    (hs : a.eval s = .slice none 0 0) (ad : Option Addr) (c : Nat) (l : List Att) (hx : a.eval x = .slice ad l.length c) (hin : AttsIn W ad l) (hn : ad = none → c = 0) (hlen : l.length ≤ 1000000)
    (h : ∀ va vc w', w'.ownsRow W.heap.size 121 3 (.slice va l.length vc) l.length (attCells l) → Below W.heap.size W w' → K (a.put o.dst (.slice va l.length vc)) w') :
    if Region.wanted o (yielded ops a.tmps) = true then Oper.wp Tryz.prog o a W K Q else E := by
  have hw : Region.wanted o (yielded ops a.tmps) = true := by simp [Region.wanted, hgd]
  rw [if_pos hw]
  exact wp_atts s x ho hs ad c l hx hin hn hlen h
end Go.Proofs.YtdapdadcninidaaGreatDoor
namespace Go.Proofs.YtdapdadcninidaaGreatDoor
open Go.RowKit
attribute [local go_sem ↓] Go.wp_at_zero Go.wp_at_succ

/-- The builder between the law's steps. -/
structure ToB (w0 : World) (ns : List Nd) (its : List It) (b : Nat) (B : AB) (w : World) : Prop where
  bs : ∃ O iv, BuS b B O ns its iv 1 w ∧ ∀ k ∈ O, w0.heap.size ≤ k
  bb : w0.heap.size ≤ b
  bl : Below w0.heap.size w0 w
theorem ToB.later {w0 w w' : World} {ns : List Nd} {its : List It} {b : Nat} {B : AB} (h : ToB w0 ns its b B w) (hb : Below w.heap.size w w') : ToB w0 ns its b B w' := by
  obtain ⟨⟨O, iv, h1, h2⟩, h3, h4⟩ := h
  exact ⟨⟨O, iv, h1.later hb, h2⟩, h3, bthen h4 h4.size hb⟩
theorem ToB.step {w0 w w' : World} {ns' : List Nd} {its' : List It} {b : Nat} {B : AB} {O O' : List Nat} {iv' : Value} (h3 : w0.heap.size ≤ b) (h4 : Below w0.heap.size w0 w) (hO : ∀ k ∈ O, w0.heap.size ≤ k) (hS : BuS b B O' ns' its' iv' 1 w') (hs : AStep (b :: O) w (b :: O') w') : ToB w0 ns' its' b B w' := by
  refine ⟨⟨O', iv', hS, fun k hk => ?_⟩, h3, astep_under hs h4 h4.size fun k hk => ?_⟩
  · rcases hs.own k (List.mem_cons_of_mem _ hk) with h | h
    · rcases List.mem_cons.1 h with rfl | h
      · exact h3
      · exact hO k h
    · exact Nat.le_trans h4.size h
  · rcases List.mem_cons.1 hk with rfl | hk
    · exact h3
    · exact hO k hk
theorem ToB.c0 {w0 w : World} {ns : List Nd} {its : List It} {b : Nat} {B : AB} (h : ToB w0 ns its b B w) : w.cell? ⟨b, 0, none⟩ = some (.pointer (some ⟨B, 0, none⟩)) := by
  obtain ⟨⟨O, iv, h1, _⟩, _, _⟩ := h
  exact h1.c0
theorem ToB.lt {w0 w : World} {ns : List Nd} {its : List It} {b : Nat} {B : AB} (h : ToB w0 ns its b B w) : b < w.heap.size := by
  obtain ⟨⟨O, iv, h1, _⟩, _, _⟩ := h
  exact h1.lt
theorem ToB.insert {w0 w : World} {a : List Att} {l : List (List UInt8)} {b : Nat} {B : AB} {aa : Option Addr} {c : Nat} (h : ToB w0 (chn a l) (chI l) b B w) (nm : List UInt8) (hat : AttsAt w aa a) (hl : l.length ≤ 500) (ha : a.length ≤ 500) (han : ∀ y ∈ a, y.name.length ≤ 1000) (hnt : (nm == tmplW) = false) :
    Calls Tryz.prog 21 #[.pointer (some ⟨b, 0, none⟩), tokV nm (.slice aa a.length c)] w fun e w' => (∃ m : Int, e = .returned (.int .i64 m)) ∧ ToB w0 (chn a (l ++ [nm])) (chI (l ++ [nm])) b B w' := by
  obtain ⟨⟨O, iv, h1, h2⟩, h3, h4⟩ := h
  refine (bInsert_any nm a (l.length + 1) w h1 hat (chn_ok a l nm hl ha han hnt)).mono ?_
  rintro e w' ⟨he, O', iv', hS, hs⟩
  rw [chn_step, chn_len] at hS
  rw [chI_next]
  exact ⟨⟨_, he⟩, ToB.step h3 h4 h2 hS hs⟩
theorem ToB.current {w0 w : World} {ns : List Nd} {its : List It} {b : Nat} {B : AB} (h : ToB w0 ns its b B w) (hl : its.length ≤ 1000000) :
    Calls Tryz.prog 23 #[.pointer (some ⟨b, 0, none⟩)] w (Ret w (itV (itAt its (its.length - 1)))) := by
  obtain ⟨⟨O, iv, h1, _⟩, _, _⟩ := h
  exact Current_any w h1 hl
theorem ToB.node {w0 w : World} {ns : List Nd} {its : List It} {b : Nat} {B : AB} (h : ToB w0 ns its b B w) (k : Int) (hf : Fit ns) :
    Calls Tryz.prog 22 #[.pointer (some ⟨B, 0, none⟩), .int .i64 k] w fun e w' => ∃ k1 k2 a1 a2, NodeGot (descAt ns k) (nodeE ns.length k) w e w' k1 k2 a1 a2 := by
  obtain ⟨⟨O, iv, h1, _⟩, _, _⟩ := h
  exact NodeD_any k w h1.ar hf
theorem ToB.len {w0 w : World} {ns : List Nd} {its : List It} {b : Nat} {B : AB} (h : ToB w0 ns its b B w) :
    Calls Tryz.prog 24 #[.pointer (some ⟨b, 2, none⟩)] w fun e w' => e = .returned (.int .i64 (its.length : Nat)) ∧ w = w' := by
  obtain ⟨⟨O, iv, h1, _⟩, _, _⟩ := h
  obtain ⟨a, c, hiv, _⟩ := h1.its
  exact sLen_any w (by rw [← hiv]; exact h1.c2)
theorem ToB.alen {w0 w : World} {ns : List Nd} {its : List It} {b : Nat} {B : AB} (h : ToB w0 ns its b B w) :
    Calls Tryz.prog 26 #[.pointer (some ⟨B, 0, none⟩)] w fun e w' => e = .returned (.int .i64 (ns.length : Nat)) ∧ w = w' := by
  obtain ⟨⟨O, iv, h1, _⟩, _, _⟩ := h
  exact aLen_any w h1.ar
theorem ToB.dump {w0 w : World} {ns : List Nd} {its : List It} {b : Nat} {B : AB} (h : ToB w0 ns its b B w) (t : List UInt8) (hf : Fit ns) (hh : isH ns.length 1 = true) (hT : DumpT ns 0 [1] t) (htl : t.length ≤ 1000000000) :
    Calls Tryz.prog 13 #[.pointer (some ⟨B, 0, none⟩), .int .i64 1] w (Ret w (.string ⟨t.toArray⟩)) := by
  obtain ⟨⟨O, iv, h1, _⟩, _, _⟩ := h
  exact Dump_any 1 t w h1.ar hf.len hf.kid1 hh hT htl
theorem ToB.pop {w0 w : World} {ns : List Nd} {its : List It} {b : Nat} {B : AB} (h : ToB w0 ns its b B w) (hl : its.length ≤ 100000) (h2 : 2 ≤ its.length) :
    Calls Tryz.prog 27 #[.pointer (some ⟨b, 2, none⟩)] w fun e w' => e = .returned (itV (itAt its (its.length - 1))) ∧ ToB w0 ns (its.take (its.length - 1)) b B w' := by
  obtain ⟨⟨O, iv, h1, hO⟩, h3, h4⟩ := h
  refine (Pop_more w h1 hl h2).mono ?_
  rintro e w' ⟨he, iv', hS, hs⟩
  exact ⟨he, ToB.step h3 h4 hO hS hs⟩
theorem ToB.popLess {w0 w : World} {ns : List Nd} {its : List It} {b : Nat} {B : AB} (h : ToB w0 ns its b B w) (h2 : its.length < 2) :
    Calls Tryz.prog 27 #[.pointer (some ⟨b, 2, none⟩)] w (Ret w (itV {})) := by
  obtain ⟨⟨O, iv, h1, hO⟩, h3, h4⟩ := h
  exact Pop_less w h1 h2
theorem ToB.begun {w0 w : World} {a : List Att} {b : Nat} {B : AB} {OA : List Nat} (hS : BuS b B OA [{ kind := 1, doc := 1 }] [] (.slice none 0 0) 1 w) (hb : Below w0.heap.size w0 w) (hbb : w0.heap.size ≤ b) (hO : ∀ k ∈ OA, w0.heap.size ≤ k) : ToB w0 (chn a []) (chI []) b B w :=
  ⟨⟨OA, _, hS, hO⟩, hbb, hb⟩
/-- The box of a node that has been described. -/
structure NBox (d : Nd) (bx : Nat) (w : World) : Prop where
  c : ∃ k1 k2 a1 a2, w.heap[bx]? = some (.cells (ndArr d k1 k2 a1 a2) 55 (0, 0)) ∧ AttsAt w a1 d.attrs
theorem NBox.later {d : Nd} {bx : Nat} {w w' : World} (h : NBox d bx w) (hb : Below w.heap.size w w') : NBox d bx w' := by
  obtain ⟨k1, k2, a1, a2, h1, h2⟩ := h
  exact ⟨k1, k2, a1, a2, (hb.block _ (Array.getElem?_eq_some_iff.1 h1).1).trans h1, h2.later hb⟩
end Go.Proofs.YtdapdadcninidaaGreatDoor
namespace Go.Proofs.YtdapdadcninidaaGreatDoor
open Go.RowKit

theorem fitS {ns : List Nd} (h : (decide (ns.length ≤ 10) && ns.all fun d => decide (d.kids.length ≤ 10) && d.attrs.isEmpty) = true) : Fit ns := by
  simp only [Bool.and_eq_true, decide_eq_true_eq, List.all_eq_true, List.isEmpty_iff] at h
  exact ⟨by omega, fun d hd => by have := (h.2 d hd).1; omega, fun d hd => by rw [(h.2 d hd).2]; exact Nat.zero_le _⟩
def htmlW : List UInt8 := [104, 116, 109, 108]
def sD : Nd := { kind := 1, doc := 1, kids := [2] }
def sH (ks : List Nat) : Nd := { kind := 4, space := 1, name := htmlW, doc := 1, kids := ks, parent := 1 }
def sE (par : Nat) : Nd := { kind := 4, space := 1, name := tmplW, doc := 1, contents := 5, parent := par }
def sI : Nd := { kind := 1, doc := 4 }
def sF (ks : List Nat) : Nd := { kind := 2, host := 3, doc := 4, kids := ks }
def sX (par : Nat) : Nd := { kind := 5, data := [120], doc := 4, parent := par }
def s1 : List Nd := [sD, sH []]
def s2a : List Nd := [sD, sH [], sE 0, sI, sF []]
def s2 : List Nd := [sD, sH [3], sE 2, sI, sF []]
def s3a : List Nd := [sD, sH [3], sE 2, sI, sF [], sX 0]
def s3 : List Nd := [sD, sH [3], sE 2, sI, sF [6], sX 5]
def si1 : It := { node := 2, space := 1, name := htmlW }
def si2 : It := { node := 3, space := 1, name := tmplW }
theorem s_chn : chn [] [htmlW] = s1 := rfl
theorem s_chI : chI [htmlW] = [si1] := rfl
theorem s_upD {ns : List Nd} (h : isH ns.length 1 = true) (hp : (ndAt ns 1).parent = 0) (hh : (ndAt ns 1).host = 0) : Up ns true 1 [1] := by
  refine .more h ?_
  rw [upN, if_pos ⟨hp, rfl⟩, hh]
  exact .done
theorem s_up2 : Up s2a true 2 [2, 1] := by
  refine .more rfl ?_
  rw [show upN s2a true 2 = 1 from rfl]
  exact s_upD rfl rfl rfl
theorem s_up5 : Up s3a true 5 [5, 3, 2, 1] := by
  refine .more rfl ?_
  rw [show upN s3a true 5 = 3 from rfl]
  refine .more rfl ?_
  rw [show upN s3a true 3 = 2 from rfl]
  refine .more rfl ?_
  rw [show upN s3a true 2 = 1 from rfl]
  exact s_upD rfl rfl rfl
theorem s_c2 : containsL s2a 3 2 = false := by
  rw [containsL, upOf_of s_up2]
  rfl
theorem s_c3 : containsL s3a 6 5 = false := by
  rw [containsL, upOf_of s_up5]
  rfl
theorem s_e2 : putE s2a 2 3 0 = 0 := by
  unfold putE
  rw [if_neg (by decide), if_neg (by decide), s_c2, if_neg (by decide), if_neg (by decide)]
theorem s_e3 : putE s3a 5 6 0 = 0 := by
  unfold putE
  rw [if_neg (by decide), if_neg (by decide), s_c3, if_neg (by decide), if_neg (by decide)]
theorem s_p2 : putR s2a 2 3 0 = s2 := by
  rw [putR, if_pos s_e2]; rfl
theorem s_p3 : putR s3a 5 6 0 = s3 := by
  rw [putR, if_pos s_e3]; rfl
theorem s_ok2 : PutOk s2a 2 3 0 := ⟨fun _ => ⟨_, s_up2⟩, fun h => ⟨h, fun h2 => absurd rfl h2⟩, fun h => absurd rfl h⟩
theorem s_ok3 : PutOk s3a 5 6 0 := ⟨fun _ => ⟨_, s_up5⟩, fun h => ⟨h, fun h2 => absurd rfl h2⟩, fun h => absurd rfl h⟩
theorem s_f1 : Fit s1 := fitS rfl
theorem s_f2a : Fit s2a := fitS rfl
theorem s_f2 : Fit s2 := fitS rfl
theorem s_f3a : Fit s3a := fitS rfl
theorem s_f3 : Fit s3 := fitS rfl
/-- The example's dump. -/
def sTx : List UInt8 := [101, 108, 101, 109, 101, 110, 116, 32, 49, 32, 34, 116, 101, 109, 112, 108, 97, 116, 101, 34, 10, 32, 32, 99, 111, 110, 116, 101, 110, 116, 115, 10, 32, 32, 32, 32, 116, 101, 120, 116, 32, 34, 120, 34, 10]
theorem s_dump : DumpT s3 0 [3] sTx := by
  have l1 : LineP (sE 2) := .inl ⟨by decide, rfl, by decide, by decide, by decide⟩
  have l2 : LineP (sF [6]) := .inl ⟨by decide, rfl, by decide, by decide, by decide⟩
  have l3 : LineP (sX 5) := .inl ⟨by decide, rfl, by decide, by decide, by decide⟩
  have h3 : DumpT s3 2 [6] _ := .cons (k := 6) (t1 := []) (by decide) rfl l3 (.nil _) (.nil _)
  have h2 : DumpT s3 1 [5] _ := .cons (k := 5) (by decide) rfl l2 h3 (.nil _)
  have h1 : DumpT s3 0 [3] _ := .cons (k := 3) (by decide) rfl l1 h2 (.nil _)
  refine Eq.mp (congrArg (DumpT s3 0 [3]) ?_) h1
  decide +kernel
/-- The place behind html, and behind the template. -/
theorem s_pl1 : placeL s1 [si1] 1 = 2 := rfl
theorem s_pl2 : placeL s2 [si1, si2] 1 = 5 := rfl
end Go.Proofs.YtdapdadcninidaaGreatDoor
