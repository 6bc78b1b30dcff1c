/- Package arena: dump, Dump. No condition but that the tree below the node ends and its nodes' lines can be written. The plain law of TopSplits: what the calls on its small arena leave. No program stands in this text. thickettop.known05. No condition. thickettop.TopLive. No condition but lengths. What arguments read as: a slice of strings, a slice of attributes. -/
import Derived.Test.YtdapdadcninidaaGreatDoorM18
import Derived.Test.YtdapdadcninidaaGreatDoorM3
import Derived.Test.YtdapdadcninidaaGreatDoorM1
import Derived.Test.YtdapdadcninidaaGreatDoorM11
import Derived.Test.YtdapdadcninidaaGreatDoorM13
import Derived.Test.YtdapdadcninidaaGreatDoorM17
import Derived.Sort.QuietTacIn
import Derived.Shelf.RegionOpen
import Derived.Test.YtdapdadcninidaaGreatDoorM4
import Derived.SliceStrings
import Derived.Deep.Strs
set_option linter.unusedSimpArgs false
set_option linter.unusedVariables false
namespace Go.Proofs.YtdapdadcninidaaGreatDoor
open Go.RowKit
attribute [local go_sem ↓] Go.wp_at_zero Go.wp_at_succ

theorem NdIs.mod {S : Nat → Prop} {w w' : World} {g o : Nat} {d : Nd} {kv av : Value} (h : NdIs w g o d kv av) (hm : Mod S w w') (hg : ¬ S g) : NdIs w' g o d kv av := by
  have hl := World.block_lt_of_cell? _ _ h.c0
  have c : ∀ j, w'.cell? ⟨g, j, none⟩ = w.cell? ⟨g, j, none⟩ := fun j => hm.cell (p := ⟨g, j, none⟩) hl hg
  have f : ∀ j, w'.frozen? ⟨g, j, none⟩ = w.frozen? ⟨g, j, none⟩ := fun j => hm.frozen (p := ⟨g, j, none⟩) hl hg
  exact ⟨(c _).trans h.c0, (c _).trans h.c1, (c _).trans h.c2, (c _).trans h.c3, (c _).trans h.c4, (c _).trans h.c5, (c _).trans h.c6, (c _).trans h.c7, (c _).trans h.c8, (c _).trans h.c9, (c _).trans h.c10, (c _).trans h.c11, (c _).trans h.c12, fun j hj => (f _).trans (h.fz j hj)⟩
/-- A node, and that its blocks are the arena's own. -/
theorem ArW.nodeX {w : World} {B : AB} {O : List Nat} {ns : List Nd} {h : Int} (hA : ArW B O ns w) (hh : isH ns.length h = true) :
    ∃ g cap kv av i, h = ((i + 1 : Nat) : Int) ∧ i < ns.length ∧ w.cell? ⟨B, 0, none⟩ = some (.slice (some ⟨g, 0, none⟩) ns.length cap) ∧ NdIs w g (i * 13) (ndAt ns h) kv av ∧ g ∈ O ∧ B.blk ∈ O ∧ (∀ k, kv.ownBlock = some k → k ∈ O) ∧
      w.ownsRow 0 3 1 kv (ndAt ns h).kids.length (kidCells (ndAt ns h).kids) ∧ w.ownsRow 0 121 3 av (ndAt ns h).attrs.length (attCells (ndAt ns h).attrs) ∧ (∀ k, av.ownBlock = some k → k ∈ O) := by
  obtain ⟨i, hi, rfl⟩ := isH_iff.1 hh
  have hx := List.getElem?_eq_getElem hi
  rw [ndAt_at hx]
  obtain ⟨tab, L, h1, h2, h3⟩ := hA
  subst h3
  rw [List.getElem?_map] at hx
  obtain ⟨x, hy, hxe⟩ := Option.map_eq_some_iff.1 hx
  obtain ⟨g, cap, ht, _, _, hn⟩ := h1.node hy
  have hm := List.mem_of_getElem? hy
  rw [hxe] at hn
  refine ⟨g, cap, x.kv, x.av, i, rfl, hi, by rw [List.length_map, ← ht]; exact h1.c0, hn, ?_, ?_, fun k hk => ?_, ?_, ?_, fun k hk => ?_⟩
  · rw [← h2]; exact mem_blocks.2 (.inr (.inl (by rw [ht]; rfl)))
  · rw [← h2]; exact mem_blocks.2 (.inl rfl)
  · rw [← h2]; exact mem_blocks.2 (.inr (.inr ⟨x, hm, .inl hk⟩))
  · rw [← hxe]; exact h1.kid x hm
  · rw [← hxe]; exact h1.att x hm
  · rw [← h2]; exact mem_blocks.2 (.inr (.inr ⟨x, hm, .inr hk⟩))
def indL (dp : Nat) : List UInt8 := Lib.repeatL [32, 32] dp
/-- The nodes right below a node: its contents, its children. -/
def downs (d : Nd) : List Nat := (if d.contents = 0 then [] else [d.contents]) ++ d.kids
/-- The dump of these nodes, at this depth. -/
inductive DumpT (ns : List Nd) : Nat → List Nat → List UInt8 → Prop
  | nil (dp : Nat) : DumpT ns dp [] []
  | cons {dp k : Nat} {ks : List Nat} {t1 t2 : List UInt8} : dp ≤ 1000000 → isH ns.length k = true → LineP (ndAt ns k) → DumpT ns (dp + 1) (downs (ndAt ns k)) t1 → DumpT ns dp ks t2 →
      DumpT ns dp (k :: ks) (indL dp ++ (lineL (ndAt ns k) ++ 10 :: t1) ++ t2)
/-- What dump leans on: the arena, and a builder behind it. -/
structure DmpC (B : AB) (O : List Nat) (ns : List Nd) (R b : Nat) (bs : List Value) (w : World) : Prop where
  ar : ArW B O ns w
  lo : ∀ k ∈ O, k < b
  bl : Bld R b bs w
  br : b < R
  rs : R ≤ w.heap.size
theorem DmpC.next {B : AB} {O : List Nat} {ns : List Nd} {R b : Nat} {bs bs' : List Value} {w w' : World} (h : DmpC B O ns R b bs w) (hm : Mod (BlS R b) w w') (hb : Bld R b bs' w') : DmpC B O ns R b bs' w' := by
  obtain ⟨h1, h2, h3, h4, h5⟩ := h
  exact ⟨h1.kept hm fun k hk hS => by
    have := h2 k hk
    rcases hS with rfl | hS
    · omega
    · omega, h2, hb, h4, Nat.le_trans h5 hm.size⟩
theorem DmpC.later {B : AB} {O : List Nat} {ns : List Nd} {R b : Nat} {bs : List Value} {w w' : World} (h : DmpC B O ns R b bs w) (hb : Below w.heap.size w w') : DmpC B O ns R b bs w' :=
  h.next (Mod.of_below hb) (h.bl.kept fun k hk _ => hb.block k hk)
theorem DmpC.wrote {B : AB} {O : List Nat} {ns : List Nd} {R b : Nat} {bs bs' : List Value} {v : Value} {e : Ending} {w w' : World} (h : DmpC B O ns R b bs w) (hr : RetB R b w v bs' e w') : DmpC B O ns R b bs' w' ∧ Mod (BlS R b) w w' :=
  have hm := h.bl.mod hr.2.2
  ⟨h.next hm (.inr hr.2.1), hm⟩
def DmpQ (R b : Nat) (bs : List Value) (t : List UInt8) (w : World) (e : Ending) (w' : World) : Prop := e = .returned (.tuple #[]) ∧ Bld R b (bs ++ Lib.byteCells t) w' ∧ Mod (BlS R b) w w'
/-- The contract of dump at a node, where this is its text. -/
def DmpAt (B : AB) (O : List Nat) (ns : List Nd) (R b dp k : Nat) (t : List UInt8) : Prop := ∀ (bs : List Value) (w : World), DmpC B O ns R b bs w → bs.length + t.length ≤ 100000000000 →
  Calls Tryz.prog 50 #[.pointer (some ⟨B, 0, none⟩), .pointer (some ⟨b, 0, none⟩), .int .i64 (k : Int), .int .i64 (dp : Int)] w (DmpQ R b bs t w)
theorem row_some {w : World} {ka : Option Addr} {n kc : Nat} {xs : List Value} (h : w.ownsRow 0 3 1 (.slice ka n kc) n xs) (hn : 0 < n) : ∃ gk, ka = some ⟨gk, 0, none⟩ := by
  rcases row_cells h with ⟨_, h0, _⟩ | ⟨gk, cap, cur, hv, _⟩
  · omega
  · cases hv; exact ⟨gk, rfl⟩
theorem flat_take (ps : List (List UInt8)) (i : Nat) (hi : i < ps.length) : (ps.take i).flatten.length + ps[i].length ≤ ps.flatten.length := by
  have h : ((ps.take (i + 1)) ++ ps.drop (i + 1)).flatten.length = ps.flatten.length := by rw [List.take_append_drop]
  rw [List.take_succ_eq_append_getElem hi, List.flatten_append, List.flatten_append, List.length_append, List.length_append] at h
  simp at h ⊢
  omega
set_option maxRecDepth 100000 in
set_option maxHeartbeats 4000000 in
theorem dump_step {B : AB} {R b dp k : Nat} {O : List Nat} {ns : List Nd} (ps : List (List UInt8)) (hl : ns.length ≤ 1000000) (hdp : dp ≤ 1000000) (hk : isH ns.length k = true) (hln : LineP (ndAt ns k)) (hpl : ps.length = (downs (ndAt ns k)).length)
    (IH : ∀ (j c : Nat) (p : List UInt8), (downs (ndAt ns k))[j]? = some c → ps[j]? = some p → DmpAt B O ns R b (dp + 1) c p) (hkl : (ndAt ns k).kids.length ≤ 1000000) :
    DmpAt B O ns R b dp k (indL dp ++ (lineL (ndAt ns k) ++ 10 :: ps.flatten)) := by
  intro bs w hC hlen
  obtain ⟨g, cap, kv, av, i, hki, hi, c0, hn, hgO, hBO, hkvO, hkr, hav, havO⟩ := hC.ar.nodeX hk
  have hlo := hC.lo
  have hgb := hlo g hgO
  have hBb := hlo B hBO
  have hbR := hC.br
  have H1 := Lib.hid (fun w' (hw : w'.cell? ⟨B, 0, none⟩ = w.cell? ⟨B, 0, none⟩) => at_any i w' (hw.trans c0) hi (by omega))
  have H2 := Lib.hid (fun w' => Tryz.strings_Repeat ⟨#[32, 32]⟩ dp w' (by omega) (by show 2 * dp ≤ _; omega))
  have hS : ¬ BlS R b g := by rintro (h | h) <;> omega
  have hSB : ¬ BlS R b B := by rintro (h | h) <;> omega
  have hSk : ∀ k, kv.ownBlock = some k → ¬ BlS R b k := fun k hk => by have := hlo k (hkvO k hk); rintro (h | h) <;> omega
  have hSa : ∀ k, av.ownBlock = some k → ¬ BlS R b k := fun k hk => by have := hlo k (havO k hk); rintro (h | h) <;> omega
  obtain ⟨I, hI⟩ : ∃ I, indL dp = I := ⟨_, rfl⟩
  obtain ⟨L, hL⟩ : ∃ L, lineL (ndAt ns k) = L := ⟨_, rfl⟩
  have H3 := Lib.hid (fun kv' av' w' (h : NdIs w' g (i * 13) (ndAt ns k) kv' av') h2 => hL ▸ lineP_any (ndAt ns k) kv' av' w' h h2 hln)
  rw [show Lib.repeatL (⟨#[32, 32]⟩ : ByteArray).data.toList dp = I from hI] at H2
  rw [hI, hL] at hlen ⊢
  simp only [List.length_append, List.length_cons] at hlen
  clear hI hL
  have hdpi : (dp : Int) ≤ 1000000 := by omega
  obtain ⟨d, hd⟩ : ∃ d, ndAt ns k = d := ⟨_, rfl⟩
  rw [hd] at hn hkr hav H3 hpl IH hkl
  obtain ⟨ka, kc, rfl⟩ := ownsRow_slice hkr
  replace IH : ∀ (j c : Nat) (p : List UInt8), (downs d)[j]? = some c → ps[j]? = some p → ∀ (bs : List Value) (w : World), DmpC B O ns R b bs w → bs.length + p.length ≤ 100000000000 →
      Calls Tryz.prog 50 #[.pointer (some ⟨B, 0, none⟩), .pointer (some ⟨b, 0, none⟩), .int .i64 (c : Int), .int .i64 ((dp : Int) + 1)] w (DmpQ R b bs p w) := fun j c p h1 h2 bs w h3 h4 => by
    have := IH j c p h1 h2 bs w h3 h4
    rwa [show ((dp + 1 : Nat) : Int) = (dp : Int) + 1 by omega] at this
  have HC := Lib.hid hC; have HN := Lib.hid hn; have HKR := Lib.hid hkr; have HAV := Lib.hid hav; have HIH := Lib.hid IH; have HPL := Lib.hid hpl
  clear hC hn hkr hav hd c0 hlo hkvO hgO hBO hk IH hpl
  rw [← hki] at H1
  have HS := Lib.hid hS; have HSB := Lib.hid hSB; have HSK := Lib.hid hSk; have HSA := Lib.hid hSa
  clear hki hS hSB hSk hSa havO hi hl hdp hln
  go_enter Tryz.func50, Tryz.ntmps50
  go_wp2_with fail
  refine (H1.out w rfl).mono ?_
  rintro e w1 ⟨rfl, rfl⟩
  go_wp2_with fail
  refine (H2.out w).mono ?_
  rintro e w1 ⟨rfl, b1⟩
  have C1 := Lib.hid (HC.out.later b1)
  have M1 := Lib.hid (Mod.of_below (S := BlS R b) b1)
  clear b1
  go_wp2_with fail
  refine (WriteString_bld R b bs I w1 C1.out.bl C1.out.rs (by omega)).mono ?_
  rintro e w2 hr
  obtain ⟨hC2, hM2⟩ := C1.out.wrote hr
  obtain ⟨rfl, -, -⟩ := hr
  have C2 := Lib.hid hC2; have M2 := Lib.hid (M1.out.trans hM2)
  clear hC2 hM2 C1 M1
  go_wp2_with fail
  refine (H3.out _ _ w2 (HN.out.mod M2.out HS.out) (ownsRow_mod HAV.out M2.out HSA.out)).mono ?_
  rintro e w3 ⟨rfl, b3⟩
  have C3 := Lib.hid (C2.out.later b3)
  have M3 := Lib.hid (M2.out.trans (Mod.of_below (S := BlS R b) b3))
  clear b3 C2 M2
  go_wp2_with fail
  refine (WriteString_bld R b _ L w3 C3.out.bl C3.out.rs (by rw [List.length_append, Lib.byteCells_length]; omega)).mono ?_
  rintro e w4 hr
  obtain ⟨hC4, hM4⟩ := C3.out.wrote hr
  obtain ⟨rfl, -, -⟩ := hr
  have C4 := Lib.hid hC4; have M4 := Lib.hid (M3.out.trans hM4)
  clear hC4 hM4 C3 M3
  go_wp2_with fail
  refine (WriteByte_bld R b _ 10 w4 C4.out.bl C4.out.rs (by rw [List.length_append, List.length_append, Lib.byteCells_length, Lib.byteCells_length]; omega)).mono ?_
  rintro e w5 hr
  obtain ⟨hC5, hM5⟩ := C4.out.wrote hr
  obtain ⟨rfl, -, -⟩ := hr
  have C5 := Lib.hid hC5; have M5 := Lib.hid (M4.out.trans hM5)
  clear hC5 hM5 C4 M4
  have hN5 := HN.out.mod M5.out HS.out
  have c11 := hN5.c11
  have c2 := hN5.c2
  clear hN5
  by_cases hc0 : d.contents = 0
  · have HC00 := Lib.hid hc0
    rw [hc0] at c11
    clear hc0
    go_wp2_with fail
    go_loopw [48] (fun s48 wr => ∃ j : Nat, j ≤ d.kids.length ∧ s48 = .int .i64 (j : Nat) ∧ DmpC B O ns R b (bs ++ Lib.byteCells (I ++ (L ++ 10 :: (ps.take (0 + j)).flatten))) wr ∧ Mod (BlS R b) w wr) (fun i _ => d.kids.length - (intOf i).toNat)
    case atStart => exact ⟨0, Nat.zero_le _, rfl, by simpa [Lib.byteCells, List.append_assoc] using C5.out, M5.out⟩
    case round =>
      obtain ⟨j, hj, rfl, hC6, hM6⟩ := hrel
      have C6 := Lib.hid hC6; have M6 := Lib.hid hM6
      clear hC6 hM6
      by_cases hlt : j < d.kids.length
      · obtain ⟨gk, hka⟩ := row_some HKR.out (by omega)
        subst hka
        have hcell := row_at (ownsRow_mod HKR.out M6.out HSK.out) j (natV d.kids[j]) (by simp [kidCells, hlt])
        have hdj : (downs d)[0 + j]? = some d.kids[j] := by rw [Nat.add_comm]; simp [downs, HC00.out, hlt]
        have hpj : 0 + j < ps.length := by rw [HPL.out]; simp [downs, HC00.out]; omega
        have H7 := HIH.out (0 + j) _ ps[0 + j] hdj (List.getElem?_eq_getElem hpj) _ wr C6.out (by
          have := flat_take ps (0 + j) hpj
          simp only [List.length_append, List.length_cons, Lib.byteCells_length]
          omega)
        have htk : Hid ((ps.take (0 + (j + 1))).flatten = (ps.take (0 + j)).flatten ++ ps[0 + j]) := Lib.hid (by rw [show 0 + (j + 1) = 0 + j + 1 by omega, List.take_succ_eq_append_getElem hpj, List.flatten_append]; simp)
        obtain ⟨p, hp⟩ : ∃ p, ps[0 + j] = p := ⟨_, rfl⟩
        rw [hp] at H7 htk
        obtain ⟨c, hc⟩ : ∃ c, d.kids[j] = c := ⟨_, rfl⟩
        rw [hc] at H7 hcell
        have H7 := Lib.hid H7
        have hji : (j : Int) < (d.kids.length : Int) := by omega
        clear hdj hpj hp hc
        go_wp2_with fail
        refine H7.out.mono ?_
        rintro e w7 ⟨rfl, hb7, hm7⟩
        have C7 := Lib.hid (C6.out.next hm7 hb7)
        have M7 := Lib.hid (M6.out.trans hm7)
        clear hb7 hm7
        go_wp2
        go_roundw
        case rel => exact ⟨j + 1, by omega, by go_num, by
          have := C7.out
          rw [htk.out]
          simpa [Lib.byteCells, List.append_assoc] using this, M7.out⟩
        case measure => simp [intOf]; omega
      · have hje : j = d.kids.length := by omega
        subst hje
        have hfull : ps.take (0 + d.kids.length) = ps := List.take_of_length_le (by rw [HPL.out]; simp [downs, HC00.out]; try omega)
        rw [hfull] at C6
        clear hfull
        go_wp2
        go_end0
        exact ⟨rfl, C6.out.bl, M6.out⟩
  · have HC00 := Lib.hid hc0
    have hcz : ((d.contents : Int) != 0) = true := by simpa using hc0
    have hd0 : (downs d)[0]? = some d.contents := by simp [downs, hc0]
    have hp0 : 0 < ps.length := by rw [HPL.out]; simp [downs, hc0]
    have H6 := HIH.out 0 _ ps[0] hd0 (List.getElem?_eq_getElem hp0) _ w5 C5.out (by
      have := flat_take ps 0 hp0
      simp only [List.length_append, Lib.byteCells_length, List.length_cons, List.length_nil]
      omega)
    have htk0 : Hid ((ps.take (1 + 0)).flatten = ps[0]) := Lib.hid (by rw [show 1 + 0 = 0 + 1 from rfl, List.take_succ_eq_append_getElem hp0]; simp)
    obtain ⟨p, hp⟩ : ∃ p, ps[0] = p := ⟨_, rfl⟩
    rw [hp] at H6 htk0
    replace H6 := Lib.hid H6
    clear hd0 hp0 hp hc0
    go_wp2_with fail
    refine H6.out.mono ?_
    rintro e w6 ⟨rfl, hb6, hm6⟩
    have C6' := Lib.hid (C5.out.next hm6 hb6)
    have M6' := Lib.hid (M5.out.trans hm6)
    have hN6 := HN.out.mod M6'.out HS.out
    have d2 := hN6.c2
    clear hN6 hb6 hm6 C5 M5 c2 c11
    go_wp2_with fail
    go_loopw [48] (fun s48 wr => ∃ j : Nat, j ≤ d.kids.length ∧ s48 = .int .i64 (j : Nat) ∧ DmpC B O ns R b (bs ++ Lib.byteCells (I ++ (L ++ 10 :: (ps.take (1 + j)).flatten))) wr ∧ Mod (BlS R b) w wr) (fun i _ => d.kids.length - (intOf i).toNat)
    case atStart => exact ⟨0, Nat.zero_le _, rfl, by rw [htk0.out]; simpa [Lib.byteCells, List.append_assoc] using C6'.out, M6'.out⟩
    case round =>
      obtain ⟨j, hj, rfl, hC6, hM6⟩ := hrel
      have C6 := Lib.hid hC6; have M6 := Lib.hid hM6
      clear hC6 hM6
      by_cases hlt : j < d.kids.length
      · obtain ⟨gk, hka⟩ := row_some HKR.out (by omega)
        subst hka
        have hcell := row_at (ownsRow_mod HKR.out M6.out HSK.out) j (natV d.kids[j]) (by simp [kidCells, hlt])
        have hdj : (downs d)[1 + j]? = some d.kids[j] := by rw [Nat.add_comm]; simp [downs, HC00.out, hlt]
        have hpj : 1 + j < ps.length := by rw [HPL.out]; simp [downs, HC00.out]; omega
        have H7 := HIH.out (1 + j) _ ps[1 + j] hdj (List.getElem?_eq_getElem hpj) _ wr C6.out (by
          have := flat_take ps (1 + j) hpj
          simp only [List.length_append, List.length_cons, Lib.byteCells_length]
          omega)
        have htk : Hid ((ps.take (1 + (j + 1))).flatten = (ps.take (1 + j)).flatten ++ ps[1 + j]) := Lib.hid (by rw [show 1 + (j + 1) = 1 + j + 1 by omega, List.take_succ_eq_append_getElem hpj, List.flatten_append]; simp)
        obtain ⟨p, hp⟩ : ∃ p, ps[1 + j] = p := ⟨_, rfl⟩
        rw [hp] at H7 htk
        obtain ⟨c, hc⟩ : ∃ c, d.kids[j] = c := ⟨_, rfl⟩
        rw [hc] at H7 hcell
        have H7 := Lib.hid H7
        have hji : (j : Int) < (d.kids.length : Int) := by omega
        clear hdj hpj hp hc
        go_wp2_with fail
        refine H7.out.mono ?_
        rintro e w7 ⟨rfl, hb7, hm7⟩
        have C7 := Lib.hid (C6.out.next hm7 hb7)
        have M7 := Lib.hid (M6.out.trans hm7)
        clear hb7 hm7
        go_wp2
        go_roundw
        case rel => exact ⟨j + 1, by omega, by go_num, by
          have := C7.out
          rw [htk.out]
          simpa [Lib.byteCells, List.append_assoc] using this, M7.out⟩
        case measure => simp [intOf]; omega
      · have hje : j = d.kids.length := by omega
        subst hje
        have hfull : ps.take (1 + d.kids.length) = ps := List.take_of_length_le (by rw [HPL.out]; simp [downs, HC00.out]; try omega)
        rw [hfull] at C6
        clear hfull
        go_wp2
        go_end0
        exact ⟨rfl, C6.out.bl, M6.out⟩
theorem dump_all {B : AB} {R b : Nat} {O : List Nat} {ns : List Nd} (hl : ns.length ≤ 1000000) (hkl : ∀ k : Int, (ndAt ns k).kids.length ≤ 1000000) {dp : Nat} {ks : List Nat} {t : List UInt8} (h : DumpT ns dp ks t) :
    ∃ ps : List (List UInt8), ps.length = ks.length ∧ t = ps.flatten ∧ ∀ (j c : Nat) (p : List UInt8), ks[j]? = some c → ps[j]? = some p → DmpAt B O ns R b dp c p := by
  induction h with
  | nil dp => exact ⟨[], rfl, rfl, fun j c p h _ => by simp at h⟩
  | @cons dp k ks t1 t2 hdp hk hln _ _ ih1 ih2 =>
    obtain ⟨ps1, e1, f1, g1⟩ := ih1
    obtain ⟨ps2, e2, f2, g2⟩ := ih2
    refine ⟨(indL dp ++ (lineL (ndAt ns k) ++ 10 :: t1)) :: ps2, by simp [e2], by simp [f2], fun j c p h1 h2 => ?_⟩
    match j, h1, h2 with
    | 0, h1, h2 =>
      simp at h1 h2
      subst h1
      subst h2
      subst f1
      exact dump_step ps1 hl hdp hk hln e1 g1 (hkl k)
    | j + 1, h1, h2 => exact g2 j c p (by simpa using h1) (by simpa using h2)
set_option maxRecDepth 100000 in
set_option maxHeartbeats 1000000 in
/-- Dump, at a node whose dump is t. -/
theorem Dump_any (h : Nat) (t : List UInt8) (w : World) {B : AB} {O : List Nat} {ns : List Nd} (hA : ArW B O ns w) (hl : ns.length ≤ 1000000) (hkl : ∀ k : Int, (ndAt ns k).kids.length ≤ 1000000) (hh : isH ns.length h = true) (hT : DumpT ns 0 [h] t) (htl : t.length ≤ 1000000000) :
    Calls Tryz.prog 13 #[.pointer (some ⟨B, 0, none⟩), .int .i64 (h : Int)] w (Ret w (.string ⟨t.toArray⟩)) := by
  obtain ⟨W0, hW0⟩ : ∃ W0, w.alloc (.cells #[.pointer none, .slice none 0 0] 112) = W0 := ⟨_, rfl⟩
  have b0 : Below w.heap.size w W0 := by rw [← hW0]; exact balloc w _
  have hbx : W0.heap[w.heap.size]? = some (.cells #[.pointer none, .slice none 0 0] 112 (0, 0)) := by rw [← hW0]; exact World.alloc_heap_new w _
  have hsz : W0.heap.size = w.heap.size + 1 := by rw [← hW0]; simp
  have hC : DmpC B O ns (w.heap.size + 1) w.heap.size [] W0 := ⟨hA.later b0, fun k hk => hA.lt hk, Bld.fresh hbx (Nat.lt_succ_self _), Nat.lt_succ_self _, by omega⟩
  obtain ⟨ps, e1, e2, e3⟩ := dump_all (B := B) (R := w.heap.size + 1) (b := w.heap.size) (O := O) hl hkl hT
  obtain ⟨p, rfl⟩ : ∃ p, ps = [p] := by
    match ps, e1 with
    | [p], _ => exact ⟨p, rfl⟩
  replace e2 : t = p := by simpa using e2
  subst e2
  have H2 := Lib.hid (e3 0 h t rfl rfl [] W0 hC (by simp; omega))
  have H1 := isH_any h w hA
  rw [hh] at H1
  replace H1 := Lib.hid H1
  have HSZ := Lib.hid hsz
  have HW := Lib.hid hW0; have HB0 := Lib.hid b0
  clear hsz hC hbx b0 hW0 e3 hA hT hh e1 hkl htl hl
  go_enter Tryz.func13, Tryz.ntmps13
  go_wp2_with fail
  refine H1.out.mono ?_
  rintro e w1 ⟨rfl, rfl⟩
  go_wp2_with fail
  rw [HW.out]
  refine H2.out.mono ?_
  rintro e w2 ⟨rfl, hb2, hm2⟩
  have H3 := Lib.hid (String_bld _ _ t w2 (by simpa using hb2))
  have HM := Lib.hid hm2
  clear hb2 hm2
  go_wp2_with fail
  refine H3.out.mono ?_
  rintro e w3 ⟨rfl, b3, -⟩
  have HF := Lib.hid ((HB0.out.trans (HM.out.below (by have := HSZ.out; omega) (fun k hk h => by have := HSZ.out; rcases h with h | h <;> omega))).trans b3)
  clear b3
  go_wp2_with fail
  go_ret
  exact Ret.mk rfl HF.out
end Go.Proofs.YtdapdadcninidaaGreatDoor
namespace Go.Proofs.YtdapdadcninidaaGreatDoor
open Go.RowKit

def tP (ks : List Nat) : Nd := { kind := 4, space := 1, name := [112], doc := 1, kids := ks }
def tX (k : Int) (par : Nat) (l : List UInt8) : Nd := { kind := k, data := l, doc := 1, parent := par }
def tB (par : Nat) : Nd := { kind := 4, space := 1, name := [98], doc := 1, parent := par }
theorem fitOf {ns : List Nd} (h : (decide (ns.length ≤ 10) && ns.all fun d => decide (d.kids.length ≤ 10) && d.attrs.isEmpty) = true) : Fit ns := by
  simp only [Bool.and_eq_true, decide_eq_true_eq, List.all_eq_true, List.isEmpty_iff] at h
  exact ⟨by omega, fun d hd => by have := (h.2 d hd).1; omega, fun d hd => by rw [(h.2 d hd).2]; exact Nat.zero_le _⟩
theorem cutOk_of {ns : List Nd} {h : Int} (hc : (isH ns.length h && (decide ((ndAt ns h).parent = 0) || (isH ns.length (ndAt ns h).parent && ((ndAt ns (ndAt ns h).parent).kids.contains h.toNat && (decide ((ndAt ns (ndAt ns h).parent).kids.length ≤ 10) && !decide (((ndAt ns h).parent : Int) = h)))))) = true) : CutOk ns h := by
  simp only [Bool.and_eq_true, Bool.or_eq_true, decide_eq_true_eq, Bool.not_eq_true', decide_eq_false_iff_not, List.contains_eq_mem] at hc
  refine ⟨hc.1, fun h0 => ?_⟩
  rcases hc.2 with h1 | ⟨h1, h2, h3, h4⟩
  · exact absurd h1 h0
  · exact ⟨h1, h2, by omega, h4⟩
/-- What Normalize leans on at p, and what it leaves: the one text that is kept. -/
structure NmOk (ns : List Nd) (s : List UInt8) (n1 : List Nd) (k : Nat) : Prop where
  ok : JOk ⟨ns, 0, []⟩ (kidsAt ns 2)
  eq : joinL ns (kidsAt ns 2) = n1
  f1 : Fit n1
  h2 : (ndAt n1 2) = tP [3, k, 5]
  h3 : (ndAt n1 3) = tX 6 2 [99]
  hk : (ndAt n1 k) = tX 5 2 s
  h5 : (ndAt n1 5) = tB 2
  hs : isH n1.length 2 = true ∧ isH n1.length 3 = true ∧ isH n1.length k = true ∧ isH n1.length 5 = true
theorem JOk_cons {s s' : JS} {k : Nat} {ks : List Nat} (h : jStep s k = s') (hf : Fit s.ns) (hl : s.data.length + (descAt s.ns k).data.length ≤ 1000000000) (hc : isH s.ns.length k = true → CutOk s.ns k) (hr : JOk s' ks) : JOk s (k :: ks) :=
  ⟨hf, by omega, hc, by rw [h]; exact hr⟩
theorem foldl_js {s s' : JS} {k : Nat} {ks : List Nat} (h : jStep s k = s') : (k :: ks).foldl jStep s = ks.foldl jStep s' := by rw [List.foldl_cons, h]
/-- joinL, step by step. -/
inductive JRun : JS → List Nat → JS → Prop
  | nil {s : JS} : Fit s.ns → JRun s [] s
  | cons {s s' t : JS} {k : Nat} {ks : List Nat} : jStep s k = s' → Fit s.ns → s.data.length + (descAt s.ns k).data.length ≤ 1000000000 → CutOk s.ns k → JRun s' ks t → JRun s (k :: ks) t
theorem JRun.ok {s t : JS} {ks : List Nat} (h : JRun s ks t) : JOk s ks ∧ ks.foldl jStep s = t := by
  induction h with
  | nil hf => exact ⟨hf, rfl⟩
  | cons h1 h2 h3 h4 _ ih => exact ⟨JOk_cons h1 h2 h3 (fun _ => h4) ih.1, (foldl_js h1).trans ih.2⟩
theorem joinL_nil (ns : List Nd) : joinL ns [] = ns := rfl
theorem NmOk.rest {ns n1 : List Nd} {s : List UInt8} {k : Nat} (h : NmOk ns s n1 k) : Sub (kidsAt n1) (kidsAt n1 2) [3, k, 5] ∧ JsOk n1 [3, k, 5] ∧ joins n1 [3, k, 5] = n1 := by
  have k2 : kidsAt n1 2 = [3, k, 5] := by rw [kidsAt, if_pos h.hs.1, h.h2]; rfl
  have k3 : kidsAt n1 ((3 : Nat) : Int) = [] := by rw [kidsAt, if_pos (show isH n1.length ((3 : Nat) : Int) = true from h.hs.2.1)]; exact congrArg Nd.kids h.h3
  have kk : kidsAt n1 ((k : Nat) : Int) = [] := by rw [kidsAt, if_pos h.hs.2.2.1, h.hk]; rfl
  have k5 : kidsAt n1 ((5 : Nat) : Int) = [] := by rw [kidsAt, if_pos (show isH n1.length ((5 : Nat) : Int) = true from h.hs.2.2.2)]; exact congrArg Nd.kids h.h5
  have j0 : JOk ⟨n1, 0, []⟩ [] := h.f1
  refine ⟨?_, ⟨by rw [k3]; exact j0, ?_⟩, ?_⟩
  · rw [k2]
    exact .cons (xs := []) (by rw [k3]; exact .nil) (.cons (xs := []) (by rw [kk]; exact .nil) (.cons (xs := []) (by rw [k5]; exact .nil) .nil))
  · rw [k3, joinL_nil]
    refine ⟨by rw [kk]; exact j0, ?_⟩
    rw [kk, joinL_nil]
    exact ⟨by rw [k5]; exact j0, trivial⟩
  · simp only [joins, List.foldl_cons, List.foldl_nil, k3, kk, k5, joinL_nil]
/-- The dump of the parent. -/
def tT (s : List UInt8) : List UInt8 :=
  indL 0 ++ (lineL (tP []) ++ 10 :: (indL 1 ++ (lineL (tX 6 2 [99]) ++ 10 :: []) ++ (indL 1 ++ (lineL (tX 5 2 s) ++ 10 :: []) ++ (indL 1 ++ (lineL (tB 2) ++ 10 :: []) ++ [])))) ++ []
theorem dump_tT {ns : List Nd} {s : List UInt8} {k : Nat} (hl : s.length ≤ 200) (h2 : ndAt ns 2 = tP [3, k, 5]) (h3 : ndAt ns 3 = tX 6 2 [99]) (hk : ndAt ns k = tX 5 2 s) (h5 : ndAt ns 5 = tB 2)
    (hs : isH ns.length 2 = true ∧ isH ns.length 3 = true ∧ isH ns.length k = true ∧ isH ns.length 5 = true) : DumpT ns 0 [2] (tT s) := by
  have leaf : ∀ (j : Nat) (d : Nd) (t : List UInt8) (js : List Nat), isH ns.length j = true → ndAt ns j = d → d.contents = 0 → d.kids = [] → LineP d → DumpT ns 1 js t → DumpT ns 1 (j :: js) (indL 1 ++ (lineL d ++ 10 :: []) ++ t) := by
    intro j d t js h1 h2 h3 h4 h5 h6
    subst h2
    refine .cons (by decide) h1 h5 ?_ h6
    rw [downs, if_pos h3, h4]
    exact .nil _
  have l3 : LineP (tX 6 2 [99]) := .inl ⟨by decide, rfl, by decide, by decide, by decide⟩
  have l5 : LineP (tB 2) := .inl ⟨by decide, rfl, by decide, by decide, by decide⟩
  have lk : LineP (tX 5 2 s) := .inl ⟨.inr (.inr (.inr (.inl rfl))), rfl, (show (0 : Int) ≤ 0 ∧ (0 : Int) < 100 by decide), (show 0 ≤ 1000000000 by decide), show s.length ≤ _ by omega⟩
  have lp : LineP (tP [3, k, 5]) := .inl ⟨.inr (.inr (.inl rfl)), rfl, (show (0 : Int) ≤ 1 ∧ (1 : Int) < 100 by decide), (show 1 ≤ 1000000000 by decide), (show 0 ≤ 1000000000 by decide)⟩
  have hT : DumpT ns (0 + 1) [3, k, 5] _ := leaf 3 _ _ _ hs.2.1 h3 rfl rfl l3 (leaf k _ _ _ hs.2.2.1 hk rfl rfl lk (leaf 5 _ _ _ hs.2.2.2 h5 rfl rfl l5 (.nil 1)))
  have h2' : ndAt ns ((2 : Nat) : Int) = tP [3, k, 5] := h2
  have := DumpT.cons (ns := ns) (dp := 0) (k := 2) (ks := []) (by decide) hs.1 (by rw [h2']; exact lp) (by rw [h2']; exact hT) (.nil 0)
  rw [h2'] at this
  exact this
theorem NmOk.dump {ns n1 : List Nd} {s : List UInt8} {k : Nat} (h : NmOk ns s n1 k) (hl : s.length ≤ 200) : DumpT n1 0 [2] (tT s) := dump_tT hl h.h2 h.h3 h.hk h.h5 h.hs
end Go.Proofs.YtdapdadcninidaaGreatDoor
namespace Go.Proofs.YtdapdadcninidaaGreatDoor
open Go.RowKit
attribute [local go_sem ↓] Go.wp_at_zero Go.wp_at_succ

def kH (ks : List Nat) (par : Nat) : Nd := { kind := 4, space := 1, name := [104, 116, 109, 108], doc := 1, kids := ks, parent := par }
def kP (ks : List Nat) (par : Nat) : Nd := { kind := 4, space := 1, name := [112], doc := 1, kids := ks, parent := par }
def kD (ks : List Nat) : Nd := { kind := 1, doc := 1, kids := ks }
def kT (par : Nat) : Nd := { kind := 5, data := [97, 98], doc := 1, parent := par }
def k1 : List Nd := [kD [], kH [] 0]
def k2 : List Nd := [kD [], kH [] 0, kP [] 0]
def k3 : List Nd := [kD [2], kH [] 1, kP [] 0]
def k4 : List Nd := [kD [2], kH [3] 1, kP [] 2]
def k5 : List Nd := [kD [2], kH [3] 1, kP [4] 2, kT 3]
theorem up1 {ns : List Nd} (h : isH ns.length 1 = true) (hp : (ndAt ns 1).parent = 0) (hh : (ndAt ns 1).host = 0) : Up ns true 1 [1] := by
  refine .more h ?_
  rw [upN, if_pos ⟨hp, rfl⟩, hh]
  exact .done
theorem k_up2 : Up k3 true 2 [2, 1] := by
  refine .more rfl ?_
  rw [show upN k3 true 2 = 1 from rfl]
  exact up1 rfl rfl rfl
theorem k_up3 : Up (k4 ++ [kT 0]) true 3 [3, 2, 1] := by
  refine .more rfl ?_
  rw [show upN (k4 ++ [kT 0]) true 3 = 2 from rfl]
  refine .more rfl ?_
  rw [show upN (k4 ++ [kT 0]) true 2 = 1 from rfl]
  exact up1 rfl rfl rfl
theorem k_c1 : containsL k2 2 1 = false := by
  rw [containsL, upOf_of (up1 (ns := k2) rfl rfl rfl)]
  rfl
theorem k_c2 : containsL k3 3 2 = false := by
  rw [containsL, upOf_of k_up2]
  rfl
theorem k_c3 : containsL (k4 ++ [kT 0]) 4 3 = false := by
  rw [containsL, upOf_of k_up3]
  rfl
theorem k_e1 : putE k2 1 2 0 = 0 := by
  unfold putE
  rw [if_neg (by decide), if_neg (by decide), k_c1, if_neg (by decide), if_neg (by decide)]
theorem k_e2 : putE k3 2 3 0 = 0 := by
  unfold putE
  rw [if_neg (by decide), if_neg (by decide), k_c2, if_neg (by decide), if_neg (by decide)]
theorem k_e3 : putE (k4 ++ [kT 0]) 3 4 0 = 0 := by
  unfold putE
  rw [if_neg (by decide), if_neg (by decide), k_c3, if_neg (by decide), if_neg (by decide)]
theorem k_i1 : insL k2 1 2 0 = k3 := by
  rw [insL, show cutQ k2 2 = k2 from rfl, if_pos k_e1]; rfl
theorem k_i2 : insL k3 2 3 0 = k4 := by
  rw [insL, show cutQ k3 3 = k3 from rfl, if_pos k_e2]; rfl
theorem k_i3 : putL (k4 ++ [kT 0]) 3 4 0 = k5 := rfl
theorem k_ok1 : InsOk k2 1 2 0 := ⟨fitOf rfl, (show (4 : Int) ≠ 2 by decide), fun _ => cutOk_of rfl, fitOf rfl, rfl, ⟨fun _ => ⟨_, up1 rfl rfl rfl⟩, fun _ => cutOk_of rfl, fun h => absurd rfl h⟩⟩
theorem k_ok2 : InsOk k3 2 3 0 := ⟨fitOf rfl, (show (4 : Int) ≠ 2 by decide), fun _ => cutOk_of rfl, fitOf rfl, rfl, ⟨fun _ => ⟨_, k_up2⟩, fun _ => cutOk_of rfl, fun h => absurd rfl h⟩⟩
theorem k_ok3 : PutOk (k4 ++ [kT 0]) 3 4 0 := ⟨fun _ => ⟨_, k_up3⟩, fun _ => cutOk_of rfl, fun h => absurd rfl h⟩
theorem k_r1 (w : World) {B : AB} {O : List Nat} (hA : ArW B O k2 w) : RulB false false false false false false (mvV B 1 2 0 false) w := by
  have hf : Fit k2 := fitOf rfl
  have q1 := fun w' (hb : Below w.heap.size w w') => rule1_any 1 2 0 false w' (hA.later hb) hf
  have q2 := fun w' (hb : Below w.heap.size w w') => rule2_any 1 2 0 false w' (hA.later hb) hf (fun _ => ⟨_, up1 rfl rfl rfl⟩)
  have q3 := fun w' (hb : Below w.heap.size w w') => rule3_any 1 2 0 false w' (hA.later hb) hf
  have q4 := fun w' (hb : Below w.heap.size w w') => rule4_any 1 2 0 false w' (hA.later hb) hf
  have q5 := fun w' (hb : Below w.heap.size w w') => rule5_any 1 2 0 false w' (hA.later hb) hf
  have q6 := fun w' (hb : Below w.heap.size w w') => rule6_nil 1 2 false w' (hA.later hb) hf rfl rfl rfl
  rw [show (!parK (kdA k2 1)) = false from rfl] at q1
  rw [k_c1] at q2
  rw [show ((0 : Int) != 0 && parOf k2 0 != 1) = false from rfl] at q3
  rw [show (kdA k2 2 == 1) = false from rfl] at q4
  rw [show rul5 (kdA k2 1) (kdA k2 2) = false from rfl] at q5
  exact ⟨q1, q2, q3, q4, q5, q6⟩
theorem k_r2 (w : World) {B : AB} {O : List Nat} (hA : ArW B O k3 w) : RulB false false false false false false (mvV B 2 3 0 false) w := by
  have hf : Fit k3 := fitOf rfl
  have q1 := fun w' (hb : Below w.heap.size w w') => rule1_any 2 3 0 false w' (hA.later hb) hf
  have q2 := fun w' (hb : Below w.heap.size w w') => rule2_any 2 3 0 false w' (hA.later hb) hf (fun _ => ⟨_, k_up2⟩)
  have q3 := fun w' (hb : Below w.heap.size w w') => rule3_any 2 3 0 false w' (hA.later hb) hf
  have q4 := fun w' (hb : Below w.heap.size w w') => rule4_any 2 3 0 false w' (hA.later hb) hf
  have q5 := fun w' (hb : Below w.heap.size w w') => rule5_any 2 3 0 false w' (hA.later hb) hf
  have q6 := fun w' (hb : Below w.heap.size w w') => rule6_no 2 3 0 false w' (hA.later hb) hf (show (4 : Int) ≠ 1 by decide)
  rw [show (!parK (kdA k3 2)) = false from rfl] at q1
  rw [k_c2] at q2
  rw [show ((0 : Int) != 0 && parOf k3 0 != 2) = false from rfl] at q3
  rw [show (kdA k3 3 == 1) = false from rfl] at q4
  rw [show rul5 (kdA k3 2) (kdA k3 3) = false from rfl] at q5
  exact ⟨q1, q2, q3, q4, q5, q6⟩
/-- The example's dump. -/
def kTx : List UInt8 := [100, 111, 99, 117, 109, 101, 110, 116, 10, 32, 32, 101, 108, 101, 109, 101, 110, 116, 32, 49, 32, 34, 104, 116, 109, 108, 34, 10, 32, 32, 32, 32, 101, 108, 101, 109, 101, 110, 116, 32, 49, 32, 34, 112, 34, 10, 32, 32, 32, 32, 32, 32, 116, 101, 120, 116, 32, 34, 97, 98, 34, 10]
theorem k_dump : DumpT k5 0 [1] kTx := by
  have l1 : LineP (kD [2]) := .inl ⟨by decide, rfl, by decide, by decide, by decide⟩
  have l2 : LineP (kH [3] 1) := .inl ⟨by decide, rfl, by decide, by decide, by decide⟩
  have l3 : LineP (kP [4] 2) := .inl ⟨by decide, rfl, by decide, by decide, by decide⟩
  have l4 : LineP (kT 3) := .inl ⟨by decide, rfl, by decide, by decide, by decide⟩
  have h4 : DumpT k5 3 [4] _ := .cons (k := 4) (t1 := []) (by decide) rfl l4 (.nil _) (.nil _)
  have h3 : DumpT k5 2 [3] _ := .cons (k := 3) (by decide) rfl l3 h4 (.nil _)
  have h2 : DumpT k5 1 [2] _ := .cons (k := 2) (by decide) rfl l2 h3 (.nil _)
  have h1 : DumpT k5 0 [1] _ := .cons (k := 1) (by decide) rfl l1 h2 (.nil _)
  refine Eq.mp (congrArg (DumpT k5 0 [1]) ?_) h1
  decide +kernel
theorem AStep.under {n : Nat} {O O' : List Nat} {w0 w1 w2 : World} (h : AStep O w1 O' w2) (hb : Below n w0 w1) (hn : n ≤ w1.heap.size) (hO : ∀ k ∈ O, n ≤ k) : Below n w0 w2 :=
  hb.trans (h.mod.below hn fun k hk hkO => by have := hO k hkO; omega)
set_option maxRecDepth 100000 in
set_option maxHeartbeats 2000000 in
theorem known05_any (w : World) : Calls Tryz.prog 6 #[] w (Ret w (.bool true)) := by
  have H1 := Lib.hid (New_any w)
  go_enter Tryz.func6, Tryz.ntmps6
  go_wp2_with fail
  refine H1.out.mono ?_
  rintro e w1 ⟨rfl, hA1, hb1⟩
  have HB1 := Lib.hid hb1
  obtain ⟨B, hB, hB2⟩ : ∃ B : AB, w.heap.size = B.blk ∧ (⟨w.heap.size, .map none⟩ : AB) = B := ⟨⟨_, _⟩, rfl, rfl⟩
  rw [hB2, hB] at hA1
  rw [hB]
  clear hB2
  have HBE := Lib.hid hB
  have H2 := Lib.hid (Document_any false w1 hA1 (Nat.zero_le _))
  clear hb1 hA1 H1 hB
  go_wp2_with fail
  refine H2.out.mono ?_
  rintro e w2 ⟨rfl, O2, hA2, hs2⟩
  have HS2 := Lib.hid hs2
  have H3 := Lib.hid (Element_any 1 1 [104, 116, 109, 108] w2 (ns := [kD []]) hA2 (show 1 ≤ 1000000 by decide) rfl rfl)
  clear hA2 hs2 H2
  go_wp2_with fail
  refine H3.out.mono ?_
  rintro e w3 hm
  rcases hm with ⟨h0, _, _⟩ | ⟨_, rfl, O3, hA3, hs3⟩
  · exact absurd rfl h0
  have HS3 := Lib.hid (HS2.out.trans hs3)
  have H4 := Lib.hid (CreateElement_ok 1 [80] w3 (ns := k1) hA3 (fitOf rfl) rfl rfl rfl (by decide) rfl)
  clear hA3 hs3 HS2 H3
  go_wp2_with fail
  refine H4.out.mono ?_
  rintro e w4 ⟨rfl, O4, hA4, hs4⟩
  have hA4 : ArW B O4 k2 w4 := hA4
  have HS4 := Lib.hid (HS3.out.trans hs4)
  have H5 := Append_one 1 2 w4 hA4 rfl (k_r1 w4 hA4) (by decide) k_ok1
  rw [k_i1] at H5
  have H5 := Lib.hid H5
  clear hA4 hs4 HS3 H4
  have hl : ((k1.length + 1 : Nat) : Int) = 3 := rfl
  rw [hl]
  clear hl
  go_wp2_with fail
  refine H5.out.mono ?_
  rintro e w5 ⟨rfl, O5, hA5, hs5⟩
  have HS5 := Lib.hid (HS4.out.trans hs5)
  have H6 := Append_one 2 3 w5 hA5 rfl (k_r2 w5 hA5) (by decide) k_ok2
  rw [k_i2] at H6
  have H6 := Lib.hid H6
  clear hA5 hs5 HS4 H5
  go_wp2_with fail
  refine H6.out.mono ?_
  rintro e w6 ⟨rfl, O6, hA6, hs6⟩
  have HS6 := Lib.hid (HS5.out.trans hs6)
  have H7 := Lib.hid (SetText_el 3 [97, 98] w6 (ns2 := k5) hA6 (fitOf rfl) rfl rfl rfl (by decide) rfl (fitOf rfl) k_ok3 k_e3 k_i3)
  clear hA6 hs6 HS5 H6
  go_wp2_with fail
  refine H7.out.mono ?_
  rintro e w7 ⟨rfl, O7, hA7, hs7⟩
  have HS7 := Lib.hid (HS6.out.trans hs7)
  have H8 := Lib.hid (Dump_any 1 kTx w7 hA7 (by decide) (fitOf (ns := k5) rfl).kid1 rfl k_dump (by decide))
  clear hA7 hs7 HS6 H7
  go_wp2_with fail
  refine H8.out.mono ?_
  rintro e w8 ⟨rfl, b8⟩
  have HF := Lib.hid ((HS7.out.under HB1.out HB1.out.size (by rw [HBE.out]; simp)).trans (b8.mono (Nat.le_trans HB1.out.size HS7.out.mod.size)))
  clear b8 H8 HS7
  unfold kTx
  go_wp2_with fail
  go_ret
  exact Ret.mk (by simp) HF.out
end Go.Proofs.YtdapdadcninidaaGreatDoor
namespace Go.Proofs.YtdapdadcninidaaGreatDoor
open Go.RowKit
attribute [local go_sem] Oper.semAt_some

theorem LimK.oky {k c : Nat} {L : Lim} (h : LimK k c L) (hk : k ≤ 60) (hc : c ≤ 8) : (L.y : Int) ≤ 4611686018427387904 :=
  (LimK.ok (L := ⟨L.y, L.y, L.f, L.a⟩) ⟨by have := h.y; dsimp only; omega, h.y, h.y0, h.f, h.a, h.a0⟩ hk hc).1
theorem copies_take (l : List Opn) (i : Nat) : copies (l.take i) ≤ copies l := by
  have h : copies (l.take i ++ l.drop i) = copies l := by rw [List.take_append_drop]
  unfold copies at h ⊢
  rw [List.filter_append, List.length_append] at h
  omega
set_option maxRecDepth 100000 in
/-- Len. -/
theorem Len_any (w : World) {B : AB} {O : List Nat} {ns : List Nd} (hA : ArW B O ns w) : Calls Tryz.prog 26 #[.pointer (some ⟨B, 0, none⟩)] w fun e w' => e = .returned (.int .i64 (ns.length : Nat)) ∧ w = w' := by
  obtain ⟨ad, cp, c0⟩ := hA.inlen
  clear hA
  go_enter Tryz.func26, Tryz.ntmps26
  go_wp2
  go_ret
  exact ⟨rfl, rfl⟩
/-- A region whose operations do not panic: what stands behind it, alone. -/
theorem wpIn_calm {F : Fence} {n : Nat} {P : Program} {c : Code} {Q : Exit → Go.Act → World → Prop} {a : Go.Act} {w : World} (h : c.wpIn F n P (Exit.then (fun a' w' => Q .normal a' w') (fun _ _ _ => False)) a w) : c.wpIn F n P Q a w := by
  refine wpIn_mono h ?_
  rintro (_ | _ | _ | _ | _ | _) a' w' hq <;> first | exact hq.elim | exact hq
theorem infoBo : (Tryz.prog.info? 4).map (fun i => (i.zero, i.size, i.bytes)) = some (some (.bool false), 1, 1) := by kernel_rfl
theorem madeBools {n : Nat} : (madeCells (Value.bool false).cells (n * 1)).toList = List.replicate n (.bool false) := by
  have e : madeCells (Value.bool false).cells (n * 1) = Array.replicate n (.bool false) := by
    apply Array.ext
    · simp [size_madeCells]
    · intro i h1 h2
      simp [madeCells, Value.cells, Nat.mod_one]
  rw [e]; simp
theorem gd_empty : Gd ⟨0, 400, 0, 20⟩ ⟨[], []⟩ := by
  have hno : ∀ x, ¬ inR ([] : List Nd) x := fun x h => by
    obtain ⟨h1, h2⟩ := h
    simp at h2
    omega
  refine ⟨⟨fun _ => 0, fun x k hx => absurd hx (hno x), fun x hx => absurd hx (hno x), fun x hx => absurd hx (hno x), fun x hx => absurd hx (hno x), fun x hx => absurd hx (hno x), fun x hx => absurd hx (hno x), fun x hx => absurd hx (hno x), fun x hx => absurd hx (hno x), fun x hx => absurd hx (hno x)⟩, ⟨⟨0, (fun x hx => by cases hx), List.nodup_nil, (fun x hx => by cases hx), List.nodup_nil⟩, (fun x hx => by cases hx)⟩, Nat.le_refl _, (fun d hd => by cases hd), Nat.le_refl _, (fun d hd => by cases hd)⟩
set_option maxRecDepth 100000 in
set_option maxHeartbeats 8000000 in
theorem TopLive_any (l : List Opn) (h : Int) (w : World) {a : Option Addr} {c : Nat} (hl : l.length ≤ 9223372036854775807) (hc : OpsIn w a l) (hal : ∀ x ∈ l, x.attrs.length ≤ 9223372036854775807) :
    Calls Tryz.prog 5 #[.slice a l.length c, .int .i64 h] w (Ret w (.bool true)) := by
  obtain ⟨W0, hW0⟩ : ∃ W0, w.alloc (.cells #[.bool false] 4) = W0 := ⟨_, rfl⟩
  have b0 : Below w.heap.size w W0 := by rw [← hW0]; exact balloc w _
  have hs0 : W0.heap.size = w.heap.size + 1 := by rw [← hW0]; simp
  have r0 : W0.heap[w.heap.size]? = some (.cells #[.bool false] 4 (0, 0)) := by rw [← hW0]; exact World.alloc_heap_new w _
  have HS := Small5_any l 60 W0 (a := a) (c := c) (by decide) hl (hc.later b0) hal
  rw [show ((60 : Nat) : Int) = 60 from rfl] at HS
  have HS := Lib.hid HS; have HW := Lib.hid hW0; have HB0 := Lib.hid b0; have HR0 := Lib.hid r0; have HC := Lib.hid hc
  clear hW0 b0 r0 hc hal
  have hmx : Tryz.prog.follows .mixedOrders = true := by kernel_rfl
  obtain ⟨n, hn⟩ : ∃ n, 30 ≤ n := ⟨30, Nat.le_refl _⟩
  refine (callsIn_wide (n := n)).1 ?_
  refine callsIn_of_wp_marks Tryz.func5 rfl trivial ?_ rfl
  simp only [Tryz.ntmps5, List.size_toArray, List.length_cons, List.length_nil, Nat.reduceAdd, Nat.reduceSub, Array.replicate_succ, Array.replicate_zero, List.push_toArray, List.append_toArray, List.nil_append, List.cons_append]
  gi_wp2_with fail
  rw [HW.out]
  refine call_wide HS.out ?_ (by omega)
  rintro e w1 ⟨b, rfl, b1, hsm⟩
  have r1 := (b1.block w.heap.size (by omega)).trans HR0.out
  have HB1 := Lib.hid (bthen HB0.out HB0.out.size b1)
  have hs1 : w.heap.size < w1.heap.size := (Array.getElem?_eq_some_iff.1 r1).1
  clear b1 HS HR0
  cases b
  · have HR1 := Lib.hid r1
    clear r1 hsm
    have HK := Lib.hid (known05_any w1)
    gi_wp2_with fail
    refine call_wide HK.out ?_ (by omega)
    rintro e w2 ⟨rfl, b2⟩
    have r2 := (b2.block w.heap.size hs1).trans HR1.out
    have q2 : w2.cell? ⟨w.heap.size, 0, none⟩ = some (.bool false) := by rw [cell_of_row _ _ _ _ _ _ r2]; rfl
    have f2 : w2.frozen? ⟨w.heap.size, 0, none⟩ = false := Lib.frozen_of_heap r2 0
    have hz : (w2.setCell ⟨w.heap.size, 0, none⟩ (.bool true)).cell? ⟨w.heap.size, 0, none⟩ = some (.bool true) := World.cell?_setCell_same w2 _ _ q2
    have HF := Lib.hid (show Below w.heap.size w (w2.setCell ⟨w.heap.size, 0, none⟩ (.bool true)) from (bthen HB1.out HB1.out.size b2).trans ((Mod.setCell (S := fun k => k = w.heap.size) w2 _ rfl).below (by have := b2.size; omega) fun k hk e => by omega))
    clear HK b2
    gi_wp2_with fail
    unfold bodyPostM
    exact ⟨_, by simp [results, Tryz.results5, go_sem, hz], Ret.mk rfl HF.out⟩
  · obtain ⟨h60, hso, hcp⟩ := hsm rfl
    have HSO := Lib.hid (fun x hx => smallO_short (hso x hx)); have HCP := Lib.hid hcp
    have HR1 := Lib.hid r1
    have HN := Lib.hid (New_any w1)
    clear r1 hsm hso hcp
    gi_wp2_with fail
    refine call_wide HN.out ?_ (by omega)
    rintro e w2 ⟨rfl, hA2, b2⟩
    have HB2 := Lib.hid b2; have HA2 := Lib.hid hA2
    have HR2 := Lib.hid ((b2.block w.heap.size hs1).trans HR1.out)
    have hT : w1.heap.size < w2.heap.size := hA2.lt (List.mem_singleton.2 rfl)
    clear b2 hA2 HN HR1
    gi_wp2_with fail
    generalize hW3 : (w2.alloc _).alloc _ = W3
    have hI0 : LvI w w1.heap.size w.heap.size w2.heap.size (w2.heap.size + 1) l 0 [w1.heap.size] ⟨[], []⟩ ⟨0, 400, 0, 20⟩ [] none 0 W3 := by
      have b3 : Below w2.heap.size w2 W3 := by rw [← hW3]; exact (balloc w2 _).alloc (by simp) _
      have hx1 : W3.heap[w2.heap.size]? = some (.cells #[.pointer (some ⟨w1.heap.size, 0, none⟩)] 23 (0, 0)) := by rw [← hW3]; exact (Below.heap_alloc _ _ _ (by simp)).trans (World.alloc_heap_new w2 _)
      have hx2 : W3.heap[w2.heap.size + 1]? = some (.cells #[.slice none 0 0] 77 (0, 0)) := by
        rw [← hW3]
        have e1 := World.alloc_heap_new (w2.alloc (.cells #[.pointer (some ⟨w1.heap.size, 0, none⟩)] 23)) (.cells #[.slice none 0 0] 77)
        rw [World.size_alloc] at e1
        exact e1
      refine ⟨⟨(ArM.made HA2.out).later b3, ⟨(b3.block _ (by omega)).trans HR2.out, by simp; omega⟩, ⟨hx1, by simp; omega⟩, ⟨hx2, by simp; omega⟩, ⟨rfl, .inl ⟨rfl, rfl⟩⟩, (fun g hg => by cases hg), bthen (bthen HB1.out HB1.out.size HB2.out) (by omega) b3, (fun k hk => by rw [List.mem_singleton.1 hk]; omega), ⟨Nat.le_refl _, by omega, by omega⟩⟩, gd_empty, (fun x hx => by obtain ⟨h1, h2⟩ := hx; simp at h2; omega), limK_start, rfl⟩
    obtain ⟨ab, hab⟩ : ∃ ab, w2.heap.size = ab := ⟨_, rfl⟩
    obtain ⟨T, hTe⟩ : ∃ T, w1.heap.size = T := ⟨_, rfl⟩
    rw [hab, hTe] at hI0
    rw [hab]
    have HI0 := Lib.hid hI0
    clear hI0 hW3 hab hTe HR2 HA2 HB2 HB1 hT hs1 HW HB0 hs0
    gi_wp2_with fail
    gi_loopw [7] (fun i wr => ∃ (j : Nat) (O : List Nat) (s : St) (L : Lim) (Lv : List Nv) (va : Option Addr) (vc : Nat), j ≤ l.length ∧ i = .int .i64 (j : Nat) ∧ LvI w T w.heap.size ab (ab + 1) l j O s L Lv va vc wr) (fun i _ => l.length - (intOf i).toNat)
    case atStart => exact ⟨0, _, _, _, _, _, _, Nat.zero_le _, rfl, HI0.out⟩
    case round =>
      obtain ⟨j, O, s, L, Lv, va, vc, hj, rfl, hI⟩ := hrel
      have HI := Lib.hid hI
      clear HI0
      by_cases hlt : j < l.length
      · have hji : (j : Int) < (l.length : Int) := by omega
        obtain ⟨g, o, aa, ac, rfl, hx⟩ := (HC.out.later hI.b.bl) j l[j] (List.getElem?_eq_getElem hlt)
        have cab : wr.cell? ⟨ab, 0, none⟩ = some (.pointer (some ⟨T, 0, none⟩)) := hI.b.abk.cell 0
        obtain ⟨hLx, hLf, hLa⟩ := hI.lk.ok (by omega) (Nat.le_trans (copies_take l j) HCP.out)
        have hLy := hI.lk.oky (by omega) (Nat.le_trans (copies_take l j) HCP.out)
        have hlk1 := hI.lk.step l[j]
        rw [← copies_next hlt] at hlk1
        obtain ⟨-, hf1, ha1⟩ := hlk1.ok (by omega) (Nat.le_trans (copies_take l (j + 1)) HCP.out)
        have H5 := Lib.hid (fun W (hb : Below wr.heap.size wr W) => Do5_fw l[j] W (ac := ac) (hI.b.ar.later hb) hI.gd (HSO.out _ (List.getElem_mem hlt)) (hx.at_.later hb) hI.lk.y0 hI.lk.a0 (by omega) (by omega) hI.tm hLx hLy)
        have HNX := Lib.hid (fun O1 s1 L2 va2 vc2 w1 w2 hA hs hF hb h2 hr => hI.next (O1 := O1) (s1 := s1) (L2 := L2) (va2 := va2) (vc2 := vc2) (w1 := w1) (w2 := w2) hlt hA hs hF hb h2 hr)
        obtain ⟨y, hy⟩ : ∃ y, l[j] = y := ⟨_, rfl⟩
        rw [hy] at H5 HNX hx hf1 ha1
        have c0 := hx.c0; have c1 := hx.c1; have c2 := hx.c2; have c3 := hx.c3; have c4 := hx.c4; have c5 := hx.c5; have c6 := hx.c6; have c7 := hx.c7; have c8 := hx.c8; have c9 := hx.c9
        unfold opArr at H5
        obtain ⟨M, hM⟩ : ∃ M, doLim y.kind L = M := ⟨_, rfl⟩
        rw [hM] at H5 HNX hf1 ha1
        clear hy hx hI hlk1 hM hLx hLy hLf hLa
        gi_wp2_with fail
        refine wpIn_calm ?_
        gi_region_with_o (refine call_wide (H5.out _ (by first | exact Below.refl _ _ | exact below_drewA (Below.refl _ _))) ?_ (by omega); rintro e w1 ⟨s1, O1, hA1, hs1', ⟨v1, er1, rfl⟩, hF1⟩)
        all_goals
          have hs1 : AStep O wr O1 w1 := astep_pre (by first | exact Below.refl _ _ | exact below_drewA (Below.refl _ _)) hs1'
          have hB1 := HI.out.b.step hA1 hs1
          have cab1 : w1.cell? ⟨ab, 0, none⟩ = some (.pointer (some ⟨T, 0, none⟩)) := hB1.abk.cell 0
          obtain ⟨iv1, Oa, hAa, -⟩ := hA1.turn
          have hlen1 := hF1.gd.len
          have H6 := Lib.hid (Nodes_any w1 hAa (hF1.gd.fit (by omega) (by omega)) (by omega))
          have HA1 := Lib.hid hA1; have HS1 := Lib.hid hs1; have HF1 := Lib.hid hF1; have HB1 := Lib.hid hB1; have HAa := Lib.hid hAa
          clear hA1 hs1 hs1' hF1 hB1 hAa hlen1 H5 cab c0 c1 c2 c3 c4 c5 c6 c7 c8 c9
          simp only [Exit.then]
          gi_wp2_with fail
          refine call_wide H6.out ?_ (by omega)
          rintro e w2 ⟨L2, va2, vc2, rfl, hL2, hr2, b2⟩
          have hB2 := HB1.out.later b2
          have cab2 : w2.cell? ⟨ab, 0, none⟩ = some (.pointer (some ⟨T, 0, none⟩)) := hB2.abk.cell 0
          have clb2 : w2.cell? ⟨ab + 1, 0, none⟩ = some (.slice va Lv.length vc) := hB2.lbk.cell 0
          have hl1 : Lv.length = s.ns.length := by rw [← HI.out.nds]; simp
          have hl2 : L2.length = s1.ns.length := by rw [← hL2]; simp
          have hle := HF1.out.kt.kept.len
          have hlt2 : ¬ (L2.length : Int) < (Lv.length : Int) := by omega
          have H7 := Len_any w2 (HAa.out.later b2)
          rw [← hl2] at H7
          have H7 := Lib.hid H7; have HB2 := Lib.hid hB2; have HL2 := Lib.hid hL2; have HR2 := Lib.hid hr2; have HBW := Lib.hid b2; have HL1 := Lib.hid hl1; have HLL := Lib.hid hl2
          have hle2 : Lv.length ≤ L2.length := by omega
          have hLb : L2.length ≤ 61440 := by have := HF1.out.gd.len; omega
          clear hB2 hL2 hr2 b2 H6 cab1 hl1 hl2 hle HAa
          gi_wp2_with fail
          refine call_wide H7.out ?_ (by omega)
          rintro e w3 ⟨rfl, rfl⟩
          clear H7
          gi_wp2_with fail
          rw [show decide (L2.length < Lv.length) = false from decide_eq_false (by omega)]
          gi_loopw [9] (fun k wq => ∃ m : Nat, m ≤ Lv.length ∧ k = .int .i64 (m : Nat) ∧ Below w2.heap.size w2 wq) (fun k _ => Lv.length - (intOf k).toNat)
          case atStart => exact ⟨0, Nat.zero_le _, rfl, Below.refl _ _⟩
          case round =>
            generalize wr = wq at *
            obtain ⟨m, hm, rfl, hbq⟩ := hrel
            have HBQ := Lib.hid hbq
            have hBq := HB2.out.later hbq
            have clbq : wq.cell? ⟨ab + 1, 0, none⟩ = some (.slice va Lv.length vc) := hBq.lbk.cell 0
            by_cases hml : m < Lv.length
            · have hmi : (m : Int) < (Lv.length : Int) := by omega
              have hmi2 : (m : Int) < (L2.length : Int) := by omega
              have hms : m < s.ns.length := by have := HL1.out; omega
              have hms1 : m < s1.ns.length := by have := HLL.out; omega
              obtain ⟨g1, kv1, av1, rfl, hn1⟩ := nds_at hBq.row HI.out.nds hms
              obtain ⟨g2, kv2, av2, rfl, hn2⟩ := nds_at (ownsRow_below HR2.out hbq) HL2.out hms1
              have hkd := HF1.out.kt.kept.old (m + 1) ⟨by omega, by omega⟩
              unfold kd at hkd
              simp only [Prod.mk.injEq] at hkd
              obtain ⟨e1, e2, e3, e4, e5⟩ := hkd
              have n0 := hn2.c0; have n4 := hn2.c4; have n5 := hn2.c5; have n11 := hn2.c11; have n12 := hn2.c12
              rw [e1] at n0; rw [e2] at n4; rw [e3] at n5; rw [e4] at n11; rw [e5] at n12
              have o0 := hn1.c0; have o4 := hn1.c4; have o5 := hn1.c5; have o11 := hn1.c11; have o12 := hn1.c12
              generalize nd s.ns (m + 1) = d at *
              clear hn1 hn2 e1 e2 e3 e4 e5 hBq hbq hms hms1
              gi_wp2_with fail
              gi_quiet_th (fail)
              simp only [Exit.then]
              have HBN := Lib.hid (bdrewsA HBQ.out nq)
              clear n0 n4 n5 n11 n12 o0 o4 o5 o11 o12 clbq
              gi_wp2_with fail
              go_roundw
              case rel => exact ⟨m + 1, by omega, by go_num, HBN.out⟩
              case measure => first | (simp only [intOf]; omega) | (simp [intOf]; omega)
            · have fz : wq.frozen? ⟨ab + 1, 0, none⟩ = false := Lib.frozen_of_heap hBq.lbk.c 0
              have HNI := Lib.hid (HNX.out O1 s1 L2 va2 vc2 w1 wq HA1.out HS1.out HF1.out (bthen HBW.out HBW.out.size hbq) HL2.out (ownsRow_below HR2.out hbq))
              clear hBq hbq
              gi_wp2_with fail
              go_roundw
              case rel => exact ⟨j + 1, O1, s1, M, L2, va2, vc2, by omega, by go_num, HNI.out⟩
              case measure => first | (simp only [intOf]; omega) | (simp [intOf]; omega)
      · obtain ⟨hLx, hLf, hLa⟩ := hI.lk.ok (by omega) (Nat.le_trans (copies_take l j) HCP.out)
        obtain ⟨r, hr⟩ := hI.gd.snd
        have hfit := hI.gd.fit (by omega) (by omega)
        have hlen := hI.gd.len
        have hNe : Lv.length = s.ns.length := by rw [← hI.nds]; simp
        obtain ⟨xs, hX, hXn, hXr⟩ : ∃ xs, WlkL s.ns h xs ∧ xs.Nodup ∧ ∀ y ∈ xs, 1 ≤ y ∧ y ≤ Lv.length := by
          cases hh : isH s.ns.length h
          · exact ⟨[], .inl ⟨hh, rfl⟩, List.nodup_nil, fun y hy => by cases hy⟩
          · obtain ⟨x, rfl, hxr⟩ := isH_nat hh
            obtain ⟨ys, hS⟩ := sub_ex (hr.downW.lt hr) (kdW s.ns ((x : Nat) : Int)) fun y hy => (hr.downW.dn x hxr y hy).1
            obtain ⟨hn1, hi1⟩ := below_nodup hr hr.downW hxr hS
            refine ⟨x :: ys, .inr ⟨x, ys, rfl, hxr, rfl, hS⟩, hn1, fun y hy => ?_⟩
            rw [hNe]
            rcases List.mem_cons.1 hy with rfl | hy
            · exact hxr
            · exact hi1 y hy
        have hxl : xs.length ≤ 900000 := by
          have := nodup_len (n := Lv.length) hXn hXr
          omega
        have clb : wr.cell? ⟨ab + 1, 0, none⟩ = some (.slice va Lv.length vc) := hI.b.lbk.cell 0
        have hNb : Lv.length ≤ 61440 := by omega
        obtain ⟨N, hN⟩ : ∃ N, Lv.length = N := ⟨_, rfl⟩
        rw [hN] at clb hNb hXr hNe
        obtain ⟨i0, hi0, hz0, hz1, hz2⟩ := info_parts infoBo
        obtain ⟨wm, hmk, hown, hgr⟩ := run_make_full (P := Tryz.prog) wr w.heap.size 82 4 i0 (.bool false) 1 Tryz.underlying82 hi0 hz0 hz1 .i64 .i64 (N + 1) (by rw [hz2]; omega) (by unfold maxLen; omega) hI.b.bl.size
        rw [show ((N + 1 : Nat) : Int) = (N : Int) + 1 by omega] at hmk
        have hbm : Below wr.heap.size wr wm := ⟨hgr.os, hgr.tape, hgr.output, hgr.size, fun k hk => hgr.block k hk (by simp)⟩
        have hBm := hI.b.later hbm
        have hsg : wr.heap.size < wm.heap.size := ownsRow_lt hown (g := wr.heap.size) rfl
        obtain ⟨cur, hcur, hcs, hcv⟩ : ∃ cur : Array Value, wm.heap[wr.heap.size]? = some (.cells cur 4 (0, 0)) ∧ cur.size = N + 1 ∧ ∀ y, y < N + 1 → cur[y]? = some (.bool false) := by
          rcases row_cells hown with ⟨e, _⟩ | ⟨g', cap', cur, e, h2, h3, h4, h5, h6, h7⟩
          · cases e
          · cases e
            refine ⟨cur, h2, h5, fun y hy => ?_⟩
            rw [madeBools] at h6
            rw [← Array.getElem?_toList]
            have h8 : (cur.toList.take (N + 1))[y]? = (List.replicate (N + 1) (Value.bool false))[y]? := by rw [h6]
            rw [List.getElem?_take, if_pos hy] at h8
            rw [h8, List.getElem?_replicate, if_pos hy]
        obtain ⟨sg, hsge⟩ : ∃ sg, wr.heap.size = sg := ⟨_, rfl⟩
        rw [hsge] at hmk hcur hsg
        have cab : ∀ ob, (wm.alloc ob).cell? ⟨ab, 0, none⟩ = some (.pointer (some ⟨T, 0, none⟩)) := fun ob => by rw [cell_of_row _ _ _ _ _ _ ((Below.heap_alloc wm ob ab hBm.abk.lt).trans hBm.abk.c)]; rfl
        have HOS : Hid (∀ k ∈ O, k < sg) := Lib.hid (fun k hk => by rw [← hsge]; exact hI.b.ar.lt k hk)
        have HBm := Lib.hid hBm; have HCU := Lib.hid hcur; have HCS := Lib.hid hcs; have HCV := Lib.hid hcv; have HX := Lib.hid hX; have HXN := Lib.hid hXn; have HXR := Lib.hid hXr; have HRR := Lib.hid hr; have HFT := Lib.hid hfit; have HGD := Lib.hid hI.gd; have HNN := Lib.hid hN; have HNE := Lib.hid hNe
        have HSG : Hid (ab + 1 < sg) := Lib.hid (by rw [← hsge]; exact hI.b.lbk.lt)
        clear hBm hcur hcs hcv hX hXn hXr hr hfit hI hN hNe hsge hown hgr hbm HI hi0 hz0 hz1 hz2
        gi_wp2_with fail
        generalize hW4 : wm.alloc _ = W4
        have hb4 : Below wm.heap.size wm W4 := by rw [← hW4]; exact balloc _ _
        have hs4 : W4.heap.size = wm.heap.size + 1 := by rw [← hW4]; simp
        have hsb : W4.heap[wm.heap.size]? = some (.cells #[.slice (some ⟨sg, 0, none⟩) (N + 1) (N + 1)] 82 (0, 0)) := by rw [← hW4]; exact World.alloc_heap_new wm _
        have hB4 := HBm.out.later hb4
        obtain ⟨W5, hW5⟩ : ∃ W5, (W4.alloc (.cells #[.pointer (some ⟨T, 0, none⟩)] 23)).alloc (.cells #[.int .i64 h] 3) = W5 := ⟨_, rfl⟩
        obtain ⟨x0, x1, hs5, b5⟩ := two_new hW5
        have hB5 := hB4.later b5
        obtain ⟨sb, hsbe⟩ : ∃ sb, wm.heap.size = sb := ⟨_, rfl⟩
        rw [hsbe] at hsb hs4 hsg ⊢
        have hJ0 : LvS w T w.heap.size ab (ab + 1) sb sg N xs L va vc (fun _ => False) 0 W5 := by
          have hlb := hB5.lbk.c
          rw [HNN.out] at hlb
          refine ⟨⟨O, s, hB5.ar, HGD.out, HNE.out.symm, (fun y hy => by cases hy), (fun k hk => ⟨fun h => h, hB5.lo k hk⟩), hB5.rbk.n, hB5.abk.n, hB5.lbk.n, (fun hk => by have := HOS.out _ hk; omega), (fun hk => by have := HOS.out _ hk; omega)⟩, hB5.rbk.c, hB5.abk.c, hlb, (b5.block sb (by omega)).trans hsb, ⟨cur, ?_, HCS.out, fun y hy => ?_⟩, ⟨fun h => h, fun h => h, fun h => h, fun h => h, fun h => h⟩, hB5.bl, (fun k h => h.elim), ⟨hB5.bs.1, hB5.bs.2.1, hB5.bs.2.2, HSG.out, hsg⟩⟩
          · exact (b5.block sg (by omega)).trans ((hb4.block sg (by omega)).trans HCU.out)
          · rw [HCV.out y hy]; simp
        obtain ⟨iv5, O5, hA5, -⟩ := hB5.ar.turn
        have hit := fun n hn => walk_iter h xs n hn W5 (B := ⟨T, iv5⟩) (ab := W4.heap.size) (hb := W4.heap.size + 1) hA5 HRR.out HFT.out HX.out hxl (by rw [cell_of_row _ _ _ _ _ _ x0]; rfl) (by rw [cell_of_row _ _ _ _ _ _ x1]; rfl)
        have H5 := Lib.hid (Walk_any h W4 T)
        have HJ0 := Lib.hid hJ0; have HIT := Lib.hid hit; have HW5 := Lib.hid hW5
        clear hW4 hb4 hs4 hsb hB4 x0 x1 hs5 b5 hB5 hJ0 hA5 hit hW5 hsbe cab hsg HBm HCU HCS HCV HX HRR HFT HGD HNN HNE HOS clb
        have hnf : ∀ (p q : Value) (W : World), (binOp .eql 84 (.func (.func 79) #[] #[p, q]) .nilFunc).run Tryz.prog W = .ok (.bool false) W := fun p q W => by kernel_rfl
        refine call_wide H5.out ?_ (by omega)
        rintro e w5 ⟨rfl, rfl⟩
        rw [HW5.out]
        clear H5
        gi_wp2_with fail
        have HSQ := Lib.hid (HIT.out (n - 1) (by omega))
        refine wpIn_rangeFunc_itf (gf := 79) (lb := #[.pointer (some ⟨W4.heap.size, 0, none⟩), .pointer (some ⟨W4.heap.size + 1, 0, none⟩)]) (encs := fun x : Nat => #[.int .i64 (x : Nat)]) (xs := xs) (I := fun _ => False) (Pr := fun _ => True) rfl (by omega) rfl trivial enter_walk1 HSQ.out (fun k h => h.elim) (fun x => rfl)
          (fun G i W => LvS w T w.heap.size ab (ab + 1) sb sg N xs L va vc G i W) (fun _ _ _ _ => False) ?keep ?keepx ?pr ?start ?round ?done ?stop
        case keep => exact fun G G' i A C h hm hg => h.kept hm hg
        case keepx => exact fun _ _ _ _ _ _ h _ _ => h
        case pr => exact fun _ _ _ _ => trivial
        case start =>
          intro G W hW hG
          exact HJ0.out.kept (Mod.of_below hW) fun k hk => (hG k hk).elim False.elim fun h => .inr h
        case stop => exact fun D G c i W _ _ h _ _ => h.elim
        case round =>
          rintro lp x W
          gi_wp2_with fail
          refine ⟨trivial, ?_⟩
          rintro G i W' hx hj hG hsz
          obtain ⟨hil, hxe⟩ := List.getElem?_eq_some_iff.1 hx
          obtain ⟨hx1, hx2⟩ := HXR.out x (List.mem_of_getElem? hx)
          have hnt : x ∉ xs.take i := fun hm => by
            obtain ⟨q, hq⟩ := List.mem_iff_getElem?.1 hm
            rw [List.getElem?_take] at hq
            split at hq
            · rename_i hqi
              obtain ⟨hql, hqe⟩ := List.getElem?_eq_some_iff.1 hq
              exact (List.pairwise_iff_getElem.1 HXN.out) q i hql hil hqi (hqe.trans hxe.symm)
            · cases hq
          obtain ⟨cu, hcu, hcs, hcv⟩ := hj.sgk
          have clb : W'.cell? ⟨ab + 1, 0, none⟩ = some (.slice va N vc) := by rw [cell_of_row _ _ _ _ _ _ hj.lbk]; rfl
          have csb : W'.cell? ⟨sb, 0, none⟩ = some (.slice (some ⟨sg, 0, none⟩) (N + 1) (N + 1)) := by rw [cell_of_row _ _ _ _ _ _ hj.sbk]; rfl
          have csg : W'.cell? ⟨sg, x, none⟩ = some (.bool false) := by
            rw [cell_of_row _ _ _ _ _ _ hcu, hcv x (by omega), decide_eq_false hnt]
          have fsg : W'.frozen? ⟨sg, x, none⟩ = false := Lib.frozen_of_heap hcu x
          have cab : (W'.setCell ⟨sg, x, none⟩ (.bool true)).cell? ⟨ab, 0, none⟩ = some (.pointer (some ⟨T, 0, none⟩)) := by
            have hab : ¬ ab = sg := by have := hj.ds; omega
            rw [cell_of_row _ _ _ _ _ _ (((Mod.setCell (S := fun k => k = sg) W' (.bool true) rfl).block ab (Array.getElem?_eq_some_iff.1 hj.abk).1 hab).trans hj.abk)]; rfl
          have i1 : ¬ (x : Int) < 1 := by omega
          have i2 : ¬ (N : Int) < (x : Int) := by omega
          have i3 : (x : Int) < ((N + 1 : Nat) : Int) := by omega
          have i4 : (x : Int) < (N : Int) + 1 := by omega
          obtain ⟨O7, s7, hA7, hG7, hgo⟩ := hj.go hx HXR.out
          have H6 := Lib.hid (Cut_act ((x : Nat) : Int) _ hA7 hG7 (by omega) (by omega))
          have HGO := Lib.hid hgo
          clear hx hil hxe hj hnt hcu hcs hcv hA7 hG7 hgo hsz hG HJ0 HIT HSQ HW5 HXN HXR
          gi_wp2_with fail
          refine call_round H6.out ?_ (by omega)
          rintro e w7 ⟨s8, O8, hA8, hs8, ⟨er, rfl⟩, hse⟩
          have HR := Lib.hid (HGO.out _ O8 w7 hse hA8 hs8)
          clear hA8 hs8 hse H6 HGO
          gi_wp2_with fail
          exact HR.out
        case done =>
          rintro D G W hGD hj hD hK
          subst hD
          have HJ := Lib.hid hj; have HKK := Lib.hid hK
          have HGD := Lib.hid hGD
          have hx3 : W.cell? ⟨ab + 1, 0, none⟩ = some (.slice va N vc) := by rw [cell_of_row _ _ _ _ _ _ hj.lbk]; rfl
          clear hj hK hGD HJ0 HIT HSQ HW5 HXN
          gi_wp2_with fail
          gi_loopw [13] (fun k wq => ∃ m : Nat, 1 ≤ m ∧ m ≤ N + 1 ∧ k = .int .i64 (m : Nat) ∧ LvS w T w.heap.size ab (ab + 1) sb sg N xs L va vc G xs.length wq ∧ wq.heap[W5.heap.size]? = some (.deferred (some []))) (fun k _ => N + 1 - (intOf k).toNat)
          case atStart => exact ⟨1, Nat.le_refl _, by omega, rfl, HJ.out, HKK.out⟩
          case round =>
            generalize wr = wq at *
            obtain ⟨m, hm1, hm2, rfl, hj, hK⟩ := hrel
            have HJ := Lib.hid hj; have HKK := Lib.hid hK
            have clb : wq.cell? ⟨ab + 1, 0, none⟩ = some (.slice va N vc) := by rw [cell_of_row _ _ _ _ _ _ hj.lbk]; rfl
            by_cases hmN : m ≤ N
            · have mi : (m : Int) ≤ (N : Int) := by omega
              have mi2 : (m : Int) < ((N + 1 : Nat) : Int) := by omega
              have mi3 : (m : Int) < (N : Int) + 1 := by omega
              have csb : wq.cell? ⟨sb, 0, none⟩ = some (.slice (some ⟨sg, 0, none⟩) (N + 1) (N + 1)) := by rw [cell_of_row _ _ _ _ _ _ hj.sbk]; rfl
              have cab : wq.cell? ⟨ab, 0, none⟩ = some (.pointer (some ⟨T, 0, none⟩)) := by rw [cell_of_row _ _ _ _ _ _ hj.abk]; rfl
              obtain ⟨cu, hcu, hcs, hcv⟩ := hj.sgk
              have csg := cell_of_row wq sg m _ _ _ hcu
              rw [hcv m (by omega), List.take_length] at csg
              obtain ⟨O9, s9, hA9, hG9, hn9, hp9, -⟩ := hj.ar
              rw [List.take_length] at hp9
              by_cases hmx : m ∈ xs
              · rw [decide_eq_true hmx] at csg
                obtain ⟨iv9, O9a, hA9a, -⟩ := hA9.turn
                have hlen9 := hG9.len
                have H9 := Parent_any ((m : Nat) : Int) wq hA9a (by omega)
                have hP0 : (ndAt s9.ns ((m : Nat) : Int)).parent = 0 := hp9 m hmx
                rw [hP0, show (if isH s9.ns.length ((m : Nat) : Int) = true then (((0 : Nat)) : Int) else 0) = 0 by split <;> rfl] at H9
                have H9 := Lib.hid H9
                clear hj hK hcu hcs hcv hA9 hG9 hn9 hp9 hA9a hP0 hlen9 hmx
                gi_wp2_with fail
                refine call_wide H9.out ?_ (by omega)
                rintro e w9 ⟨rfl, rfl⟩
                clear H9
                gi_wp2_with fail
                go_roundw
                case rel => exact ⟨m + 1, by omega, by omega, by go_num, HJ.out, HKK.out⟩
                case measure => first | (simp only [intOf]; omega) | (simp [intOf]; omega)
              · rw [decide_eq_false hmx] at csg
                clear hj hK hcu hcs hcv hA9 hG9 hn9 hp9 hmx
                gi_wp2_with fail
                refine ⟨trivial, ?_⟩
                gi_wp2_with fail
                go_roundw
                case rel => exact ⟨m + 1, by omega, by omega, by go_num, HJ.out, HKK.out⟩
                case measure => first | (simp only [intOf]; omega) | (simp [intOf]; omega)
            · have mi : ¬ (m : Int) ≤ (N : Int) := by omega
              have HK := Lib.hid (known05_any wq)
              clear hj hK hx3
              gi_wp2_with fail
              refine call_wide HK.out ?_ (by omega)
              rintro e w9 ⟨rfl, b9⟩
              have hrl := (Array.getElem?_eq_some_iff.1 HJ.out.rbk).1
              have hDl := (Array.getElem?_eq_some_iff.1 HKK.out).1
              have r9 := (b9.block w.heap.size hrl).trans HJ.out.rbk
              have q9 : w9.cell? ⟨w.heap.size, 0, none⟩ = some (.bool false) := by rw [cell_of_row _ _ _ _ _ _ r9]; rfl
              have f9 : w9.frozen? ⟨w.heap.size, 0, none⟩ = false := Lib.frozen_of_heap r9 0
              have hDw := HJ.out.fg W5.heap.size HGD.out
              have hDr : w.heap.size ≠ W5.heap.size := fun e => HJ.out.ng.1 (e ▸ HGD.out)
              have hm9 : Mod (fun k => k = w.heap.size) w9 (w9.setCell ⟨w.heap.size, 0, none⟩ (.bool true)) := Mod.setCell _ _ rfl
              have hz : (w9.setCell ⟨w.heap.size, 0, none⟩ (.bool true)).cell? ⟨w.heap.size, 0, none⟩ = some (.bool true) := World.cell?_setCell_same w9 _ _ q9
              have hz2 := putObj_cellA (D := W5.heap.size) (x := .deferred none) hz hDr
              have HDD := Lib.hid ((hm9.block W5.heap.size (Nat.lt_of_lt_of_le hDl b9.size) (Ne.symm hDr)).trans ((b9.block W5.heap.size hDl).trans HKK.out))
              have HF := Lib.hid (show Below w.heap.size w (w9.setCell ⟨w.heap.size, 0, none⟩ (.bool true)) from (bthen HJ.out.bl HJ.out.bl.size b9).trans (hm9.below (by have := b9.size; omega) fun k hk e => by omega))
              have HDW := Lib.hid hDw.1
              clear HK b9 hm9 hDl hrl r9 hDw
              gi_wp2_with fail
              first
                | (refine ⟨by simp, .inl ⟨_, _, rfl, run_takeDeferred HDD.out, ?_⟩⟩
                   exact ⟨_, by simp [results, Tryz.results5, go_sem, hz2], Ret.mk rfl (below_putA HF.out HDW.out)⟩)
                | (unfold bodyPostM
                   refine ⟨by simp, .inl ⟨_, _, rfl, run_takeDeferred HDD.out, ?_⟩⟩
                   exact ⟨_, by simp [results, Tryz.results5, go_sem, hz2], Ret.mk rfl (below_putA HF.out HDW.out)⟩)
end Go.Proofs.YtdapdadcninidaaGreatDoor
namespace Go.Proofs.YtdapdadcninidaaGreatDoor
open Go.ChangeShapes Go.WideShapes Go.RowKit Go.Deep

instance : Inhabited Att := ⟨{}⟩
/-- These strings lie there. -/
def StrsIn (w : World) (a : Option Addr) (l : List (List UInt8)) : Prop := ∀ j s, l[j]? = some s → ∃ g o, a = some ⟨g, o, none⟩ ∧ w.cell? ⟨g, o + j, none⟩ = some (.string ⟨s.toArray⟩)
theorem StrsIn.later {w w' : World} {a : Option Addr} {l : List (List UInt8)} (h : StrsIn w a l) (hb : Below w.heap.size w w') : StrsIn w' a l := by
  intro j s hj
  obtain ⟨g, o, e, c0⟩ := h j s hj
  exact ⟨g, o, e, (hb.cell (p := ⟨g, o + j, none⟩) (World.block_lt_of_cell? _ _ c0)).trans c0⟩
theorem addr_plain {w : World} {a : Addr} {v : Value} (h : w.cell? a = some v) : a = ⟨a.block, a.off, none⟩ := by
  obtain ⟨b, o, s⟩ := a
  cases s with
  | none => rfl
  | some s =>
    unfold World.cell? at h
    split at h
    · simp at h
    · cases h
theorem add_plainN (g o n : Nat) : (⟨g, o, none⟩ : Addr).add n = ⟨g, o + n, none⟩ := by
  unfold Addr.add
  split
  · rename_i h; rw [h]; rfl
  · rfl
set_option maxRecDepth 100000 in
theorem attsIn_open {H : Type} {enc : TypeId × Value → H} {w : World} {fuel len cap : Nat} {a : Option Addr} {x : DataW H × List MemPlace} (hc : Tryz.prog.cellsOf 121 = 3) (hi : Tryz.prog.cellsOf 29 = 1) (hs : Tryz.prog.cellsOf 9 = 1)
    (h : DataW.trod enc Tryz.prog w 0 (fun _ => true) true fuel 40 [.slice a len cap] = some x) : ∃ l : List Att, l.length = len ∧ len ≤ maxLen ∧ AttsIn w a l ∧ (a = none → cap = 0) := by
  rcases open_slice Tryz.underlying40 h with ⟨hcs, _⟩ | ⟨b, len', cap', m, n, D, Pl, hcs, _, hl, hm, hmm, _, hx⟩
  · simp only [List.cons.injEq, Value.slice.injEq, and_true] at hcs
    obtain ⟨rfl, rfl, rfl⟩ := hcs
    exact ⟨[], rfl, Nat.zero_le _, fun j s hj => by simp at hj, fun _ => rfl⟩
  · simp only [List.cons.injEq, Value.slice.injEq, and_true] at hcs
    obtain ⟨rfl, rfl, rfl⟩ := hcs
    simp only [if_true] at hmm
    have each : ∀ i, i < len → ∃ y : Att, w.cell? (b.add (i * 3)) = some (.int .i64 y.space) ∧ w.cell? ((b.add (i * 3)).add 1) = some (.string ⟨y.name.toArray⟩) ∧ w.cell? ((b.add (i * 3)).add 2) = some (.string ⟨y.value.toArray⟩) := by
      intro i hil
      obtain ⟨cs', h1, h2⟩ := hx i (by omega)
      rw [hc] at h1
      obtain ⟨_, hlen, hcell⟩ := World.cells?_some h1
      obtain ⟨y0, y1, y2, k, _, _, g0, g1, g2⟩ := trod_struct3 Tryz.underlying121 h2
      match cs', hlen with
      | [v0, v1, v2], _ =>
        simp [hi, hs] at g0 g1 g2
        obtain ⟨z, hz, _⟩ := DataW.trod_int Tryz.underlying29 g0
        obtain ⟨s1, hz1, _⟩ := DataW.trod_string Tryz.underlying9 g1
        obtain ⟨s2, hz2, _⟩ := DataW.trod_string Tryz.underlying9 g2
        simp at hz hz1 hz2
        subst hz; subst hz1; subst hz2
        have e0 := hcell 0 (by omega)
        have e1 := hcell 1 (by omega)
        have e2 := hcell 2 (by omega)
        refine ⟨⟨z, s1.data.toList, s2.data.toList⟩, ?_, ?_, ?_⟩
        · simpa [Addr.add] using e0
        · simpa using e1
        · simpa using e2
    obtain ⟨f, hf⟩ := choose_lt (α := Att) each
    refine ⟨(List.range len).map f, by simp, by omega, fun j y hj => ?_, fun h => by cases h⟩
    rw [List.getElem?_map] at hj
    obtain ⟨i, hi2, rfl⟩ := Option.map_eq_some_iff.1 hj
    have hjl : j < len := by
      have := (List.getElem?_eq_some_iff.1 hi2).1
      simpa using this
    obtain rfl : i = j := by
      rw [List.getElem?_range hjl] at hi2
      exact (Option.some.inj hi2).symm
    have h0 := (hf 0 (by omega)).1
    rw [Nat.zero_mul, show b.add 0 = b from rfl] at h0
    have hb := addr_plain h0
    obtain ⟨c0, c1, c2⟩ := hf i hjl
    rw [hb, add_plainN] at c0 c1 c2
    rw [add_plainN] at c1 c2
    exact ⟨b.block, b.off, by rw [← hb], c0, c1, c2⟩
end Go.Proofs.YtdapdadcninidaaGreatDoor
