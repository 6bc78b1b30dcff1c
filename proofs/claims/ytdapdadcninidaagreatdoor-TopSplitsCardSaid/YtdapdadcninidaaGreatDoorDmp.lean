/- Package arena: dump, Dump. No condition but that the tree below the node ends and its nodes' lines can be written. -/
import Derived.Test.YtdapdadcninidaaGreatDoorLin
import Derived.Test.YtdapdadcninidaaGreatDoorAra
import Derived.Test.YtdapdadcninidaaGreatDoorBld
namespace Go.Proofs.YtdapdadcninidaaGreatDoor
open Go.RowKit
attribute [local go_sem ↓] Go.wp_at_zero Go.wp_at_succ

theorem NdIs.mod {S : Nat → Prop} {w w' : World} {g o : Nat} {d : Nd} {kv av : Value} (h : NdIs w g o d kv av) (hm : Mod S w w') (hg : ¬ S g) : NdIs w' g o d kv av := by
  have hl := World.block_lt_of_cell? _ _ h.c0
  have c : ∀ j, w'.cell? ⟨g, j, none⟩ = w.cell? ⟨g, j, none⟩ := fun j => hm.cell (p := ⟨g, j, none⟩) hl hg
  have f : ∀ j, w'.frozen? ⟨g, j, none⟩ = w.frozen? ⟨g, j, none⟩ := fun j => hm.frozen (p := ⟨g, j, none⟩) hl hg
  exact ⟨(c _).trans h.c0, (c _).trans h.c1, (c _).trans h.c2, (c _).trans h.c3, (c _).trans h.c4, (c _).trans h.c5, (c _).trans h.c6, (c _).trans h.c7, (c _).trans h.c8, (c _).trans h.c9, (c _).trans h.c10, (c _).trans h.c11, (c _).trans h.c12, fun j hj => (f _).trans (h.fz j hj)⟩
/-- A node, and that its blocks are the arena's own. -/
theorem ArW.nodeX {w : World} {B : Nat} {O : List Nat} {ns : List Nd} {h : Int} (hA : ArW B O ns w) (hh : isH ns.length h = true) :
    ∃ g cap kv av i, h = ((i + 1 : Nat) : Int) ∧ i < ns.length ∧ w.cell? ⟨B, 0, none⟩ = some (.slice (some ⟨g, 0, none⟩) ns.length cap) ∧ NdIs w g (i * 13) (ndAt ns h) kv av ∧ g ∈ O ∧ B ∈ O ∧ (∀ k, kv.ownBlock = some k → k ∈ O) ∧
      w.ownsRow 0 3 1 kv (ndAt ns h).kids.length (kidCells (ndAt ns h).kids) ∧ (∃ a c, av = .slice a (ndAt ns h).attrs.length c) := by
  obtain ⟨i, hi, rfl⟩ := isH_iff.1 hh
  have hx := List.getElem?_eq_getElem hi
  rw [ndAt_at hx]
  obtain ⟨tab, inv, L, h1, h2, h3⟩ := hA
  subst h3
  rw [List.getElem?_map] at hx
  obtain ⟨x, hy, hxe⟩ := Option.map_eq_some_iff.1 hx
  obtain ⟨g, cap, ht, _, _, hn⟩ := h1.node hy
  have hm := List.mem_of_getElem? hy
  rw [hxe] at hn
  refine ⟨g, cap, x.kv, x.av, i, rfl, hi, by rw [List.length_map, ← ht]; exact h1.c0, hn, ?_, ?_, fun k hk => ?_, ?_, ?_⟩
  · rw [← h2]; exact mem_blocks.2 (.inr (.inl (by rw [ht]; rfl)))
  · rw [← h2]; exact mem_blocks.2 (.inl rfl)
  · rw [← h2]; exact mem_blocks.2 (.inr (.inr ⟨x, hm, .inl hk⟩))
  · rw [← hxe]; exact h1.kid x hm
  · rw [← hxe]; exact ownsRow_slice (h1.att x hm)
def indL (dp : Nat) : List UInt8 := Lib.repeatL [32, 32] dp
/-- The nodes right below a node: its contents, its children. -/
def downs (d : Nd) : List Nat := (if d.contents = 0 then [] else [d.contents]) ++ d.kids
/-- The dump of these nodes, at this depth. -/
inductive DumpT (ns : List Nd) : Nat → List Nat → List UInt8 → Prop
  | nil (dp : Nat) : DumpT ns dp [] []
  | cons {dp k : Nat} {ks : List Nat} {t1 t2 : List UInt8} : dp ≤ 1000000 → isH ns.length k = true → LineOk (ndAt ns k) → DumpT ns (dp + 1) (downs (ndAt ns k)) t1 → DumpT ns dp ks t2 →
      DumpT ns dp (k :: ks) (indL dp ++ (lineL (ndAt ns k) ++ 10 :: t1) ++ t2)
/-- What dump leans on: the arena, and a builder behind it. -/
structure DmpC (B : Nat) (O : List Nat) (ns : List Nd) (R b : Nat) (bs : List Value) (w : World) : Prop where
  ar : ArW B O ns w
  lo : ∀ k ∈ O, k < b
  bl : Bld R b bs w
  br : b < R
  rs : R ≤ w.heap.size
theorem DmpC.next {B : Nat} {O : List Nat} {ns : List Nd} {R b : Nat} {bs bs' : List Value} {w w' : World} (h : DmpC B O ns R b bs w) (hm : Mod (BlS R b) w w') (hb : Bld R b bs' w') : DmpC B O ns R b bs' w' := by
  obtain ⟨h1, h2, h3, h4, h5⟩ := h
  exact ⟨h1.kept hm fun k hk hS => by
    have := h2 k hk
    rcases hS with rfl | hS
    · omega
    · omega, h2, hb, h4, Nat.le_trans h5 hm.size⟩
theorem DmpC.later {B : Nat} {O : List Nat} {ns : List Nd} {R b : Nat} {bs : List Value} {w w' : World} (h : DmpC B O ns R b bs w) (hb : Below w.heap.size w w') : DmpC B O ns R b bs w' :=
  h.next (Mod.of_below hb) (h.bl.kept fun k hk _ => hb.block k hk)
theorem DmpC.wrote {B : Nat} {O : List Nat} {ns : List Nd} {R b : Nat} {bs bs' : List Value} {v : Value} {e : Ending} {w w' : World} (h : DmpC B O ns R b bs w) (hr : RetB R b w v bs' e w') : DmpC B O ns R b bs' w' ∧ Mod (BlS R b) w w' :=
  have hm := h.bl.mod hr.2.2
  ⟨h.next hm (.inr hr.2.1), hm⟩
def DmpQ (R b : Nat) (bs : List Value) (t : List UInt8) (w : World) (e : Ending) (w' : World) : Prop := e = .returned (.tuple #[]) ∧ Bld R b (bs ++ Lib.byteCells t) w' ∧ Mod (BlS R b) w w'
/-- The contract of dump at a node, where this is its text. -/
def DmpAt (B : Nat) (O : List Nat) (ns : List Nd) (R b dp k : Nat) (t : List UInt8) : Prop := ∀ (bs : List Value) (w : World), DmpC B O ns R b bs w → bs.length + t.length ≤ 100000000000 →
  Calls Tryz.prog 50 #[.pointer (some ⟨B, 0, none⟩), .pointer (some ⟨b, 0, none⟩), .int .i64 (k : Int), .int .i64 (dp : Int)] w (DmpQ R b bs t w)
theorem row_some {w : World} {ka : Option Addr} {n kc : Nat} {xs : List Value} (h : w.ownsRow 0 3 1 (.slice ka n kc) n xs) (hn : 0 < n) : ∃ gk, ka = some ⟨gk, 0, none⟩ := by
  rcases row_cells h with ⟨_, h0, _⟩ | ⟨gk, cap, cur, hv, _⟩
  · omega
  · cases hv; exact ⟨gk, rfl⟩
theorem flat_take (ps : List (List UInt8)) (i : Nat) (hi : i < ps.length) : (ps.take i).flatten.length + ps[i].length ≤ ps.flatten.length := by
  have h : ((ps.take (i + 1)) ++ ps.drop (i + 1)).flatten.length = ps.flatten.length := by rw [List.take_append_drop]
  rw [List.take_succ_eq_append_getElem hi, List.flatten_append, List.flatten_append, List.length_append, List.length_append] at h
  simp at h ⊢
  omega
set_option maxRecDepth 100000 in
set_option maxHeartbeats 4000000 in
theorem dump_step {B R b dp k : Nat} {O : List Nat} {ns : List Nd} (ps : List (List UInt8)) (hl : ns.length ≤ 1000000) (hdp : dp ≤ 1000000) (hk : isH ns.length k = true) (hln : LineOk (ndAt ns k)) (hpl : ps.length = (downs (ndAt ns k)).length)
    (IH : ∀ (j c : Nat) (p : List UInt8), (downs (ndAt ns k))[j]? = some c → ps[j]? = some p → DmpAt B O ns R b (dp + 1) c p) (hkl : (ndAt ns k).kids.length ≤ 1000000) :
    DmpAt B O ns R b dp k (indL dp ++ (lineL (ndAt ns k) ++ 10 :: ps.flatten)) := by
  intro bs w hC hlen
  obtain ⟨g, cap, kv, av, i, hki, hi, c0, hn, hgO, hBO, hkvO, hkr, hav⟩ := hC.ar.nodeX hk
  have hlo := hC.lo
  have hgb := hlo g hgO
  have hBb := hlo B hBO
  have hbR := hC.br
  have H1 := Lib.hid (fun w' (hw : w'.cell? ⟨B, 0, none⟩ = w.cell? ⟨B, 0, none⟩) => at_any i w' (hw.trans c0) hi (by omega))
  have H2 := Lib.hid (fun w' => Tryz.strings_Repeat ⟨#[32, 32]⟩ dp w' (by omega) (by show 2 * dp ≤ _; omega))
  have hS : ¬ BlS R b g := by rintro (h | h) <;> omega
  have hSB : ¬ BlS R b B := by rintro (h | h) <;> omega
  have hSk : ∀ k, kv.ownBlock = some k → ¬ BlS R b k := fun k hk => by have := hlo k (hkvO k hk); rintro (h | h) <;> omega
  obtain ⟨I, hI⟩ : ∃ I, indL dp = I := ⟨_, rfl⟩
  obtain ⟨L, hL⟩ : ∃ L, lineL (ndAt ns k) = L := ⟨_, rfl⟩
  have H3 := Lib.hid (fun kv' av' w' (h : NdIs w' g (i * 13) (ndAt ns k) kv' av') h2 => hL ▸ line_any (ndAt ns k) kv' av' w' h h2 hln)
  rw [show Lib.repeatL (⟨#[32, 32]⟩ : ByteArray).data.toList dp = I from hI] at H2
  rw [hI, hL] at hlen ⊢
  simp only [List.length_append, List.length_cons] at hlen
  clear hI hL
  have hdpi : (dp : Int) ≤ 1000000 := by omega
  obtain ⟨d, hd⟩ : ∃ d, ndAt ns k = d := ⟨_, rfl⟩
  rw [hd] at hn hkr hav H3 hpl IH hkl
  obtain ⟨ka, kc, rfl⟩ := ownsRow_slice hkr
  replace IH : ∀ (j c : Nat) (p : List UInt8), (downs d)[j]? = some c → ps[j]? = some p → ∀ (bs : List Value) (w : World), DmpC B O ns R b bs w → bs.length + p.length ≤ 100000000000 →
      Calls Tryz.prog 50 #[.pointer (some ⟨B, 0, none⟩), .pointer (some ⟨b, 0, none⟩), .int .i64 (c : Int), .int .i64 ((dp : Int) + 1)] w (DmpQ R b bs p w) := fun j c p h1 h2 bs w h3 h4 => by
    have := IH j c p h1 h2 bs w h3 h4
    rwa [show ((dp + 1 : Nat) : Int) = (dp : Int) + 1 by omega] at this
  have HC := Lib.hid hC; have HN := Lib.hid hn; have HKR := Lib.hid hkr; have HAV := Lib.hid hav; have HIH := Lib.hid IH; have HPL := Lib.hid hpl
  clear hC hn hkr hav hd c0 hlo hkvO hgO hBO hk IH hpl
  rw [← hki] at H1
  have HS := Lib.hid hS; have HSB := Lib.hid hSB; have HSK := Lib.hid hSk
  clear hki hS hSB hSk hi hl hdp hln
  go_enter Tryz.func50, Tryz.ntmps50
  go_wp2_with fail
  refine (H1.out w rfl).mono ?_
  rintro e w1 ⟨rfl, rfl⟩
  go_wp2_with fail
  refine (H2.out w).mono ?_
  rintro e w1 ⟨rfl, b1⟩
  have C1 := Lib.hid (HC.out.later b1)
  have M1 := Lib.hid (Mod.of_below (S := BlS R b) b1)
  clear b1
  go_wp2_with fail
  refine (WriteString_bld R b bs I w1 C1.out.bl C1.out.rs (by omega)).mono ?_
  rintro e w2 hr
  obtain ⟨hC2, hM2⟩ := C1.out.wrote hr
  obtain ⟨rfl, -, -⟩ := hr
  have C2 := Lib.hid hC2; have M2 := Lib.hid (M1.out.trans hM2)
  clear hC2 hM2 C1 M1
  go_wp2_with fail
  refine (H3.out _ _ w2 (HN.out.mod M2.out HS.out) HAV.out).mono ?_
  rintro e w3 ⟨rfl, b3⟩
  have C3 := Lib.hid (C2.out.later b3)
  have M3 := Lib.hid (M2.out.trans (Mod.of_below (S := BlS R b) b3))
  clear b3 C2 M2
  go_wp2_with fail
  refine (WriteString_bld R b _ L w3 C3.out.bl C3.out.rs (by rw [List.length_append, Lib.byteCells_length]; omega)).mono ?_
  rintro e w4 hr
  obtain ⟨hC4, hM4⟩ := C3.out.wrote hr
  obtain ⟨rfl, -, -⟩ := hr
  have C4 := Lib.hid hC4; have M4 := Lib.hid (M3.out.trans hM4)
  clear hC4 hM4 C3 M3
  go_wp2_with fail
  refine (WriteByte_bld R b _ 10 w4 C4.out.bl C4.out.rs (by rw [List.length_append, List.length_append, Lib.byteCells_length, Lib.byteCells_length]; omega)).mono ?_
  rintro e w5 hr
  obtain ⟨hC5, hM5⟩ := C4.out.wrote hr
  obtain ⟨rfl, -, -⟩ := hr
  have C5 := Lib.hid hC5; have M5 := Lib.hid (M4.out.trans hM5)
  clear hC5 hM5 C4 M4
  have hN5 := HN.out.mod M5.out HS.out
  have c11 := hN5.c11
  have c2 := hN5.c2
  clear hN5
  by_cases hc0 : d.contents = 0
  · have HC00 := Lib.hid hc0
    rw [hc0] at c11
    clear hc0
    go_wp2_with fail
    go_loopw [48] (fun s48 wr => ∃ j : Nat, j ≤ d.kids.length ∧ s48 = .int .i64 (j : Nat) ∧ DmpC B O ns R b (bs ++ Lib.byteCells (I ++ (L ++ 10 :: (ps.take (0 + j)).flatten))) wr ∧ Mod (BlS R b) w wr) (fun i _ => d.kids.length - (intOf i).toNat)
    case atStart => exact ⟨0, Nat.zero_le _, rfl, by simpa [Lib.byteCells, List.append_assoc] using C5.out, M5.out⟩
    case round =>
      obtain ⟨j, hj, rfl, hC6, hM6⟩ := hrel
      have C6 := Lib.hid hC6; have M6 := Lib.hid hM6
      clear hC6 hM6
      by_cases hlt : j < d.kids.length
      · obtain ⟨gk, hka⟩ := row_some HKR.out (by omega)
        subst hka
        have hcell := row_at (ownsRow_mod HKR.out M6.out HSK.out) j (natV d.kids[j]) (by simp [kidCells, hlt])
        have hdj : (downs d)[0 + j]? = some d.kids[j] := by rw [Nat.add_comm]; simp [downs, HC00.out, hlt]
        have hpj : 0 + j < ps.length := by rw [HPL.out]; simp [downs, HC00.out]; omega
        have H7 := HIH.out (0 + j) _ ps[0 + j] hdj (List.getElem?_eq_getElem hpj) _ wr C6.out (by
          have := flat_take ps (0 + j) hpj
          simp only [List.length_append, List.length_cons, Lib.byteCells_length]
          omega)
        have htk : Hid ((ps.take (0 + (j + 1))).flatten = (ps.take (0 + j)).flatten ++ ps[0 + j]) := Lib.hid (by rw [show 0 + (j + 1) = 0 + j + 1 by omega, List.take_succ_eq_append_getElem hpj, List.flatten_append]; simp)
        obtain ⟨p, hp⟩ : ∃ p, ps[0 + j] = p := ⟨_, rfl⟩
        rw [hp] at H7 htk
        obtain ⟨c, hc⟩ : ∃ c, d.kids[j] = c := ⟨_, rfl⟩
        rw [hc] at H7 hcell
        have H7 := Lib.hid H7
        have hji : (j : Int) < (d.kids.length : Int) := by omega
        clear hdj hpj hp hc
        go_wp2_with fail
        refine H7.out.mono ?_
        rintro e w7 ⟨rfl, hb7, hm7⟩
        have C7 := Lib.hid (C6.out.next hm7 hb7)
        have M7 := Lib.hid (M6.out.trans hm7)
        clear hb7 hm7
        go_wp2
        go_roundw
        case rel => exact ⟨j + 1, by omega, by go_num, by
          have := C7.out
          rw [htk.out]
          simpa [Lib.byteCells, List.append_assoc] using this, M7.out⟩
        case measure => simp [intOf]; omega
      · have hje : j = d.kids.length := by omega
        subst hje
        have hfull : ps.take (0 + d.kids.length) = ps := List.take_of_length_le (by rw [HPL.out]; simp [downs, HC00.out]; try omega)
        rw [hfull] at C6
        clear hfull
        go_wp2
        go_end0
        exact ⟨rfl, C6.out.bl, M6.out⟩
  · have HC00 := Lib.hid hc0
    have hcz : ((d.contents : Int) != 0) = true := by simpa using hc0
    have hd0 : (downs d)[0]? = some d.contents := by simp [downs, hc0]
    have hp0 : 0 < ps.length := by rw [HPL.out]; simp [downs, hc0]
    have H6 := HIH.out 0 _ ps[0] hd0 (List.getElem?_eq_getElem hp0) _ w5 C5.out (by
      have := flat_take ps 0 hp0
      simp only [List.length_append, Lib.byteCells_length, List.length_cons, List.length_nil]
      omega)
    have htk0 : Hid ((ps.take (1 + 0)).flatten = ps[0]) := Lib.hid (by rw [show 1 + 0 = 0 + 1 from rfl, List.take_succ_eq_append_getElem hp0]; simp)
    obtain ⟨p, hp⟩ : ∃ p, ps[0] = p := ⟨_, rfl⟩
    rw [hp] at H6 htk0
    replace H6 := Lib.hid H6
    clear hd0 hp0 hp hc0
    go_wp2_with fail
    refine H6.out.mono ?_
    rintro e w6 ⟨rfl, hb6, hm6⟩
    have C6' := Lib.hid (C5.out.next hm6 hb6)
    have M6' := Lib.hid (M5.out.trans hm6)
    have hN6 := HN.out.mod M6'.out HS.out
    have d2 := hN6.c2
    clear hN6 hb6 hm6 C5 M5 c2 c11
    go_wp2_with fail
    go_loopw [48] (fun s48 wr => ∃ j : Nat, j ≤ d.kids.length ∧ s48 = .int .i64 (j : Nat) ∧ DmpC B O ns R b (bs ++ Lib.byteCells (I ++ (L ++ 10 :: (ps.take (1 + j)).flatten))) wr ∧ Mod (BlS R b) w wr) (fun i _ => d.kids.length - (intOf i).toNat)
    case atStart => exact ⟨0, Nat.zero_le _, rfl, by rw [htk0.out]; simpa [Lib.byteCells, List.append_assoc] using C6'.out, M6'.out⟩
    case round =>
      obtain ⟨j, hj, rfl, hC6, hM6⟩ := hrel
      have C6 := Lib.hid hC6; have M6 := Lib.hid hM6
      clear hC6 hM6
      by_cases hlt : j < d.kids.length
      · obtain ⟨gk, hka⟩ := row_some HKR.out (by omega)
        subst hka
        have hcell := row_at (ownsRow_mod HKR.out M6.out HSK.out) j (natV d.kids[j]) (by simp [kidCells, hlt])
        have hdj : (downs d)[1 + j]? = some d.kids[j] := by rw [Nat.add_comm]; simp [downs, HC00.out, hlt]
        have hpj : 1 + j < ps.length := by rw [HPL.out]; simp [downs, HC00.out]; omega
        have H7 := HIH.out (1 + j) _ ps[1 + j] hdj (List.getElem?_eq_getElem hpj) _ wr C6.out (by
          have := flat_take ps (1 + j) hpj
          simp only [List.length_append, List.length_cons, Lib.byteCells_length]
          omega)
        have htk : Hid ((ps.take (1 + (j + 1))).flatten = (ps.take (1 + j)).flatten ++ ps[1 + j]) := Lib.hid (by rw [show 1 + (j + 1) = 1 + j + 1 by omega, List.take_succ_eq_append_getElem hpj, List.flatten_append]; simp)
        obtain ⟨p, hp⟩ : ∃ p, ps[1 + j] = p := ⟨_, rfl⟩
        rw [hp] at H7 htk
        obtain ⟨c, hc⟩ : ∃ c, d.kids[j] = c := ⟨_, rfl⟩
        rw [hc] at H7 hcell
        have H7 := Lib.hid H7
        have hji : (j : Int) < (d.kids.length : Int) := by omega
        clear hdj hpj hp hc
        go_wp2_with fail
        refine H7.out.mono ?_
        rintro e w7 ⟨rfl, hb7, hm7⟩
        have C7 := Lib.hid (C6.out.next hm7 hb7)
        have M7 := Lib.hid (M6.out.trans hm7)
        clear hb7 hm7
        go_wp2
        go_roundw
        case rel => exact ⟨j + 1, by omega, by go_num, by
          have := C7.out
          rw [htk.out]
          simpa [Lib.byteCells, List.append_assoc] using this, M7.out⟩
        case measure => simp [intOf]; omega
      · have hje : j = d.kids.length := by omega
        subst hje
        have hfull : ps.take (1 + d.kids.length) = ps := List.take_of_length_le (by rw [HPL.out]; simp [downs, HC00.out]; try omega)
        rw [hfull] at C6
        clear hfull
        go_wp2
        go_end0
        exact ⟨rfl, C6.out.bl, M6.out⟩
theorem dump_all {B R b : Nat} {O : List Nat} {ns : List Nd} (hl : ns.length ≤ 1000000) (hkl : ∀ k : Int, (ndAt ns k).kids.length ≤ 1000000) {dp : Nat} {ks : List Nat} {t : List UInt8} (h : DumpT ns dp ks t) :
    ∃ ps : List (List UInt8), ps.length = ks.length ∧ t = ps.flatten ∧ ∀ (j c : Nat) (p : List UInt8), ks[j]? = some c → ps[j]? = some p → DmpAt B O ns R b dp c p := by
  induction h with
  | nil dp => exact ⟨[], rfl, rfl, fun j c p h _ => by simp at h⟩
  | @cons dp k ks t1 t2 hdp hk hln _ _ ih1 ih2 =>
    obtain ⟨ps1, e1, f1, g1⟩ := ih1
    obtain ⟨ps2, e2, f2, g2⟩ := ih2
    refine ⟨(indL dp ++ (lineL (ndAt ns k) ++ 10 :: t1)) :: ps2, by simp [e2], by simp [f2], fun j c p h1 h2 => ?_⟩
    match j, h1, h2 with
    | 0, h1, h2 =>
      simp at h1 h2
      subst h1
      subst h2
      subst f1
      exact dump_step ps1 hl hdp hk hln e1 g1 (hkl k)
    | j + 1, h1, h2 => exact g2 j c p (by simpa using h1) (by simpa using h2)
set_option maxRecDepth 100000 in
set_option maxHeartbeats 1000000 in
/-- Dump, at a node whose dump is t. -/
theorem Dump_any (h : Nat) (t : List UInt8) (w : World) {B : Nat} {O : List Nat} {ns : List Nd} (hA : ArW B O ns w) (hl : ns.length ≤ 1000000) (hkl : ∀ k : Int, (ndAt ns k).kids.length ≤ 1000000) (hh : isH ns.length h = true) (hT : DumpT ns 0 [h] t) (htl : t.length ≤ 1000000000) :
    Calls Tryz.prog 13 #[.pointer (some ⟨B, 0, none⟩), .int .i64 (h : Int)] w (Ret w (.string ⟨t.toArray⟩)) := by
  obtain ⟨W0, hW0⟩ : ∃ W0, w.alloc (.cells #[.pointer none, .slice none 0 0] 112) = W0 := ⟨_, rfl⟩
  have b0 : Below w.heap.size w W0 := by rw [← hW0]; exact balloc w _
  have hbx : W0.heap[w.heap.size]? = some (.cells #[.pointer none, .slice none 0 0] 112 (0, 0)) := by rw [← hW0]; exact World.alloc_heap_new w _
  have hsz : W0.heap.size = w.heap.size + 1 := by rw [← hW0]; simp
  have hC : DmpC B O ns (w.heap.size + 1) w.heap.size [] W0 := ⟨hA.later b0, fun k hk => hA.lt hk, Bld.fresh hbx (Nat.lt_succ_self _), Nat.lt_succ_self _, by omega⟩
  obtain ⟨ps, e1, e2, e3⟩ := dump_all (B := B) (R := w.heap.size + 1) (b := w.heap.size) (O := O) hl hkl hT
  obtain ⟨p, rfl⟩ : ∃ p, ps = [p] := by
    match ps, e1 with
    | [p], _ => exact ⟨p, rfl⟩
  replace e2 : t = p := by simpa using e2
  subst e2
  have H2 := Lib.hid (e3 0 h t rfl rfl [] W0 hC (by simp; omega))
  have H1 := isH_any h w hA
  rw [hh] at H1
  replace H1 := Lib.hid H1
  have HSZ := Lib.hid hsz
  have HW := Lib.hid hW0; have HB0 := Lib.hid b0
  clear hsz hC hbx b0 hW0 e3 hA hT hh e1 hkl htl hl
  go_enter Tryz.func13, Tryz.ntmps13
  go_wp2_with fail
  refine H1.out.mono ?_
  rintro e w1 ⟨rfl, rfl⟩
  go_wp2_with fail
  rw [HW.out]
  refine H2.out.mono ?_
  rintro e w2 ⟨rfl, hb2, hm2⟩
  have H3 := Lib.hid (String_bld _ _ t w2 (by simpa using hb2))
  have HM := Lib.hid hm2
  clear hb2 hm2
  go_wp2_with fail
  refine H3.out.mono ?_
  rintro e w3 ⟨rfl, b3, -⟩
  have HF := Lib.hid ((HB0.out.trans (HM.out.below (by have := HSZ.out; omega) (fun k hk h => by have := HSZ.out; rcases h with h | h <;> omega))).trans b3)
  clear b3
  go_wp2_with fail
  go_ret
  exact Ret.mk rfl HF.out
end Go.Proofs.YtdapdadcninidaaGreatDoor
