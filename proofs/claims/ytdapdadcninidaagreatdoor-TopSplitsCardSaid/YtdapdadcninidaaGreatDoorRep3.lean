/- (*strings.byteStringReplacer).Replace over build's table. No condition but the length. -/
import Derived.Test.YtdapdadcninidaaGreatDoorRep2
import Derived.Laws.CopyOwn
import Derived.Laws.Cover3
import Derived.Deep.RegionLaw
namespace Go.Proofs.YtdapdadcninidaaGreatDoor
open Go.RowKit
attribute [local go_sem ↓] Go.wp_at_zero Go.wp_at_succ
attribute [local go_sem] sgetr

def big (c : UInt8) : Bool := c == 10 || (c == 92 || c == 34)
/-- What stands for a byte. -/
def escB (c : UInt8) : List UInt8 := if c = 10 then [92, 110] else if c = 92 then [92, 92] else if c = 34 then [92, 34] else [c]
def escL (l : List UInt8) : List UInt8 := l.flatMap escB
theorem escB_len (c : UInt8) : (escB c).length = if big c then 2 else 1 := by
  unfold escB big
  by_cases h1 : c = 10
  · simp [h1]
  · by_cases h2 : c = 92
    · simp [h2]
    · by_cases h3 : c = 34 <;> simp [h1, h2, h3]
theorem escB_no {c : UInt8} (h : big c = false) : escB c = [c] := by
  simp only [big, Bool.or_eq_false_iff, beq_eq_false_iff_ne] at h
  rw [escB, if_neg h.1, if_neg h.2.1, if_neg h.2.2]
theorem escL_len (l : List UInt8) : (escL l).length = l.length + l.countP big := by
  induction l with
  | nil => rfl
  | cons c l ih =>
    simp only [escL, List.flatMap_cons, List.length_append, List.length_cons] at ih ⊢
    rw [ih, escB_len, List.countP_cons]
    cases big c <;> simp <;> omega
theorem count_big (l : List UInt8) : l.count 10 + l.count 92 + l.count 34 = l.countP big := by
  induction l with
  | nil => rfl
  | cons c l ih =>
    simp only [List.count_cons, List.countP_cons]
    rw [← ih]
    by_cases h1 : c = 10
    · subst h1; simp [big]; omega
    · by_cases h2 : c = 92
      · subst h2; simp [big]; omega
      · by_cases h3 : c = 34
        · subst h3; simp [big]; omega
        · simp [big, h1, h2, h3]
theorem escL_id {l : List UInt8} (h : l.countP big = 0) : escL l = l := by
  induction l with
  | nil => rfl
  | cons c l ih =>
    rw [List.countP_cons] at h
    have h1 : big c = false := by cases hb : big c <;> simp [hb] at h ⊢
    have h2 : l.countP big = 0 := by omega
    have := ih h2
    unfold escL at this ⊢
    rw [List.flatMap_cons, escB_no h1, this]; rfl
theorem RepT.at {r q : Nat} {w : World} (h : RepT r q 3 w) (b : UInt8) : (big b = false ∧ w.cell? ⟨q, b.toNat, none⟩ = some (.slice none 0 0)) ∨
    (big b = true ∧ ∃ g c n, w.cell? ⟨q, b.toNat, none⟩ = some (.slice (some ⟨g, 0, none⟩) 2 c) ∧ RowAt w g n (escB b)) := by
  by_cases h1 : b = 10
  · obtain ⟨g, c, n, e1, e2, _⟩ := h.ent 0 (by decide)
    subst h1
    exact .inr ⟨rfl, g, c, n, e1, e2⟩
  · by_cases h2 : b = 92
    · obtain ⟨g, c, n, e1, e2, _⟩ := h.ent 1 (by decide)
      subst h2
      exact .inr ⟨rfl, g, c, n, e1, e2⟩
    · by_cases h3 : b = 34
      · obtain ⟨g, c, n, e1, e2, _⟩ := h.ent 2 (by decide)
        subst h3
        exact .inr ⟨rfl, g, c, n, e1, e2⟩
      · refine .inl ⟨by simp [big, h1, h2, h3], h.nil _ b.toNat_lt fun j hj e => ?_⟩
        match j, hj with
        | 0, _ => exact h1 (UInt8.toNat_inj.1 e)
        | 1, _ => exact h2 (UInt8.toNat_inj.1 e)
        | 2, _ => exact h3 (UInt8.toNat_inj.1 e)
/-- The counts of the first k bytes of the list. -/
def cntK (k : Nat) (l : List UInt8) : Nat := if k = 0 then 0 else if k = 1 then l.count 10 else if k = 2 then l.count 10 + l.count 92 else l.count 10 + l.count 92 + l.count 34
theorem cntK_le (k : Nat) (l : List UInt8) : cntK k l ≤ 3 * l.length := by
  have h1 := List.count_le_length (a := 10) (l := l)
  have h2 := List.count_le_length (a := 92) (l := l)
  have h3 := List.count_le_length (a := 34) (l := l)
  unfold cntK
  repeat' split
  all_goals omega
theorem below_drewA {n : Nat} {w w' : World} (h : Below n w w') : Below n w w'.drew := ⟨h.os, h.tape, h.output, h.size, h.block⟩
theorem RepT.all {r q : Nat} {w : World} (h : RepT r q 3 w) : w.cell? ⟨q, 256, none⟩ = some (.slice (some ⟨r, 0, none⟩) 3 3) ∧ w.cell? ⟨r, 0, none⟩ = some (.string ⟨#[10]⟩) ∧ w.cell? ⟨r, 1, none⟩ = some (.string ⟨#[92]⟩) ∧ w.cell? ⟨r, 2, none⟩ = some (.string ⟨#[34]⟩) ∧
    ∃ g0 c0 g1 c1 g2 c2, w.cell? ⟨q, 10, none⟩ = some (.slice (some ⟨g0, 0, none⟩) 2 c0) ∧ w.cell? ⟨q, 92, none⟩ = some (.slice (some ⟨g1, 0, none⟩) 2 c1) ∧ w.cell? ⟨q, 34, none⟩ = some (.slice (some ⟨g2, 0, none⟩) 2 c2) := by
  obtain ⟨rc, hrc, hrs, hrj⟩ := h.row
  obtain ⟨g0, c0, n0, e0, -⟩ := h.ent 0 (by decide)
  obtain ⟨g1, c1, n1, e1, -⟩ := h.ent 1 (by decide)
  obtain ⟨g2, c2, n2, e2, -⟩ := h.ent 2 (by decide)
  exact ⟨h.tr, by rw [cell_of_row _ _ _ _ _ _ hrc]; exact hrj 0 (by decide), by rw [cell_of_row _ _ _ _ _ _ hrc]; exact hrj 1 (by decide), by rw [cell_of_row _ _ _ _ _ _ hrc]; exact hrj 2 (by decide), g0, c0, g1, c1, g2, c2, e0, e1, e2⟩
theorem RepT.later {r q k : Nat} {A B : World} (h : RepT r q k A) (hb : Below A.heap.size A B) : RepT r q k B :=
  h.mod (S := fun _ => False) (Mod.of_below hb) (fun h => h) (fun h => h) (fun _ h => h.elim)
theorem mkBytes (w : World) (n : Nat) (hn : n ≤ 2000000000) : (Instr.makeSlice 110 (.int .i64 (n : Int)) (.int .i64 (n : Int))).run Tryz.prog w = .ok (.slice (some ⟨w.heap.size, 0, none⟩) n n) (w.alloc (.cells (Array.replicate n (.int .u8 0)) 5)) := by
  obtain ⟨i, hi, hz0, hz1, hz2⟩ := info_parts infoB
  rw [run_make w 110 5 i _ Tryz.underlying110 hi hz0 .i64 .i64 n n (by omega) (by omega) (by rw [hz2]; omega) (by omega), hz1]
  have e : madeCells (Value.int .u8 0).cells (n * 1) = Array.replicate n (.int .u8 0) := by
    apply Array.ext
    · simp [size_madeCells]
    · intro j h1 h2
      simp [madeCells, Value.cells, Nat.mod_one]
  rw [Int.toNat_natCast, e]
/-- The row of bytes that Replace fills: these lie at its head, the rest are zeros. -/
def EscRow (w : World) (b N : Nat) (J : List UInt8) : Prop := J.length ≤ N ∧ w.heap[b]? = some (.cells (Lib.byteCells J ++ List.replicate (N - J.length) (Value.int .u8 0)).toArray 5 (0, 0))
theorem EscRow.start (w : World) (N : Nat) : EscRow (w.alloc (.cells (Array.replicate N (.int .u8 0)) 5)) w.heap.size N [] := by
  refine ⟨Nat.zero_le _, ?_⟩
  rw [World.alloc_heap_new]
  simp [Lib.byteCells]
theorem EscRow.at {w : World} {b N : Nat} {J : List UInt8} (h : EscRow w b N J) (c : UInt8) (hJ : J.length + 1 ≤ N) : w.cell? ⟨b, J.length, none⟩ = some (.int .u8 0) ∧ w.frozen? ⟨b, J.length, none⟩ = false ∧
    EscRow (w.setCell ⟨b, J.length, none⟩ (.int .u8 (c.toNat : Int))) b N (J ++ [c]) := by
  obtain ⟨h1, h2⟩ := h
  have hl : (Lib.byteCells J).length = J.length := Lib.byteCells_length J
  refine ⟨?_, Lib.frozen_of_heap h2 _, by simpa using hJ, ?_⟩
  · rw [cell_of_row _ _ _ _ _ _ h2, List.getElem?_toArray, List.getElem?_append_right (by omega), hl, Nat.sub_self, List.getElem?_replicate, if_pos (by omega)]
  · rw [Joins.block_setCell (i := J.length) h2]
    congr 2
    rw [List.setIfInBounds_toArray]
    congr 1
    rw [List.set_append_right _ _ (by omega), hl, Nat.sub_self, show N - J.length = (N - (J ++ [c]).length) + 1 by simp; omega, List.replicate_succ, List.set_cons_zero]
    simp [Lib.byteCells]
theorem EscRow.conv {w : World} {b N : Nat} {J : List UInt8} (h : EscRow w b N J) (hN : J.length = N) : (convert 110 9 (.slice (some ⟨b, 0, none⟩) N N)).run Tryz.prog w = .ok (.string ⟨J.toArray⟩) w := by
  obtain ⟨h1, h2⟩ := h
  have hs : (⟨J.toArray⟩ : ByteArray).size = N := by simpa [ByteArray.size] using hN
  have := Lib.run_convert_whole (P := Tryz.prog) w 110 5 9 Tryz.underlying110 Tryz.underlying5 Tryz.underlying9 b 0 ⟨J.toArray⟩ (by
    intro i hi
    have hi' : i < J.length := by omega
    rw [Nat.zero_add, cell_of_row _ _ _ _ _ _ h2, List.getElem?_toArray, List.getElem?_append_left (by rw [Lib.byteCells_length]; exact hi')]
    simp [Lib.byteCells, hi']
    rfl) N
  rw [hs] at this
  exact this
theorem escL_next (l : List UInt8) (i : Nat) (hi : i < l.length) : escL (l.take (i + 1)) = escL (l.take i) ++ escB l[i] := by
  rw [List.take_succ_eq_append_getElem hi]
  unfold escL
  rw [List.flatMap_append, List.flatMap_cons, List.flatMap_nil, List.append_nil]
theorem escL_fit (l : List UInt8) (i : Nat) (hi : i < l.length) : (escL (l.take i)).length + (escB l[i]).length ≤ (escL l).length := by
  have h : (escL (l.take (i + 1) ++ l.drop (i + 1))).length = (escL l).length := by rw [List.take_append_drop]
  rw [show escL (l.take (i + 1) ++ l.drop (i + 1)) = escL (l.take (i + 1)) ++ escL (l.drop (i + 1)) by unfold escL; rw [List.flatMap_append], escL_next l i hi] at h
  rw [← h]
  simp
theorem infoB1 : (Tryz.prog.info? 5).map (·.size) = some 1 := by kernel_rfl
theorem esc_splice {w : World} {g n N : Nat} {J bs : List UInt8} (hrw : RowAt w g n bs) (h2 : bs.length = 2) (hle : J.length + 2 ≤ N) :
    (Lib.byteCells bs).length = Nat.min 2 (N - J.length) ∧ J.length + (Lib.byteCells bs).length ≤ (Lib.byteCells J ++ List.replicate (N - J.length) (Value.int .u8 0)).length ∧ (∀ v ∈ Lib.byteCells bs, v.oneCell' = true) ∧
      (∀ j v, (Lib.byteCells bs)[j]? = some v → w.cell? ((⟨g, 0, none⟩ : Addr).add j) = some v) ∧
      ∀ (w4 : World) (b : Nat), w4.heap[b]? = some (.cells (splice (Lib.byteCells J ++ List.replicate (N - J.length) (Value.int .u8 0)) J.length (Lib.byteCells bs)).toArray 5 (0, 0)) → EscRow w4 b N (J ++ bs) := by
  have hl : (Lib.byteCells bs).length = 2 := by rw [Lib.byteCells_length, h2]
  have hj : (Lib.byteCells J).length = J.length := Lib.byteCells_length J
  refine ⟨by rw [hl]; show 2 = min _ _; omega, by rw [hl, List.length_append, hj, List.length_replicate]; omega, ?_, ?_, fun w4 b h => ?_⟩
  · intro v hv
    simp only [Lib.byteCells, List.mem_map] at hv
    obtain ⟨c, _, rfl⟩ := hv
    rfl
  · intro j v hjv
    have hadd : (⟨g, 0, none⟩ : Addr).add j = ⟨g, j, none⟩ := by unfold Addr.add; split <;> simp_all
    have hjl : j < bs.length := by have := (List.getElem?_eq_some_iff.1 hjv).1; omega
    rw [hadd, hrw.cell j hjl]
    simpa [Lib.byteCells, hjl] using hjv
  · refine ⟨by rw [List.length_append]; omega, h.trans ?_⟩
    congr 3
    rw [splice, hl, List.take_left' hj, ← List.append_assoc, List.drop_append, hj, List.drop_of_length_le (by omega), List.nil_append, List.drop_replicate]
    simp [Lib.byteCells, h2]
    omega
set_option maxRecDepth 100000 in
set_option maxHeartbeats 4000000 in
theorem bsReplace_any (l : List UInt8) (w : World) {r q : Nat} (hT : RepT r q 3 w) (hl : l.length ≤ 1000000000) :
    Calls Tryz.prog 284 #[.pointer (some ⟨q, 0, none⟩), .string ⟨l.toArray⟩] w (Ret w (.string ⟨(escL l).toArray⟩)) := by
  have hbc := List.countP_le_length (p := big) (l := l)
  have hcb := count_big l
  have HT := Lib.hid hT
  clear hT
  by_cases h24 : 24 ≤ (l.length : Int)
  · obtain ⟨htr, -, -, -, -⟩ := HT.out.all
    go_enter Tryz.func284, Tryz.ntmps284
    go_wp2
    go_loopw [5, 6, 32] (fun s5 s6 s32 wr => ∃ k : Nat, k ≤ 3 ∧ s32 = .int .i64 (k : Nat) ∧ s5 = .int .i64 ((l.length + cntK k l : Nat) : Int) ∧ s6 = .bool (decide (cntK k l ≠ 0)) ∧ Below w.heap.size w wr) (fun _ _ i _ => 3 - (intOf i).toNat)
    case atStart => exact ⟨0, by omega, rfl, rfl, rfl, Below.refl _ _⟩
    case round =>
      obtain ⟨k, hk, rfl, rfl, rfl, hb⟩ := hrel
      have HT1 := Lib.hid (HT.out.later hb)
      have HB := Lib.hid hb
      obtain ⟨htr, t0, t1, t2, g0, c0, g1, c1, g2, c2, e0, e1, e2⟩ := HT1.out.all
      clear hb
      match k, hk with
      | 0, _ =>
        have hix : ∀ h, (((⟨#[10]⟩ : ByteArray)[0]'h).toNat : Int) = 10 := fun _ => rfl
        have HK := Tryz.strings_Count_one ⟨l.toArray⟩ 10 wr
        obtain ⟨c, hc⟩ : ∃ c, l.count 10 = c := ⟨_, rfl⟩
        have hcl : c ≤ 1000000000 := by have := List.count_le_length (a := 10) (l := l); omega
        obtain ⟨d, hd⟩ : ∃ d, cntK 0 l = d := ⟨_, rfl⟩
        have hdl : d ≤ 3000000000 := by have := cntK_le 0 l; omega
        have HN : Hid (cntK 1 l = d + c) := Lib.hid (by simp only [cntK] at hd ⊢; simp at hd ⊢; omega)
        simp only [Lib.countByte, hc] at HK
        rw [hd]
        replace HK := Lib.hid HK
        clear hd hc
        by_cases hc0 : c = 0
        · subst hc0
          go_wp2_with (refine HK.out.mono ?_; rintro e w1 ⟨rfl, rfl⟩)
          go_roundw
          case rel => exact ⟨1, by omega, by go_num, by rw [HN.out]; rfl, by rw [HN.out]; simp, HB.out⟩
          case measure => simp [intOf]
        · have hcz : ((c : Int) != 0) = true := by simpa using hc0
          go_wp2_with (refine HK.out.mono ?_; rintro e w1 ⟨rfl, rfl⟩)
          go_region
          all_goals
            go_wp2
            go_roundw
            case rel => exact ⟨1, by omega, by go_num, by rw [HN.out]; go_num, by rw [HN.out]; simp; omega, by first | exact HB.out | exact below_drewA HB.out⟩
            case measure => simp [intOf]
      | 1, _ =>
        have hix : ∀ h, (((⟨#[92]⟩ : ByteArray)[0]'h).toNat : Int) = 92 := fun _ => rfl
        have HK := Tryz.strings_Count_one ⟨l.toArray⟩ 92 wr
        obtain ⟨c, hc⟩ : ∃ c, l.count 92 = c := ⟨_, rfl⟩
        have hcl : c ≤ 1000000000 := by have := List.count_le_length (a := 92) (l := l); omega
        obtain ⟨d, hd⟩ : ∃ d, cntK 1 l = d := ⟨_, rfl⟩
        have hdl : d ≤ 3000000000 := by have := cntK_le 1 l; omega
        have HN : Hid (cntK 2 l = d + c) := Lib.hid (by simp only [cntK] at hd ⊢; simp at hd ⊢; omega)
        simp only [Lib.countByte, hc] at HK
        rw [hd]
        replace HK := Lib.hid HK
        clear hd hc
        by_cases hc0 : c = 0
        · subst hc0
          go_wp2_with (refine HK.out.mono ?_; rintro e w1 ⟨rfl, rfl⟩)
          go_roundw
          case rel => exact ⟨2, by omega, by go_num, by rw [HN.out]; rfl, by rw [HN.out]; simp, HB.out⟩
          case measure => simp [intOf]
        · have hcz : ((c : Int) != 0) = true := by simpa using hc0
          go_wp2_with (refine HK.out.mono ?_; rintro e w1 ⟨rfl, rfl⟩)
          go_region
          all_goals
            go_wp2
            go_roundw
            case rel => exact ⟨2, by omega, by go_num, by rw [HN.out]; go_num, by rw [HN.out]; simp; omega, by first | exact HB.out | exact below_drewA HB.out⟩
            case measure => simp [intOf]
      | 2, _ =>
        have hix : ∀ h, (((⟨#[34]⟩ : ByteArray)[0]'h).toNat : Int) = 34 := fun _ => rfl
        have HK := Tryz.strings_Count_one ⟨l.toArray⟩ 34 wr
        obtain ⟨c, hc⟩ : ∃ c, l.count 34 = c := ⟨_, rfl⟩
        have hcl : c ≤ 1000000000 := by have := List.count_le_length (a := 34) (l := l); omega
        obtain ⟨d, hd⟩ : ∃ d, cntK 2 l = d := ⟨_, rfl⟩
        have hdl : d ≤ 3000000000 := by have := cntK_le 2 l; omega
        have HN : Hid (cntK 3 l = d + c) := Lib.hid (by simp only [cntK] at hd ⊢; simp at hd ⊢; omega)
        simp only [Lib.countByte, hc] at HK
        rw [hd]
        replace HK := Lib.hid HK
        clear hd hc
        by_cases hc0 : c = 0
        · subst hc0
          go_wp2_with (refine HK.out.mono ?_; rintro e w1 ⟨rfl, rfl⟩)
          go_roundw
          case rel => exact ⟨3, by omega, by go_num, by rw [HN.out]; rfl, by rw [HN.out]; simp, HB.out⟩
          case measure => simp [intOf]
        · have hcz : ((c : Int) != 0) = true := by simpa using hc0
          go_wp2_with (refine HK.out.mono ?_; rintro e w1 ⟨rfl, rfl⟩)
          go_region
          all_goals
            go_wp2
            go_roundw
            case rel => exact ⟨3, by omega, by go_num, by rw [HN.out]; go_num, by rw [HN.out]; simp; omega, by first | exact HB.out | exact below_drewA HB.out⟩
            case measure => simp [intOf]
      | 3, _ =>
        clear t0 t1 t2 e0 e1 e2
        have hN : cntK 3 l = l.countP big := by rw [← hcb]; rfl
        rw [hN]
        by_cases hz : l.countP big = 0
        · have HE := Lib.hid (escL_id hz)
          have hq : decide (l.countP big ≠ 0) = false := by simp [hz]
          rw [hq, hz]
          clear hz hN hcb hq
          go_wp2
          go_ret
          exact Ret.mk (by rw [HE.out]; rfl) HB.out
        · have hq : decide (l.countP big ≠ 0) = true := by simp [hz]
          have hel := escL_len l
          rw [hq]
          clear hz hN hcb hq
          obtain ⟨m, hm⟩ : ∃ m, l.countP big = m := ⟨_, rfl⟩
          rw [hm] at hbc hel
          rw [hm]
          clear hm
          obtain ⟨N, hN⟩ : ∃ N, l.length + m = N := ⟨_, rfl⟩
          rw [hN] at hel
          rw [hN]
          have hNl : N ≤ 2000000000 := by omega
          clear hN hbc
          have hmk := mkBytes wr N hNl
          obtain ⟨wr', hwr'⟩ : ∃ wr' : World, wr' = wr := ⟨_, rfl⟩
          have hs0 : w.heap.size ≤ wr'.heap.size := by rw [hwr']; exact HB.out.size
          have HEL := Lib.hid hel
          clear hel
          go_wp2
          clear hmk htr
          have HBw := Lib.hid (show Below w.heap.size w wr' from hwr' ▸ HB.out)
          rw [← hwr']
          clear hwr'
          go_loopw [13, 14] (fun s13 s14 wx => ∃ i : Nat, i ≤ l.length ∧ s14 = .int .i64 (i : Nat) ∧ s13 = .int .i64 ((escL (l.take i)).length : Nat) ∧ Below w.heap.size w wx ∧ EscRow wx wr'.heap.size N (escL (l.take i))) (fun _ i _ => l.length - (intOf i).toNat)
          case atStart => exact ⟨0, Nat.zero_le _, rfl, rfl, HBw.out.alloc HBw.out.size _, EscRow.start wr' N⟩
          case round =>
            obtain ⟨i, hi, rfl, rfl, hb, hrow⟩ := hrel
            have HB5 := Lib.hid hb; have HROW := Lib.hid hrow
            have HT5 := Lib.hid (HT.out.later hb)
            clear hb hrow HB HBw HT1 k hk
            by_cases hlt : i < l.length
            · have hnx := Lib.hid (escL_next l i hlt)
              have hle := escL_fit l i hlt
              rw [HEL.out] at hle
              have hat := HT5.out.at l[i]
              have hb256 : (l[i].toNat : Int) < 256 := by have := l[i].toNat_lt; omega
              obtain ⟨J, hJ⟩ : ∃ J, escL (l.take i) = J := ⟨_, rfl⟩
              rw [hJ] at hnx hle HROW
              rw [hJ]
              clear hJ
              have hneq0 : ∀ W, (binOp .neq 110 (.slice none 0 0) (.slice none 0 0)).run Tryz.prog W = .ok (.bool false) W := fun W => run_neq_slice_nil W _ _ _ _ _ Tryz.underlying110
              have hneq1 : ∀ a c W, (binOp .neq 110 (.slice (some a) 2 c) (.slice none 0 0)).run Tryz.prog W = .ok (.bool true) W := fun a c W => run_neq_slice_nil W _ _ _ _ _ Tryz.underlying110
              rcases hat with ⟨hbg, hat⟩ | ⟨hbg, g, c, nn, hat, hrw⟩
              · rw [escB_no hbg] at hle hnx
                simp only [List.length_cons, List.length_nil] at hle
                obtain ⟨hc5, hf5, hst5⟩ := HROW.out.at l[i] hle
                have HST := Lib.hid hst5
                clear hst5 hbg hneq1
                go_wp2
                go_roundw
                case rel => exact ⟨i + 1, by omega, by go_num, by rw [hnx.out]; simp, HB5.out.setCell (by dsimp only; omega) _, by rw [hnx.out]; exact HST.out⟩
                case measure => simp [intOf]; omega
              · rw [escB_len, if_pos hbg] at hle
                have h2 : (escB l[i]).length = 2 := by rw [escB_len, if_pos hbg]
                obtain ⟨hJN, hrb⟩ := HROW.out
                have HRB := Lib.hid hrb
                obtain ⟨hn3, hfit3, hone3, hsrc3, hspl3⟩ := esc_splice (J := J) hrw h2 hle
                have HL2 := Lib.hid h2
                have hL2 : (Lib.byteCells (escB l[i])).length = 2 := by rw [Lib.byteCells_length, h2]
                have HN3 := Lib.hid hn3; have HF3 := Lib.hid hfit3; have HO3 := Lib.hid hone3; have HS3 := Lib.hid hsrc3; have HP3 := Lib.hid hspl3
                clear hrw hbg hneq0 h2 hJN hrb hn3 hfit3 hone3 hsrc3 hspl3
                have j1 : J.length ≤ N := by omega
                have j2 : (J.length : Int) ≤ (N : Int) := by omega
                have j3 : ¬ ((N : Int) < (J.length : Int)) := by omega
                have j4 : (0 : Int) ≤ (J.length : Int) := by omega
                have j5 : ¬ N = J.length := by omega
                have j6 : ¬ N < J.length := by omega
                go_wp2
                go_region_law (refine step_copy_splice rfl (.tmp 105) (.tmp 111) 110 110 rfl 5 Tryz.underlying110 infoB1 _ (some ⟨g, 0, none⟩) (N - J.length) (N - J.length) 2 c rfl rfl wr'.heap.size J.length _ 5 (by exact HRB.out) (Lib.byteCells (escB l[i])) HN3.out (fun _ => ⟨by first | rfl | (rw [if_neg (by omega)]) | trace_state, ⟨g, 0, none⟩, rfl, by exact HS3.out⟩) HF3.out HO3.out w.heap.size w (by first | exact HB5.out | exact below_drewA HB5.out) hs0 ?_; intro w4 hg4 hb4)
                all_goals
                  have HG4 := Lib.hid (HP3.out _ _ hg4.out)
                  have HB4 := Lib.hid hb4
                  clear hg4 hb4 HP3 HS3 HO3 HF3 HN3 HRB
                  go_wp2
                  refine ⟨?_, by simp [intOf]; omega⟩
                  iterate 37 apply Exists.intro
                  refine ⟨?rel, rfl⟩
                  exact ⟨i + 1, by omega, by go_num, by rw [hnx.out, List.length_append, HL2.out]; go_num, by first | exact HB4.out | exact below_drewA HB4.out, by rw [hnx.out]; exact HG4.out⟩
            · have hie : i = l.length := by omega
              subst hie
              rw [List.take_length] at HROW
              have kc := HROW.out.conv HEL.out
              go_wp2
              go_ret
              exact Ret.mk rfl HB5.out
  · have h24' : ¬ ((24 : Int) ≤ (l.length : Int)) := h24
    obtain ⟨htr, -, -, -, -⟩ := HT.out.all
    clear hcb
    go_enter Tryz.func284, Tryz.ntmps284
    go_wp2
    go_loopw [5, 6, 10] (fun s5 s6 s10 wr => ∃ k : Nat, k ≤ l.length ∧ s10 = .int .i64 (k : Nat) ∧ s5 = .int .i64 ((l.length + (l.take k).countP big : Nat) : Int) ∧ s6 = .bool (decide ((l.take k).countP big ≠ 0)) ∧ Below w.heap.size w wr) (fun _ _ i _ => l.length - (intOf i).toNat)
    case atStart => exact ⟨0, by omega, rfl, rfl, rfl, Below.refl _ _⟩
    case round =>
      obtain ⟨k, hk, rfl, rfl, rfl, hb⟩ := hrel
      have HT1 := Lib.hid (HT.out.later hb)
      have HB := Lib.hid hb
      clear hb
      by_cases hlt : k < l.length
      · have hat := HT1.out.at l[k]
        have hcp : (l.take (k + 1)).countP big = (l.take k).countP big + if big l[k] then 1 else 0 := by rw [List.take_succ_eq_append_getElem hlt, List.countP_append]; simp [List.countP_cons]
        have hcl : (l.take k).countP big ≤ 30 := by have := List.countP_le_length (p := big) (l := l.take k); simp at this; omega
        have hb256 : (l[k].toNat : Int) < 256 := by have := l[k].toNat_lt; omega
        have hneq0 : ∀ W, (binOp .neq 110 (.slice none 0 0) (.slice none 0 0)).run Tryz.prog W = .ok (.bool false) W := fun W => run_neq_slice_nil W _ _ _ _ _ Tryz.underlying110
        have hneq1 : ∀ a c W, (binOp .neq 110 (.slice (some a) 2 c) (.slice none 0 0)).run Tryz.prog W = .ok (.bool true) W := fun a c W => run_neq_slice_nil W _ _ _ _ _ Tryz.underlying110
        rcases hat with ⟨hbg, hat⟩ | ⟨hbg, g, c, nn, hat, -⟩
        · rw [hbg] at hcp
          have HC := Lib.hid hcp
          clear hcp hbg hneq1
          go_wp2
          go_roundw
          case rel => exact ⟨k + 1, by omega, by go_num, by rw [HC.out]; rfl, by rw [HC.out]; simp, HB.out⟩
          case measure => simp [intOf]; omega
        · rw [hbg] at hcp
          have HC := Lib.hid hcp
          clear hcp hbg hneq0
          obtain ⟨M, hM⟩ : ∃ M, (l.take k).countP big = M := ⟨_, rfl⟩
          rw [hM] at HC hcl
          rw [hM]
          clear hM
          obtain ⟨K, hK⟩ : ∃ K, l.length + M = K := ⟨_, rfl⟩
          rw [hK]
          have HK := Lib.hid hK
          have hKl : K ≤ 2000000000 := by omega
          clear hK
          go_wp2
          go_roundw
          case rel => exact ⟨k + 1, by omega, by go_num, by rw [HC.out]; have := HK.out; go_num, by rw [HC.out]; simp, HB.out⟩
          case measure => simp [intOf]; omega
      · have hke : k = l.length := by omega
        subst hke
        rw [List.take_length]
        have htr := 0
        have hN := 0
        have hcb := 0
        have hk := 0
        by_cases hz : l.countP big = 0
        · have HE := Lib.hid (escL_id hz)
          have hq : decide (l.countP big ≠ 0) = false := by simp [hz]
          rw [hq, hz]
          clear hz hN hcb hq
          go_wp2
          go_ret
          exact Ret.mk (by rw [HE.out]; rfl) HB.out
        · have hq : decide (l.countP big ≠ 0) = true := by simp [hz]
          have hel := escL_len l
          rw [hq]
          clear hz hN hcb hq
          obtain ⟨m, hm⟩ : ∃ m, l.countP big = m := ⟨_, rfl⟩
          rw [hm] at hbc hel
          rw [hm]
          clear hm
          obtain ⟨N, hN⟩ : ∃ N, l.length + m = N := ⟨_, rfl⟩
          rw [hN] at hel
          rw [hN]
          have hNl : N ≤ 2000000000 := by omega
          clear hN hbc
          have hmk := mkBytes wr N hNl
          obtain ⟨wr', hwr'⟩ : ∃ wr' : World, wr' = wr := ⟨_, rfl⟩
          have hs0 : w.heap.size ≤ wr'.heap.size := by rw [hwr']; exact HB.out.size
          have HEL := Lib.hid hel
          clear hel
          go_wp2
          clear hmk htr
          have HBw := Lib.hid (show Below w.heap.size w wr' from hwr' ▸ HB.out)
          rw [← hwr']
          clear hwr'
          go_loopw [13, 14] (fun s13 s14 wx => ∃ i : Nat, i ≤ l.length ∧ s14 = .int .i64 (i : Nat) ∧ s13 = .int .i64 ((escL (l.take i)).length : Nat) ∧ Below w.heap.size w wx ∧ EscRow wx wr'.heap.size N (escL (l.take i))) (fun _ i _ => l.length - (intOf i).toNat)
          case atStart => exact ⟨0, Nat.zero_le _, rfl, rfl, HBw.out.alloc HBw.out.size _, EscRow.start wr' N⟩
          case round =>
            obtain ⟨i, hi, rfl, rfl, hb, hrow⟩ := hrel
            have HB5 := Lib.hid hb; have HROW := Lib.hid hrow
            have HT5 := Lib.hid (HT.out.later hb)
            clear hb hrow HB HBw HT1
            by_cases hlt : i < l.length
            · have hnx := Lib.hid (escL_next l i hlt)
              have hle := escL_fit l i hlt
              rw [HEL.out] at hle
              have hat := HT5.out.at l[i]
              have hb256 : (l[i].toNat : Int) < 256 := by have := l[i].toNat_lt; omega
              obtain ⟨J, hJ⟩ : ∃ J, escL (l.take i) = J := ⟨_, rfl⟩
              rw [hJ] at hnx hle HROW
              rw [hJ]
              clear hJ
              have hneq0 : ∀ W, (binOp .neq 110 (.slice none 0 0) (.slice none 0 0)).run Tryz.prog W = .ok (.bool false) W := fun W => run_neq_slice_nil W _ _ _ _ _ Tryz.underlying110
              have hneq1 : ∀ a c W, (binOp .neq 110 (.slice (some a) 2 c) (.slice none 0 0)).run Tryz.prog W = .ok (.bool true) W := fun a c W => run_neq_slice_nil W _ _ _ _ _ Tryz.underlying110
              rcases hat with ⟨hbg, hat⟩ | ⟨hbg, g, c, nn, hat, hrw⟩
              · rw [escB_no hbg] at hle hnx
                simp only [List.length_cons, List.length_nil] at hle
                obtain ⟨hc5, hf5, hst5⟩ := HROW.out.at l[i] hle
                have HST := Lib.hid hst5
                clear hst5 hbg hneq1
                go_wp2
                go_roundw
                case rel => exact ⟨i + 1, by omega, by go_num, by rw [hnx.out]; simp, HB5.out.setCell (by dsimp only; omega) _, by rw [hnx.out]; exact HST.out⟩
                case measure => simp [intOf]; omega
              · rw [escB_len, if_pos hbg] at hle
                have h2 : (escB l[i]).length = 2 := by rw [escB_len, if_pos hbg]
                obtain ⟨hJN, hrb⟩ := HROW.out
                have HRB := Lib.hid hrb
                obtain ⟨hn3, hfit3, hone3, hsrc3, hspl3⟩ := esc_splice (J := J) hrw h2 hle
                have HL2 := Lib.hid h2
                have hL2 : (Lib.byteCells (escB l[i])).length = 2 := by rw [Lib.byteCells_length, h2]
                have HN3 := Lib.hid hn3; have HF3 := Lib.hid hfit3; have HO3 := Lib.hid hone3; have HS3 := Lib.hid hsrc3; have HP3 := Lib.hid hspl3
                clear hrw hbg hneq0 h2 hJN hrb hn3 hfit3 hone3 hsrc3 hspl3
                have j1 : J.length ≤ N := by omega
                have j2 : (J.length : Int) ≤ (N : Int) := by omega
                have j3 : ¬ ((N : Int) < (J.length : Int)) := by omega
                have j4 : (0 : Int) ≤ (J.length : Int) := by omega
                have j5 : ¬ N = J.length := by omega
                have j6 : ¬ N < J.length := by omega
                go_wp2
                go_region_law (refine step_copy_splice rfl (.tmp 105) (.tmp 111) 110 110 rfl 5 Tryz.underlying110 infoB1 _ (some ⟨g, 0, none⟩) (N - J.length) (N - J.length) 2 c rfl rfl wr'.heap.size J.length _ 5 (by exact HRB.out) (Lib.byteCells (escB l[i])) HN3.out (fun _ => ⟨by first | rfl | (rw [if_neg (by omega)]) | trace_state, ⟨g, 0, none⟩, rfl, by exact HS3.out⟩) HF3.out HO3.out w.heap.size w (by first | exact HB5.out | exact below_drewA HB5.out) hs0 ?_; intro w4 hg4 hb4)
                all_goals
                  have HG4 := Lib.hid (HP3.out _ _ hg4.out)
                  have HB4 := Lib.hid hb4
                  clear hg4 hb4 HP3 HS3 HO3 HF3 HN3 HRB
                  go_wp2
                  exact ⟨⟨i + 1, by omega, by go_num, by rw [hnx.out, List.length_append, HL2.out]; go_num, by first | exact HB4.out | exact below_drewA HB4.out, by rw [hnx.out]; exact HG4.out⟩, by simp [intOf]; omega⟩
            · have hie : i = l.length := by omega
              subst hie
              rw [List.take_length] at HROW
              have kc := HROW.out.conv HEL.out
              go_wp2
              go_ret
              exact Ret.mk rfl HB5.out
end Go.Proofs.YtdapdadcninidaaGreatDoor
