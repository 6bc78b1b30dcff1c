/- (*strings.byteStringReplacer).Replace over build's table. No condition but the length. (*strings.Replacer).Replace, arena.quote. No condition but the length. The references' predicates on bytes. The reference's Quote. arena.line, of a node without attributes that is no doctype. The reference's Line, of an element. -/
import Derived.Test.YtdapdadcninidaaGreatDoorM9
import Derived.Laws.CopyOwn
import Derived.Laws.Cover3
import Derived.Deep.RegionLaw
import Derived.Test.YtdapdadcninidaaGreatDoorM1
import Derived.Test.YtdapdadcninidaaGreatDoorM2
import Derived.Test.YtdapdadcninidaaGreatDoorM3
import Derived.Test.YtdapdadcninidaaGreatDoorM4
import Derived.Deep.QuietTactic
import Derived.BigQuiet
set_option linter.unusedSimpArgs false
set_option linter.unusedVariables false
namespace Go.Proofs.YtdapdadcninidaaGreatDoor
open Go.RowKit
attribute [local go_sem ↓] Go.wp_at_zero Go.wp_at_succ
attribute [local go_sem] sgetr

def big (c : UInt8) : Bool := c == 10 || (c == 92 || c == 34)
/-- What stands for a byte. -/
def escB (c : UInt8) : List UInt8 := if c = 10 then [92, 110] else if c = 92 then [92, 92] else if c = 34 then [92, 34] else [c]
def escL (l : List UInt8) : List UInt8 := l.flatMap escB
theorem escB_len (c : UInt8) : (escB c).length = if big c then 2 else 1 := by
  unfold escB big
  by_cases h1 : c = 10
  · simp [h1]
  · by_cases h2 : c = 92
    · simp [h2]
    · by_cases h3 : c = 34 <;> simp [h1, h2, h3]
theorem escB_no {c : UInt8} (h : big c = false) : escB c = [c] := by
  simp only [big, Bool.or_eq_false_iff, beq_eq_false_iff_ne] at h
  rw [escB, if_neg h.1, if_neg h.2.1, if_neg h.2.2]
theorem escL_len (l : List UInt8) : (escL l).length = l.length + l.countP big := by
  induction l with
  | nil => rfl
  | cons c l ih =>
    simp only [escL, List.flatMap_cons, List.length_append, List.length_cons] at ih ⊢
    rw [ih, escB_len, List.countP_cons]
    cases big c <;> simp <;> omega
theorem count_big (l : List UInt8) : l.count 10 + l.count 92 + l.count 34 = l.countP big := by
  induction l with
  | nil => rfl
  | cons c l ih =>
    simp only [List.count_cons, List.countP_cons]
    rw [← ih]
    by_cases h1 : c = 10
    · subst h1; simp [big]; omega
    · by_cases h2 : c = 92
      · subst h2; simp [big]; omega
      · by_cases h3 : c = 34
        · subst h3; simp [big]; omega
        · simp [big, h1, h2, h3]
theorem escL_id {l : List UInt8} (h : l.countP big = 0) : escL l = l := by
  induction l with
  | nil => rfl
  | cons c l ih =>
    rw [List.countP_cons] at h
    have h1 : big c = false := by cases hb : big c <;> simp [hb] at h ⊢
    have h2 : l.countP big = 0 := by omega
    have := ih h2
    unfold escL at this ⊢
    rw [List.flatMap_cons, escB_no h1, this]; rfl
theorem RepT.at {r q : Nat} {w : World} (h : RepT r q 3 w) (b : UInt8) : (big b = false ∧ w.cell? ⟨q, b.toNat, none⟩ = some (.slice none 0 0)) ∨
    (big b = true ∧ ∃ g c n, w.cell? ⟨q, b.toNat, none⟩ = some (.slice (some ⟨g, 0, none⟩) 2 c) ∧ RowAt w g n (escB b)) := by
  by_cases h1 : b = 10
  · obtain ⟨g, c, n, e1, e2, _⟩ := h.ent 0 (by decide)
    subst h1
    exact .inr ⟨rfl, g, c, n, e1, e2⟩
  · by_cases h2 : b = 92
    · obtain ⟨g, c, n, e1, e2, _⟩ := h.ent 1 (by decide)
      subst h2
      exact .inr ⟨rfl, g, c, n, e1, e2⟩
    · by_cases h3 : b = 34
      · obtain ⟨g, c, n, e1, e2, _⟩ := h.ent 2 (by decide)
        subst h3
        exact .inr ⟨rfl, g, c, n, e1, e2⟩
      · refine .inl ⟨by simp [big, h1, h2, h3], h.nil _ b.toNat_lt fun j hj e => ?_⟩
        match j, hj with
        | 0, _ => exact h1 (UInt8.toNat_inj.1 e)
        | 1, _ => exact h2 (UInt8.toNat_inj.1 e)
        | 2, _ => exact h3 (UInt8.toNat_inj.1 e)
/-- The counts of the first k bytes of the list. -/
def cntK (k : Nat) (l : List UInt8) : Nat := if k = 0 then 0 else if k = 1 then l.count 10 else if k = 2 then l.count 10 + l.count 92 else l.count 10 + l.count 92 + l.count 34
theorem cntK_le (k : Nat) (l : List UInt8) : cntK k l ≤ 3 * l.length := by
  have h1 := List.count_le_length (a := 10) (l := l)
  have h2 := List.count_le_length (a := 92) (l := l)
  have h3 := List.count_le_length (a := 34) (l := l)
  unfold cntK
  repeat' split
  all_goals omega
theorem below_drewA {n : Nat} {w w' : World} (h : Below n w w') : Below n w w'.drew := ⟨h.os, h.tape, h.output, h.size, h.block⟩
theorem RepT.all {r q : Nat} {w : World} (h : RepT r q 3 w) : w.cell? ⟨q, 256, none⟩ = some (.slice (some ⟨r, 0, none⟩) 3 3) ∧ w.cell? ⟨r, 0, none⟩ = some (.string ⟨#[10]⟩) ∧ w.cell? ⟨r, 1, none⟩ = some (.string ⟨#[92]⟩) ∧ w.cell? ⟨r, 2, none⟩ = some (.string ⟨#[34]⟩) ∧
    ∃ g0 c0 g1 c1 g2 c2, w.cell? ⟨q, 10, none⟩ = some (.slice (some ⟨g0, 0, none⟩) 2 c0) ∧ w.cell? ⟨q, 92, none⟩ = some (.slice (some ⟨g1, 0, none⟩) 2 c1) ∧ w.cell? ⟨q, 34, none⟩ = some (.slice (some ⟨g2, 0, none⟩) 2 c2) := by
  obtain ⟨rc, hrc, hrs, hrj⟩ := h.row
  obtain ⟨g0, c0, n0, e0, -⟩ := h.ent 0 (by decide)
  obtain ⟨g1, c1, n1, e1, -⟩ := h.ent 1 (by decide)
  obtain ⟨g2, c2, n2, e2, -⟩ := h.ent 2 (by decide)
  exact ⟨h.tr, by rw [cell_of_row _ _ _ _ _ _ hrc]; exact hrj 0 (by decide), by rw [cell_of_row _ _ _ _ _ _ hrc]; exact hrj 1 (by decide), by rw [cell_of_row _ _ _ _ _ _ hrc]; exact hrj 2 (by decide), g0, c0, g1, c1, g2, c2, e0, e1, e2⟩
theorem RepT.later {r q k : Nat} {A B : World} (h : RepT r q k A) (hb : Below A.heap.size A B) : RepT r q k B :=
  h.mod (S := fun _ => False) (Mod.of_below hb) (fun h => h) (fun h => h) (fun _ h => h.elim)
theorem mkBytes (w : World) (n : Nat) (hn : n ≤ 2000000000) : (Instr.makeSlice 110 (.int .i64 (n : Int)) (.int .i64 (n : Int))).run Tryz.prog w = .ok (.slice (some ⟨w.heap.size, 0, none⟩) n n) (w.alloc (.cells (Array.replicate n (.int .u8 0)) 5)) := by
  obtain ⟨i, hi, hz0, hz1, hz2⟩ := info_parts infoB
  rw [run_make w 110 5 i _ Tryz.underlying110 hi hz0 .i64 .i64 n n (by omega) (by omega) (by rw [hz2]; omega) (by omega), hz1]
  have e : madeCells (Value.int .u8 0).cells (n * 1) = Array.replicate n (.int .u8 0) := by
    apply Array.ext
    · simp [size_madeCells]
    · intro j h1 h2
      simp [madeCells, Value.cells, Nat.mod_one]
  rw [Int.toNat_natCast, e]
/-- The row of bytes that Replace fills: these lie at its head, the rest are zeros. -/
def EscRow (w : World) (b N : Nat) (J : List UInt8) : Prop := J.length ≤ N ∧ w.heap[b]? = some (.cells (Lib.byteCells J ++ List.replicate (N - J.length) (Value.int .u8 0)).toArray 5 (0, 0))
theorem EscRow.start (w : World) (N : Nat) : EscRow (w.alloc (.cells (Array.replicate N (.int .u8 0)) 5)) w.heap.size N [] := by
  refine ⟨Nat.zero_le _, ?_⟩
  rw [World.alloc_heap_new]
  simp [Lib.byteCells]
theorem EscRow.at {w : World} {b N : Nat} {J : List UInt8} (h : EscRow w b N J) (c : UInt8) (hJ : J.length + 1 ≤ N) : w.cell? ⟨b, J.length, none⟩ = some (.int .u8 0) ∧ w.frozen? ⟨b, J.length, none⟩ = false ∧
    EscRow (w.setCell ⟨b, J.length, none⟩ (.int .u8 (c.toNat : Int))) b N (J ++ [c]) := by
  obtain ⟨h1, h2⟩ := h
  have hl : (Lib.byteCells J).length = J.length := Lib.byteCells_length J
  refine ⟨?_, Lib.frozen_of_heap h2 _, by simpa using hJ, ?_⟩
  · rw [cell_of_row _ _ _ _ _ _ h2, List.getElem?_toArray, List.getElem?_append_right (by omega), hl, Nat.sub_self, List.getElem?_replicate, if_pos (by omega)]
  · rw [Joins.block_setCell (i := J.length) h2]
    congr 2
    rw [List.setIfInBounds_toArray]
    congr 1
    rw [List.set_append_right _ _ (by omega), hl, Nat.sub_self, show N - J.length = (N - (J ++ [c]).length) + 1 by simp; omega, List.replicate_succ, List.set_cons_zero]
    simp [Lib.byteCells]
theorem EscRow.conv {w : World} {b N : Nat} {J : List UInt8} (h : EscRow w b N J) (hN : J.length = N) : (convert 110 9 (.slice (some ⟨b, 0, none⟩) N N)).run Tryz.prog w = .ok (.string ⟨J.toArray⟩) w := by
  obtain ⟨h1, h2⟩ := h
  have hs : (⟨J.toArray⟩ : ByteArray).size = N := by simpa [ByteArray.size] using hN
  have := Lib.run_convert_whole (P := Tryz.prog) w 110 5 9 Tryz.underlying110 Tryz.underlying5 Tryz.underlying9 b 0 ⟨J.toArray⟩ (by
    intro i hi
    have hi' : i < J.length := by omega
    rw [Nat.zero_add, cell_of_row _ _ _ _ _ _ h2, List.getElem?_toArray, List.getElem?_append_left (by rw [Lib.byteCells_length]; exact hi')]
    simp [Lib.byteCells, hi']
    rfl) N
  rw [hs] at this
  exact this
theorem escL_next (l : List UInt8) (i : Nat) (hi : i < l.length) : escL (l.take (i + 1)) = escL (l.take i) ++ escB l[i] := by
  rw [List.take_succ_eq_append_getElem hi]
  unfold escL
  rw [List.flatMap_append, List.flatMap_cons, List.flatMap_nil, List.append_nil]
theorem escL_fit (l : List UInt8) (i : Nat) (hi : i < l.length) : (escL (l.take i)).length + (escB l[i]).length ≤ (escL l).length := by
  have h : (escL (l.take (i + 1) ++ l.drop (i + 1))).length = (escL l).length := by rw [List.take_append_drop]
  rw [show escL (l.take (i + 1) ++ l.drop (i + 1)) = escL (l.take (i + 1)) ++ escL (l.drop (i + 1)) by unfold escL; rw [List.flatMap_append], escL_next l i hi] at h
  rw [← h]
  simp
theorem infoB1 : (Tryz.prog.info? 5).map (·.size) = some 1 := by kernel_rfl
theorem esc_splice {w : World} {g n N : Nat} {J bs : List UInt8} (hrw : RowAt w g n bs) (h2 : bs.length = 2) (hle : J.length + 2 ≤ N) :
    (Lib.byteCells bs).length = Nat.min 2 (N - J.length) ∧ J.length + (Lib.byteCells bs).length ≤ (Lib.byteCells J ++ List.replicate (N - J.length) (Value.int .u8 0)).length ∧ (∀ v ∈ Lib.byteCells bs, v.oneCell' = true) ∧
      (∀ j v, (Lib.byteCells bs)[j]? = some v → w.cell? ((⟨g, 0, none⟩ : Addr).add j) = some v) ∧
      ∀ (w4 : World) (b : Nat), w4.heap[b]? = some (.cells (splice (Lib.byteCells J ++ List.replicate (N - J.length) (Value.int .u8 0)) J.length (Lib.byteCells bs)).toArray 5 (0, 0)) → EscRow w4 b N (J ++ bs) := by
  have hl : (Lib.byteCells bs).length = 2 := by rw [Lib.byteCells_length, h2]
  have hj : (Lib.byteCells J).length = J.length := Lib.byteCells_length J
  refine ⟨by rw [hl]; show 2 = min _ _; omega, by rw [hl, List.length_append, hj, List.length_replicate]; omega, ?_, ?_, fun w4 b h => ?_⟩
  · intro v hv
    simp only [Lib.byteCells, List.mem_map] at hv
    obtain ⟨c, _, rfl⟩ := hv
    rfl
  · intro j v hjv
    have hadd : (⟨g, 0, none⟩ : Addr).add j = ⟨g, j, none⟩ := by unfold Addr.add; split <;> simp_all
    have hjl : j < bs.length := by have := (List.getElem?_eq_some_iff.1 hjv).1; omega
    rw [hadd, hrw.cell j hjl]
    simpa [Lib.byteCells, hjl] using hjv
  · refine ⟨by rw [List.length_append]; omega, h.trans ?_⟩
    congr 3
    rw [splice, hl, List.take_left' hj, ← List.append_assoc, List.drop_append, hj, List.drop_of_length_le (by omega), List.nil_append, List.drop_replicate]
    simp [Lib.byteCells, h2]
    omega
set_option maxRecDepth 100000 in
set_option maxHeartbeats 4000000 in
theorem bsReplace_any (l : List UInt8) (w : World) {r q : Nat} (hT : RepT r q 3 w) (hl : l.length ≤ 1000000000) :
    Calls Tryz.prog 284 #[.pointer (some ⟨q, 0, none⟩), .string ⟨l.toArray⟩] w (Ret w (.string ⟨(escL l).toArray⟩)) := by
  have hbc := List.countP_le_length (p := big) (l := l)
  have hcb := count_big l
  have HT := Lib.hid hT
  clear hT
  by_cases h24 : 24 ≤ (l.length : Int)
  · obtain ⟨htr, -, -, -, -⟩ := HT.out.all
    go_enter Tryz.func284, Tryz.ntmps284
    go_wp2
    go_loopw [5, 6, 32] (fun s5 s6 s32 wr => ∃ k : Nat, k ≤ 3 ∧ s32 = .int .i64 (k : Nat) ∧ s5 = .int .i64 ((l.length + cntK k l : Nat) : Int) ∧ s6 = .bool (decide (cntK k l ≠ 0)) ∧ Below w.heap.size w wr) (fun _ _ i _ => 3 - (intOf i).toNat)
    case atStart => exact ⟨0, by omega, rfl, rfl, rfl, Below.refl _ _⟩
    case round =>
      obtain ⟨k, hk, rfl, rfl, rfl, hb⟩ := hrel
      have HT1 := Lib.hid (HT.out.later hb)
      have HB := Lib.hid hb
      obtain ⟨htr, t0, t1, t2, g0, c0, g1, c1, g2, c2, e0, e1, e2⟩ := HT1.out.all
      clear hb
      match k, hk with
      | 0, _ =>
        have hix : ∀ h, (((⟨#[10]⟩ : ByteArray)[0]'h).toNat : Int) = 10 := fun _ => rfl
        have HK := Tryz.strings_Count_one ⟨l.toArray⟩ 10 wr
        obtain ⟨c, hc⟩ : ∃ c, l.count 10 = c := ⟨_, rfl⟩
        have hcl : c ≤ 1000000000 := by have := List.count_le_length (a := 10) (l := l); omega
        obtain ⟨d, hd⟩ : ∃ d, cntK 0 l = d := ⟨_, rfl⟩
        have hdl : d ≤ 3000000000 := by have := cntK_le 0 l; omega
        have HN : Hid (cntK 1 l = d + c) := Lib.hid (by simp only [cntK] at hd ⊢; simp at hd ⊢; omega)
        simp only [Lib.countByte, hc] at HK
        rw [hd]
        replace HK := Lib.hid HK
        clear hd hc
        by_cases hc0 : c = 0
        · subst hc0
          go_wp2_with (refine HK.out.mono ?_; rintro e w1 ⟨rfl, rfl⟩)
          go_roundw
          case rel => exact ⟨1, by omega, by go_num, by rw [HN.out]; rfl, by rw [HN.out]; simp, HB.out⟩
          case measure => simp [intOf]
        · have hcz : ((c : Int) != 0) = true := by simpa using hc0
          go_wp2_with (refine HK.out.mono ?_; rintro e w1 ⟨rfl, rfl⟩)
          go_region
          all_goals
            go_wp2
            go_roundw
            case rel => exact ⟨1, by omega, by go_num, by rw [HN.out]; go_num, by rw [HN.out]; simp; omega, by first | exact HB.out | exact below_drewA HB.out⟩
            case measure => simp [intOf]
      | 1, _ =>
        have hix : ∀ h, (((⟨#[92]⟩ : ByteArray)[0]'h).toNat : Int) = 92 := fun _ => rfl
        have HK := Tryz.strings_Count_one ⟨l.toArray⟩ 92 wr
        obtain ⟨c, hc⟩ : ∃ c, l.count 92 = c := ⟨_, rfl⟩
        have hcl : c ≤ 1000000000 := by have := List.count_le_length (a := 92) (l := l); omega
        obtain ⟨d, hd⟩ : ∃ d, cntK 1 l = d := ⟨_, rfl⟩
        have hdl : d ≤ 3000000000 := by have := cntK_le 1 l; omega
        have HN : Hid (cntK 2 l = d + c) := Lib.hid (by simp only [cntK] at hd ⊢; simp at hd ⊢; omega)
        simp only [Lib.countByte, hc] at HK
        rw [hd]
        replace HK := Lib.hid HK
        clear hd hc
        by_cases hc0 : c = 0
        · subst hc0
          go_wp2_with (refine HK.out.mono ?_; rintro e w1 ⟨rfl, rfl⟩)
          go_roundw
          case rel => exact ⟨2, by omega, by go_num, by rw [HN.out]; rfl, by rw [HN.out]; simp, HB.out⟩
          case measure => simp [intOf]
        · have hcz : ((c : Int) != 0) = true := by simpa using hc0
          go_wp2_with (refine HK.out.mono ?_; rintro e w1 ⟨rfl, rfl⟩)
          go_region
          all_goals
            go_wp2
            go_roundw
            case rel => exact ⟨2, by omega, by go_num, by rw [HN.out]; go_num, by rw [HN.out]; simp; omega, by first | exact HB.out | exact below_drewA HB.out⟩
            case measure => simp [intOf]
      | 2, _ =>
        have hix : ∀ h, (((⟨#[34]⟩ : ByteArray)[0]'h).toNat : Int) = 34 := fun _ => rfl
        have HK := Tryz.strings_Count_one ⟨l.toArray⟩ 34 wr
        obtain ⟨c, hc⟩ : ∃ c, l.count 34 = c := ⟨_, rfl⟩
        have hcl : c ≤ 1000000000 := by have := List.count_le_length (a := 34) (l := l); omega
        obtain ⟨d, hd⟩ : ∃ d, cntK 2 l = d := ⟨_, rfl⟩
        have hdl : d ≤ 3000000000 := by have := cntK_le 2 l; omega
        have HN : Hid (cntK 3 l = d + c) := Lib.hid (by simp only [cntK] at hd ⊢; simp at hd ⊢; omega)
        simp only [Lib.countByte, hc] at HK
        rw [hd]
        replace HK := Lib.hid HK
        clear hd hc
        by_cases hc0 : c = 0
        · subst hc0
          go_wp2_with (refine HK.out.mono ?_; rintro e w1 ⟨rfl, rfl⟩)
          go_roundw
          case rel => exact ⟨3, by omega, by go_num, by rw [HN.out]; rfl, by rw [HN.out]; simp, HB.out⟩
          case measure => simp [intOf]
        · have hcz : ((c : Int) != 0) = true := by simpa using hc0
          go_wp2_with (refine HK.out.mono ?_; rintro e w1 ⟨rfl, rfl⟩)
          go_region
          all_goals
            go_wp2
            go_roundw
            case rel => exact ⟨3, by omega, by go_num, by rw [HN.out]; go_num, by rw [HN.out]; simp; omega, by first | exact HB.out | exact below_drewA HB.out⟩
            case measure => simp [intOf]
      | 3, _ =>
        clear t0 t1 t2 e0 e1 e2
        have hN : cntK 3 l = l.countP big := by rw [← hcb]; rfl
        rw [hN]
        by_cases hz : l.countP big = 0
        · have HE := Lib.hid (escL_id hz)
          have hq : decide (l.countP big ≠ 0) = false := by simp [hz]
          rw [hq, hz]
          clear hz hN hcb hq
          go_wp2
          go_ret
          exact Ret.mk (by rw [HE.out]; rfl) HB.out
        · have hq : decide (l.countP big ≠ 0) = true := by simp [hz]
          have hel := escL_len l
          rw [hq]
          clear hz hN hcb hq
          obtain ⟨m, hm⟩ : ∃ m, l.countP big = m := ⟨_, rfl⟩
          rw [hm] at hbc hel
          rw [hm]
          clear hm
          obtain ⟨N, hN⟩ : ∃ N, l.length + m = N := ⟨_, rfl⟩
          rw [hN] at hel
          rw [hN]
          have hNl : N ≤ 2000000000 := by omega
          clear hN hbc
          have hmk := mkBytes wr N hNl
          obtain ⟨wr', hwr'⟩ : ∃ wr' : World, wr' = wr := ⟨_, rfl⟩
          have hs0 : w.heap.size ≤ wr'.heap.size := by rw [hwr']; exact HB.out.size
          have HEL := Lib.hid hel
          clear hel
          go_wp2
          clear hmk htr
          have HBw := Lib.hid (show Below w.heap.size w wr' from hwr' ▸ HB.out)
          rw [← hwr']
          clear hwr'
          go_loopw [13, 14] (fun s13 s14 wx => ∃ i : Nat, i ≤ l.length ∧ s14 = .int .i64 (i : Nat) ∧ s13 = .int .i64 ((escL (l.take i)).length : Nat) ∧ Below w.heap.size w wx ∧ EscRow wx wr'.heap.size N (escL (l.take i))) (fun _ i _ => l.length - (intOf i).toNat)
          case atStart => exact ⟨0, Nat.zero_le _, rfl, rfl, HBw.out.alloc HBw.out.size _, EscRow.start wr' N⟩
          case round =>
            obtain ⟨i, hi, rfl, rfl, hb, hrow⟩ := hrel
            have HB5 := Lib.hid hb; have HROW := Lib.hid hrow
            have HT5 := Lib.hid (HT.out.later hb)
            clear hb hrow HB HBw HT1 k hk
            by_cases hlt : i < l.length
            · have hnx := Lib.hid (escL_next l i hlt)
              have hle := escL_fit l i hlt
              rw [HEL.out] at hle
              have hat := HT5.out.at l[i]
              have hb256 : (l[i].toNat : Int) < 256 := by have := l[i].toNat_lt; omega
              obtain ⟨J, hJ⟩ : ∃ J, escL (l.take i) = J := ⟨_, rfl⟩
              rw [hJ] at hnx hle HROW
              rw [hJ]
              clear hJ
              have hneq0 : ∀ W, (binOp .neq 110 (.slice none 0 0) (.slice none 0 0)).run Tryz.prog W = .ok (.bool false) W := fun W => run_neq_slice_nil W _ _ _ _ _ Tryz.underlying110
              have hneq1 : ∀ a c W, (binOp .neq 110 (.slice (some a) 2 c) (.slice none 0 0)).run Tryz.prog W = .ok (.bool true) W := fun a c W => run_neq_slice_nil W _ _ _ _ _ Tryz.underlying110
              rcases hat with ⟨hbg, hat⟩ | ⟨hbg, g, c, nn, hat, hrw⟩
              · rw [escB_no hbg] at hle hnx
                simp only [List.length_cons, List.length_nil] at hle
                obtain ⟨hc5, hf5, hst5⟩ := HROW.out.at l[i] hle
                have HST := Lib.hid hst5
                clear hst5 hbg hneq1
                go_wp2
                go_roundw
                case rel => exact ⟨i + 1, by omega, by go_num, by rw [hnx.out]; simp, HB5.out.setCell (by dsimp only; omega) _, by rw [hnx.out]; exact HST.out⟩
                case measure => simp [intOf]; omega
              · rw [escB_len, if_pos hbg] at hle
                have h2 : (escB l[i]).length = 2 := by rw [escB_len, if_pos hbg]
                obtain ⟨hJN, hrb⟩ := HROW.out
                have HRB := Lib.hid hrb
                obtain ⟨hn3, hfit3, hone3, hsrc3, hspl3⟩ := esc_splice (J := J) hrw h2 hle
                have HL2 := Lib.hid h2
                have hL2 : (Lib.byteCells (escB l[i])).length = 2 := by rw [Lib.byteCells_length, h2]
                have HN3 := Lib.hid hn3; have HF3 := Lib.hid hfit3; have HO3 := Lib.hid hone3; have HS3 := Lib.hid hsrc3; have HP3 := Lib.hid hspl3
                clear hrw hbg hneq0 h2 hJN hrb hn3 hfit3 hone3 hsrc3 hspl3
                have j1 : J.length ≤ N := by omega
                have j2 : (J.length : Int) ≤ (N : Int) := by omega
                have j3 : ¬ ((N : Int) < (J.length : Int)) := by omega
                have j4 : (0 : Int) ≤ (J.length : Int) := by omega
                have j5 : ¬ N = J.length := by omega
                have j6 : ¬ N < J.length := by omega
                go_wp2
                go_region_law (refine step_copy_splice rfl (.tmp 105) (.tmp 111) 110 110 rfl 5 Tryz.underlying110 infoB1 _ (some ⟨g, 0, none⟩) (N - J.length) (N - J.length) 2 c rfl rfl wr'.heap.size J.length _ 5 (by exact HRB.out) (Lib.byteCells (escB l[i])) HN3.out (fun _ => ⟨by first | rfl | (rw [if_neg (by omega)]) | trace_state, ⟨g, 0, none⟩, rfl, by exact HS3.out⟩) HF3.out HO3.out w.heap.size w (by first | exact HB5.out | exact below_drewA HB5.out) hs0 ?_; intro w4 hg4 hb4)
                all_goals
                  have HG4 := Lib.hid (HP3.out _ _ hg4.out)
                  have HB4 := Lib.hid hb4
                  clear hg4 hb4 HP3 HS3 HO3 HF3 HN3 HRB
                  go_wp2
                  refine ⟨?_, by simp [intOf]; omega⟩
                  iterate 37 apply Exists.intro
                  refine ⟨?rel, rfl⟩
                  exact ⟨i + 1, by omega, by go_num, by rw [hnx.out, List.length_append, HL2.out]; go_num, by first | exact HB4.out | exact below_drewA HB4.out, by rw [hnx.out]; exact HG4.out⟩
            · have hie : i = l.length := by omega
              subst hie
              rw [List.take_length] at HROW
              have kc := HROW.out.conv HEL.out
              go_wp2
              go_ret
              exact Ret.mk rfl HB5.out
  · have h24' : ¬ ((24 : Int) ≤ (l.length : Int)) := h24
    obtain ⟨htr, -, -, -, -⟩ := HT.out.all
    clear hcb
    go_enter Tryz.func284, Tryz.ntmps284
    go_wp2
    go_loopw [5, 6, 10] (fun s5 s6 s10 wr => ∃ k : Nat, k ≤ l.length ∧ s10 = .int .i64 (k : Nat) ∧ s5 = .int .i64 ((l.length + (l.take k).countP big : Nat) : Int) ∧ s6 = .bool (decide ((l.take k).countP big ≠ 0)) ∧ Below w.heap.size w wr) (fun _ _ i _ => l.length - (intOf i).toNat)
    case atStart => exact ⟨0, by omega, rfl, rfl, rfl, Below.refl _ _⟩
    case round =>
      obtain ⟨k, hk, rfl, rfl, rfl, hb⟩ := hrel
      have HT1 := Lib.hid (HT.out.later hb)
      have HB := Lib.hid hb
      clear hb
      by_cases hlt : k < l.length
      · have hat := HT1.out.at l[k]
        have hcp : (l.take (k + 1)).countP big = (l.take k).countP big + if big l[k] then 1 else 0 := by rw [List.take_succ_eq_append_getElem hlt, List.countP_append]; simp [List.countP_cons]
        have hcl : (l.take k).countP big ≤ 30 := by have := List.countP_le_length (p := big) (l := l.take k); simp at this; omega
        have hb256 : (l[k].toNat : Int) < 256 := by have := l[k].toNat_lt; omega
        have hneq0 : ∀ W, (binOp .neq 110 (.slice none 0 0) (.slice none 0 0)).run Tryz.prog W = .ok (.bool false) W := fun W => run_neq_slice_nil W _ _ _ _ _ Tryz.underlying110
        have hneq1 : ∀ a c W, (binOp .neq 110 (.slice (some a) 2 c) (.slice none 0 0)).run Tryz.prog W = .ok (.bool true) W := fun a c W => run_neq_slice_nil W _ _ _ _ _ Tryz.underlying110
        rcases hat with ⟨hbg, hat⟩ | ⟨hbg, g, c, nn, hat, -⟩
        · rw [hbg] at hcp
          have HC := Lib.hid hcp
          clear hcp hbg hneq1
          go_wp2
          go_roundw
          case rel => exact ⟨k + 1, by omega, by go_num, by rw [HC.out]; rfl, by rw [HC.out]; simp, HB.out⟩
          case measure => simp [intOf]; omega
        · rw [hbg] at hcp
          have HC := Lib.hid hcp
          clear hcp hbg hneq0
          obtain ⟨M, hM⟩ : ∃ M, (l.take k).countP big = M := ⟨_, rfl⟩
          rw [hM] at HC hcl
          rw [hM]
          clear hM
          obtain ⟨K, hK⟩ : ∃ K, l.length + M = K := ⟨_, rfl⟩
          rw [hK]
          have HK := Lib.hid hK
          have hKl : K ≤ 2000000000 := by omega
          clear hK
          go_wp2
          go_roundw
          case rel => exact ⟨k + 1, by omega, by go_num, by rw [HC.out]; have := HK.out; go_num, by rw [HC.out]; simp, HB.out⟩
          case measure => simp [intOf]; omega
      · have hke : k = l.length := by omega
        subst hke
        rw [List.take_length]
        have htr := 0
        have hN := 0
        have hcb := 0
        have hk := 0
        by_cases hz : l.countP big = 0
        · have HE := Lib.hid (escL_id hz)
          have hq : decide (l.countP big ≠ 0) = false := by simp [hz]
          rw [hq, hz]
          clear hz hN hcb hq
          go_wp2
          go_ret
          exact Ret.mk (by rw [HE.out]; rfl) HB.out
        · have hq : decide (l.countP big ≠ 0) = true := by simp [hz]
          have hel := escL_len l
          rw [hq]
          clear hz hN hcb hq
          obtain ⟨m, hm⟩ : ∃ m, l.countP big = m := ⟨_, rfl⟩
          rw [hm] at hbc hel
          rw [hm]
          clear hm
          obtain ⟨N, hN⟩ : ∃ N, l.length + m = N := ⟨_, rfl⟩
          rw [hN] at hel
          rw [hN]
          have hNl : N ≤ 2000000000 := by omega
          clear hN hbc
          have hmk := mkBytes wr N hNl
          obtain ⟨wr', hwr'⟩ : ∃ wr' : World, wr' = wr := ⟨_, rfl⟩
          have hs0 : w.heap.size ≤ wr'.heap.size := by rw [hwr']; exact HB.out.size
          have HEL := Lib.hid hel
          clear hel
          go_wp2
          clear hmk htr
          have HBw := Lib.hid (show Below w.heap.size w wr' from hwr' ▸ HB.out)
          rw [← hwr']
          clear hwr'
          go_loopw [13, 14] (fun s13 s14 wx => ∃ i : Nat, i ≤ l.length ∧ s14 = .int .i64 (i : Nat) ∧ s13 = .int .i64 ((escL (l.take i)).length : Nat) ∧ Below w.heap.size w wx ∧ EscRow wx wr'.heap.size N (escL (l.take i))) (fun _ i _ => l.length - (intOf i).toNat)
          case atStart => exact ⟨0, Nat.zero_le _, rfl, rfl, HBw.out.alloc HBw.out.size _, EscRow.start wr' N⟩
          case round =>
            obtain ⟨i, hi, rfl, rfl, hb, hrow⟩ := hrel
            have HB5 := Lib.hid hb; have HROW := Lib.hid hrow
            have HT5 := Lib.hid (HT.out.later hb)
            clear hb hrow HB HBw HT1
            by_cases hlt : i < l.length
            · have hnx := Lib.hid (escL_next l i hlt)
              have hle := escL_fit l i hlt
              rw [HEL.out] at hle
              have hat := HT5.out.at l[i]
              have hb256 : (l[i].toNat : Int) < 256 := by have := l[i].toNat_lt; omega
              obtain ⟨J, hJ⟩ : ∃ J, escL (l.take i) = J := ⟨_, rfl⟩
              rw [hJ] at hnx hle HROW
              rw [hJ]
              clear hJ
              have hneq0 : ∀ W, (binOp .neq 110 (.slice none 0 0) (.slice none 0 0)).run Tryz.prog W = .ok (.bool false) W := fun W => run_neq_slice_nil W _ _ _ _ _ Tryz.underlying110
              have hneq1 : ∀ a c W, (binOp .neq 110 (.slice (some a) 2 c) (.slice none 0 0)).run Tryz.prog W = .ok (.bool true) W := fun a c W => run_neq_slice_nil W _ _ _ _ _ Tryz.underlying110
              rcases hat with ⟨hbg, hat⟩ | ⟨hbg, g, c, nn, hat, hrw⟩
              · rw [escB_no hbg] at hle hnx
                simp only [List.length_cons, List.length_nil] at hle
                obtain ⟨hc5, hf5, hst5⟩ := HROW.out.at l[i] hle
                have HST := Lib.hid hst5
                clear hst5 hbg hneq1
                go_wp2
                go_roundw
                case rel => exact ⟨i + 1, by omega, by go_num, by rw [hnx.out]; simp, HB5.out.setCell (by dsimp only; omega) _, by rw [hnx.out]; exact HST.out⟩
                case measure => simp [intOf]; omega
              · rw [escB_len, if_pos hbg] at hle
                have h2 : (escB l[i]).length = 2 := by rw [escB_len, if_pos hbg]
                obtain ⟨hJN, hrb⟩ := HROW.out
                have HRB := Lib.hid hrb
                obtain ⟨hn3, hfit3, hone3, hsrc3, hspl3⟩ := esc_splice (J := J) hrw h2 hle
                have HL2 := Lib.hid h2
                have hL2 : (Lib.byteCells (escB l[i])).length = 2 := by rw [Lib.byteCells_length, h2]
                have HN3 := Lib.hid hn3; have HF3 := Lib.hid hfit3; have HO3 := Lib.hid hone3; have HS3 := Lib.hid hsrc3; have HP3 := Lib.hid hspl3
                clear hrw hbg hneq0 h2 hJN hrb hn3 hfit3 hone3 hsrc3 hspl3
                have j1 : J.length ≤ N := by omega
                have j2 : (J.length : Int) ≤ (N : Int) := by omega
                have j3 : ¬ ((N : Int) < (J.length : Int)) := by omega
                have j4 : (0 : Int) ≤ (J.length : Int) := by omega
                have j5 : ¬ N = J.length := by omega
                have j6 : ¬ N < J.length := by omega
                go_wp2
                go_region_law (refine step_copy_splice rfl (.tmp 105) (.tmp 111) 110 110 rfl 5 Tryz.underlying110 infoB1 _ (some ⟨g, 0, none⟩) (N - J.length) (N - J.length) 2 c rfl rfl wr'.heap.size J.length _ 5 (by exact HRB.out) (Lib.byteCells (escB l[i])) HN3.out (fun _ => ⟨by first | rfl | (rw [if_neg (by omega)]) | trace_state, ⟨g, 0, none⟩, rfl, by exact HS3.out⟩) HF3.out HO3.out w.heap.size w (by first | exact HB5.out | exact below_drewA HB5.out) hs0 ?_; intro w4 hg4 hb4)
                all_goals
                  have HG4 := Lib.hid (HP3.out _ _ hg4.out)
                  have HB4 := Lib.hid hb4
                  clear hg4 hb4 HP3 HS3 HO3 HF3 HN3 HRB
                  go_wp2
                  exact ⟨⟨i + 1, by omega, by go_num, by rw [hnx.out, List.length_append, HL2.out]; go_num, by first | exact HB4.out | exact below_drewA HB4.out, by rw [hnx.out]; exact HG4.out⟩, by simp [intOf]; omega⟩
            · have hie : i = l.length := by omega
              subst hie
              rw [List.take_length] at HROW
              have kc := HROW.out.conv HEL.out
              go_wp2
              go_ret
              exact Ret.mk rfl HB5.out
end Go.Proofs.YtdapdadcninidaaGreatDoor
namespace Go.Proofs.YtdapdadcninidaaGreatDoor
open Go.RowKit
attribute [local go_sem ↓] Go.wp_at_zero Go.wp_at_succ
attribute [local go_sem] sapp

set_option maxRecDepth 100000 in
set_option maxHeartbeats 1000000 in
/-- Replace, for the first time. -/
theorem rpReplace_any (l : List UInt8) (w : World) {R on cap : Nat} (hR : w.heap[R]? = some (.cells #[.int .u32 0, .int .i32 0, .int .u32 0, .nilIface, .slice (some ⟨on, 0, none⟩) 6 cap] 254 (0, 0))) (hon : ∀ j s, oldNew[j]? = some s → w.cell? ⟨on, j, none⟩ = some (.string ⟨s.toArray⟩))
    (hne : on ≠ R) (hl : l.length ≤ 1000000000) :
    Calls Tryz.prog 177 #[.pointer (some ⟨R, 0, none⟩), .string ⟨l.toArray⟩] w fun e w' => e = .returned (.string ⟨(escL l).toArray⟩) ∧ Mod (fun k => k = R) w w' := by
  have hRl := (Array.getElem?_eq_some_iff.1 hR).1
  obtain ⟨W1, hW1⟩ : ∃ W1, w.setCell ⟨R, 1, none⟩ (.int .i32 1) = W1 := ⟨_, rfl⟩
  have hR1 : W1.heap[R]? = some (.cells #[.int .u32 0, .int .i32 1, .int .u32 0, .nilIface, .slice (some ⟨on, 0, none⟩) 6 cap] 254 (0, 0)) := by rw [← hW1, Joins.block_setCell (i := 1) hR]; rfl
  have m1 : Mod (fun k => k = R) w W1 := by rw [← hW1]; exact Mod.setCell _ _ rfl
  have hB := buildOnce_any W1 hR1 (fun j s hj => by
    have h := hon j s hj
    exact (m1.cell (p := ⟨on, j, none⟩) (World.block_lt_of_cell? _ _ h) hne).trans h)
  have hD := do_any R 200 (.pointer (some ⟨R, 0, none⟩)) (fun w2 => ∃ r q, RepT r q 3 w2 ∧ R < r ∧ R < q ∧ w2.heap[R]? = some (.cells #[.int .u32 0, .int .i32 1, .int .u32 0, .iface 285 (.pointer (some ⟨q, 0, none⟩)), .slice none 0 0] 254 (0, 0)) ∧ Mod (fun k => k = R) w w2) w
    (by rw [cell_of_row _ _ _ _ _ _ hR]; rfl) (by rw [cell_of_row _ _ _ _ _ _ hR]; rfl) (Lib.frozen_of_heap hR _) (Lib.frozen_of_heap hR _) (fun W => by simp [go_sem]) (by
      rw [hW1]
      refine hB.mono ?_
      rintro e w2 ⟨rfl, hT, hR2, hm⟩
      have hs1 := m1.size
      exact ⟨rfl, ⟨_, _, hT, by omega, by omega, hR2, m1.trans hm⟩, by rw [cell_of_row _ _ _ _ _ _ hR2]; rfl, by rw [cell_of_row _ _ _ _ _ _ hR2]; rfl, Lib.frozen_of_heap hR2 _, Lib.frozen_of_heap hR2 _⟩)
  have HD := Lib.hid hD
  clear hD hB m1 hR1 hW1 hR hon
  go_enter Tryz.func177, Tryz.ntmps177
  go_wp2_with fail
  refine HD.out.mono ?_
  rintro e w1 ⟨rfl, w2, ⟨r, q, hT, hr, hq, hR2, hm⟩, hw1⟩
  have hm2 : Mod (fun k => k = R) w2 w1 := by rw [hw1]; exact (((Mod.refl (fun k => k = R) w2).drew).trans (Mod.setCell _ _ rfl)).trans (Mod.setCell _ _ rfl)
  have hT1 := hT.mod hm2 (by omega) (by omega) (fun g hg => by omega)
  have k3 : w1.cell? ⟨R, 3, none⟩ = some (.iface 285 (.pointer (some ⟨q, 0, none⟩))) := by
    rw [hw1, World.cell?_setCell_other _ _ _ _ (by simp), World.cell?_setCell_other _ _ _ _ (by simp), World.cell?_drew, cell_of_row _ _ _ _ _ _ hR2]; rfl
  have HM := Lib.hid (hm.trans hm2)
  have H2 := Lib.hid (bsReplace_any l w1 hT1 hl)
  clear hw1 hm hm2 hT hT1 hR2
  go_wp2_with fail
  refine H2.out.mono ?_
  rintro e w3 ⟨rfl, b3⟩
  have HF := Lib.hid (HM.out.trans (Mod.of_below b3))
  clear b3
  go_wp2_with fail
  go_ret
  exact ⟨rfl, HF.out⟩
def quoteL (l : List UInt8) : List UInt8 := 34 :: (escL l ++ [34])
set_option maxRecDepth 100000 in
set_option maxHeartbeats 1000000 in
theorem quote_any (l : List UInt8) (w : World) (hl : l.length ≤ 1000000000) : Calls Tryz.prog 145 #[.string ⟨l.toArray⟩] w (Ret w (.string ⟨(quoteL l).toArray⟩)) := by
  obtain ⟨W0, hW0⟩ : ∃ W0, w.alloc (.cells #[.string ⟨#[34]⟩, .string ⟨#[92, 34]⟩, .string ⟨#[92]⟩, .string ⟨#[92, 92]⟩, .string ⟨#[10]⟩, .string ⟨#[92, 110]⟩] 9) = W0 := ⟨_, rfl⟩
  have b0 : Below w.heap.size w W0 := by rw [← hW0]; exact balloc w _
  have hbx : W0.heap[w.heap.size]? = some (.cells #[.string ⟨#[34]⟩, .string ⟨#[92, 34]⟩, .string ⟨#[92]⟩, .string ⟨#[92, 92]⟩, .string ⟨#[10]⟩, .string ⟨#[92, 110]⟩] 9 (0, 0)) := by rw [← hW0]; exact World.alloc_heap_new w _
  have H1 := Lib.hid (NewReplacer_any W0 (S := w.heap.size) (c := 6) (fun j s hj => by
    rw [cell_of_row _ _ _ _ _ _ hbx]
    match j, hj with
    | 0, hj => simp [oldNew] at hj; subst hj; rfl
    | 1, hj => simp [oldNew] at hj; subst hj; rfl
    | 2, hj => simp [oldNew] at hj; subst hj; rfl
    | 3, hj => simp [oldNew] at hj; subst hj; rfl
    | 4, hj => simp [oldNew] at hj; subst hj; rfl
    | 5, hj => simp [oldNew] at hj; subst hj; rfl
    | _ + 6, hj => simp [oldNew] at hj))
  have HW := Lib.hid hW0
  have HB0 := Lib.hid b0
  clear hW0 b0 hbx
  go_enter Tryz.func145, Tryz.ntmps145
  go_wp2_with fail
  rw [HW.out]
  refine H1.out.mono ?_
  rintro e w1 ⟨R, on, cap, rfl, hR, hon, hRs, hne, b1⟩
  have H2 := Lib.hid (rpReplace_any l w1 hR hon hne hl)
  have HB1 := Lib.hid b1
  have hs0 := HB0.out.size
  clear hR hon b1
  go_wp2_with fail
  refine H2.out.mono ?_
  rintro e w2 ⟨rfl, hm⟩
  have HF := Lib.hid ((bthen HB0.out HB0.out.size HB1.out).trans (hm.below (by have := HB1.out.size; omega) (fun k hk => by omega)))
  clear hm
  have hel : (escL l).length ≤ 2000000000 := by rw [escL_len]; have := List.countP_le_length (p := big) (l := l); omega
  go_wp2_with fail
  go_ret
  refine Ret.mk ?_ HF.out
  simp [quoteL]
end Go.Proofs.YtdapdadcninidaaGreatDoor
namespace Go.Proofs.YtdapdadcninidaaGreatDoor
open Go.RowKit
attribute [local go_sem] sgetr

/-- The call returns v and leaves the world alone. -/
def Same (w : World) (v : Value) (e : Ending) (w' : World) : Prop := e = .returned v ∧ w = w'
theorem Same.mk {w : World} {v u : Value} (h : u = v) : Same w v (.returned u) w := ⟨by rw [h], rfl⟩
theorem Same.ret {w : World} {v : Value} {e : Ending} {w' : World} (h : Same w v e w') : Ret w v e w' := by
  obtain ⟨rfl, rfl⟩ := h; exact Ret.mk rfl (Below.refl _ _)
def rSpace (c : UInt8) : Bool := decide (c.toNat = 9 ∨ c.toNat = 10 ∨ c.toNat = 12 ∨ c.toNat = 13 ∨ c.toNat = 32)
def rUpper (c : UInt8) : Bool := decide (65 ≤ c.toNat ∧ c.toNat ≤ 90)
def rLetter (c : UInt8) : Bool := decide ((65 ≤ c.toNat ∧ c.toNat ≤ 90) ∨ (97 ≤ c.toNat ∧ c.toNat ≤ 122))
def rDigit (c : UInt8) : Bool := decide (48 ≤ c.toNat ∧ c.toNat ≤ 57)
def rAlnum (c : UInt8) : Bool := rLetter c || rDigit c
/-- A search through a string, at the byte that it first meets. -/
def hasB (l : List UInt8) (c : UInt8) : Bool := l.any fun x => x == c
theorem hasB_true {l : List UInt8} {c : UInt8} {k : Nat} (h : k < l.length) (hc : l[k] = c) : hasB l c = true :=
  List.any_eq_true.2 ⟨l[k], List.getElem_mem h, by simp [hc]⟩
theorem hasB_false {l : List UInt8} {c : UInt8} (h : ∀ k (hk : k < l.length), l[k] ≠ c) : hasB l c = false := by
  unfold hasB
  rw [List.any_eq_false]
  intro x hx
  obtain ⟨k, hk, rfl⟩ := List.getElem_of_mem hx
  simp [h k hk]
theorem u8_eq {a b : UInt8} : ((a.toNat : Int) == (b.toNat : Int)) = (a == b) := by
  rw [Bool.eq_iff_iff]
  simp only [beq_iff_eq, ← UInt8.toNat_inj]
  omega
end Go.Proofs.YtdapdadcninidaaGreatDoor
namespace Go.Proofs.YtdapdadcninidaaGreatDoor
open Go.RowKit
attribute [local go_sem] sgetr
attribute [local go_sem] sext
attribute [local go_sem] sapp

theorem escL_whole (l : List UInt8) : escL (l.take l.length) = escL l := by rw [List.take_length]
theorem escL_bd (l : List UInt8) (k : Nat) : (escL (l.take k)).length ≤ 2 * k := by
  have h1 := List.countP_le_length (p := big) (l := l.take k)
  have h2 : (l.take k).length ≤ k := by simp; omega
  rw [escL_len]; omega
set_option maxRecDepth 100000 in
set_option maxHeartbeats 2000000 in
theorem rQuote_any (l : List UInt8) (w : World) (hs : l.length ≤ 1000000000) : Calls Tryz.prog 64 #[.string ⟨l.toArray⟩] w (Same w (.string ⟨(quoteL l).toArray⟩)) := by
  have HE : Hid (quoteL l = 34 :: (escL (l.take l.length) ++ [34])) := Lib.hid (by rw [escL_whole]; rfl)
  rw [HE.out]
  clear HE
  go_enter Tryz.func64, Tryz.ntmps64
  go_wp2_with fail
  go_loopw [3, 4] (fun s3 s4 wr => ∃ k : Nat, k ≤ l.length ∧ s4 = .int .i64 k ∧ s3 = .string ⟨((34 :: escL (l.take k)) : List UInt8).toArray⟩ ∧ wr = w) (fun _ s4 _ => l.length - (intOf s4).toNat)
  case atStart => exact ⟨0, Nat.zero_le _, rfl, rfl, rfl⟩
  case round =>
    obtain ⟨k, hk, rfl, rfl, rfl⟩ := hrel
    have hol := escL_bd l k
    by_cases hlt : k < l.length
    · have HN := Lib.hid (escL_next l k hlt)
      have htk : List.take 1 (List.drop k l) = [l[k]] := by rw [List.drop_eq_getElem_cons hlt]; rfl
      have hcs : l[k] = 10 ∨ l[k] = 34 ∨ l[k] = 92 ∨ big l[k] = false := by
        by_cases h1 : l[k] = 10
        · exact .inl h1
        · by_cases h2 : l[k] = 34
          · exact .inr (.inl h2)
          · by_cases h3 : l[k] = 92
            · exact .inr (.inr (.inl h3))
            · exact .inr (.inr (.inr (by simp [big, h1, h2, h3])))
      obtain ⟨c, hc⟩ : ∃ c, l[k] = c := ⟨_, rfl⟩
      rw [hc] at HN htk hcs
      generalize escL (l.take k) = out at *
      rcases hcs with h | h | h | h
      · subst h
        have e1 : (([10] : List UInt8) == [10]) = true := rfl
        go_wp2_with fail
        go_roundw
        case rel => exact ⟨k + 1, by omega, by go_num, by rw [HN.out]; simp [escB], trivial⟩
        case measure => simp [intOf]; omega
      · subst h
        have e1 : (([34] : List UInt8) == [10]) = false := rfl
        have e2 : (([34] : List UInt8) == [34]) = true := rfl
        go_wp2_with fail
        go_roundw
        case rel => exact ⟨k + 1, by omega, by go_num, by rw [HN.out]; simp [escB], trivial⟩
        case measure => simp [intOf]; omega
      · subst h
        have e1 : (([92] : List UInt8) == [10]) = false := rfl
        have e2 : (([92] : List UInt8) == [34]) = false := rfl
        have e3 : (([92] : List UInt8) == [92]) = true := rfl
        go_wp2_with fail
        go_roundw
        case rel => exact ⟨k + 1, by omega, by go_num, by rw [HN.out]; simp [escB], trivial⟩
        case measure => simp [intOf]; omega
      · have hno := escB_no h
        simp only [big, Bool.or_eq_false_iff, beq_eq_false_iff_ne] at h
        obtain ⟨h1, h2, h3⟩ := h
        have e1 : ([c] == ([10] : List UInt8)) = false := by simp [h1]
        have e2 : ([c] == ([34] : List UInt8)) = false := by simp [h3]
        have e3 : ([c] == ([92] : List UInt8)) = false := by simp [h2]
        have HO := Lib.hid hno
        clear hno h1 h2 h3
        go_wp2_with fail
        go_roundw
        case rel => exact ⟨k + 1, by omega, by go_num, by rw [HN.out, HO.out], trivial⟩
        case measure => simp [intOf]; omega
    · obtain rfl : k = l.length := by omega
      generalize escL (l.take l.length) = out at *
      go_wp2_with fail
      go_ret
      exact Same.mk (by simp)
end Go.Proofs.YtdapdadcninidaaGreatDoor
namespace Go.Proofs.YtdapdadcninidaaGreatDoor
open Go.RowKit
attribute [local go_sem ↓] Go.wp_at_zero Go.wp_at_succ
attribute [local go_sem] sapp

def numL (n : Int) : List UInt8 := Lib.decDigits n.toNat
/-- The text of one attribute. -/
def attL (a : Att) : List UInt8 := 32 :: (numL a.space ++ 58 :: (quoteL a.name ++ 61 :: quoteL a.value))
/-- The text of a node. -/
def lineL (d : Nd) : List UInt8 :=
  if d.kind = 1 then (if d.quirks then [100, 111, 99, 117, 109, 101, 110, 116, 32, 113, 117, 105, 114, 107, 115] else [100, 111, 99, 117, 109, 101, 110, 116])
  else if d.kind = 2 then (if d.host ≠ 0 then [99, 111, 110, 116, 101, 110, 116, 115] else [102, 114, 97, 103, 109, 101, 110, 116])
  else if d.kind = 3 then [100, 111, 99, 116, 121, 112, 101, 32] ++ (quoteL d.name ++ 32 :: (quoteL d.pub ++ 32 :: quoteL d.sys))
  else if d.kind = 5 then [116, 101, 120, 116, 32] ++ quoteL d.data
  else if d.kind = 6 then [99, 111, 109, 109, 101, 110, 116, 32] ++ quoteL d.data
  else [101, 108, 101, 109, 101, 110, 116, 32] ++ (numL d.space ++ 32 :: (quoteL d.name ++ d.attrs.flatMap attL))
/-- What line leans on. -/
structure LineOk (d : Nd) : Prop where
  kd : d.kind = 1 ∨ d.kind = 2 ∨ d.kind = 4 ∨ d.kind = 5 ∨ d.kind = 6
  at0 : d.attrs = []
  sp : 0 ≤ d.space ∧ d.space < 100
  nm : d.name.length ≤ 1000000000
  dt : d.data.length ≤ 1000000000
theorem quoteL_len (l : List UInt8) (h : l.length ≤ 1000000000) : (quoteL l).length ≤ 2000000100 := by
  rw [quoteL, List.length_cons, List.length_append, escL_len]
  have := List.countP_le_length (p := big) (l := l)
  simp; omega
theorem decDigits_len (i : Nat) (h : i < 100) : (Lib.decDigits i).length ≤ 100 := by
  have : ∀ i, i < 100 → (Lib.decDigits i).length ≤ 100 := by decide +kernel
  exact this i h
set_option maxRecDepth 100000 in
set_option maxHeartbeats 2000000 in
theorem line_any (d : Nd) (kv av : Value) (w : World) {g o : Nat} (hn : NdIs w g o d kv av) (hav : ∃ a c, av = .slice a d.attrs.length c) (hd : LineOk d) :
    Calls Tryz.prog 94 #[.pointer (some ⟨g, o, none⟩)] w (Ret w (.string ⟨(lineL d).toArray⟩)) := by
  obtain ⟨h1, h2, ⟨s0, s1⟩, h4, h5⟩ := hd
  have c0 := hn.c0
  have c4 := hn.c4
  have c5 := hn.c5
  have c6 := hn.c6
  have c7 := hn.c7
  have c10 := hn.c10
  have c12 := hn.c12
  have hgw := World.block_lt_of_cell? _ _ c0
  have HQ := Lib.hid (fun l w hl => quote_any l w hl)
  have q1 := quoteL_len _ h4
  have q2 := quoteL_len _ h5
  obtain ⟨aa, ac, rfl⟩ := hav
  rw [h2] at c6
  simp only [List.length_nil] at c6
  obtain ⟨si, hsi⟩ : ∃ i : Nat, d.space = (i : Int) := ⟨d.space.toNat, by omega⟩
  have hs100 : si < 100 := by omega
  have hdl := decDigits_len si hs100
  have HI := Lib.hid (fun w => Tryz.strconv_Itoa_small si hs100 w)
  have hL : lineL d = lineL d := rfl
  conv at hL => rhs; unfold lineL
  rw [hsi] at c4 hL
  rw [h2, show numL (si : Int) = Lib.decDigits si by simp [numL]] at hL
  rw [hL]
  clear hL hn h2 hsi s0 s1
  rcases h1 with h1 | h1 | h1 | h1 | h1
  all_goals
    rw [h1] at c0
    simp only [h1]
    clear h1
  · cases hq : d.quirks
    all_goals
      rw [hq] at c10
      go_enter Tryz.func94, Tryz.ntmps94
      go_wp2
      go_ret
      exact Ret.mk (by simp) (Below.refl _ _)
  · by_cases hq : d.host = 0
    · rw [hq] at c12
      go_enter Tryz.func94, Tryz.ntmps94
      go_wp2
      go_ret
      exact Ret.mk (by simp [hq]) (Below.refl _ _)
    · have hz : ((d.host : Int) != 0) = true := by simpa using hq
      go_enter Tryz.func94, Tryz.ntmps94
      go_wp2
      go_ret
      exact Ret.mk (by simp [hq]) (Below.refl _ _)
  · go_enter Tryz.func94, Tryz.ntmps94
    go_wp2
    go_region_with ((first
      | (go_at_call 65; refine (HI.out _).mono ?_; rintro e w1 ⟨rfl, rfl⟩)
      | (go_at_call 145; refine (HQ.out d.name _ h4).mono ?_; rintro e w2 ⟨rfl, b2'⟩
         have b2 : Below w.heap.size w w2 := by first | exact b2' | exact bdrew b2'
         have d4 := (b2.cell (p := ⟨g, o + 4, none⟩) hgw).trans c4
         have d6 := (b2.cell (p := ⟨g, o + 6, none⟩) hgw).trans c6
         clear b2')))
    all_goals
      go_wp2
      go_loop [3, 79] (fun s3 s79 => s3 = .string ⟨([101, 108, 101, 109, 101, 110, 116, 32] ++ (Lib.decDigits si ++ 32 :: (quoteL d.name ++ [])) : List UInt8).toArray⟩ ∧ s79 = .int .i64 0) (fun _ _ => 0)
      case atStart => exact ⟨by simp, rfl⟩
      case round =>
        obtain ⟨rfl, rfl⟩ := hrel
        go_wp2
        go_ret
        exact Ret.mk (by simp) (by first | exact b2 | exact below_drewA b2)
  · have H1 := Lib.hid (HQ.out d.data w h5)
    go_enter Tryz.func94, Tryz.ntmps94
    go_wp2_with (refine H1.out.mono ?_; rintro e w1 ⟨rfl, b1⟩)
    go_ret
    exact Ret.mk (by simp) b1
  · have H1 := Lib.hid (HQ.out d.data w h5)
    go_enter Tryz.func94, Tryz.ntmps94
    go_wp2_with (refine H1.out.mono ?_; rintro e w1 ⟨rfl, b1⟩)
    go_ret
    exact Ret.mk (by simp) b1
end Go.Proofs.YtdapdadcninidaaGreatDoor
namespace Go.Proofs.YtdapdadcninidaaGreatDoor
open Go.RowKit
attribute [local go_sem ↓] Go.wp_at_zero Go.wp_at_succ
attribute [local go_sem] sapp

/-- What the text of an attribute leans on. -/
structure AttOk (y : Att) : Prop where
  sp : 0 ≤ y.space ∧ y.space < 100
  nm : y.name.length ≤ 1000
  vl : y.value.length ≤ 1000
/-- A call that leaves the world alone, within a quiet region. -/
theorem quiet_leftQ {P : Program} {f : FuncId} {args : Array Value} {w : World} {n : Nat} {v : Value} (h : Calls P f args (w.drewN n) (Same (w.drewN n) v)) :
    Calls P f args (w.drewN n) fun e w'' => e = .returned v ∧ ∃ m, w'' = w.drewN m := h.mono fun _ _ ⟨he, hm⟩ => ⟨he, n, hm.symm⟩
theorem bdrewsQ {n : Nat} {w w' : World} (h : Below n w w') (k : Nat) : Below n w (w'.drewN k) := ⟨h.os, h.tape, h.output, h.size, h.block⟩
theorem quiet_leftI {P : Program} {f : FuncId} {args : Array Value} {w : World} {n : Nat} {v : Value} (h : Calls P f args (w.drewN n) fun e w' => e = .returned v ∧ w' = w.drewN n) :
    Calls P f args (w.drewN n) fun e w'' => e = .returned v ∧ ∃ m, w'' = w.drewN m := h.mono fun _ _ ⟨he, hm⟩ => ⟨he, n, hm⟩
theorem quoteL_le (l : List UInt8) : (quoteL l).length ≤ 2 * l.length + 2 := by
  rw [quoteL, List.length_cons, List.length_append, escL_len]
  have := List.countP_le_length (p := big) (l := l)
  simp; omega
theorem attL_le {y : Att} (h : AttOk y) : (attL y).length ≤ 5000 := by
  have h1 := quoteL_le y.name
  have h2 := quoteL_le y.value
  have h3 : (Lib.decDigits y.space.toNat).length ≤ 100 := decDigits_len _ (by have := h.sp; omega)
  have := h.nm
  have := h.vl
  simp [attL, numL]; omega
theorem attsL_le {l : List Att} (h : ∀ y ∈ l, AttOk y) : (l.flatMap attL).length ≤ 5000 * l.length := by
  induction l with
  | nil => simp
  | cons y l ih =>
    have := ih fun z hz => h z (List.mem_cons_of_mem _ hz)
    have := attL_le (h y (List.mem_cons_self ..))
    rw [List.flatMap_cons, List.length_append, List.length_cons]; omega
set_option maxRecDepth 100000 in
set_option maxHeartbeats 4000000 in
theorem rLine_any (d : Nd) (kv : Value) (w : World) {a : Option Addr} {c : Nat} (hk : d.kind = 4) (hs : 0 ≤ d.space ∧ d.space < 100) (hn : d.name.length ≤ 1000) (hal : d.attrs.length ≤ 100000) (hao : ∀ y ∈ d.attrs, AttOk y) (hc : AttsAt w a d.attrs) :
    Calls Tryz.prog 25 #[.agg (ndCells d kv (.slice a d.attrs.length c)).toArray] w (Ret w (.string ⟨(lineL d).toArray⟩)) := by
  have hL : lineL d = [101, 108, 101, 109, 101, 110, 116, 32] ++ (numL d.space ++ 32 :: (quoteL d.name ++ d.attrs.flatMap attL)) := by simp [lineL, hk]
  have hql := quoteL_le d.name
  have hdl := decDigits_len d.space.toNat (by omega)
  have HI := Lib.hid (fun i (hi : i < 100) w => Tryz.strconv_Itoa_small i hi w)
  have HQ := Lib.hid (fun l w (hl : l.length ≤ 1000000000) => rQuote_any l w hl)
  rw [hL]
  clear hL
  obtain ⟨si, hsi⟩ : ∃ i : Nat, d.space = (i : Int) := ⟨d.space.toNat, by omega⟩
  have HC := Lib.hid hc
  have HAO := Lib.hid hao
  simp only [ndCells, hk, hsi, natV, strV]
  rw [show numL (si : Int) = Lib.decDigits si by simp [numL]]
  rw [hsi] at hs hdl
  have hs1 : si < 100 := by omega
  simp only [Int.toNat_natCast] at hdl
  obtain ⟨nm, hnm⟩ : ∃ nm, d.name = nm := ⟨_, rfl⟩
  obtain ⟨l, hl⟩ : ∃ l, d.attrs = l := ⟨_, rfl⟩
  rw [hnm] at hn hql ⊢
  rw [hl] at hal HC HAO ⊢
  clear hc hao hnm hl hk hsi
  go_enter Tryz.func25, Tryz.ntmps25
  go_wp2_with fail
  generalize hW0 : w.alloc _ = W0
  have b0 : Below w.heap.size w W0 := by rw [← hW0]; exact balloc w _
  have hbx := World.alloc_heap_new w (.cells #[.int .i64 4, .int .i64 (d.parent : Nat), kv, .int .i64 (d.doc : Nat), .int .i64 (si : Int), .string ⟨nm.toArray⟩, .slice a l.length c, .string ⟨d.data.toArray⟩, .string ⟨d.pub.toArray⟩, .string ⟨d.sys.toArray⟩, .bool d.quirks, .int .i64 (d.contents : Nat), .int .i64 (d.host : Nat)] 55)
  rw [hW0] at hbx
  have c4 : W0.cell? ⟨w.heap.size, 4, none⟩ = some (.int .i64 (si : Int)) := by rw [cell_of_row _ _ _ _ _ _ hbx]; rfl
  have c5 : W0.cell? ⟨w.heap.size, 5, none⟩ = some (.string ⟨nm.toArray⟩) := by rw [cell_of_row _ _ _ _ _ _ hbx]; rfl
  have c6 : W0.cell? ⟨w.heap.size, 6, none⟩ = some (.slice a l.length c) := by rw [cell_of_row _ _ _ _ _ _ hbx]; rfl
  have hgw := World.block_lt_of_cell? _ _ c4
  have HB0 := Lib.hid b0
  have HCW := Lib.hid (HC.out.later b0)
  clear hbx b0 hW0 HC
  go_quiet ((first | (go_at_call 64; exact quiet_leftQ (HQ.out _ _ (by omega))) | (go_at_call 65; exact quiet_leftI (HI.out _ hs1 _))))
  go_wp2_with fail
  have HT : Hid (∀ k (h : k < l.length), (l.take (k + 1)).flatMap attL = (l.take k).flatMap attL ++ attL l[k]) := Lib.hid (fun k h => by
    rw [List.take_succ_eq_append_getElem h, List.flatMap_append, List.flatMap_cons, List.flatMap_nil, List.append_nil])
  have HZ : Hid (∀ k, k ≤ l.length → ((l.take k).flatMap attL).length ≤ 5000 * k) := Lib.hid (fun k hk => by
    have := attsL_le (l := l.take k) (fun y hy => HAO.out y (List.mem_of_mem_take hy))
    rwa [List.length_take_of_le hk] at this)
  have HE : Hid ((l.take l.length).flatMap attL = l.flatMap attL) := Lib.hid (by rw [List.take_length])
  rw [← HE.out]
  clear HE
  obtain ⟨pre, hpre⟩ : ∃ pre : List UInt8, [101, 108, 101, 109, 101, 110, 116, 32] ++ (Lib.decDigits si ++ 32 :: quoteL nm) = pre := ⟨_, rfl⟩
  have hpl : pre.length ≤ 10000 := by rw [← hpre]; simp; omega
  have HPR := Lib.hid hpre
  clear hpre
  go_loopw [3, 4, 5] (fun s3 s4 _ wr => ∃ k : Nat, k ≤ l.length ∧ s4 = .int .i64 k ∧ s3 = .string ⟨(pre ++ (l.take k).flatMap attL).toArray⟩ ∧ Below W0.heap.size W0 wr) (fun _ s4 _ _ => l.length - (intOf s4).toNat)
  case atStart => exact ⟨0, Nat.zero_le _, rfl, by rw [← HPR.out]; simp, bdrewsQ (Below.refl _ _) _⟩
  case round =>
    obtain ⟨k, hk, rfl, rfl, hb⟩ := hrel
    have d6 := (hb.cell (p := ⟨w.heap.size, 6, none⟩) hgw).trans c6
    have hzk := HZ.out k hk
    have HB := Lib.hid hb
    by_cases hlt : k < l.length
    · obtain ⟨g, rfl, e0, e1, e2⟩ := (HCW.out.later hb) k l[k] (List.getElem?_eq_getElem hlt)
      have HN := Lib.hid (HT.out k hlt)
      obtain ⟨out, hout⟩ : ∃ out, (l.take k).flatMap attL = out := ⟨_, rfl⟩
      rw [hout] at HN hzk ⊢
      clear hout
      obtain ⟨zsp, znm, zvl⟩ := HAO.out l[k] (List.getElem_mem hlt)
      obtain ⟨z, hz⟩ : ∃ z, l[k] = z := ⟨_, rfl⟩
      rw [hz] at e0 e1 e2 HN zsp znm zvl
      clear hb hz
      obtain ⟨zs, zn, zv⟩ := z
      dsimp only at e0 e1 e2 zsp znm zvl
      obtain ⟨zi, rfl⟩ : ∃ i : Nat, zs = (i : Int) := ⟨zs.toNat, by omega⟩
      have hq1 := quoteL_le zn
      have hq2 := quoteL_le zv
      have hzd := decDigits_len zi (by omega)
      have hzi : zi < 100 := by omega
      have hki : (k : Int) < (l.length : Int) := by omega
      go_wp2_with fail
      generalize hW2 : wr.alloc _ = W2
      have hb2 : Below wr.heap.size wr W2 := by rw [← hW2]; exact balloc wr _
      have hx2 := World.alloc_heap_new wr (.cells #[.int .i64 (zi : Int), .string ⟨zn.toArray⟩, .string ⟨zv.toArray⟩] 121)
      rw [hW2] at hx2
      have f0 : W2.cell? ⟨wr.heap.size, 0, none⟩ = some (.int .i64 (zi : Int)) := by rw [cell_of_row _ _ _ _ _ _ hx2]; rfl
      have f1 : W2.cell? ⟨wr.heap.size, 1, none⟩ = some (.string ⟨zn.toArray⟩) := by rw [cell_of_row _ _ _ _ _ _ hx2]; rfl
      have f2 : W2.cell? ⟨wr.heap.size, 2, none⟩ = some (.string ⟨zv.toArray⟩) := by rw [cell_of_row _ _ _ _ _ _ hx2]; rfl
      have HB2 := Lib.hid (bthen HB.out HB.out.size hb2)
      clear hx2 hb2 hW2 e0 e1 e2 d6
      go_quiet ((first | (go_at_call 64; exact quiet_leftQ (HQ.out _ _ (by omega))) | (go_at_call 65; exact quiet_leftI (HI.out _ hzi _))))
      go_wp2_with fail
      go_roundw
      case rel => exact ⟨k + 1, by omega, by go_num, by rw [HN.out]; simp [attL, numL], bdrewsQ HB2.out _⟩
      case measure => simp [intOf]; omega
    · obtain rfl : k = l.length := by omega
      go_wp2_with fail
      go_ret
      exact Ret.mk (by rw [← HPR.out]; simp) (bthen HB0.out HB0.out.size HB.out)
end Go.Proofs.YtdapdadcninidaaGreatDoor
