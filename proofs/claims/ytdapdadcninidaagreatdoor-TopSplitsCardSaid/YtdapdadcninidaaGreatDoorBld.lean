/- strings.Builder, the frame in full: a builder at block b whose bytes lie in blocks from R on: a write turns b and blocks from R on, and nothing else. -/
import Derived.Test.YtdapdadcninidaaGreatDoorIter
import Derived.Test.YtdapdadcninidaaGreatDoorShelf
namespace Go.Proofs.YtdapdadcninidaaGreatDoor
open Go.RowKit

theorem cc_used (b : Nat) (w : World) (h0 : w.cell? ⟨b, 0, none⟩ = some (.pointer (some ⟨b, 0, none⟩))) :
    Calls Tryz.prog 140 #[.pointer (some ⟨b, 0, none⟩)] w fun e w' => e = .returned (.tuple #[]) ∧ w' = w := Any.Builder_copyCheck_used Tryz.lays240 Tryz.bextra.toX72 b w h0
theorem cc_fresh (b : Nat) (w : World) (h0 : w.cell? ⟨b, 0, none⟩ = some (.pointer none)) (hsh : w.shape? b = some (112, 2)) (hfz : w.frozen? ⟨b, 0, none⟩ = false) :
    Calls Tryz.prog 140 #[.pointer (some ⟨b, 0, none⟩)] w fun e w' => e = .returned (.tuple #[]) ∧ w' = w.setCell ⟨b, 0, none⟩ (.pointer (some ⟨b, 0, none⟩)) := Any.Builder_copyCheck_fresh Tryz.lays240 Tryz.bextra.toX72 b w h0 hsh hfz

def BldAt (R b : Nat) (p : Value) (bs : List Value) (w : World) : Prop :=
  b < R ∧ ∃ v, w.heap[b]? = some (.cells #[p, v] 112 (0, 0)) ∧ w.ownsRowF R 5 1 v bs.length bs
def Bld (R b : Nat) (bs : List Value) (w : World) : Prop := BldAt R b (.pointer none) bs w ∨ BldAt R b (.pointer (some ⟨b, 0, none⟩)) bs w
/-- What a write may turn. -/
def BlS (R b k : Nat) : Prop := k = b ∨ R ≤ k
theorem BldAt.kept {R b : Nat} {p : Value} {bs : List Value} {A B : World} (h : BldAt R b p bs A) (hk : ∀ k, k < A.heap.size → BlS R b k → B.heap[k]? = A.heap[k]?) : BldAt R b p bs B := by
  obtain ⟨h1, v, h3, h4⟩ := h
  refine ⟨h1, v, (hk b (Array.getElem?_eq_some_iff.1 h3).1 (.inl rfl)).trans h3, h4.1, ?_⟩
  rcases h4.2 with h | ⟨g, cap, cur, fz, hv, hg, hgg, r⟩
  · exact .inl h
  · exact .inr ⟨g, cap, cur, fz, hv, hg, (hk g (Array.getElem?_eq_some_iff.1 hgg).1 (.inr hg)).trans hgg, r⟩
theorem Bld.kept {R b : Nat} {bs : List Value} {A B : World} (h : Bld R b bs A) (hk : ∀ k, k < A.heap.size → BlS R b k → B.heap[k]? = A.heap[k]?) : Bld R b bs B :=
  h.imp (fun h => h.kept hk) (fun h => h.kept hk)
theorem Bld.fresh {R b : Nat} {w : World} (h : w.heap[b]? = some (.cells #[.pointer none, .slice none 0 0] 112 (0, 0))) (hb : b < R) : Bld R b [] w :=
  .inl ⟨hb, _, h, World.ownsRowF_nil _ _ _ _⟩
/-- The block in which the builder's bytes lie. -/
def RowOf (w : World) (b k : Nat) : Prop := ∃ p v t fz, w.heap[b]? = some (.cells #[p, v] t fz) ∧ v.ownBlock = some k
def BlR (w : World) (b k : Nat) : Prop := k = b ∨ RowOf w b k
theorem Bld.row {R b : Nat} {bs : List Value} {w : World} (h : Bld R b bs w) {k : Nat} (hr : RowOf w b k) : R ≤ k ∧ k < w.heap.size := by
  obtain ⟨p, v, t, fz, h1, h2⟩ := hr
  rcases h with h | h
  · obtain ⟨_, v', h3, h4⟩ := h
    rw [h3] at h1; cases h1
    exact h4.lt k h2
  · obtain ⟨_, v', h3, h4⟩ := h
    rw [h3] at h1; cases h1
    exact h4.lt k h2
theorem RowOf.of_block {w w' : World} {b k : Nat} (h : w'.heap[b]? = w.heap[b]?) (hr : RowOf w' b k) : RowOf w b k := by
  obtain ⟨p, v, t, fz, h1, h2⟩ := hr
  exact ⟨p, v, t, fz, h ▸ h1, h2⟩
theorem Bld.mod {R b : Nat} {bs : List Value} {w w' : World} (h : Bld R b bs w) (hm : Mod (BlR w b) w w') : Mod (BlS R b) w w' :=
  hm.mono fun _ _ e => e.imp id fun e => (h.row e).1
def RetB (R b : Nat) (w : World) (v : Value) (bs : List Value) (e : Ending) (w' : World) : Prop := e = .returned v ∧ BldAt R b (.pointer (some ⟨b, 0, none⟩)) bs w' ∧ Mod (BlR w b) w w'
theorem copyCheck_bld (R b : Nat) (bs : List Value) (w : World) (h : Bld R b bs w) : Calls Tryz.prog 140 #[.pointer (some ⟨b, 0, none⟩)] w fun e w' => RetB R b w (.tuple #[]) bs e w' ∧ ∀ k, RowOf w' b k → RowOf w b k := by
  rcases h with h | h
  · obtain ⟨h1, v, h3, h4⟩ := h
    refine (cc_fresh b w (by rw [Lib.cell_of_heap h3]; rfl) (by simp [World.shape?, h3]) (Lib.frozen_of_heap h3 0)).mono ?_
    rintro e w' ⟨rfl, rfl⟩
    have hn : (w.setCell ⟨b, 0, none⟩ (.pointer (some ⟨b, 0, none⟩))).heap[b]? = some (.cells #[.pointer (some ⟨b, 0, none⟩), v] 112 (0, 0)) := by
      show (w.heap.modify b _)[b]? = _
      rw [Array.getElem?_modify, if_pos rfl, h3]
      rfl
    refine ⟨⟨rfl, ⟨h1, v, hn, h4.1, ?_⟩, Mod.setCell _ _ (.inl rfl)⟩, fun k hk => ?_⟩
    · rcases h4.2 with h | ⟨g, cap, cur, fz, hv, hg, hgg, r⟩
      · exact .inl h
      · exact .inr ⟨g, cap, cur, fz, hv, hg, (Below.heap_setCell _ _ _ _ (by show g ≠ b; omega)).trans hgg, r⟩
    · obtain ⟨p, v', t, fz, e1, e2⟩ := hk
      rw [hn] at e1; cases e1
      exact ⟨_, _, _, _, h3, e2⟩
  · obtain ⟨h1, v, h3, h4⟩ := h
    refine (cc_used b w (by rw [Lib.cell_of_heap h3]; rfl)).mono ?_
    rintro e w' ⟨rfl, rfl⟩
    exact ⟨⟨rfl, ⟨h1, v, h3, h4⟩, Mod.refl _ _⟩, fun _ h => h⟩
theorem infoByte : (Tryz.prog.info? 5).map (fun i => (i.zero, i.size, i.bytes)) = some (some (.int .u8 0), 1, 1) := by kernel_rfl

theorem put_bld {R b : Nat} {p v v' : Value} {bs' : List Value} {w2 : World} (hb : b < R) (h : w2.heap[b]? = some (.cells #[p, v] 112 (0, 0))) (hown : w2.ownsRowF R 5 1 v' bs'.length bs') :
    BldAt R b p bs' (w2.setCell ⟨b, 1, none⟩ v') := by
  refine ⟨hb, v', ?_, hown.1, ?_⟩
  · show (w2.heap.modify b _)[b]? = _
    rw [Array.getElem?_modify, if_pos rfl, h]
    rfl
  · rcases hown.2 with h | ⟨g, cap, cur, fz, hv, hg, hgg, r⟩
    · exact .inl h
    · exact .inr ⟨g, cap, cur, fz, hv, hg, (Below.heap_setCell _ _ _ _ (by show g ≠ b; omega)).trans hgg, r⟩
theorem Mod.of_grown {S : Nat → Prop} {A B : World} {row : Option Nat} (h : A.grownBy B row) (hr : ∀ k, row = some k → S k) : Mod S A B :=
  ⟨h.os, h.tape, h.output, h.size, fun k hk hs => h.block k hk (fun e => hs (hr k e.symm))⟩

set_option maxHeartbeats 2000000 in
set_option maxRecDepth 100000 in
theorem WriteString_bld (R b : Nat) (bs : List Value) (l : List UInt8) (w : World) (h : Bld R b bs w) (hR0 : R ≤ w.heap.size) (hlen : bs.length + l.length ≤ 100000000000) :
    Calls Tryz.prog 92 #[.pointer (some ⟨b, 0, none⟩), .string ⟨l.toArray⟩] w (RetB R b w (.tuple #[.int .i64 (l.length : Nat), .nilIface]) (bs ++ Lib.byteCells l)) := by
  obtain ⟨i0, hi, hz0, hz1, hz2⟩ := info_parts infoByte
  have hcc := copyCheck_bld R b bs w h
  have HCC := Lib.hid hcc
  clear hcc h
  go_enter Tryz.func92, Tryz.ntmps92
  go_wp2_with fail
  refine HCC.out.mono ?_
  rintro e w1 ⟨⟨rfl, ⟨hB, v, hbk, hown⟩, hm1⟩, hrow⟩
  have hR : R ≤ w1.heap.size := Nat.le_trans hR0 hm1.size
  have c0 : w1.cell? ⟨b, 0, none⟩ = some (.pointer (some ⟨b, 0, none⟩)) := by rw [Lib.cell_of_heap hbk]; rfl
  have c1 : w1.cell? ⟨b, 1, none⟩ = some v := by rw [Lib.cell_of_heap hbk]; rfl
  go_wp2_with (at_builtin; refine Lib.wpList_append_own_stringF _ rfl _ _ 110 9 rfl R 5 i0 Tryz.underlying110 Tryz.underlying9 hi hz0 hz1 hz2 _ _ _ rfl hown ⟨l.toArray⟩ rfl ?c3 ?c4 ?c5 ?_)
  case c3 => show bs.length + l.length ≤ maxLen; unfold maxLen; omega
  case c4 => show bs.length + l.length ≤ _; omega
  case c5 => exact hR
  intro v' w2 hown' hgrow _
  have hsz2 := hgrow.size
  have hlt : b < w1.heap.size := by omega
  have hne : some b ≠ v.ownBlock := fun e => by have := (hown.lt b e.symm).1; omega
  have hb2 : w2.heap[b]? = some (.cells #[.pointer (some ⟨b, 0, none⟩), v] 112 (0, 0)) := by
    rw [hgrow.block b hlt hne]
    exact hbk
  have d0 : w2.cell? ⟨b, 0, none⟩ = some (.pointer (some ⟨b, 0, none⟩)) := by rw [Lib.cell_of_heap hb2]; rfl
  have d1 : w2.cell? ⟨b, 1, none⟩ = some v := by rw [Lib.cell_of_heap hb2]; rfl
  have f1 : w2.frozen? ⟨b, 1, none⟩ = false := Lib.frozen_of_heap hb2 1
  obtain ⟨ao, n', cap, rfl⟩ : ∃ ao n' cap, v' = .slice ao n' cap := by
    rcases hown'.2 with ⟨hv, _⟩ | ⟨g, cap, cur, fz, hv, _⟩
    · exact ⟨_, _, _, hv⟩
    · exact ⟨_, _, _, hv⟩
  have HR := Lib.hid (put_bld (bs' := bs ++ Lib.byteCells l) hB hb2 (by rw [show (bs ++ Lib.byteCells l).length = bs.length + l.length by simp [Lib.byteCells_length]]; exact hown'))
  have HM := Lib.hid (hm1.trans (Mod.of_grown (S := BlR w b) hgrow (fun k hk => .inr (hrow k ⟨_, _, _, _, hbk, hk⟩))))
  clear hown hown' hgrow hbk hb2 hm1 hrow
  go_wp2
  go_ret2
  exact ⟨rfl, HR.out, HM.out.trans (Mod.setCell _ _ (.inl rfl))⟩

set_option maxHeartbeats 2000000 in
set_option maxRecDepth 100000 in
theorem WriteByte_bld (R b : Nat) (bs : List Value) (c : UInt8) (w : World) (h : Bld R b bs w) (hR0 : R ≤ w.heap.size) (hlen : bs.length + 1 ≤ 100000000000) :
    Calls Tryz.prog 95 #[.pointer (some ⟨b, 0, none⟩), .int .u8 (c.toNat : Int)] w (RetB R b w .nilIface (bs ++ [.int .u8 (c.toNat : Int)])) := by
  obtain ⟨i0, hi, hz0, hz1, hz2⟩ := info_parts infoByte
  have hcc := copyCheck_bld R b bs w h
  have HCC := Lib.hid hcc
  clear hcc h
  go_enter Tryz.func95, Tryz.ntmps95
  go_wp2_with fail
  refine HCC.out.mono ?_
  rintro e w1 ⟨⟨rfl, ⟨hB, v, hbk, hown⟩, hm1⟩, hrow⟩
  have hR : R ≤ w1.heap.size := Nat.le_trans hR0 hm1.size
  have c0 : w1.cell? ⟨b, 0, none⟩ = some (.pointer (some ⟨b, 0, none⟩)) := by rw [Lib.cell_of_heap hbk]; rfl
  have c1 : w1.cell? ⟨b, 1, none⟩ = some v := by rw [Lib.cell_of_heap hbk]; rfl
  go_wp2_with (at_builtin; refine wpList_append_ownF _ rfl _ _ 110 rfl R 5 i0 (.int .u8 0) 1 1 Tryz.underlying110 hi hz0 hz1 hz2 rfl (by decide) _ _ _ rfl (hown.alloc _) ⟨w1.heap.size, 0, none⟩ 1 1 [.int .u8 (c.toNat : Int)] rfl rfl ?c1 ?c2 ?c3 ?c4 ?c5 ?_)
  case c1 =>
    intro j u hj
    match j, hj with
    | 0, hj => simp at hj; subst hj; simp [Addr.add]
  case c2 => intro u hu; simp at hu; subst hu; rfl
  case c3 => unfold maxLen; omega
  case c4 => omega
  case c5 => simp; omega
  intro v' w2 hown' hgrow _
  have hsz2 := hgrow.size
  simp only [World.size_alloc] at hsz2
  have hlt : b < w1.heap.size := by omega
  have hne : some b ≠ v.ownBlock := fun e => by have := (hown.lt b e.symm).1; omega
  have hb2 : w2.heap[b]? = some (.cells #[.pointer (some ⟨b, 0, none⟩), v] 112 (0, 0)) := by
    rw [hgrow.block b (by simp; omega) hne, Below.heap_alloc w1 _ b hlt]
    exact hbk
  have d0 : w2.cell? ⟨b, 0, none⟩ = some (.pointer (some ⟨b, 0, none⟩)) := by rw [Lib.cell_of_heap hb2]; rfl
  have d1 : w2.cell? ⟨b, 1, none⟩ = some v := by rw [Lib.cell_of_heap hb2]; rfl
  have f1 : w2.frozen? ⟨b, 1, none⟩ = false := Lib.frozen_of_heap hb2 1
  obtain ⟨ao, n', cap, rfl⟩ : ∃ ao n' cap, v' = .slice ao n' cap := by
    rcases hown'.2 with ⟨hv, _⟩ | ⟨g, cap, cur, fz, hv, _⟩
    · exact ⟨_, _, _, hv⟩
    · exact ⟨_, _, _, hv⟩
  have HR := Lib.hid (put_bld (bs' := bs ++ [.int .u8 (c.toNat : Int)]) hB hb2 (by rw [show (bs ++ [Value.int .u8 (c.toNat : Int)]).length = bs.length + 1 by simp]; exact hown'))
  have HM := Lib.hid ((hm1.trans (Mod.alloc _ _ _)).trans (Mod.of_grown (S := BlR w b) hgrow (fun k hk => .inr (hrow k ⟨_, _, _, _, hbk, hk⟩))))
  clear hown hown' hgrow hbk hb2 hm1 hrow
  go_wp2
  go_ret
  exact ⟨rfl, HR.out, HM.out.trans (Mod.setCell _ _ (.inl rfl))⟩

/-- What the builder holds, as a string; it is not written on behind this. -/
theorem String_bld (R b : Nat) (l : List UInt8) (w : World) (h : Bld R b (Lib.byteCells l) w) :
    Calls Tryz.prog 51 #[.pointer (some ⟨b, 0, none⟩)] w fun e w' => e = .returned (.string ⟨l.toArray⟩) ∧ Below b w w' ∧ Lib.OthersKept 5 (some b) w w' := by
  have hw : ∀ {p}, BldAt R b p (Lib.byteCells l) w → Lib.BuilderAtF 112 5 b b p (Lib.byteCells l) w := by
    rintro p ⟨h1, v, h3, h4⟩
    refine ⟨Nat.le_refl _, v, h3, ⟨h4.1, ?_⟩, fun e => by have := (h4.lt b e).1; omega⟩
    rcases h4.2 with h | ⟨g, cap, cur, fz, hv, hg, r⟩
    · exact .inl h
    · exact .inr ⟨g, cap, cur, fz, hv, by omega, r⟩
  have hb : b ≤ w.heap.size := by
    rcases h with h | h
    · obtain ⟨_, v, h3, _⟩ := h; exact Nat.le_of_lt (Array.getElem?_eq_some_iff.1 h3).1
    · obtain ⟨_, v, h3, _⟩ := h; exact Nat.le_of_lt (Array.getElem?_eq_some_iff.1 h3).1
  refine (Tryz.Builder_String_any_k b b l w (h.imp hw hw) hb).mono ?_
  rintro e w' ⟨rfl, _, h2, h3⟩
  exact ⟨rfl, h2, h3⟩
end Go.Proofs.YtdapdadcninidaaGreatDoor
