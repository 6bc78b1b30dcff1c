/- strings.Replacer as the dump uses it: build lays the table of three bytes. No condition. -/
import Derived.Test.YtdapdadcninidaaGreatDoorBase
import Derived.Test.YtdapdadcninidaaGreatDoorIter
import Derived.Test.YtdapdadcninidaaGreatDoorShelf
import Derived.Test.YtdapdadcninidaaGreatDoorLow
import Derived.Deep.WholeRow
import Derived.Lib.BufferMore
import Derived.Deep.DrawnRows
namespace Go.Proofs.YtdapdadcninidaaGreatDoor
open Go.RowKit
attribute [local go_sem ↓] Go.wp_at_zero Go.wp_at_succ

def oldNew : List (List UInt8) := [[34], [92, 34], [92], [92, 92], [10], [92, 110]]
theorem infoS : (Tryz.prog.info? 9).map (fun i => (i.zero, i.size, i.bytes)) = some (some (.string ⟨#[]⟩), 1, 16) := by kernel_rfl
theorem two_newR {w W0 : World} {o1 o2 : Obj} (h : (w.alloc o1).alloc o2 = W0) : W0.heap[w.heap.size]? = some o1 ∧ W0.heap[w.heap.size + 1]? = some o2 ∧ W0.heap.size = w.heap.size + 2 ∧ Below w.heap.size w W0 := by
  subst h
  have e1 := World.alloc_heap_new (w.alloc o1) o2
  rw [World.size_alloc] at e1
  exact ⟨(Below.heap_alloc _ _ _ (by simp)).trans (World.alloc_heap_new w o1), e1, by simp, (balloc w o1).alloc (by simp) o2⟩
theorem mk3 (w : World) : (Instr.makeSlice 39 (.int .i64 0) (.int .i64 3)).run Tryz.prog w = .ok (.slice (some ⟨w.heap.size, 0, none⟩) 0 3) (w.alloc (.cells #[.string ⟨#[]⟩, .string ⟨#[]⟩, .string ⟨#[]⟩] 9)) := by
  obtain ⟨i, hi, hz0, hz1, hz2⟩ := info_parts infoS
  rw [run_makeSlice w 39 9 i _ Tryz.underlying39 hi hz0 .i64 .i64 0 3 (by decide) (by decide) (by rw [hz1]; decide) (by rw [hz2]; decide) (by decide), hz1]
  simp [madeCells, Array.range, Value.cells]
  rfl
theorem zc_eq : Tryz.zeroCells284 = Array.replicate 257 (.slice none 0 0) := by kernel_rfl
theorem zc_info : (Tryz.prog.info? 284).map (·.size) = some 257 := by kernel_rfl
def zc0 (v : Value) : Array Value := (Array.replicate 257 (.slice none 0 0)).setIfInBounds 256 v
theorem st257 (W : World) (v : Value) (hv : v.oneCell' = true) : (storeCells ⟨W.heap.size, 0, none⟩ (Tryz.zeroCells284.toList.set 256 v) 0).run Tryz.prog (W.alloc (.cells Tryz.zeroCells284 284)) = .ok () (W.alloc (.cells (zc0 v) 284)) := by
  rw [zc_eq]
  have hs : (zc0 v).size = 257 := by simp [zc0]
  have := run_storeCells_new (P := Tryz.prog) W 284 (Array.replicate 257 (.slice none 0 0)) (zc0 v) (by rw [zc_info, hs]) (by rw [hs]; simp) (by
    rw [Array.all_eq_true']
    intro x hx
    rcases Array.mem_or_eq_of_mem_setIfInBounds hx with h | rfl
    · rw [Array.eq_of_mem_replicate h]; rfl
    · exact hv)
  rw [show (zc0 v).toList = (Array.replicate 257 (.slice none 0 0)).toList.set 256 v by unfold zc0; rw [Array.toList_setIfInBounds]] at this
  exact this
/-- The bytes that are replaced, in the order in which build lays them, and what stands for them. -/
def repKey : Nat → Nat
  | 0 => 10
  | 1 => 92
  | _ => 34
def repOut : Nat → List UInt8
  | 0 => [92, 110]
  | 1 => [92, 92]
  | _ => [92, 34]
def repKs (k : Nat) : Value := .string ⟨[UInt8.ofNat (repKey k)].toArray⟩
theorem repKey_inj : ∀ k, k < 3 → ∀ j, j < k → repKey j ≠ repKey k := by decide
theorem repKey_lt (k : Nat) : repKey k < 256 := by
  match k with
  | 0 => decide
  | 1 => decide
  | _ + 2 => show 34 < 256; decide
/-- build's table behind k of its three rounds: it lies at q, its list of bytes at r. -/
structure RepT (r q k : Nat) (w : World) : Prop where
  row : ∃ rc : Array Value, w.heap[r]? = some (.cells rc 9 (0, 0)) ∧ rc.size = 3 ∧ ∀ j, j < k → rc[j]? = some (repKs j)
  blk : ∃ cur : Array Value, w.heap[q]? = some (.cells cur 284 (0, 0)) ∧ cur.size = 257
  tr : w.cell? ⟨q, 256, none⟩ = some (.slice (some ⟨r, 0, none⟩) k 3)
  nil : ∀ b, b < 256 → (∀ j, j < k → b ≠ repKey j) → w.cell? ⟨q, b, none⟩ = some (.slice none 0 0)
  ent : ∀ j, j < k → ∃ g c n, w.cell? ⟨q, repKey j, none⟩ = some (.slice (some ⟨g, 0, none⟩) 2 c) ∧ RowAt w g n (repOut j) ∧ g ≠ r ∧ q < g
theorem RepT.frz {r q k : Nat} {w : World} (h : RepT r q k w) (o : Nat) : w.frozen? ⟨q, o, none⟩ = false := by
  obtain ⟨cur, h, _⟩ := h.blk
  exact Lib.frozen_of_heap h o
theorem RowAt.mod {S : Nat → Prop} {A B : World} {D n : Nat} {bs : List UInt8} (h : RowAt A D n bs) (hm : Mod S A B) (hS : ¬ S D) : RowAt B D n bs := by
  obtain ⟨pad, h, hn⟩ := h
  exact ⟨pad, (hm.block D (Array.getElem?_eq_some_iff.1 h).1 hS).trans h, hn⟩
/-- One round: the list grows in place and its head is stored (W2); the bytes that stand for the key are laid (at the end of memory) and stored. -/
theorem RepT.next {r q k : Nat} {w W2 W3 : World} (h : RepT r q k w) (hk : k < 3) (hrq : r ≠ q) (hm : Mod (fun k => k = r ∨ k = q) w W2)
    (hrow : ∀ rc, w.heap[r]? = some (.cells rc 9 (0, 0)) → W2.heap[r]? = some (.cells (rc.setIfInBounds k (repKs k)) 9 (0, 0)))
    (hq : ∀ cur, w.heap[q]? = some (.cells cur 284 (0, 0)) → W2.heap[q]? = some (.cells (cur.setIfInBounds 256 (.slice (some ⟨r, 0, none⟩) (k + 1) 3)) 284 (0, 0)))
    (hW3 : Lib.bytesWorld W2 5 ⟨(repOut k).toArray⟩ = W3) :
    W3.cell? ⟨q, repKey k, none⟩ = some (.slice none 0 0) ∧ W3.frozen? ⟨q, repKey k, none⟩ = false ∧ Below W2.heap.size W2 W3 ∧ ∀ c, RepT r q (k + 1) (W3.setCell ⟨q, repKey k, none⟩ (.slice (some ⟨W2.heap.size, 0, none⟩) 2 c)) := by
  obtain ⟨⟨rc, hr0, hr1, hr2⟩, ⟨cur, h2, h2s⟩, h3, h4, h5⟩ := h
  have hql : q < w.heap.size := (Array.getElem?_eq_some_iff.1 h2).1
  have hrl : r < w.heap.size := (Array.getElem?_eq_some_iff.1 hr0).1
  have hr3 := hrow rc hr0
  have hq2 := hq cur h2
  have hs1 := hm.size
  have b3 : Below W2.heap.size W2 W3 := by rw [← hW3]; exact bytesWorld_below _ _
  obtain ⟨nf, hfresh⟩ := RowAt.fresh W2 (repOut k)
  rw [hW3] at hfresh
  have hq3 : W3.heap[q]? = some (.cells (cur.setIfInBounds 256 (.slice (some ⟨r, 0, none⟩) (k + 1) 3)) 284 (0, 0)) := (b3.block q (by omega)).trans hq2
  have hkl : repKey k < 256 := repKey_lt k
  have hkinj : ∀ j, j < k → repKey j ≠ repKey k := repKey_inj k hk
  have curq : ∀ o v, o < 256 → w.cell? ⟨q, o, none⟩ = some v → W3.cell? ⟨q, o, none⟩ = some v := by
    intro o v ho hv
    rw [cell_of_row _ _ _ _ _ _ h2] at hv
    rw [cell_of_row _ _ _ _ _ _ hq3, Array.getElem?_setIfInBounds_ne (by omega)]
    exact hv
  refine ⟨curq _ _ hkl (h4 _ hkl fun j hj => (hkinj j hj).symm), Lib.frozen_of_heap hq3 _, b3, fun c => ?_⟩
  have hq4 := Joins.block_setCell (i := repKey k) hq3 (.slice (some ⟨W2.heap.size, 0, none⟩) 2 c)
  have mAll : Mod (fun k => k = r ∨ k = q) w (W3.setCell ⟨q, repKey k, none⟩ (.slice (some ⟨W2.heap.size, 0, none⟩) 2 c)) :=
    (hm.trans (Mod.of_below b3)).trans (Mod.setCell _ _ (.inr rfl))
  have cellq : ∀ o v, o < 256 → o ≠ repKey k → w.cell? ⟨q, o, none⟩ = some v → (W3.setCell ⟨q, repKey k, none⟩ (.slice (some ⟨W2.heap.size, 0, none⟩) 2 c)).cell? ⟨q, o, none⟩ = some v := by
    intro o v ho hne hv
    have n1 : (⟨q, repKey k, none⟩ : Addr) ≠ ⟨q, o, none⟩ := fun h => hne (by injection h with _ h; exact h.symm)
    rw [World.cell?_setCell_other _ _ _ _ n1]
    exact curq o v ho hv
  refine ⟨⟨rc.setIfInBounds k (repKs k), (Below.heap_setCell _ _ _ _ hrq).trans ((b3.block r (by omega)).trans hr3), by simpa using hr1, fun j hj => ?_⟩, ⟨_, hq4, by simp [h2s]⟩, ?_, fun b hb hne => ?_, fun j hj => ?_⟩
  · by_cases e : j = k
    · subst e; rw [Array.getElem?_setIfInBounds_self_of_lt (by omega)]
    · rw [Array.getElem?_setIfInBounds_ne (Ne.symm e)]; exact hr2 j (by omega)
  · rw [cell_of_row _ _ _ _ _ _ hq4, Array.getElem?_setIfInBounds_ne (by omega), Array.getElem?_setIfInBounds_self_of_lt (by omega)]
  · exact cellq b _ hb (hne k (by omega)) (h4 b hb fun j hj => hne j (by omega))
  · by_cases e : j = k
    · subst e
      refine ⟨W2.heap.size, c, nf, ?_, hfresh.mod (S := fun k => k = q) (Mod.setCell _ _ rfl) (by omega), by omega, by omega⟩
      rw [cell_of_row _ _ _ _ _ _ hq4, Array.getElem?_setIfInBounds_self_of_lt (by simp [h2s]; omega)]
    · obtain ⟨g, c', n', e1, e2, e3, e4⟩ := h5 j (by omega)
      exact ⟨g, c', n', cellq _ _ (repKey_lt j) (hkinj j (by omega)) e1, e2.mod mAll (fun h => h.elim e3 (fun h => by omega)), e3, e4⟩
theorem bytes_one (w : World) (c : UInt8) : Lib.Bytes (w.alloc (.cells #[.int .u8 (c.toNat : Int)] 5)) w.heap.size 0 ⟨#[c]⟩ := by
  intro i hi
  have : i = 0 := by have : (⟨#[c]⟩ : ByteArray).size = 1 := rfl; omega
  subst this
  rw [Nat.zero_add, cell_of_row _ _ _ _ _ _ (World.alloc_heap_new w _)]
  rfl
theorem rep_two {w W2 : World} {r q k : Nat} (hrq : r ≠ q) (hr : r < w.heap.size) (hq : q < w.heap.size)
    (hW2 : (((w.setCell ⟨r, k, none⟩ (repKs k)).setCell ⟨q, 256, none⟩ (.slice (some ⟨r, 0, none⟩) (k + 1) 3)).alloc (.cells #[.int .u8 (repKey k : Nat)] 5)).alloc (.cells #[repKs k] 9) = W2) :
    Mod (fun k => k = r ∨ k = q) w W2 ∧ (∀ rc, w.heap[r]? = some (.cells rc 9 (0, 0)) → W2.heap[r]? = some (.cells (rc.setIfInBounds k (repKs k)) 9 (0, 0))) ∧
      (∀ cur, w.heap[q]? = some (.cells cur 284 (0, 0)) → W2.heap[q]? = some (.cells (cur.setIfInBounds 256 (.slice (some ⟨r, 0, none⟩) (k + 1) 3)) 284 (0, 0))) := by
  subst hW2
  refine ⟨(((Mod.setCell _ _ (.inl rfl)).trans (Mod.setCell _ _ (.inr rfl))).trans (Mod.alloc _ _ _)).trans (Mod.alloc _ _ _), fun rc h => ?_, fun cur h => ?_⟩
  · rw [Below.heap_alloc _ _ _ (by simp [World.setCell]; omega), Below.heap_alloc _ _ _ (by simp [World.setCell]; omega), Below.heap_setCell _ _ _ _ hrq]
    exact Joins.block_setCell (i := k) h _
  · rw [Below.heap_alloc _ _ _ (by simp [World.setCell]; omega), Below.heap_alloc _ _ _ (by simp [World.setCell]; omega)]
    exact Joins.block_setCell (i := 256) ((Below.heap_setCell _ _ _ _ (Ne.symm hrq)).trans h) _
theorem rep_start (w : World) : RepT w.heap.size (w.heap.size + 1) 0 ((w.alloc (.cells #[.string ⟨#[]⟩, .string ⟨#[]⟩, .string ⟨#[]⟩] 9)).alloc (.cells (zc0 (.slice (some ⟨w.heap.size, 0, none⟩) 0 3)) 284)) := by
  obtain ⟨e0, e1, hs, hb⟩ := two_newR (w := w) (o1 := .cells #[.string ⟨#[]⟩, .string ⟨#[]⟩, .string ⟨#[]⟩] 9) (o2 := .cells (zc0 (.slice (some ⟨w.heap.size, 0, none⟩) 0 3)) 284) rfl
  refine ⟨⟨_, e0, rfl, fun j hj => absurd hj (Nat.not_lt_zero _)⟩, ⟨_, e1, by simp [zc0]⟩, ?_, fun b hb _ => ?_, fun j hj => absurd hj (Nat.not_lt_zero _)⟩
  · rw [cell_of_row _ _ _ _ _ _ e1, zc0, Array.getElem?_setIfInBounds_self_of_lt (by rw [Array.size_replicate]; decide)]
  · rw [cell_of_row _ _ _ _ _ _ e1, zc0, Array.getElem?_setIfInBounds_ne (by omega), Array.getElem?_replicate, if_pos (by omega)]
set_option maxRecDepth 100000 in
set_option maxHeartbeats 4000000 in
theorem build_any (w : World) {R on cap : Nat} (c4 : w.cell? ⟨R, 4, none⟩ = some (.slice (some ⟨on, 0, none⟩) 6 cap)) (hon : ∀ j s, oldNew[j]? = some s → w.cell? ⟨on, j, none⟩ = some (.string ⟨s.toArray⟩)) :
    Calls Tryz.prog 215 #[.pointer (some ⟨R, 0, none⟩)] w fun e w' => e = .returned (.iface 285 (.pointer (some ⟨w.heap.size + 1, 0, none⟩))) ∧ RepT w.heap.size (w.heap.size + 1) 3 w' ∧ Below w.heap.size w w' := by
  have o0 := hon 0 _ rfl
  have o1 := hon 1 _ rfl
  have o2 := hon 2 _ rfl
  have o3 := hon 3 _ rfl
  have o4 := hon 4 _ rfl
  have o5 := hon 5 _ rfl
  clear hon
  have hol := World.block_lt_of_cell? _ _ o0
  have hmk := mk3
  have hst := fun v hv => st257 (w.alloc (.cells #[.string ⟨#[]⟩, .string ⟨#[]⟩, .string ⟨#[]⟩] 9)) v hv
  have hst := hst (.slice (some ⟨w.heap.size, 0, none⟩) 0 3) rfl
  rw [World.size_alloc] at hst
  have HS0 := Lib.hid (rep_start w)
  obtain ⟨isS, hi, hz0, hz1, hz2⟩ := info_parts infoS
  have HI := Lib.hid hi; have HZ1 := Lib.hid hz1
  clear hi hz0 hz1 hz2
  go_enter Tryz.func215, Tryz.ntmps215
  go_wp2
  go_loop [4, 5] (fun s4 s5 => ∃ k : Nat, k ≤ 3 ∧ s5 = .int .i64 (2 * k : Nat) ∧ s4 = .bool (decide (k = 0))) (fun _ i => 6 - (intOf i).toNat)
  case atStart => exact ⟨0, by omega, rfl, rfl⟩
  case round =>
    obtain ⟨k, hk, rfl, rfl⟩ := hrel
    match k, hk with
    | 0, _ =>
      go_wp2
      go_round
      case rel => exact ⟨1, by omega, rfl, rfl⟩
      case measure => simp [intOf]
    | 1, _ =>
      go_wp2
      go_round
      case rel => exact ⟨2, by omega, rfl, rfl⟩
      case measure => simp [intOf]
    | 2, _ =>
      go_wp2
      go_round
      case rel => exact ⟨3, by omega, rfl, rfl⟩
      case measure => simp [intOf]
    | 3, _ =>
      go_wp2
      go_loopw [12] (fun s12 wr => ∃ k : Nat, k ≤ 3 ∧ s12 = .int .i64 (4 - 2 * (k : Int)) ∧ RepT w.heap.size (w.heap.size + 1) k wr ∧ Below w.heap.size w wr) (fun s12 _ => (intOf s12 + 2).toNat)
      case atStart => exact ⟨0, by omega, rfl, HS0.out, (balloc w _).alloc (by simp) _⟩
      case round =>
        obtain ⟨k, hk, rfl, hT, hb⟩ := hrel
        replace o0 := (hb.cell (p := ⟨on, 0, none⟩) hol).trans o0
        replace o1 := (hb.cell (p := ⟨on, 1, none⟩) hol).trans o1
        replace o2 := (hb.cell (p := ⟨on, 2, none⟩) hol).trans o2
        replace o3 := (hb.cell (p := ⟨on, 3, none⟩) hol).trans o3
        replace o4 := (hb.cell (p := ⟨on, 4, none⟩) hol).trans o4
        replace o5 := (hb.cell (p := ⟨on, 5, none⟩) hol).trans o5
        have hqs : w.heap.size + 1 < wr.heap.size := World.block_lt_of_cell? _ _ hT.tr
        have hbs := hb.size
        have HB := Lib.hid hb
        clear hst hmk HS0 hb c4
        match k, hk with
        | 0, _ =>
          have kc : (convert 110 9 (.slice (some ⟨wr.heap.size, 0, none⟩) 1 1)).run Tryz.prog (wr.alloc (.cells #[.int .u8 10] 5)) = .ok (.string ⟨#[10]⟩) (wr.alloc (.cells #[.int .u8 10] 5)) :=
            Lib.run_convert_whole (P := Tryz.prog) (wr.alloc (.cells #[.int .u8 10] 5)) 110 5 9 Tryz.underlying110 Tryz.underlying5 Tryz.underlying9 wr.heap.size 0 ⟨#[10]⟩ (bytes_one wr 10) 1
          have hix : ∀ h, (((⟨#[10]⟩ : ByteArray)[0]'h).toNat : Int) = 10 := fun _ => rfl
          have heq : ∀ W, (binOp .eql 110 (.slice none 0 0) (.slice none 0 0)).run Tryz.prog W = .ok (.bool true) W := fun W => Lib.run_eql_slice_nil_nil W _ _ Tryz.underlying110
          obtain ⟨rc, hrc, hrs, -⟩ := hT.row
          have hcr : wr.cell? ⟨w.heap.size, 0, none⟩ = some (rc[0]'(by omega)) := by rw [cell_of_row _ _ _ _ _ _ hrc]; exact Array.getElem?_eq_getElem _
          have hfr : wr.frozen? ⟨w.heap.size, 0, none⟩ = false := Lib.frozen_of_heap hrc 0
          generalize rc[0]'(by omega) = u0 at hcr
          clear hrc hrs
          have hrl : w.heap.size < wr.heap.size := by omega
          have hcr2 : ∀ o1 o2, ((wr.alloc o1).alloc o2).cell? ⟨w.heap.size, 0, none⟩ = some u0 := fun o1 o2 => by rw [World.cell?_alloc_past _ _ _ (by simp; omega), World.cell?_alloc_past _ _ _ hrl, hcr]
          have hfr2 : ∀ o1 o2, ((wr.alloc o1).alloc o2).frozen? ⟨w.heap.size, 0, none⟩ = false := fun o1 o2 => by rw [World.frozen?_alloc_past _ _ _ (by simp; omega), World.frozen?_alloc_past _ _ _ hrl, hfr]
          have htr := hT.tr
          have hnl := hT.nil 10 (by decide) (fun j hj => by match j, hj with | _, h => exact absurd h (Nat.not_lt_zero _))
          have hfz := hT.frz
          have hz256 := hfz 256
          have HT := Lib.hid hT
          clear hT hfz
          go_wp2
          obtain ⟨W2, hW2⟩ : ∃ W2, (((wr.setCell ⟨w.heap.size, 0, none⟩ (.string ⟨#[10]⟩)).setCell ⟨w.heap.size + 1, 256, none⟩ (.slice (some ⟨w.heap.size, 0, none⟩) 1 3)).alloc (.cells #[.int .u8 10] 5)).alloc (.cells #[.string ⟨#[10]⟩] 9) = W2 := ⟨_, rfl⟩
          rw [hW2, Lib.run_convert_string_bytes (P := Tryz.prog) W2 9 110 5 ⟨#[92, 110]⟩ Tryz.underlying9 Tryz.underlying110 Tryz.underlying5]
          obtain ⟨hM2, hrow2, hq2⟩ := rep_two (w := wr) (r := w.heap.size) (q := w.heap.size + 1) (k := 0) (W2 := W2) (by omega) (by omega) (by omega) hW2
          generalize hW3 : Lib.bytesWorld W2 5 ⟨#[92, 110]⟩ = W3
          obtain ⟨n1, n2, n3, n4⟩ := HT.out.next (k := 0) (by decide) (by omega) hM2 hrow2 hq2 hW3
          have HN4 := Lib.hid n4
          have HB3 := Lib.hid (((HB.out.trans (hM2.below hbs (fun k hk h => by omega))).trans (n3.mono (by have := hM2.size; omega))))
          have hW2s := hM2.size
          clear n3 n4 hW3 hW2 hM2 hrow2 hq2 hcr hfr hcr2 hfr2 htr hnl hz256 HT HB
          rw [show repKey 0 = 10 from rfl] at n1 n2
          go_wp2
          go_roundw
          case rel => exact ⟨1, by omega, by go_num, HN4.out _, HB3.out.setCell (by dsimp only; omega) _⟩
          case measure => simp [intOf]
        | 1, _ =>
          have kc : (convert 110 9 (.slice (some ⟨wr.heap.size, 0, none⟩) 1 1)).run Tryz.prog (wr.alloc (.cells #[.int .u8 92] 5)) = .ok (.string ⟨#[92]⟩) (wr.alloc (.cells #[.int .u8 92] 5)) :=
            Lib.run_convert_whole (P := Tryz.prog) (wr.alloc (.cells #[.int .u8 92] 5)) 110 5 9 Tryz.underlying110 Tryz.underlying5 Tryz.underlying9 wr.heap.size 0 ⟨#[92]⟩ (bytes_one wr 92) 1
          have hix : ∀ h, (((⟨#[92]⟩ : ByteArray)[0]'h).toNat : Int) = 92 := fun _ => rfl
          have heq : ∀ W, (binOp .eql 110 (.slice none 0 0) (.slice none 0 0)).run Tryz.prog W = .ok (.bool true) W := fun W => Lib.run_eql_slice_nil_nil W _ _ Tryz.underlying110
          obtain ⟨rc, hrc, hrs, -⟩ := hT.row
          have hcr : wr.cell? ⟨w.heap.size, 1, none⟩ = some (rc[1]'(by omega)) := by rw [cell_of_row _ _ _ _ _ _ hrc]; exact Array.getElem?_eq_getElem _
          have hfr : wr.frozen? ⟨w.heap.size, 1, none⟩ = false := Lib.frozen_of_heap hrc 1
          generalize rc[1]'(by omega) = u0 at hcr
          clear hrc hrs
          have hrl : w.heap.size < wr.heap.size := by omega
          have hcr2 : ∀ o1 o2, ((wr.alloc o1).alloc o2).cell? ⟨w.heap.size, 1, none⟩ = some u0 := fun o1 o2 => by rw [World.cell?_alloc_past _ _ _ (by simp; omega), World.cell?_alloc_past _ _ _ hrl, hcr]
          have hfr2 : ∀ o1 o2, ((wr.alloc o1).alloc o2).frozen? ⟨w.heap.size, 1, none⟩ = false := fun o1 o2 => by rw [World.frozen?_alloc_past _ _ _ (by simp; omega), World.frozen?_alloc_past _ _ _ hrl, hfr]
          have htr := hT.tr
          have hnl := hT.nil 92 (by decide) (fun j hj => by match j, hj with | 0, _ => decide)
          have hfz := hT.frz
          have hz256 := hfz 256
          have HT := Lib.hid hT
          clear hT hfz
          go_wp2
          obtain ⟨W2, hW2⟩ : ∃ W2, (((wr.setCell ⟨w.heap.size, 1, none⟩ (.string ⟨#[92]⟩)).setCell ⟨w.heap.size + 1, 256, none⟩ (.slice (some ⟨w.heap.size, 0, none⟩) 2 3)).alloc (.cells #[.int .u8 92] 5)).alloc (.cells #[.string ⟨#[92]⟩] 9) = W2 := ⟨_, rfl⟩
          rw [hW2, Lib.run_convert_string_bytes (P := Tryz.prog) W2 9 110 5 ⟨#[92, 92]⟩ Tryz.underlying9 Tryz.underlying110 Tryz.underlying5]
          obtain ⟨hM2, hrow2, hq2⟩ := rep_two (w := wr) (r := w.heap.size) (q := w.heap.size + 1) (k := 1) (W2 := W2) (by omega) (by omega) (by omega) hW2
          generalize hW3 : Lib.bytesWorld W2 5 ⟨#[92, 92]⟩ = W3
          obtain ⟨n1, n2, n3, n4⟩ := HT.out.next (k := 1) (by decide) (by omega) hM2 hrow2 hq2 hW3
          have HN4 := Lib.hid n4
          have HB3 := Lib.hid (((HB.out.trans (hM2.below hbs (fun k hk h => by omega))).trans (n3.mono (by have := hM2.size; omega))))
          have hW2s := hM2.size
          clear n3 n4 hW3 hW2 hM2 hrow2 hq2 hcr hfr hcr2 hfr2 htr hnl hz256 HT HB
          rw [show repKey 1 = 92 from rfl] at n1 n2
          go_wp2
          go_roundw
          case rel => exact ⟨2, by omega, by go_num, HN4.out _, HB3.out.setCell (by dsimp only; omega) _⟩
          case measure => simp [intOf]
        | 2, _ =>
          have kc : (convert 110 9 (.slice (some ⟨wr.heap.size, 0, none⟩) 1 1)).run Tryz.prog (wr.alloc (.cells #[.int .u8 34] 5)) = .ok (.string ⟨#[34]⟩) (wr.alloc (.cells #[.int .u8 34] 5)) :=
            Lib.run_convert_whole (P := Tryz.prog) (wr.alloc (.cells #[.int .u8 34] 5)) 110 5 9 Tryz.underlying110 Tryz.underlying5 Tryz.underlying9 wr.heap.size 0 ⟨#[34]⟩ (bytes_one wr 34) 1
          have hix : ∀ h, (((⟨#[34]⟩ : ByteArray)[0]'h).toNat : Int) = 34 := fun _ => rfl
          have heq : ∀ W, (binOp .eql 110 (.slice none 0 0) (.slice none 0 0)).run Tryz.prog W = .ok (.bool true) W := fun W => Lib.run_eql_slice_nil_nil W _ _ Tryz.underlying110
          obtain ⟨rc, hrc, hrs, -⟩ := hT.row
          have hcr : wr.cell? ⟨w.heap.size, 2, none⟩ = some (rc[2]'(by omega)) := by rw [cell_of_row _ _ _ _ _ _ hrc]; exact Array.getElem?_eq_getElem _
          have hfr : wr.frozen? ⟨w.heap.size, 2, none⟩ = false := Lib.frozen_of_heap hrc 2
          generalize rc[2]'(by omega) = u0 at hcr
          clear hrc hrs
          have hrl : w.heap.size < wr.heap.size := by omega
          have hcr2 : ∀ o1 o2, ((wr.alloc o1).alloc o2).cell? ⟨w.heap.size, 2, none⟩ = some u0 := fun o1 o2 => by rw [World.cell?_alloc_past _ _ _ (by simp; omega), World.cell?_alloc_past _ _ _ hrl, hcr]
          have hfr2 : ∀ o1 o2, ((wr.alloc o1).alloc o2).frozen? ⟨w.heap.size, 2, none⟩ = false := fun o1 o2 => by rw [World.frozen?_alloc_past _ _ _ (by simp; omega), World.frozen?_alloc_past _ _ _ hrl, hfr]
          have htr := hT.tr
          have hnl := hT.nil 34 (by decide) (fun j hj => by match j, hj with | 0, _ => decide | 1, _ => decide)
          have hfz := hT.frz
          have hz256 := hfz 256
          have HT := Lib.hid hT
          clear hT hfz
          go_wp2
          obtain ⟨W2, hW2⟩ : ∃ W2, (((wr.setCell ⟨w.heap.size, 2, none⟩ (.string ⟨#[34]⟩)).setCell ⟨w.heap.size + 1, 256, none⟩ (.slice (some ⟨w.heap.size, 0, none⟩) 3 3)).alloc (.cells #[.int .u8 34] 5)).alloc (.cells #[.string ⟨#[34]⟩] 9) = W2 := ⟨_, rfl⟩
          rw [hW2, Lib.run_convert_string_bytes (P := Tryz.prog) W2 9 110 5 ⟨#[92, 34]⟩ Tryz.underlying9 Tryz.underlying110 Tryz.underlying5]
          obtain ⟨hM2, hrow2, hq2⟩ := rep_two (w := wr) (r := w.heap.size) (q := w.heap.size + 1) (k := 2) (W2 := W2) (by omega) (by omega) (by omega) hW2
          generalize hW3 : Lib.bytesWorld W2 5 ⟨#[92, 34]⟩ = W3
          obtain ⟨n1, n2, n3, n4⟩ := HT.out.next (k := 2) (by decide) (by omega) hM2 hrow2 hq2 hW3
          have HN4 := Lib.hid n4
          have HB3 := Lib.hid (((HB.out.trans (hM2.below hbs (fun k hk h => by omega))).trans (n3.mono (by have := hM2.size; omega))))
          have hW2s := hM2.size
          clear n3 n4 hW3 hW2 hM2 hrow2 hq2 hcr hfr hcr2 hfr2 htr hnl hz256 HT HB
          rw [show repKey 2 = 34 from rfl] at n1 n2
          go_wp2
          go_roundw
          case rel => exact ⟨3, by omega, by go_num, HN4.out _, HB3.out.setCell (by dsimp only; omega) _⟩
          case measure => simp [intOf]
        | 3, _ =>
          have HT := Lib.hid hT
          clear hT
          go_wp2
          go_ret
          exact ⟨rfl, HT.out, HB.out⟩
end Go.Proofs.YtdapdadcninidaaGreatDoor
