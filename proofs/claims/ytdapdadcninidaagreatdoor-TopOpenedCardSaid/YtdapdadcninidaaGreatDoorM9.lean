/- strings.Replacer as the dump uses it: build lays the table of three bytes. No condition. sync.Once: Do, at a function that has not been called yet. strings.Replacer: NewReplacer, buildOnce, Replace. No condition but the length. -/
import Derived.Test.YtdapdadcninidaaGreatDoorM1
import Derived.Test.YtdapdadcninidaaGreatDoorShelf
import Derived.Test.YtdapdadcninidaaGreatDoorM8
import Derived.Deep.WholeRow
import Derived.Lib.BufferMore
import Derived.Deep.DrawnRows
import Derived.Tactics
import Derived.Tactics2
import Derived.Defers
import Derived.Laws.Pointers
import Derived.Laws.LoneSync
import Derived.RegionTactic
import Derived.RegionCalls
import Derived.ChangeAlike
import Derived.Test.YtdapdadcninidaaGreatDoorM4
set_option linter.unusedSimpArgs false
set_option linter.unusedVariables false
namespace Go.Proofs.YtdapdadcninidaaGreatDoor
open Go.RowKit
attribute [local go_sem ↓] Go.wp_at_zero Go.wp_at_succ

def oldNew : List (List UInt8) := [[34], [92, 34], [92], [92, 92], [10], [92, 110]]
theorem infoS : (Tryz.prog.info? 9).map (fun i => (i.zero, i.size, i.bytes)) = some (some (.string ⟨#[]⟩), 1, 16) := by kernel_rfl
theorem two_newR {w W0 : World} {o1 o2 : Obj} (h : (w.alloc o1).alloc o2 = W0) : W0.heap[w.heap.size]? = some o1 ∧ W0.heap[w.heap.size + 1]? = some o2 ∧ W0.heap.size = w.heap.size + 2 ∧ Below w.heap.size w W0 := by
  subst h
  have e1 := World.alloc_heap_new (w.alloc o1) o2
  rw [World.size_alloc] at e1
  exact ⟨(Below.heap_alloc _ _ _ (by simp)).trans (World.alloc_heap_new w o1), e1, by simp, (balloc w o1).alloc (by simp) o2⟩
theorem mk3 (w : World) : (Instr.makeSlice 39 (.int .i64 0) (.int .i64 3)).run Tryz.prog w = .ok (.slice (some ⟨w.heap.size, 0, none⟩) 0 3) (w.alloc (.cells #[.string ⟨#[]⟩, .string ⟨#[]⟩, .string ⟨#[]⟩] 9)) := by
  obtain ⟨i, hi, hz0, hz1, hz2⟩ := info_parts infoS
  rw [run_makeSlice w 39 9 i _ Tryz.underlying39 hi hz0 .i64 .i64 0 3 (by decide) (by decide) (by rw [hz1]; decide) (by rw [hz2]; decide) (by decide), hz1]
  simp [madeCells, Array.range, Value.cells]
  rfl
theorem zc_eq : Tryz.zeroCells284 = Array.replicate 257 (.slice none 0 0) := by kernel_rfl
theorem zc_info : (Tryz.prog.info? 284).map (·.size) = some 257 := by kernel_rfl
def zc0 (v : Value) : Array Value := (Array.replicate 257 (.slice none 0 0)).setIfInBounds 256 v
theorem st257 (W : World) (v : Value) (hv : v.oneCell' = true) : (storeCells ⟨W.heap.size, 0, none⟩ (Tryz.zeroCells284.toList.set 256 v) 0).run Tryz.prog (W.alloc (.cells Tryz.zeroCells284 284)) = .ok () (W.alloc (.cells (zc0 v) 284)) := by
  rw [zc_eq]
  have hs : (zc0 v).size = 257 := by simp [zc0]
  have := run_storeCells_new (P := Tryz.prog) W 284 (Array.replicate 257 (.slice none 0 0)) (zc0 v) (by rw [zc_info, hs]) (by rw [hs]; simp) (by
    rw [Array.all_eq_true']
    intro x hx
    rcases Array.mem_or_eq_of_mem_setIfInBounds hx with h | rfl
    · rw [Array.eq_of_mem_replicate h]; rfl
    · exact hv)
  rw [show (zc0 v).toList = (Array.replicate 257 (.slice none 0 0)).toList.set 256 v by unfold zc0; rw [Array.toList_setIfInBounds]] at this
  exact this
/-- The bytes that are replaced, in the order in which build lays them, and what stands for them. -/
def repKey : Nat → Nat
  | 0 => 10
  | 1 => 92
  | _ => 34
def repOut : Nat → List UInt8
  | 0 => [92, 110]
  | 1 => [92, 92]
  | _ => [92, 34]
def repKs (k : Nat) : Value := .string ⟨[UInt8.ofNat (repKey k)].toArray⟩
theorem repKey_inj : ∀ k, k < 3 → ∀ j, j < k → repKey j ≠ repKey k := by decide
theorem repKey_lt (k : Nat) : repKey k < 256 := by
  match k with
  | 0 => decide
  | 1 => decide
  | _ + 2 => show 34 < 256; decide
/-- build's table behind k of its three rounds: it lies at q, its list of bytes at r. -/
structure RepT (r q k : Nat) (w : World) : Prop where
  row : ∃ rc : Array Value, w.heap[r]? = some (.cells rc 9 (0, 0)) ∧ rc.size = 3 ∧ ∀ j, j < k → rc[j]? = some (repKs j)
  blk : ∃ cur : Array Value, w.heap[q]? = some (.cells cur 284 (0, 0)) ∧ cur.size = 257
  tr : w.cell? ⟨q, 256, none⟩ = some (.slice (some ⟨r, 0, none⟩) k 3)
  nil : ∀ b, b < 256 → (∀ j, j < k → b ≠ repKey j) → w.cell? ⟨q, b, none⟩ = some (.slice none 0 0)
  ent : ∀ j, j < k → ∃ g c n, w.cell? ⟨q, repKey j, none⟩ = some (.slice (some ⟨g, 0, none⟩) 2 c) ∧ RowAt w g n (repOut j) ∧ g ≠ r ∧ q < g
theorem RepT.frz {r q k : Nat} {w : World} (h : RepT r q k w) (o : Nat) : w.frozen? ⟨q, o, none⟩ = false := by
  obtain ⟨cur, h, _⟩ := h.blk
  exact Lib.frozen_of_heap h o
theorem RowAt.mod {S : Nat → Prop} {A B : World} {D n : Nat} {bs : List UInt8} (h : RowAt A D n bs) (hm : Mod S A B) (hS : ¬ S D) : RowAt B D n bs := by
  obtain ⟨pad, h, hn⟩ := h
  exact ⟨pad, (hm.block D (Array.getElem?_eq_some_iff.1 h).1 hS).trans h, hn⟩
/-- One round: the list grows in place and its head is stored (W2); the bytes that stand for the key are laid (at the end of memory) and stored. -/
theorem RepT.next {r q k : Nat} {w W2 W3 : World} (h : RepT r q k w) (hk : k < 3) (hrq : r ≠ q) (hm : Mod (fun k => k = r ∨ k = q) w W2)
    (hrow : ∀ rc, w.heap[r]? = some (.cells rc 9 (0, 0)) → W2.heap[r]? = some (.cells (rc.setIfInBounds k (repKs k)) 9 (0, 0)))
    (hq : ∀ cur, w.heap[q]? = some (.cells cur 284 (0, 0)) → W2.heap[q]? = some (.cells (cur.setIfInBounds 256 (.slice (some ⟨r, 0, none⟩) (k + 1) 3)) 284 (0, 0)))
    (hW3 : Lib.bytesWorld W2 5 ⟨(repOut k).toArray⟩ = W3) :
    W3.cell? ⟨q, repKey k, none⟩ = some (.slice none 0 0) ∧ W3.frozen? ⟨q, repKey k, none⟩ = false ∧ Below W2.heap.size W2 W3 ∧ ∀ c, RepT r q (k + 1) (W3.setCell ⟨q, repKey k, none⟩ (.slice (some ⟨W2.heap.size, 0, none⟩) 2 c)) := by
  obtain ⟨⟨rc, hr0, hr1, hr2⟩, ⟨cur, h2, h2s⟩, h3, h4, h5⟩ := h
  have hql : q < w.heap.size := (Array.getElem?_eq_some_iff.1 h2).1
  have hrl : r < w.heap.size := (Array.getElem?_eq_some_iff.1 hr0).1
  have hr3 := hrow rc hr0
  have hq2 := hq cur h2
  have hs1 := hm.size
  have b3 : Below W2.heap.size W2 W3 := by rw [← hW3]; exact bytesWorld_below _ _
  obtain ⟨nf, hfresh⟩ := RowAt.fresh W2 (repOut k)
  rw [hW3] at hfresh
  have hq3 : W3.heap[q]? = some (.cells (cur.setIfInBounds 256 (.slice (some ⟨r, 0, none⟩) (k + 1) 3)) 284 (0, 0)) := (b3.block q (by omega)).trans hq2
  have hkl : repKey k < 256 := repKey_lt k
  have hkinj : ∀ j, j < k → repKey j ≠ repKey k := repKey_inj k hk
  have curq : ∀ o v, o < 256 → w.cell? ⟨q, o, none⟩ = some v → W3.cell? ⟨q, o, none⟩ = some v := by
    intro o v ho hv
    rw [cell_of_row _ _ _ _ _ _ h2] at hv
    rw [cell_of_row _ _ _ _ _ _ hq3, Array.getElem?_setIfInBounds_ne (by omega)]
    exact hv
  refine ⟨curq _ _ hkl (h4 _ hkl fun j hj => (hkinj j hj).symm), Lib.frozen_of_heap hq3 _, b3, fun c => ?_⟩
  have hq4 := Joins.block_setCell (i := repKey k) hq3 (.slice (some ⟨W2.heap.size, 0, none⟩) 2 c)
  have mAll : Mod (fun k => k = r ∨ k = q) w (W3.setCell ⟨q, repKey k, none⟩ (.slice (some ⟨W2.heap.size, 0, none⟩) 2 c)) :=
    (hm.trans (Mod.of_below b3)).trans (Mod.setCell _ _ (.inr rfl))
  have cellq : ∀ o v, o < 256 → o ≠ repKey k → w.cell? ⟨q, o, none⟩ = some v → (W3.setCell ⟨q, repKey k, none⟩ (.slice (some ⟨W2.heap.size, 0, none⟩) 2 c)).cell? ⟨q, o, none⟩ = some v := by
    intro o v ho hne hv
    have n1 : (⟨q, repKey k, none⟩ : Addr) ≠ ⟨q, o, none⟩ := fun h => hne (by injection h with _ h; exact h.symm)
    rw [World.cell?_setCell_other _ _ _ _ n1]
    exact curq o v ho hv
  refine ⟨⟨rc.setIfInBounds k (repKs k), (Below.heap_setCell _ _ _ _ hrq).trans ((b3.block r (by omega)).trans hr3), by simpa using hr1, fun j hj => ?_⟩, ⟨_, hq4, by simp [h2s]⟩, ?_, fun b hb hne => ?_, fun j hj => ?_⟩
  · by_cases e : j = k
    · subst e; rw [Array.getElem?_setIfInBounds_self_of_lt (by omega)]
    · rw [Array.getElem?_setIfInBounds_ne (Ne.symm e)]; exact hr2 j (by omega)
  · rw [cell_of_row _ _ _ _ _ _ hq4, Array.getElem?_setIfInBounds_ne (by omega), Array.getElem?_setIfInBounds_self_of_lt (by omega)]
  · exact cellq b _ hb (hne k (by omega)) (h4 b hb fun j hj => hne j (by omega))
  · by_cases e : j = k
    · subst e
      refine ⟨W2.heap.size, c, nf, ?_, hfresh.mod (S := fun k => k = q) (Mod.setCell _ _ rfl) (by omega), by omega, by omega⟩
      rw [cell_of_row _ _ _ _ _ _ hq4, Array.getElem?_setIfInBounds_self_of_lt (by simp [h2s]; omega)]
    · obtain ⟨g, c', n', e1, e2, e3, e4⟩ := h5 j (by omega)
      exact ⟨g, c', n', cellq _ _ (repKey_lt j) (hkinj j (by omega)) e1, e2.mod mAll (fun h => h.elim e3 (fun h => by omega)), e3, e4⟩
theorem bytes_one (w : World) (c : UInt8) : Lib.Bytes (w.alloc (.cells #[.int .u8 (c.toNat : Int)] 5)) w.heap.size 0 ⟨#[c]⟩ := by
  intro i hi
  have : i = 0 := by have : (⟨#[c]⟩ : ByteArray).size = 1 := rfl; omega
  subst this
  rw [Nat.zero_add, cell_of_row _ _ _ _ _ _ (World.alloc_heap_new w _)]
  rfl
theorem rep_two {w W2 : World} {r q k : Nat} (hrq : r ≠ q) (hr : r < w.heap.size) (hq : q < w.heap.size)
    (hW2 : (((w.setCell ⟨r, k, none⟩ (repKs k)).setCell ⟨q, 256, none⟩ (.slice (some ⟨r, 0, none⟩) (k + 1) 3)).alloc (.cells #[.int .u8 (repKey k : Nat)] 5)).alloc (.cells #[repKs k] 9) = W2) :
    Mod (fun k => k = r ∨ k = q) w W2 ∧ (∀ rc, w.heap[r]? = some (.cells rc 9 (0, 0)) → W2.heap[r]? = some (.cells (rc.setIfInBounds k (repKs k)) 9 (0, 0))) ∧
      (∀ cur, w.heap[q]? = some (.cells cur 284 (0, 0)) → W2.heap[q]? = some (.cells (cur.setIfInBounds 256 (.slice (some ⟨r, 0, none⟩) (k + 1) 3)) 284 (0, 0))) := by
  subst hW2
  refine ⟨(((Mod.setCell _ _ (.inl rfl)).trans (Mod.setCell _ _ (.inr rfl))).trans (Mod.alloc _ _ _)).trans (Mod.alloc _ _ _), fun rc h => ?_, fun cur h => ?_⟩
  · rw [Below.heap_alloc _ _ _ (by simp [World.setCell]; omega), Below.heap_alloc _ _ _ (by simp [World.setCell]; omega), Below.heap_setCell _ _ _ _ hrq]
    exact Joins.block_setCell (i := k) h _
  · rw [Below.heap_alloc _ _ _ (by simp [World.setCell]; omega), Below.heap_alloc _ _ _ (by simp [World.setCell]; omega)]
    exact Joins.block_setCell (i := 256) ((Below.heap_setCell _ _ _ _ (Ne.symm hrq)).trans h) _
theorem rep_start (w : World) : RepT w.heap.size (w.heap.size + 1) 0 ((w.alloc (.cells #[.string ⟨#[]⟩, .string ⟨#[]⟩, .string ⟨#[]⟩] 9)).alloc (.cells (zc0 (.slice (some ⟨w.heap.size, 0, none⟩) 0 3)) 284)) := by
  obtain ⟨e0, e1, hs, hb⟩ := two_newR (w := w) (o1 := .cells #[.string ⟨#[]⟩, .string ⟨#[]⟩, .string ⟨#[]⟩] 9) (o2 := .cells (zc0 (.slice (some ⟨w.heap.size, 0, none⟩) 0 3)) 284) rfl
  refine ⟨⟨_, e0, rfl, fun j hj => absurd hj (Nat.not_lt_zero _)⟩, ⟨_, e1, by simp [zc0]⟩, ?_, fun b hb _ => ?_, fun j hj => absurd hj (Nat.not_lt_zero _)⟩
  · rw [cell_of_row _ _ _ _ _ _ e1, zc0, Array.getElem?_setIfInBounds_self_of_lt (by rw [Array.size_replicate]; decide)]
  · rw [cell_of_row _ _ _ _ _ _ e1, zc0, Array.getElem?_setIfInBounds_ne (by omega), Array.getElem?_replicate, if_pos (by omega)]
set_option maxRecDepth 100000 in
set_option maxHeartbeats 4000000 in
theorem build_any (w : World) {R on cap : Nat} (c4 : w.cell? ⟨R, 4, none⟩ = some (.slice (some ⟨on, 0, none⟩) 6 cap)) (hon : ∀ j s, oldNew[j]? = some s → w.cell? ⟨on, j, none⟩ = some (.string ⟨s.toArray⟩)) :
    Calls Tryz.prog 215 #[.pointer (some ⟨R, 0, none⟩)] w fun e w' => e = .returned (.iface 285 (.pointer (some ⟨w.heap.size + 1, 0, none⟩))) ∧ RepT w.heap.size (w.heap.size + 1) 3 w' ∧ Below w.heap.size w w' := by
  have o0 := hon 0 _ rfl
  have o1 := hon 1 _ rfl
  have o2 := hon 2 _ rfl
  have o3 := hon 3 _ rfl
  have o4 := hon 4 _ rfl
  have o5 := hon 5 _ rfl
  clear hon
  have hol := World.block_lt_of_cell? _ _ o0
  have hmk := mk3
  have hst := fun v hv => st257 (w.alloc (.cells #[.string ⟨#[]⟩, .string ⟨#[]⟩, .string ⟨#[]⟩] 9)) v hv
  have hst := hst (.slice (some ⟨w.heap.size, 0, none⟩) 0 3) rfl
  rw [World.size_alloc] at hst
  have HS0 := Lib.hid (rep_start w)
  obtain ⟨isS, hi, hz0, hz1, hz2⟩ := info_parts infoS
  have HI := Lib.hid hi; have HZ1 := Lib.hid hz1
  clear hi hz0 hz1 hz2
  go_enter Tryz.func215, Tryz.ntmps215
  go_wp2
  go_loop [4, 5] (fun s4 s5 => ∃ k : Nat, k ≤ 3 ∧ s5 = .int .i64 (2 * k : Nat) ∧ s4 = .bool (decide (k = 0))) (fun _ i => 6 - (intOf i).toNat)
  case atStart => exact ⟨0, by omega, rfl, rfl⟩
  case round =>
    obtain ⟨k, hk, rfl, rfl⟩ := hrel
    match k, hk with
    | 0, _ =>
      go_wp2
      go_round
      case rel => exact ⟨1, by omega, rfl, rfl⟩
      case measure => simp [intOf]
    | 1, _ =>
      go_wp2
      go_round
      case rel => exact ⟨2, by omega, rfl, rfl⟩
      case measure => simp [intOf]
    | 2, _ =>
      go_wp2
      go_round
      case rel => exact ⟨3, by omega, rfl, rfl⟩
      case measure => simp [intOf]
    | 3, _ =>
      go_wp2
      go_loopw [12] (fun s12 wr => ∃ k : Nat, k ≤ 3 ∧ s12 = .int .i64 (4 - 2 * (k : Int)) ∧ RepT w.heap.size (w.heap.size + 1) k wr ∧ Below w.heap.size w wr) (fun s12 _ => (intOf s12 + 2).toNat)
      case atStart => exact ⟨0, by omega, rfl, HS0.out, (balloc w _).alloc (by simp) _⟩
      case round =>
        obtain ⟨k, hk, rfl, hT, hb⟩ := hrel
        replace o0 := (hb.cell (p := ⟨on, 0, none⟩) hol).trans o0
        replace o1 := (hb.cell (p := ⟨on, 1, none⟩) hol).trans o1
        replace o2 := (hb.cell (p := ⟨on, 2, none⟩) hol).trans o2
        replace o3 := (hb.cell (p := ⟨on, 3, none⟩) hol).trans o3
        replace o4 := (hb.cell (p := ⟨on, 4, none⟩) hol).trans o4
        replace o5 := (hb.cell (p := ⟨on, 5, none⟩) hol).trans o5
        have hqs : w.heap.size + 1 < wr.heap.size := World.block_lt_of_cell? _ _ hT.tr
        have hbs := hb.size
        have HB := Lib.hid hb
        clear hst hmk HS0 hb c4
        match k, hk with
        | 0, _ =>
          have kc : (convert 110 9 (.slice (some ⟨wr.heap.size, 0, none⟩) 1 1)).run Tryz.prog (wr.alloc (.cells #[.int .u8 10] 5)) = .ok (.string ⟨#[10]⟩) (wr.alloc (.cells #[.int .u8 10] 5)) :=
            Lib.run_convert_whole (P := Tryz.prog) (wr.alloc (.cells #[.int .u8 10] 5)) 110 5 9 Tryz.underlying110 Tryz.underlying5 Tryz.underlying9 wr.heap.size 0 ⟨#[10]⟩ (bytes_one wr 10) 1
          have hix : ∀ h, (((⟨#[10]⟩ : ByteArray)[0]'h).toNat : Int) = 10 := fun _ => rfl
          have heq : ∀ W, (binOp .eql 110 (.slice none 0 0) (.slice none 0 0)).run Tryz.prog W = .ok (.bool true) W := fun W => Lib.run_eql_slice_nil_nil W _ _ Tryz.underlying110
          obtain ⟨rc, hrc, hrs, -⟩ := hT.row
          have hcr : wr.cell? ⟨w.heap.size, 0, none⟩ = some (rc[0]'(by omega)) := by rw [cell_of_row _ _ _ _ _ _ hrc]; exact Array.getElem?_eq_getElem _
          have hfr : wr.frozen? ⟨w.heap.size, 0, none⟩ = false := Lib.frozen_of_heap hrc 0
          generalize rc[0]'(by omega) = u0 at hcr
          clear hrc hrs
          have hrl : w.heap.size < wr.heap.size := by omega
          have hcr2 : ∀ o1 o2, ((wr.alloc o1).alloc o2).cell? ⟨w.heap.size, 0, none⟩ = some u0 := fun o1 o2 => by rw [World.cell?_alloc_past _ _ _ (by simp; omega), World.cell?_alloc_past _ _ _ hrl, hcr]
          have hfr2 : ∀ o1 o2, ((wr.alloc o1).alloc o2).frozen? ⟨w.heap.size, 0, none⟩ = false := fun o1 o2 => by rw [World.frozen?_alloc_past _ _ _ (by simp; omega), World.frozen?_alloc_past _ _ _ hrl, hfr]
          have htr := hT.tr
          have hnl := hT.nil 10 (by decide) (fun j hj => by match j, hj with | _, h => exact absurd h (Nat.not_lt_zero _))
          have hfz := hT.frz
          have hz256 := hfz 256
          have HT := Lib.hid hT
          clear hT hfz
          go_wp2
          obtain ⟨W2, hW2⟩ : ∃ W2, (((wr.setCell ⟨w.heap.size, 0, none⟩ (.string ⟨#[10]⟩)).setCell ⟨w.heap.size + 1, 256, none⟩ (.slice (some ⟨w.heap.size, 0, none⟩) 1 3)).alloc (.cells #[.int .u8 10] 5)).alloc (.cells #[.string ⟨#[10]⟩] 9) = W2 := ⟨_, rfl⟩
          rw [hW2, Lib.run_convert_string_bytes (P := Tryz.prog) W2 9 110 5 ⟨#[92, 110]⟩ Tryz.underlying9 Tryz.underlying110 Tryz.underlying5]
          obtain ⟨hM2, hrow2, hq2⟩ := rep_two (w := wr) (r := w.heap.size) (q := w.heap.size + 1) (k := 0) (W2 := W2) (by omega) (by omega) (by omega) hW2
          generalize hW3 : Lib.bytesWorld W2 5 ⟨#[92, 110]⟩ = W3
          obtain ⟨n1, n2, n3, n4⟩ := HT.out.next (k := 0) (by decide) (by omega) hM2 hrow2 hq2 hW3
          have HN4 := Lib.hid n4
          have HB3 := Lib.hid (((HB.out.trans (hM2.below hbs (fun k hk h => by omega))).trans (n3.mono (by have := hM2.size; omega))))
          have hW2s := hM2.size
          clear n3 n4 hW3 hW2 hM2 hrow2 hq2 hcr hfr hcr2 hfr2 htr hnl hz256 HT HB
          rw [show repKey 0 = 10 from rfl] at n1 n2
          go_wp2
          go_roundw
          case rel => exact ⟨1, by omega, by go_num, HN4.out _, HB3.out.setCell (by dsimp only; omega) _⟩
          case measure => simp [intOf]
        | 1, _ =>
          have kc : (convert 110 9 (.slice (some ⟨wr.heap.size, 0, none⟩) 1 1)).run Tryz.prog (wr.alloc (.cells #[.int .u8 92] 5)) = .ok (.string ⟨#[92]⟩) (wr.alloc (.cells #[.int .u8 92] 5)) :=
            Lib.run_convert_whole (P := Tryz.prog) (wr.alloc (.cells #[.int .u8 92] 5)) 110 5 9 Tryz.underlying110 Tryz.underlying5 Tryz.underlying9 wr.heap.size 0 ⟨#[92]⟩ (bytes_one wr 92) 1
          have hix : ∀ h, (((⟨#[92]⟩ : ByteArray)[0]'h).toNat : Int) = 92 := fun _ => rfl
          have heq : ∀ W, (binOp .eql 110 (.slice none 0 0) (.slice none 0 0)).run Tryz.prog W = .ok (.bool true) W := fun W => Lib.run_eql_slice_nil_nil W _ _ Tryz.underlying110
          obtain ⟨rc, hrc, hrs, -⟩ := hT.row
          have hcr : wr.cell? ⟨w.heap.size, 1, none⟩ = some (rc[1]'(by omega)) := by rw [cell_of_row _ _ _ _ _ _ hrc]; exact Array.getElem?_eq_getElem _
          have hfr : wr.frozen? ⟨w.heap.size, 1, none⟩ = false := Lib.frozen_of_heap hrc 1
          generalize rc[1]'(by omega) = u0 at hcr
          clear hrc hrs
          have hrl : w.heap.size < wr.heap.size := by omega
          have hcr2 : ∀ o1 o2, ((wr.alloc o1).alloc o2).cell? ⟨w.heap.size, 1, none⟩ = some u0 := fun o1 o2 => by rw [World.cell?_alloc_past _ _ _ (by simp; omega), World.cell?_alloc_past _ _ _ hrl, hcr]
          have hfr2 : ∀ o1 o2, ((wr.alloc o1).alloc o2).frozen? ⟨w.heap.size, 1, none⟩ = false := fun o1 o2 => by rw [World.frozen?_alloc_past _ _ _ (by simp; omega), World.frozen?_alloc_past _ _ _ hrl, hfr]
          have htr := hT.tr
          have hnl := hT.nil 92 (by decide) (fun j hj => by match j, hj with | 0, _ => decide)
          have hfz := hT.frz
          have hz256 := hfz 256
          have HT := Lib.hid hT
          clear hT hfz
          go_wp2
          obtain ⟨W2, hW2⟩ : ∃ W2, (((wr.setCell ⟨w.heap.size, 1, none⟩ (.string ⟨#[92]⟩)).setCell ⟨w.heap.size + 1, 256, none⟩ (.slice (some ⟨w.heap.size, 0, none⟩) 2 3)).alloc (.cells #[.int .u8 92] 5)).alloc (.cells #[.string ⟨#[92]⟩] 9) = W2 := ⟨_, rfl⟩
          rw [hW2, Lib.run_convert_string_bytes (P := Tryz.prog) W2 9 110 5 ⟨#[92, 92]⟩ Tryz.underlying9 Tryz.underlying110 Tryz.underlying5]
          obtain ⟨hM2, hrow2, hq2⟩ := rep_two (w := wr) (r := w.heap.size) (q := w.heap.size + 1) (k := 1) (W2 := W2) (by omega) (by omega) (by omega) hW2
          generalize hW3 : Lib.bytesWorld W2 5 ⟨#[92, 92]⟩ = W3
          obtain ⟨n1, n2, n3, n4⟩ := HT.out.next (k := 1) (by decide) (by omega) hM2 hrow2 hq2 hW3
          have HN4 := Lib.hid n4
          have HB3 := Lib.hid (((HB.out.trans (hM2.below hbs (fun k hk h => by omega))).trans (n3.mono (by have := hM2.size; omega))))
          have hW2s := hM2.size
          clear n3 n4 hW3 hW2 hM2 hrow2 hq2 hcr hfr hcr2 hfr2 htr hnl hz256 HT HB
          rw [show repKey 1 = 92 from rfl] at n1 n2
          go_wp2
          go_roundw
          case rel => exact ⟨2, by omega, by go_num, HN4.out _, HB3.out.setCell (by dsimp only; omega) _⟩
          case measure => simp [intOf]
        | 2, _ =>
          have kc : (convert 110 9 (.slice (some ⟨wr.heap.size, 0, none⟩) 1 1)).run Tryz.prog (wr.alloc (.cells #[.int .u8 34] 5)) = .ok (.string ⟨#[34]⟩) (wr.alloc (.cells #[.int .u8 34] 5)) :=
            Lib.run_convert_whole (P := Tryz.prog) (wr.alloc (.cells #[.int .u8 34] 5)) 110 5 9 Tryz.underlying110 Tryz.underlying5 Tryz.underlying9 wr.heap.size 0 ⟨#[34]⟩ (bytes_one wr 34) 1
          have hix : ∀ h, (((⟨#[34]⟩ : ByteArray)[0]'h).toNat : Int) = 34 := fun _ => rfl
          have heq : ∀ W, (binOp .eql 110 (.slice none 0 0) (.slice none 0 0)).run Tryz.prog W = .ok (.bool true) W := fun W => Lib.run_eql_slice_nil_nil W _ _ Tryz.underlying110
          obtain ⟨rc, hrc, hrs, -⟩ := hT.row
          have hcr : wr.cell? ⟨w.heap.size, 2, none⟩ = some (rc[2]'(by omega)) := by rw [cell_of_row _ _ _ _ _ _ hrc]; exact Array.getElem?_eq_getElem _
          have hfr : wr.frozen? ⟨w.heap.size, 2, none⟩ = false := Lib.frozen_of_heap hrc 2
          generalize rc[2]'(by omega) = u0 at hcr
          clear hrc hrs
          have hrl : w.heap.size < wr.heap.size := by omega
          have hcr2 : ∀ o1 o2, ((wr.alloc o1).alloc o2).cell? ⟨w.heap.size, 2, none⟩ = some u0 := fun o1 o2 => by rw [World.cell?_alloc_past _ _ _ (by simp; omega), World.cell?_alloc_past _ _ _ hrl, hcr]
          have hfr2 : ∀ o1 o2, ((wr.alloc o1).alloc o2).frozen? ⟨w.heap.size, 2, none⟩ = false := fun o1 o2 => by rw [World.frozen?_alloc_past _ _ _ (by simp; omega), World.frozen?_alloc_past _ _ _ hrl, hfr]
          have htr := hT.tr
          have hnl := hT.nil 34 (by decide) (fun j hj => by match j, hj with | 0, _ => decide | 1, _ => decide)
          have hfz := hT.frz
          have hz256 := hfz 256
          have HT := Lib.hid hT
          clear hT hfz
          go_wp2
          obtain ⟨W2, hW2⟩ : ∃ W2, (((wr.setCell ⟨w.heap.size, 2, none⟩ (.string ⟨#[34]⟩)).setCell ⟨w.heap.size + 1, 256, none⟩ (.slice (some ⟨w.heap.size, 0, none⟩) 3 3)).alloc (.cells #[.int .u8 34] 5)).alloc (.cells #[.string ⟨#[34]⟩] 9) = W2 := ⟨_, rfl⟩
          rw [hW2, Lib.run_convert_string_bytes (P := Tryz.prog) W2 9 110 5 ⟨#[92, 34]⟩ Tryz.underlying9 Tryz.underlying110 Tryz.underlying5]
          obtain ⟨hM2, hrow2, hq2⟩ := rep_two (w := wr) (r := w.heap.size) (q := w.heap.size + 1) (k := 2) (W2 := W2) (by omega) (by omega) (by omega) hW2
          generalize hW3 : Lib.bytesWorld W2 5 ⟨#[92, 34]⟩ = W3
          obtain ⟨n1, n2, n3, n4⟩ := HT.out.next (k := 2) (by decide) (by omega) hM2 hrow2 hq2 hW3
          have HN4 := Lib.hid n4
          have HB3 := Lib.hid (((HB.out.trans (hM2.below hbs (fun k hk h => by omega))).trans (n3.mono (by have := hM2.size; omega))))
          have hW2s := hM2.size
          clear n3 n4 hW3 hW2 hM2 hrow2 hq2 hcr hfr hcr2 hfr2 htr hnl hz256 HT HB
          rw [show repKey 2 = 34 from rfl] at n1 n2
          go_wp2
          go_roundw
          case rel => exact ⟨3, by omega, by go_num, HN4.out _, HB3.out.setCell (by dsimp only; omega) _⟩
          case measure => simp [intOf]
        | 3, _ =>
          have HT := Lib.hid hT
          clear hT
          go_wp2
          go_ret
          exact ⟨rfl, HT.out, HB.out⟩
end Go.Proofs.YtdapdadcninidaaGreatDoor
namespace Go.Proofs.YtdapdadcninidaaGreatDoor
open Go.RowKit

theorem on_disable (w : World) : (callFunc 238 #[]).run Tryz.prog w = .ok (.value (.tuple #[])) w := run_call_mark0 Tryz.func238 (by kernel_rfl) (by kernel_rfl) (by kernel_rfl) .disable (by kernel_rfl) w
theorem on_enable (w : World) : (callFunc 240 #[]).run Tryz.prog w = .ok (.value (.tuple #[])) w := run_call_mark0 Tryz.func240 (by kernel_rfl) (by kernel_rfl) (by kernel_rfl) .enable (by kernel_rfl) w
theorem on_acquire (a : Addr) (w : World) : (callFunc 241 #[.pointer (some a)]).run Tryz.prog w = .ok (.value (.tuple #[])) w := run_call_marked Tryz.func241 (by kernel_rfl) (by kernel_rfl) (by kernel_rfl) .acquire (by kernel_rfl) a w
theorem on_release (a : Addr) (w : World) : (callFunc 243 #[.pointer (some a)]).run Tryz.prog w = .ok (.value (.tuple #[])) w := run_call_marked Tryz.func243 (by kernel_rfl) (by kernel_rfl) (by kernel_rfl) .releaseMerge (by kernel_rfl) a w

theorem store_deferred (a : Addr) (x : Value) (u : FrameMode) (w : World) (hc : w.cell? a = some x) (hz : w.frozen? a = false) :
    CallsD Tryz.prog 225 #[.pointer (some a), .bool true] u w fun e u' w' => u' = u ∧ (e = .returned (.tuple #[]) ∧ w' = w.drew.setCell a (.int .u32 1)) := by
  have hc' : w.drew.cell? a = some x := by go_simp
  have hz' : w.drew.frozen? a = false := by go_simp
  have hst := run_call_store (P := Tryz.prog) Tryz.func232 (by kernel_rfl) (by kernel_rfl) (by kernel_rfl) (by kernel_rfl) (k := .u32) (y := 1) hc' hz'
  go_enter_d Tryz.func225, Tryz.ntmps225
  go_wp2
  go_region_calls
  all_goals (go_end0; exact ⟨rfl, rfl⟩)
set_option maxRecDepth 100000 in
set_option maxHeartbeats 1000000 in
theorem unlock_deferred (a : Addr) (u : FrameMode) (w : World) (hc : w.cell? a = some (.int .i32 1)) (hz : w.frozen? a = false) :
    CallsD Tryz.prog 224 #[.pointer (some a)] u w fun e u' w' => u' = u ∧ (e = .returned (.tuple #[]) ∧ w' = w.setCell a (.int .i32 0)) := by
  have hd := on_disable
  have he := on_enable
  have hr := on_release
  have hadd := run_call_add (P := Tryz.prog) Tryz.func244 (by kernel_rfl) (by kernel_rfl) (by kernel_rfl) .i32 (by kernel_rfl) (y := -1) (s := 0) hc hz (by simp [go_sem]; rfl)
  have hcv := run_convert_to_unsafe (P := Tryz.prog) (src := 319) (dst := 215) Tryz.underlying319 Tryz.underlying215 (by kernel_rfl) hc
  go_enter_d Tryz.func224, Tryz.ntmps224
  go_wp2
  go_end0
  go_wp2
set_option maxRecDepth 100000 in
set_option maxHeartbeats 1000000 in
theorem lock_free (a : Addr) (w : World) (hc : w.cell? a = some (.int .i32 0)) (hz : w.frozen? a = false) :
    Calls Tryz.prog 223 #[.pointer (some a)] w fun e w' => e = .returned (.tuple #[]) ∧ w' = w.setCell a (.int .i32 1) := by
  have hd := on_disable
  have he := on_enable
  have ha := on_acquire
  have hcas := run_call_cas_hit (P := Tryz.prog) Tryz.func239 (by kernel_rfl) (by kernel_rfl) (by kernel_rfl) .i32 (by kernel_rfl) (y := 1) hc hz
  have hc' : (w.setCell a (.int .i32 1)).cell? a = some (.int .i32 1) := World.cell?_setCell_same w a _ hc
  have hcv := run_convert_to_unsafe (P := Tryz.prog) (src := 319) (dst := 215) Tryz.underlying319 Tryz.underlying215 (by kernel_rfl) hc'
  go_enter Tryz.func223, Tryz.ntmps223
  go_wp2
  first | go_end0 | (simp only [Exit.inBlock, Exit.then]; refine bodyPost_ret (results_none rfl _ _ _) rfl ?_) | refine bodyPost_ret (results_none rfl _ _ _) rfl ?_
  go_wp2
set_option maxRecDepth 100000 in
theorem done_any (a : Addr) (d : Int) (w : World) (h0 : w.cell? a = some (.int .u32 d)) :
    Calls Tryz.prog 213 #[.pointer (some a)] w fun e w' => e = .returned (.bool (d != 0)) ∧ w' = w := by
  have hl := run_call_load (P := Tryz.prog) Tryz.func222 (by kernel_rfl) (by kernel_rfl) (by kernel_rfl) .u32 (by kernel_rfl) h0
  go_enter Tryz.func213, Tryz.ntmps213
  go_wp2
  go_ret
  exact ⟨rfl, rfl⟩
set_option maxRecDepth 100000 in
set_option maxHeartbeats 1600000 in
/-- doSlow, the lock free and nothing done: the function (f, bound to p) is called; then 'done' is stored and the lock let go. -/
theorem slow_any (b f : Nat) (p : Value) (Q : World → Prop) (w : World)
    (h0 : w.cell? ⟨b, 0, none⟩ = some (.int .u32 0)) (h1 : w.cell? ⟨b, 1, none⟩ = some (.int .i32 0))
    (f0 : w.frozen? ⟨b, 0, none⟩ = false) (f1 : w.frozen? ⟨b, 1, none⟩ = false) (hmk : ∀ W, (callFunc f #[p]).run Tryz.prog W = .ok (.enter f #[p]) W)
    (hf : Calls Tryz.prog f #[p] (w.setCell ⟨b, 1, none⟩ (.int .i32 1)) fun e w2 => e = .returned (.tuple #[]) ∧ Q w2 ∧ w2.cell? ⟨b, 0, none⟩ = some (.int .u32 0) ∧ w2.cell? ⟨b, 1, none⟩ = some (.int .i32 1) ∧ w2.frozen? ⟨b, 0, none⟩ = false ∧ w2.frozen? ⟨b, 1, none⟩ = false) :
    Calls Tryz.prog 214 #[.pointer (some ⟨b, 0, none⟩), .func (.func f) #[p] #[]] w fun e w' => e = .returned (.tuple #[]) ∧ ∃ w2, Q w2 ∧ w' = (w2.drew.setCell ⟨b, 0, none⟩ (.int .u32 1)).setCell ⟨b, 1, none⟩ (.int .i32 0) := by
  have hl := done_any ⟨b, 0, none⟩ 0 (w.setCell ⟨b, 1, none⟩ (.int .i32 1)) ((World.cell?_setCell_other _ ⟨b, 1, none⟩ ⟨b, 0, none⟩ _ (by simp)).trans h0)
  have hnot : ∀ (x : Bool) (w : World), (Op.unary .not (.bool x)).run Tryz.prog w = .ok (.bool (!x)) w := fun _ _ => rfl
  have HF := Lib.hid hf
  clear hf
  go_enter_defers Tryz.func214, Tryz.ntmps214
  go_wp2_with (go_at_call 223; refine (lock_free ⟨b, 1, none⟩ _ (by go_simp) (by go_simp)).mono ?_; rintro e w' ⟨rfl, rfl⟩)
  refine hl.mono ?_
  rintro e w1 ⟨rfl, rfl⟩
  go_wp2_with fail
  refine HF.out.mono ?_
  rintro e w2 ⟨rfl, hq, k0, k1, k2, k3⟩
  have HQ := Lib.hid hq
  clear hq
  go_wp2
  refine leaves_cons (f := 225) (args := #[.pointer (some ⟨b, 0, none⟩), .bool true]) (by simp) (by simp [go_sem]) ?_
  refine (store_deferred ⟨b, 0, none⟩ (.int .u32 0) .returning _ k0 k2).mono ?_
  rintro e u' w'' ⟨rfl, rfl, rfl⟩
  refine leaves_cons (f := 224) (args := #[.pointer (some ⟨b, 1, none⟩)]) (by simp [settle]) (by simp [go_sem]) ?_
  refine (unlock_deferred ⟨b, 1, none⟩ _ _ ?_ (by simp [k3])).mono ?_
  · refine (World.cell?_setCell_other _ ⟨b, 0, none⟩ ⟨b, 1, none⟩ _ (by simp)).trans ?_
    rw [World.cell?_drew]
    exact k1
  rintro e u' w'' ⟨rfl, rfl, rfl⟩
  simp [Leaves, settle, results, Tryz.results214]
  exact ⟨w2, HQ.out, rfl⟩
set_option maxRecDepth 100000 in
set_option maxHeartbeats 1600000 in
/-- Do, nothing done. -/
theorem do_any (b f : Nat) (p : Value) (Q : World → Prop) (w : World)
    (h0 : w.cell? ⟨b, 0, none⟩ = some (.int .u32 0)) (h1 : w.cell? ⟨b, 1, none⟩ = some (.int .i32 0))
    (f0 : w.frozen? ⟨b, 0, none⟩ = false) (f1 : w.frozen? ⟨b, 1, none⟩ = false) (hmk : ∀ W, (callFunc f #[p]).run Tryz.prog W = .ok (.enter f #[p]) W)
    (hf : Calls Tryz.prog f #[p] (w.setCell ⟨b, 1, none⟩ (.int .i32 1)) fun e w2 => e = .returned (.tuple #[]) ∧ Q w2 ∧ w2.cell? ⟨b, 0, none⟩ = some (.int .u32 0) ∧ w2.cell? ⟨b, 1, none⟩ = some (.int .i32 1) ∧ w2.frozen? ⟨b, 0, none⟩ = false ∧ w2.frozen? ⟨b, 1, none⟩ = false) :
    Calls Tryz.prog 199 #[.pointer (some ⟨b, 0, none⟩), .func (.func f) #[p] #[]] w fun e w' => e = .returned (.tuple #[]) ∧ ∃ w2, Q w2 ∧ w' = (w2.drew.setCell ⟨b, 0, none⟩ (.int .u32 1)).setCell ⟨b, 1, none⟩ (.int .i32 0) := by
  have hl := done_any ⟨b, 0, none⟩ 0 w h0
  have hnot : ∀ (x : Bool) (w : World), (Op.unary .not (.bool x)).run Tryz.prog w = .ok (.bool (!x)) w := fun _ _ => rfl
  have H1 := Lib.hid (slow_any b f p Q w h0 h1 f0 f1 hmk hf)
  have HL := Lib.hid hl
  clear hf hl
  go_enter Tryz.func199, Tryz.ntmps199
  go_wp2_with fail
  refine HL.out.mono ?_
  rintro e w1 ⟨rfl, rfl⟩
  go_wp2_with fail
  refine H1.out.mono ?_
  rintro e w1 ⟨rfl, hq⟩
  have HQ := Lib.hid hq
  clear hq
  go_wp2
  go_end0
  exact ⟨rfl, HQ.out⟩
end Go.Proofs.YtdapdadcninidaaGreatDoor
namespace Go.Proofs.YtdapdadcninidaaGreatDoor
open Go.RowKit
attribute [local go_sem ↓] Go.wp_at_zero Go.wp_at_succ

theorem OwnV.cellsA {R T : Nat} {w : World} {v : Value} {xs : List Value} (h : OwnV R T w v xs) (h0 : 0 < xs.length) : ∃ g c, v = .slice (some ⟨g, 0, none⟩) xs.length c ∧ R ≤ g ∧ g < w.heap.size ∧ ∀ j u, xs[j]? = some u → w.cell? ⟨g, j, none⟩ = some u := by
  obtain ⟨g, c, hv, hR, hc⟩ := h.cell h0
  refine ⟨g, c, hv, hR, World.block_lt_of_cell? _ _ hc, fun j u hj => ?_⟩
  obtain ⟨hl, rfl⟩ := List.getElem?_eq_some_iff.1 hj
  obtain ⟨g', c', hv', _, hc'⟩ := h.cell hl
  rw [hv] at hv'
  cases hv'
  exact hc'
theorem RepT.mod {S : Nat → Prop} {r q k : Nat} {A B : World} (h : RepT r q k A) (hm : Mod S A B) (hr : ¬ S r) (hq : ¬ S q) (hS : ∀ g, S g → g ≤ q) : RepT r q k B := by
  obtain ⟨⟨rc, h1, h2, h3⟩, ⟨cur, h4, h5⟩, h6, h7, h8⟩ := h
  have hql := (Array.getElem?_eq_some_iff.1 h4).1
  refine ⟨⟨rc, (hm.block r (Array.getElem?_eq_some_iff.1 h1).1 hr).trans h1, h2, h3⟩, ⟨cur, (hm.block q hql hq).trans h4, h5⟩, (hm.cell (p := ⟨q, _, none⟩) hql hq).trans h6, fun b hb hj => (hm.cell (p := ⟨q, _, none⟩) hql hq).trans (h7 b hb hj), fun j hj => ?_⟩
  obtain ⟨g, c, n, e1, e2, e3, e4⟩ := h8 j hj
  exact ⟨g, c, n, (hm.cell (p := ⟨q, _, none⟩) hql hq).trans e1, e2.mod hm (fun hg => by have := hS g hg; omega), e3, e4⟩
def onCells : List Value := oldNew.map fun s => .string ⟨s.toArray⟩
set_option maxRecDepth 100000 in
set_option maxHeartbeats 1000000 in
theorem NewReplacer_any (w : World) {S c : Nat} (hS : ∀ j s, oldNew[j]? = some s → w.cell? ⟨S, j, none⟩ = some (.string ⟨s.toArray⟩)) :
    Calls Tryz.prog 176 #[.slice (some ⟨S, 0, none⟩) 6 c] w fun e w' => ∃ R on cap, e = .returned (.pointer (some ⟨R, 0, none⟩)) ∧ w'.heap[R]? = some (.cells #[.int .u32 0, .int .i32 0, .int .u32 0, .nilIface, .slice (some ⟨on, 0, none⟩) 6 cap] 254 (0, 0)) ∧
      (∀ j s, oldNew[j]? = some s → w'.cell? ⟨on, j, none⟩ = some (.string ⟨s.toArray⟩)) ∧ w.heap.size ≤ R ∧ on ≠ R ∧ Below w.heap.size w w' := by
  obtain ⟨i0, hi, hz0, hz1, hz2⟩ := info_parts infoS
  go_enter Tryz.func176, Tryz.ntmps176
  go_wp2_with (at_builtin; refine wpList_append_ownF _ rfl _ _ 39 rfl w.heap.size 9 i0 (.string ⟨#[]⟩) 1 16 Tryz.underlying39 hi hz0 hz1 hz2 rfl (by decide) (.slice none 0 0) 0 [] rfl (World.ownsRowF_nil _ _ _ _) ⟨S, 0, none⟩ 6 c onCells rfl rfl ?cells ?one (by decide) (by decide) (Nat.le_refl _) ?_; rotate_left 2; intro v' w1 hown hg hnil; obtain ⟨g, cap, rfl, hgR, hgl, hgc⟩ := OwnV.cellsA (R := w.heap.size) (T := 9) (w := w1) (v := v') (xs := onCells) hown (by decide); clear hown hnil)
  case cells =>
    intro j u hj
    simp only [onCells, List.getElem?_map] at hj
    obtain ⟨s, hs, rfl⟩ := Option.map_eq_some_iff.1 hj
    have hadd : (⟨S, 0, none⟩ : Addr).add j = ⟨S, j, none⟩ := by unfold Addr.add; split <;> simp_all
    rw [hadd]
    exact hS j s hs
  case one =>
    intro u hu
    obtain ⟨s, _, rfl⟩ := List.mem_map.1 hu
    rfl
  go_ret
  have hb1 : Below w.heap.size w w1 := ⟨hg.os, hg.tape, hg.output, hg.size, fun k hk => hg.block k hk (by simp [Value.ownBlock])⟩
  refine ⟨w1.heap.size, g, cap, rfl, World.alloc_heap_new _ _, fun j s hj => ?_, hg.size, by omega, hb1.alloc hg.size _⟩
  rw [World.cell?_alloc_past _ _ _ hgl]
  exact hgc j _ (by simp [onCells, hj])
set_option maxRecDepth 100000 in
set_option maxHeartbeats 1000000 in
theorem buildOnce_any (w : World) {R on cap : Nat} {v0 v1 v2 : Value} (hR : w.heap[R]? = some (.cells #[v0, v1, v2, .nilIface, .slice (some ⟨on, 0, none⟩) 6 cap] 254 (0, 0))) (hon : ∀ j s, oldNew[j]? = some s → w.cell? ⟨on, j, none⟩ = some (.string ⟨s.toArray⟩)) :
    Calls Tryz.prog 200 #[.pointer (some ⟨R, 0, none⟩)] w fun e w' => e = .returned (.tuple #[]) ∧ RepT w.heap.size (w.heap.size + 1) 3 w' ∧
      w'.heap[R]? = some (.cells #[v0, v1, v2, .iface 285 (.pointer (some ⟨w.heap.size + 1, 0, none⟩)), .slice none 0 0] 254 (0, 0)) ∧ Mod (fun k => k = R) w w' := by
  have hRl := (Array.getElem?_eq_some_iff.1 hR).1
  have H1 := Lib.hid (build_any w (R := R) (on := on) (cap := cap) (by rw [cell_of_row _ _ _ _ _ _ hR]; rfl) hon)
  have HR := Lib.hid hR
  clear hR hon
  go_enter Tryz.func200, Tryz.ntmps200
  go_wp2_with fail
  refine H1.out.mono ?_
  rintro e w1 ⟨rfl, hT, b1⟩
  have hR1 := (b1.block R hRl).trans HR.out
  have k3 : w1.cell? ⟨R, 3, none⟩ = some .nilIface := by rw [cell_of_row _ _ _ _ _ _ hR1]; rfl
  have k4 : w1.cell? ⟨R, 4, none⟩ = some (.slice (some ⟨on, 0, none⟩) 6 cap) := by rw [cell_of_row _ _ _ _ _ _ hR1]; rfl
  have z3 : w1.frozen? ⟨R, 3, none⟩ = false := Lib.frozen_of_heap hR1 _
  have z4 : w1.frozen? ⟨R, 4, none⟩ = false := Lib.frozen_of_heap hR1 _
  have HT := Lib.hid hT; have HR1 := Lib.hid hR1; have HB := Lib.hid b1
  clear hT hR1 b1
  go_wp2
  go_end0
  have hm : ∀ v v', Mod (fun k => k = R) w1 ((w1.setCell ⟨R, 3, none⟩ v).setCell ⟨R, 4, none⟩ v') := fun v v' => Mod.trans (S := fun k => k = R) (Mod.setCell _ _ rfl) (Mod.setCell _ _ rfl)
  refine ⟨rfl, HT.out.mod (hm _ _) (by omega) (by omega) (fun g hg => by omega), ?_, (Mod.of_below HB.out).trans (hm _ _)⟩
  rw [Joins.block_setCell (i := 4) (Joins.block_setCell (i := 3) HR1.out _)]
  rfl
end Go.Proofs.YtdapdadcninidaaGreatDoor
