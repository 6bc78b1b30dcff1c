/- Slices that a call makes itself and appends to: what a step of it leaves. append of a string to a slice of bytes that the call owns, and where the new row lies. No condition but the length. Package arena: once, of attributes; the search by a closure. No condition but lengths. Package arena: Element, with attributes. No condition but that the name is not template, and lengths. Ranging over a function: an iterator's contract where what the iterator leans on is handed on by the body's own words (Pr follows from J), so that the body may write what the iterator reads.
   I: the iterator's own cells (laid before the loop); n1: the heap's size at the first call of yield. No condition. Package arena: the way up from a node, and Contains. -/
import Derived.Test.YtdapdadcninidaaGreatDoorM1
import Derived.Lib.FrozenHead2
import Derived.RangeFuncNested
import Derived.Lib.SlBytesRow
import Derived.Lib.FrozenHead
import Derived.Lib.BufStepsIn
import Derived.Deep.AppendLies
import Derived.Test.YtdapdadcninidaaGreatDoorM3
set_option linter.unusedSimpArgs false
set_option linter.unusedVariables false
namespace Go.Proofs.YtdapdadcninidaaGreatDoor
open Go.RowKit

/-- Slice value v owns these one-cell elements of type T; its block lies from block R on. -/
def OwnV (R T : Nat) (w : World) (v : Value) (xs : List Value) : Prop := w.ownsRowF R T 1 v xs.length xs
theorem OwnV.nil (R T : Nat) (w : World) : OwnV R T w (.slice none 0 0) [] := World.ownsRowF_nil _ _ _ _
theorem OwnV.below {R T : Nat} {w w' : World} {v : Value} {xs : List Value} (h : OwnV R T w v xs) (hb : Below w.heap.size w w') : OwnV R T w' v xs := by
  refine ⟨h.1, ?_⟩
  rcases h.2 with h | ⟨g, cap, cur, fz, hv, hg, hgg, r⟩
  · exact .inl h
  · exact .inr ⟨g, cap, cur, fz, hv, hg, (hb.block g (Array.getElem?_eq_some_iff.1 hgg).1).trans hgg, r⟩
theorem OwnV.drewN {R T : Nat} {w : World} {v : Value} {xs : List Value} (h : OwnV R T w v xs) (n : Nat) : OwnV R T (w.drewN n) v xs := h
theorem OwnV.shape {R T : Nat} {w : World} {v : Value} {xs : List Value} (h : OwnV R T w v xs) : ∃ a c, v = .slice a xs.length c := by
  rcases h.2 with ⟨rfl, h0⟩ | ⟨g, cap, cur, fz, rfl, _⟩
  · rw [h0]; exact ⟨_, _, rfl⟩
  · exact ⟨_, _, rfl⟩
theorem OwnV.cell {R T : Nat} {w : World} {v : Value} {xs : List Value} (h : OwnV R T w v xs) {i : Nat} (hi : i < xs.length) : ∃ g c, v = .slice (some ⟨g, 0, none⟩) xs.length c ∧ R ≤ g ∧ w.cell? ⟨g, i, none⟩ = some xs[i] := by
  have hh := h.2
  rcases hh with ⟨rfl, h0⟩ | ⟨g, cap, cur, fz, rfl, hg, r⟩
  · omega
  · refine ⟨g, cap, rfl, hg, ?_⟩
    have := h.cells (g := g) rfl i xs[i] (List.getElem?_eq_getElem hi)
    by_cases h0 : i = 0
    · subst h0; simpa [Addr.add] using this
    · simpa [Addr.add, h0] using this
/-- append of one element: the element's own box lies in the newest block. -/
theorem append_one {P : Program} {ops : Array Oper} {rest : List Oper} {o : Oper} {a : Act} {Q : Exit → Act → World → Prop} {W : World} (hgd : o.guard = none) (s x : Operand) (t : TypeId)
    (ho : o.op = .call { callee := .builtin .append, args := #[s, x], argTypes := #[t, t] })
    (R : Nat) (e : TypeId) (z : Value) (bytes : Nat) (ht : P.underlying t = some (.slice e)) (hi : (P.info? e).map (fun i => (i.zero, i.size, i.bytes)) = some (some z, 1, bytes)) (hz : z.cells.size = 1)
    (v : Value) (xs : List Value) (hs : a.eval s = v) (hown : OwnV R e W v xs) (u : Value) (hu : u.oneCell' = true) (T : TypeId) (hx : a.eval x = .slice (some ⟨W.heap.size, 0, none⟩) 1 1)
    (hlen : xs.length + 1 ≤ 100000000000) (hby : bytes ≤ 1000) (hR : R ≤ W.heap.size)
    (h : ∀ v' w', OwnV R e w' v' (xs ++ [u]) → Below R W w' → wpList P ops Q rest (a.put o.dst v') w') : wpList P ops Q (o :: rest) a (W.alloc (.cells #[u] T)) := by
  obtain ⟨i0, hi, hz0, hz1, hz2⟩ := info_parts hi
  refine wpList_append_ownF _ hgd s x t ho R e i0 z 1 bytes ht hi hz0 hz1 hz2 hz (by decide) v _ xs hs (World.ownsRowF.alloc hown _) ⟨W.heap.size, 0, none⟩ 1 1 [u] hx rfl ?_ ?_ ?_ ?_ ?_ ?_
  · intro j y hj
    match j, hj with
    | 0, hj =>
      simp at hj; subst hj
      show (W.alloc _).cell? ⟨W.heap.size, 0, none⟩ = _
      rw [Lib.cell_of_heap (World.alloc_heap_new W _)]; rfl
  · intro y hy; simp at hy; subst hy; exact hu
  · unfold maxLen; omega
  · refine Nat.le_trans (Nat.mul_le_mul hlen hby) (by decide)
  · simp; omega
  · intro v' w' hown' hg _
    refine h v' w' (by unfold OwnV; rwa [List.length_append]) ?_
    have hb := (balloc W (.cells #[u] T))
    refine ⟨hg.os.trans hb.os, hg.tape.trans hb.tape, hg.output.trans hb.output, Nat.le_trans hb.size hg.size, fun k hk => ?_⟩
    refine (hg.block k (by simp; omega) (fun e => ?_)).trans (hb.block k (by omega))
    have := (hown.lt k e.symm).1
    omega
def byteVals (bs : List UInt8) : List Value := Lib.byteCells bs
theorem byteVals_len (bs : List UInt8) : (byteVals bs).length = bs.length := Lib.byteCells_length bs
theorem byteVals_app (a b : List UInt8) : byteVals (a ++ b) = byteVals a ++ byteVals b := by simp [byteVals, Lib.byteCells]
theorem byteVals_one (c : UInt8) : byteVals [c] = [.int .u8 (c.toNat : Int)] := rfl
/-- The same of a slice of bytes. -/
def OwnB (R : Nat) (w : World) (v : Value) (bs : List UInt8) : Prop := OwnV R 5 w v (byteVals bs)
theorem OwnB.nil (R : Nat) (w : World) : OwnB R w (.slice none 0 0) [] := OwnV.nil _ _ _
theorem OwnB.below {R : Nat} {w w' : World} {v : Value} {bs : List UInt8} (h : OwnB R w v bs) (hb : Below w.heap.size w w') : OwnB R w' v bs := OwnV.below h hb
theorem infoB : (Tryz.prog.info? 5).map (fun i => (i.zero, i.size, i.bytes)) = some (some (.int .u8 0), 1, 1) := by kernel_rfl
theorem append_byte {ops : Array Oper} {rest : List Oper} {o : Oper} {a : Act} {Q : Exit → Act → World → Prop} {W : World} (hgd : o.guard = none) (s x : Operand)
    (ho : o.op = .call { callee := .builtin .append, args := #[s, x], argTypes := #[110, 110] })
    (R : Nat) (v : Value) (bs : List UInt8) (hs : a.eval s = v) (hown : OwnB R W v bs) (c : UInt8) (T : TypeId) (hx : a.eval x = .slice (some ⟨W.heap.size, 0, none⟩) 1 1)
    (hlen : bs.length + 1 ≤ 100000000000) (hR : R ≤ W.heap.size)
    (h : ∀ v' w', OwnB R w' v' (bs ++ [c]) → Below R W w' → wpList Tryz.prog ops Q rest (a.put o.dst v') w') : wpList Tryz.prog ops Q (o :: rest) a (W.alloc (.cells #[.int .u8 (c.toNat : Int)] T)) :=
  append_one hgd s x 110 ho R 5 (.int .u8 0) 1 Tryz.underlying110 infoB rfl v (byteVals bs) hs hown (.int .u8 (c.toNat : Int)) rfl T hx (by rw [byteVals_len]; exact hlen) (by decide) hR
    (fun v' w' h1 h2 => h v' w' (by unfold OwnB; rw [byteVals_app]; exact h1) h2)
theorem append_str {ops : Array Oper} {rest : List Oper} {o : Oper} {a : Act} {Q : Exit → Act → World → Prop} {W : World} (hgd : o.guard = none) (s x : Operand)
    (ho : o.op = .call { callee := .builtin .append, args := #[s, x], argTypes := #[110, 9] })
    (R : Nat) (v : Value) (bs : List UInt8) (hs : a.eval s = v) (hown : OwnB R W v bs) (l : List UInt8) (hx : a.eval x = .string ⟨l.toArray⟩)
    (hlen : bs.length + l.length ≤ 100000000000) (hR : R ≤ W.heap.size)
    (h : ∀ v' w', OwnB R w' v' (bs ++ l) → Below R W w' → wpList Tryz.prog ops Q rest (a.put o.dst v') w') : wpList Tryz.prog ops Q (o :: rest) a W := by
  obtain ⟨i0, hi, hz0, hz1, hz2⟩ := info_parts infoB
  refine Lib.wpList_append_own_stringF _ hgd s x 110 9 ho R 5 i0 Tryz.underlying110 Tryz.underlying9 hi hz0 hz1 hz2 v _ _ hs hown ⟨l.toArray⟩ hx ?_ ?_ hR ?_
  · rw [byteVals_len]; show bs.length + l.length ≤ maxLen; unfold maxLen; omega
  · rw [byteVals_len]; show bs.length + l.length ≤ _; omega
  · intro v' w' hown' hg _
    refine h v' w' ?_ ?_
    · unfold OwnB OwnV
      rw [byteVals_app, List.length_append, byteVals_len, byteVals_len]
      rw [byteVals_len] at hown'
      exact hown'
    · refine ⟨hg.os, hg.tape, hg.output, hg.size, fun k hk => hg.block k (by omega) (fun e => ?_)⟩
      have := (hown.lt k e.symm).1
      omega
theorem OwnB.bytes {R : Nat} {w : World} {g c n : Nat} {bs : List UInt8} (h : OwnB R w (.slice (some ⟨g, 0, none⟩) n c) bs) : Lib.Bytes w g 0 ⟨bs.toArray⟩ := by
  intro i hi
  have hi : i < bs.length := hi
  obtain ⟨g', c', e, _, hc⟩ := OwnV.cell h (i := i) (by rw [byteVals_len]; exact hi)
  cases e
  rw [Nat.zero_add, hc]
  simp [byteVals, Lib.byteCells]
  rfl
theorem own_convert {R : Nat} {w : World} {v : Value} {bs : List UInt8} (h : OwnB R w v bs) : (convert 110 9 v).run Tryz.prog w = .ok (.string ⟨bs.toArray⟩) w := by
  have h2 := h.2
  have h1 := byteVals_len bs
  rcases h2 with ⟨rfl, h0⟩ | ⟨g, cap, cur, fz, rfl, _⟩
  · obtain rfl : bs = [] := List.eq_nil_of_length_eq_zero (by omega)
    simp [convert, run_underlying Tryz.underlying110, run_underlying Tryz.underlying9]
    simp [Conv.bytesToString]
    rfl
  · have := Lib.run_convert_whole (P := Tryz.prog) w 110 5 9 Tryz.underlying110 Tryz.underlying5 Tryz.underlying9 g 0 _ (OwnB.bytes h) cap
    rw [show (⟨bs.toArray⟩ : ByteArray).size = bs.length from rfl] at this
    rw [h1]
    exact this
end Go.Proofs.YtdapdadcninidaaGreatDoor
namespace Go.Proofs.YtdapdadcninidaaGreatDoor
open Go.RowKit

theorem ok_inj {α : Type} {v v' : α} {w w' : World} (h : (Result.ok v w : Result α) = .ok v' w') : v = v' ∧ w = w' := by cases h; exact ⟨rfl, rfl⟩
theorem append_lies_str {w : World} (R : Nat) (ty : TypeId) (v : Value) (bs l : List UInt8) (hown : OwnB R w v bs) (hlen : bs.length + l.length ≤ 100000000000) (hR : R ≤ w.heap.size) :
    ∃ v' w', (Builtin.append_ #[110, 9] ty #[v, .string ⟨l.toArray⟩]).run Tryz.prog w = .ok v' w' ∧ OwnB R w' v' (bs ++ l) ∧ Mod (fun k => v.ownBlock = some k) w w' ∧ (v'.ownBlock = v.ownBlock ∨ ∃ g, v'.ownBlock = some g ∧ w.heap.size ≤ g) := by
  obtain ⟨i0, hi, hz0, hz1, hz2⟩ := info_parts infoB
  have hs : (⟨l.toArray⟩ : ByteArray).size = l.length := by simp [ByteArray.size]
  have hbl : (byteVals bs).length = bs.length := byteVals_len bs
  have h1 : bs.length + (⟨l.toArray⟩ : ByteArray).size ≤ maxLen := by rw [hs]; unfold maxLen; omega
  have h2 : bs.length + (⟨l.toArray⟩ : ByteArray).size ≤ 140737488355328 := by rw [hs]; omega
  have hown' : w.ownsRowF R 5 1 v bs.length (byteVals bs) := by have := hown; unfold OwnB OwnV at this; rwa [hbl] at this
  obtain ⟨v', w', hr, ho, hg, -⟩ := Lib.run_append_own_stringF (P := Tryz.prog) w R 110 9 ty 5 i0 Tryz.underlying110 Tryz.underlying9 hi hz0 hz1 hz2 v bs.length (byteVals bs) hown' ⟨l.toArray⟩ h1 h2 hR
  refine ⟨v', w', hr, ?_, Mod.of_grown hg fun k hk => hk.symm ▸ rfl, ?_⟩
  · unfold OwnB OwnV
    rw [byteVals_len, List.length_append, byteVals_app]
    rw [hs] at ho
    exact ho
  · rcases hown'.2 with ⟨rfl, h0⟩ | ⟨g, cap, cur, fz, rfl, hbg, hgg, hfz, hnc, hcm, hcs, htake⟩
    · obtain ⟨v2, w2, hr2, ho2, -, -⟩ := Lib.run_append_own_stringF (P := Tryz.prog) w w.heap.size 110 9 ty 5 i0 Tryz.underlying110 Tryz.underlying9 hi hz0 hz1 hz2 (.slice none 0 0) bs.length (byteVals bs) ⟨hown'.1, .inl ⟨rfl, h0⟩⟩ ⟨l.toArray⟩ h1 h2 (Nat.le_refl _)
      obtain ⟨rfl, rfl⟩ := ok_inj (hr.symm.trans hr2)
      cases hv : v'.ownBlock with
      | none => exact .inl rfl
      | some k => exact .inr ⟨k, rfl, (ho2.lt k hv).1⟩
    · by_cases hroom : bs.length + (⟨l.toArray⟩ : ByteArray).size ≤ cap
      · have hr2 := Lib.run_append_room_stringF (P := Tryz.prog) w 110 9 ty 5 i0 Tryz.underlying110 Tryz.underlying9 hi hz1 g bs.length cap cur fz hgg (by simpa using hfz) ⟨l.toArray⟩ hroom (by omega)
        obtain ⟨rfl, rfl⟩ := ok_inj (hr.symm.trans hr2)
        exact .inl rfl
      · have holds : ∀ j u, (byteVals bs)[j]? = some u → w.cell? ((⟨g, 0, none⟩ : Addr).add j) = some u := hown'.cells (g := g) rfl
        have hr2 := Lib.run_append_grow_string (P := Tryz.prog) w 110 9 ty 5 i0 (.int .u8 0) Tryz.underlying110 Tryz.underlying9 hi hz0 ⟨g, 0, none⟩ bs.length cap (byteVals bs) (by rw [hz1, hbl]; omega) holds ⟨l.toArray⟩ (by omega) (by rw [hs]; omega) (by rw [hz2]; exact growslice_fits (by rw [hs]; omega) (by rw [hs]; omega))
        obtain ⟨rfl, rfl⟩ := ok_inj (hr.symm.trans hr2)
        exact .inr ⟨w.heap.size, rfl, Nat.le_refl _⟩
end Go.Proofs.YtdapdadcninidaaGreatDoor
/- append inside a fence, and where the new row lies: a string to bytes, an element to a slice of ints. No condition but the length. -/
namespace Go.Proofs.YtdapdadcninidaaGreatDoor
open Go.RowKit

theorem in_append_str {F : Fence} {n : Nat} {ops : Array Oper} {rest : List Oper} {o : Oper} {a : Act} {Q : Exit → Act → World → Prop} {W : World} (hgd : o.guard = none) (sl x : Operand)
    (ho : o.op = .call { callee := .builtin .append, args := #[sl, x], argTypes := #[110, 9] })
    (R : Nat) (v : Value) (bs l : List UInt8) (hs : a.eval sl = v) (hown : OwnB R W v bs) (hx : a.eval x = .string ⟨l.toArray⟩) (hlen : bs.length + l.length ≤ 100000000000) (hR : R ≤ W.heap.size)
    (h : ∀ v' w', OwnB R w' v' (bs ++ l) → Mod (fun k => v.ownBlock = some k) W w' → (v'.ownBlock = v.ownBlock ∨ ∃ g, v'.ownBlock = some g ∧ W.heap.size ≤ g) → wpListIn F n Tryz.prog ops Q rest (a.put o.dst v') w') :
    wpListIn F n Tryz.prog ops Q (o :: rest) a W := by
  refine wpListIn_plain hgd fun K hK => ?_
  obtain ⟨v', w', hr, h2, h3, h4⟩ := append_lies_str R o.type v bs l hown hlen hR
  unfold Oper.wpIn
  refine ⟨?_, ?_⟩
  · simp [Oper.about, ho, resolve, Target.leads, Sem.run_pure]
  · rw [Oper.semAt_plain F _ _ (by rw [ho]; intro c hc'; cases hc')]
    simp [execOp, ho, resolve, invoke, builtin, hs, hx, hr, Result.andThen]
    exact hK _ _ (h v' w' h2 h3 h4)
theorem infoI : (Tryz.prog.info? 3).map (fun i => (i.zero, i.size, i.bytes)) = some (some (.int .i64 0), 1, 8) := by kernel_rfl
theorem in_append_int {F : Fence} {n : Nat} {ops : Array Oper} {rest : List Oper} {o : Oper} {a : Act} {Q : Exit → Act → World → Prop} {W : World} (hgd : o.guard = none) (sl x : Operand)
    (ho : o.op = .call { callee := .builtin .append, args := #[sl, x], argTypes := #[53, 53] })
    (R : Nat) (v : Value) (xs : List Value) (u : Value) (hs : a.eval sl = v) (hown : W.ownsRow R 3 1 v xs.length xs) (hu : u.oneCell' = true) (hx : a.eval x = .slice (some ⟨W.heap.size, 0, none⟩) 1 1) (hlen : xs.length + 1 ≤ 1000000000) (hR : R ≤ W.heap.size)
    (h : ∀ v' w', w'.ownsRow R 3 1 v' (xs.length + 1) (xs ++ [u]) → Mod (fun k => v.ownBlock = some k) W w' → (v'.ownBlock = v.ownBlock ∨ ∃ g, v'.ownBlock = some g ∧ W.heap.size ≤ g) → wpListIn F n Tryz.prog ops Q rest (a.put o.dst v') w') :
    wpListIn F n Tryz.prog ops Q (o :: rest) a (W.alloc (.cells #[u] 3)) := by
  obtain ⟨i0, hi, hz0, hz1, hz2⟩ := info_parts infoI
  refine wpListIn_plain hgd fun K hK => ?_
  have hown2 : (W.alloc (.cells #[u] 3)).ownsRow R 3 1 v xs.length xs := ownsRow_below hown (balloc W _)
  obtain ⟨g, cap, w', hr, h2, h3, h4, h5⟩ := run_append_lies (P := Tryz.prog) (W.alloc (.cells #[u] 3)) 53 o.type R 3 i0 (.int .i64 0) 1 8 Tryz.underlying53 hi hz0 hz1 hz2 rfl (by decide) v xs.length xs hown2 ⟨W.heap.size, 0, none⟩ 1 1 [u] rfl
    (news_new (H := W.heap.size) (cs := [u]) rfl) (by intro y hy; simp at hy; subst hy; exact hu) (by decide) (by unfold maxLen; omega) (by omega) (by simp; omega) (W.heap.size + 1) (by simp)
  unfold Oper.wpIn
  refine ⟨?_, ?_⟩
  · simp [Oper.about, ho, resolve, Target.leads, Sem.run_pure]
  · rw [Oper.semAt_plain F _ _ (by rw [ho]; intro c hc'; cases hc')]
    simp [execOp, ho, resolve, invoke, builtin, hs, hx, hr, Result.andThen]
    refine hK _ _ (h _ w' h2 ?_ ?_)
    · exact (Mod.alloc _ W _).trans (Mod.of_grown h3 fun k hk => hk.symm ▸ rfl)
    · rcases h4 with h4 | h4
      · exact .inl (by rw [h4]; rfl)
      · exact .inr ⟨g, rfl, by omega⟩
end Go.Proofs.YtdapdadcninidaaGreatDoor
namespace Go.Proofs.YtdapdadcninidaaGreatDoor
open Go.RowKit
attribute [local go_sem ↓] Go.wp_at_zero Go.wp_at_succ

def attV (a : Att) : Value := .agg #[.int .i64 a.space, .string ⟨a.name.toArray⟩, .string ⟨a.value.toArray⟩]
def sameA (x y : Att) : Bool := x.space == y.space && x.name == y.name
/-- The attributes that a slice shows. -/
def AttsAt (w : World) (a : Option Addr) (l : List Att) : Prop := ∀ j y, l[j]? = some y → ∃ g, a = some ⟨g, 0, none⟩ ∧ w.cell? ⟨g, j * 3, none⟩ = some (.int .i64 y.space) ∧ w.cell? ⟨g, j * 3 + 1, none⟩ = some (.string ⟨y.name.toArray⟩) ∧ w.cell? ⟨g, j * 3 + 2, none⟩ = some (.string ⟨y.value.toArray⟩)
theorem attCells_at : ∀ (l : List Att) (j : Nat) (y : Att), l[j]? = some y → (attCells l)[j * 3]? = some (.int .i64 y.space) ∧ (attCells l)[j * 3 + 1]? = some (strV y.name) ∧ (attCells l)[j * 3 + 2]? = some (strV y.value)
  | [], _, _, h => by simp at h
  | x :: l, 0, y, h => by
    obtain rfl : x = y := by simpa using h
    exact ⟨rfl, rfl, rfl⟩
  | x :: l, j + 1, y, h => by
    have ih := attCells_at l j y (by simpa using h)
    rw [show (j + 1) * 3 = j * 3 + 3 by omega]
    exact ih
theorem attCells_app (l m : List Att) : attCells (l ++ m) = attCells l ++ attCells m := by simp [attCells]
theorem AttsAt.own {w : World} {b c : Nat} {a : Option Addr} {l : List Att} (h : w.ownsRow b 121 3 (.slice a l.length c) l.length (attCells l)) : AttsAt w a l := by
  intro j y hj
  have hl := (List.getElem?_eq_some_iff.1 hj).1
  obtain ⟨h1, ⟨h2, h3⟩ | ⟨g, cap, cur, h2, h3, h4, h5, h6, h7, h8⟩⟩ := h
  · omega
  · cases h2
    obtain ⟨c0, c1, c2⟩ := attCells_at l j y hj
    have hn := attCells_len l
    have get : ∀ i v, (attCells l)[i]? = some v → i < l.length * 3 → w.cell? ⟨g, i, none⟩ = some v := fun i v hv hi => by
      rw [cell_of_row w g _ cur _ _ h4, ← Array.getElem?_toList]
      rw [← h8, List.getElem?_take] at hv
      by_cases hi2 : i < l.length * 3
      · rw [if_pos (by omega)] at hv; exact hv
      · exact absurd hi hi2
    exact ⟨g, rfl, get _ _ c0 (by omega), get _ _ c1 (by omega), get _ _ c2 (by omega)⟩
theorem AttsAt.later {w w' : World} {a : Option Addr} {l : List Att} (h : AttsAt w a l) (hb : Below w.heap.size w w') : AttsAt w' a l := by
  intro j y hj
  obtain ⟨g, e, c0, c1, c2⟩ := h j y hj
  have hg := World.block_lt_of_cell? _ _ c0
  exact ⟨g, e, (hb.cell (p := ⟨g, j * 3, none⟩) hg).trans c0, (hb.cell (p := ⟨g, j * 3 + 1, none⟩) hg).trans c1, (hb.cell (p := ⟨g, j * 3 + 2, none⟩) hg).trans c2⟩
set_option maxRecDepth 100000 in
theorem onceF_any (x y : Att) (w : World) {bx : Nat} (c0 : w.cell? ⟨bx, 0, none⟩ = some (.int .i64 x.space)) (c1 : w.cell? ⟨bx, 1, none⟩ = some (.string ⟨x.name.toArray⟩)) :
    Calls Tryz.prog 87 #[attV y, .pointer (some ⟨bx, 0, none⟩)] w (Ret w (.bool (sameA x y))) := by
  obtain ⟨xs, xn, xv⟩ := x
  obtain ⟨ys, yn, yv⟩ := y
  dsimp only at c0 c1
  have hb := World.block_lt_of_cell? _ _ c0
  unfold attV sameA
  have HB0 := Lib.hid (fun o => balloc w o)
  dsimp only
  cases h1 : (xs == ys)
  · go_enter Tryz.func87, Tryz.ntmps87
    go_wp2
    all_goals
      go_ret
      exact Ret.mk (by simp [h1]) (HB0.out _)
  · go_enter Tryz.func87, Tryz.ntmps87
    go_wp2
    all_goals
      go_ret
      exact Ret.mk (by simp [h1]) (HB0.out _)
set_option maxRecDepth 100000 in
/-- The search by a closure. -/
theorem aIndexF_any (l : List Att) (p : Att → Bool) (F : Nat) (cap : Array Value) (w : World) {a : Option Addr} {c : Nat} (hl : l.length ≤ 1000000) (hc : AttsAt w a l)
    (eg : ∀ args w', (callFunc F args).run Tryz.prog w' = .ok (.enter F args) w') (hF : ∀ y w', Below w.heap.size w w' → Calls Tryz.prog F (#[attV y] ++ cap) w' (Ret w' (.bool (p y)))) :
    Calls Tryz.prog 137 #[.slice a l.length c, .func (.func F) #[] cap] w fun e w' => (∃ i : Int, e = .returned (.int .i64 i) ∧ decide (0 ≤ i) = l.any p) ∧ Below w.heap.size w w' := by
  have HC := Lib.hid hc; have HFF := Lib.hid hF
  obtain ⟨b, hb⟩ : ∃ b, l.any p = b := ⟨_, rfl⟩
  rw [hb]
  have HBV := Lib.hid hb
  clear hc hb hF
  go_enter Tryz.func137, Tryz.ntmps137
  go_wp2_with fail
  go_loopw [4, 5, 8] (fun _ _ i wr => ∃ k : Nat, k ≤ l.length ∧ i = .int .i64 k ∧ (l.take k).any p = false ∧ Below w.heap.size w wr) (fun _ _ i _ => l.length - (intOf i).toNat)
  case atStart => exact ⟨0, Nat.zero_le _, rfl, rfl, Below.refl _ _⟩
  case round =>
    obtain ⟨k, hk, rfl, hall, hbw⟩ := hrel
    have HA := Lib.hid hall; have HB := Lib.hid hbw
    clear hall hbw
    by_cases hlt : k < l.length
    · obtain ⟨g, rfl, c0, c1, c2⟩ := (HC.out.later HB.out) k l[k] (List.getElem?_eq_getElem hlt)
      obtain ⟨z, hz⟩ : ∃ z, l[k] = z := ⟨_, rfl⟩
      rw [hz] at c0 c1 c2
      have hki : (k : Int) < (l.length : Int) := by omega
      have H1 := HFF.out z wr HB.out
      have hN : (l.take (k + 1)).any p = p z := by
        rw [List.take_succ_eq_append_getElem hlt, hz, List.any_append, HA.out]; simp
      have hT : p z = true → b = true := fun hp => by
        rw [← HBV.out, List.any_eq_true]
        exact ⟨z, hz ▸ List.getElem_mem hlt, hp⟩
      have HN := Lib.hid hN; have HT := Lib.hid hT
      obtain ⟨q, hq⟩ : ∃ q, p z = q := ⟨_, rfl⟩
      rw [hq] at H1 HN HT
      unfold attV at H1
      have H1 := Lib.hid H1
      clear hz hN hT hq
      go_wp2_with fail
      refine H1.out.mono ?_
      rintro e w1 ⟨rfl, b1⟩
      have HB1 := Lib.hid (bthen HB.out HB.out.size b1)
      clear b1 H1
      have HT := Lib.hid (fun (h : q = true) => HT.out h)
      cases q
      · go_wp2_with fail
        go_roundw
        case rel => exact ⟨k + 1, by omega, by go_num, HN.out, HB1.out⟩
        case measure => simp [intOf]; omega
      · go_wp2_with fail
        go_ret
        exact ⟨⟨_, rfl, by have := HT.out (by simp); rw [this]; simp⟩, HB1.out⟩
    · have HR : Hid (b = false) := Lib.hid (by
        have := HA.out
        rwa [List.take_of_length_le (by omega), HBV.out] at this)
      go_wp2_with fail
      go_ret
      exact ⟨⟨_, rfl, by rw [HR.out]; rfl⟩, HB.out⟩
theorem eg_once (args : Array Value) (w : World) : (callFunc 87 args).run Tryz.prog w = .ok (.enter 87 args) w := by simp [go_sem]
set_option maxRecDepth 100000 in
theorem aContF_any (l : List Att) (p : Att → Bool) (F : Nat) (cap : Array Value) (w : World) {a : Option Addr} {c : Nat} (hl : l.length ≤ 1000000) (hc : AttsAt w a l)
    (eg : ∀ args w', (callFunc F args).run Tryz.prog w' = .ok (.enter F args) w') (hF : ∀ y w', Below w.heap.size w w' → Calls Tryz.prog F (#[attV y] ++ cap) w' (Ret w' (.bool (p y)))) :
    Calls Tryz.prog 86 #[.slice a l.length c, .func (.func F) #[] cap] w (Ret w (.bool (l.any p))) := by
  have H1 := Lib.hid (aIndexF_any l p F cap w (c := c) hl hc eg hF)
  clear hc eg hF
  generalize l.any p = b at *
  go_enter Tryz.func86, Tryz.ntmps86
  go_wp2_with fail
  refine H1.out.mono ?_
  rintro e w1 ⟨⟨i, rfl, hi⟩, hb⟩
  have HI := Lib.hid hi; have HB := Lib.hid hb
  clear hi hb H1
  go_wp2_with fail
  go_ret
  exact Ret.mk (by simp [HI.out]) HB.out
theorem ownsRow_ge {w : World} {b n s : Nat} {e : TypeId} {v : Value} {xs : List Value} (h : w.ownsRow b e s v n xs) {g : Nat} (hg : v.ownBlock = some g) : b ≤ g := by
  rcases h.2 with ⟨rfl, _⟩ | ⟨g', cap, cur, rfl, hge, _⟩
  · simp [Value.ownBlock] at hg
  · simp [Value.ownBlock] at hg
    subst hg
    exact hge
theorem append_att {ops : Array Oper} {rest : List Oper} {o : Oper} {a : Act} {Q : Exit → Act → World → Prop} {W : World} (hgd : o.guard = none) (s x : Operand)
    (ho : o.op = .call { callee := .builtin .append, args := #[s, x], argTypes := #[40, 40] })
    (R : Nat) (v : Value) (l : List Att) (hs : a.eval s = v) (hown : W.ownsRow R 121 3 v l.length (attCells l)) (y : Att) (hx : a.eval x = .slice (some ⟨W.heap.size, 0, none⟩) 1 1)
    (hlen : l.length + 1 ≤ 1000000) (hR : R ≤ W.heap.size)
    (h : ∀ v' w', w'.ownsRow R 121 3 v' (l.length + 1) (attCells (l ++ [y])) → Below R W w' → wpList Tryz.prog ops Q rest (a.put o.dst v') w') :
    wpList Tryz.prog ops Q (o :: rest) a (W.alloc (.cells #[.int .i64 y.space, .string ⟨y.name.toArray⟩, .string ⟨y.value.toArray⟩] 121)) := by
  obtain ⟨i0, hi, hz0, hz1, hz2⟩ := info_parts infoA
  refine wpList_append_own _ hgd s x 40 ho R 121 i0 _ 3 40 Tryz.underlying40 hi hz0 hz1 hz2 rfl (by decide) v l.length (attCells l) hs (ownsRow_below hown (balloc W _)) ⟨W.heap.size, 0, none⟩ 1 1 (attCells [y]) hx rfl ?_ ?_ ?_ ?_ ?_ ?_
  · exact news_new (H := W.heap.size) (cs := attCells [y]) rfl
  · intro u hu
    simp [attCells] at hu
    rcases hu with rfl | rfl | rfl <;> rfl
  · unfold maxLen; omega
  · omega
  · simp; omega
  · intro v' w' hown' hg _
    refine h v' w' (by rw [attCells_app]; exact hown') ?_
    have hb := (balloc W (.cells #[.int .i64 y.space, .string ⟨y.name.toArray⟩, .string ⟨y.value.toArray⟩] 121))
    refine ⟨hg.os.trans hb.os, hg.tape.trans hb.tape, hg.output.trans hb.output, Nat.le_trans hb.size hg.size, fun k hk => ?_⟩
    refine (hg.block k (by simp; omega) (fun e => ?_)).trans (hb.block k (by omega))
    have := ownsRow_ge hown e.symm
    omega
/-- The first of each namespace and name. -/
def onceF : List Att → List Att → List Att × Bool
  | out, [] => (out, true)
  | out, x :: xs => if spaceOk x.space then onceF (if out.any (sameA x) then out else out ++ [x]) xs else ([], false)
theorem onceF_len : ∀ (out l : List Att), (onceF out l).1.length ≤ out.length + l.length
  | out, [] => by simp [onceF]
  | out, x :: xs => by
    rw [onceF]
    split
    · have := onceF_len (if out.any (sameA x) then out else out ++ [x]) xs
      have h2 : (if out.any (sameA x) then out else out ++ [x]).length ≤ out.length + 1 := by split <;> simp
      simp only [List.length_cons]
      omega
    · simp
set_option maxRecDepth 100000 in
set_option maxHeartbeats 2000000 in
theorem once_any (l : List Att) (w : World) {a : Option Addr} {c : Nat} (hl : l.length ≤ 100000) (hc : AttsAt w a l) :
    Calls Tryz.prog 39 #[.slice a l.length c] w fun e w' => ∃ va vc, e = .returned (.tuple #[.slice va (onceF [] l).1.length vc, .bool (onceF [] l).2]) ∧ w'.ownsRow w.heap.size 121 3 (.slice va (onceF [] l).1.length vc) (onceF [] l).1.length (attCells (onceF [] l).1) ∧ Below w.heap.size w w' := by
  have HC := Lib.hid hc
  have HSP := Lib.hid (fun s w' H c hc => spaces_one s w' (H := H) (c := c) hc)
  have hmf : ∀ (fn : Fn) (first cap : Array Value) (w : World), (Instr.makeFunc fn first cap).run Tryz.prog w = .ok (.func fn first cap) w := fun _ _ _ _ => rfl
  clear hc
  go_enter Tryz.func39, Tryz.ntmps39
  go_wp2_with fail
  go_loopw [2, 3, 4, 9] (fun _ _ o i wr => ∃ (k : Nat) (out : List Att) (va : Option Addr) (vc : Nat), k ≤ l.length ∧ i = .int .i64 k ∧ o = .slice va out.length vc ∧ out.length ≤ k ∧ wr.ownsRow w.heap.size 121 3 (.slice va out.length vc) out.length (attCells out) ∧ Below w.heap.size w wr ∧ onceF out (l.drop k) = onceF [] l) (fun _ _ _ i _ => l.length - (intOf i).toNat)
  case atStart => exact ⟨0, [], none, 0, Nat.zero_le _, rfl, rfl, Nat.zero_le _, ⟨rfl, .inl ⟨rfl, rfl⟩⟩, Below.refl _ _, rfl⟩
  case round =>
    obtain ⟨k, out, va, vc, hk, rfl, rfl, hol, hown, hbw, hfo⟩ := hrel
    have HOW := Lib.hid hown; have HB := Lib.hid hbw; have HFO := Lib.hid hfo
    clear hown hbw hfo
    by_cases hlt : k < l.length
    · obtain ⟨g, rfl, c0, c1, c2⟩ := (HC.out.later HB.out) k l[k] (List.getElem?_eq_getElem hlt)
      have hdr : l.drop k = l[k] :: l.drop (k + 1) := List.drop_eq_getElem_cons hlt
      have hfo := HFO.out
      rw [hdr] at hfo
      obtain ⟨z, hz⟩ : ∃ z, l[k] = z := ⟨_, rfl⟩
      rw [hz] at c0 c1 c2 hfo
      rw [onceF] at hfo
      have hki : (k : Int) < (l.length : Int) := by omega
      have HF2 := Lib.hid hfo
      clear hfo hdr hz
      obtain ⟨zs, zn, zv⟩ := z
      dsimp only at c0 c1 c2
      go_wp2_with fail
      generalize hW2 : (wr.alloc _).alloc _ = W2
      have hb2 : Below wr.heap.size wr W2 := by rw [← hW2]; exact (balloc _ _).alloc (by simp) _
      have hx2 : W2.heap[wr.heap.size]? = some (.cells #[.int .i64 zs, .string ⟨zn.toArray⟩, .string ⟨zv.toArray⟩] 121 (0, 0)) := by rw [← hW2]; exact (Below.heap_alloc _ _ _ (by simp)).trans (World.alloc_heap_new wr _)
      have hs2 : W2.cell? ⟨wr.heap.size + 1, 0, none⟩ = some (.int .i64 zs) := by
        rw [← hW2]
        have e1 := World.alloc_heap_new (wr.alloc (.cells #[.int .i64 zs, .string ⟨zn.toArray⟩, .string ⟨zv.toArray⟩] 121)) (.cells #[.int .i64 zs] 29)
        rw [World.size_alloc] at e1
        rw [cell_of_row _ _ _ _ _ _ e1]; rfl
      have HX2 := Lib.hid hx2; have HB2 := Lib.hid (bthen HB.out HB.out.size hb2); have HBW := Lib.hid hb2
      refine (HSP.out _ _ _ _ hs2).mono ?_
      clear hW2 hb2 hx2 hs2
      rintro e w3 ⟨rfl, rfl⟩
      cases hsp : spaceOk zs
      · rw [if_neg (by simp [hsp])] at HF2
        clear hsp
        go_wp2_with fail
        go_ret2
        exact ⟨none, 0, by rw [← HF2.out]; rfl, by rw [← HF2.out]; exact ⟨rfl, .inl ⟨rfl, rfl⟩⟩, HB2.out⟩
      · rw [if_pos hsp] at HF2
        have hxl := (Array.getElem?_eq_some_iff.1 HX2.out).1
        have H4 := aContF_any out (sameA ⟨zs, zn, zv⟩) 87 #[.pointer (some ⟨wr.heap.size, 0, none⟩)] W2 (a := va) (c := vc) (by omega) ((AttsAt.own HOW.out).later HBW.out) eg_once (fun y w' hb => by
          have hx := (hb.block _ hxl).trans HX2.out
          exact onceF_any ⟨zs, zn, zv⟩ y w' (bx := wr.heap.size) (by rw [cell_of_row _ _ _ _ _ _ hx]; rfl) (by rw [cell_of_row _ _ _ _ _ _ hx]; rfl))
        have H4 := Lib.hid H4
        obtain ⟨q, hq⟩ : ∃ q, out.any (sameA ⟨zs, zn, zv⟩) = q := ⟨_, rfl⟩
        rw [hq] at H4 HF2
        clear hsp c0 c1 c2 hq
        go_wp2_with fail
        refine H4.out.mono ?_
        rintro e w4 ⟨rfl, b4⟩
        have HB4 := Lib.hid (bthen HB2.out HB2.out.size b4)
        have hx4 := (b4.block _ hxl).trans HX2.out
        have HOW4 := Lib.hid (ownsRow_below (ownsRow_below HOW.out HBW.out) b4)
        have e0 : w4.cell? ⟨wr.heap.size, 0, none⟩ = some (.int .i64 zs) := by rw [cell_of_row _ _ _ _ _ _ hx4]; rfl
        have e1 : w4.cell? ⟨wr.heap.size, 1, none⟩ = some (.string ⟨zn.toArray⟩) := by rw [cell_of_row _ _ _ _ _ _ hx4]; rfl
        have e2 : w4.cell? ⟨wr.heap.size, 2, none⟩ = some (.string ⟨zv.toArray⟩) := by rw [cell_of_row _ _ _ _ _ _ hx4]; rfl
        clear b4 hx4 H4 hxl
        cases q
        · rw [if_neg (by simp)] at HF2
          go_wp2_with (at_builtin; refine append_att rfl _ _ rfl w.heap.size _ out rfl (by exact HOW4.out) ⟨zs, zn, zv⟩ rfl (by omega) (by exact HB4.out.size) ?_; intro v' w5 hown5 hb5; obtain ⟨va5, vc5, rfl⟩ := ownsRow_slice hown5)
          have HOW5 := Lib.hid hown5; have HB5 := Lib.hid (HB4.out.trans hb5)
          clear hown5 hb5
          go_roundw
          case rel => exact ⟨k + 1, out ++ [⟨zs, zn, zv⟩], va5, vc5, by omega, by go_num, by simp, by simp; omega, by simpa using HOW5.out, HB5.out, HF2.out⟩
          case measure => simp [intOf]; omega
        · rw [if_pos rfl] at HF2
          go_wp2_with fail
          go_roundw
          case rel => exact ⟨k + 1, out, va, vc, by omega, by go_num, rfl, by omega, HOW4.out, HB4.out, HF2.out⟩
          case measure => simp [intOf]; omega
    · have hke : k = l.length := by omega
      subst hke
      have hfo := HFO.out
      rw [List.drop_length, onceF] at hfo
      have HF2 := Lib.hid hfo
      clear hfo
      go_wp2_with fail
      go_ret2
      exact ⟨va, vc, by rw [← HF2.out]; rfl, by rw [← HF2.out]; exact HOW.out, HB.out⟩
end Go.Proofs.YtdapdadcninidaaGreatDoor
namespace Go.Proofs.YtdapdadcninidaaGreatDoor
open Go.RowKit
attribute [local go_sem ↓] Go.wp_at_zero Go.wp_at_succ

theorem ownsRow_zero {w : World} {b n s : Nat} {e : TypeId} {v : Value} {xs : List Value} (h : w.ownsRow b e s v n xs) : w.ownsRow 0 e s v n xs := by
  refine ⟨h.1, ?_⟩
  rcases h.2 with h | ⟨g, cap, cur, hv, _, r⟩
  · exact .inl h
  · exact .inr ⟨g, cap, cur, hv, Nat.zero_le _, r⟩
theorem ownsRow_base {w : World} {b c n s : Nat} {e : TypeId} {v : Value} {xs : List Value} (hbc : c ≤ b) (h : w.ownsRow b e s v n xs) : w.ownsRow c e s v n xs := by
  refine ⟨h.1, ?_⟩
  rcases h.2 with h | ⟨g, cap, cur, hv, hge, r⟩
  · exact .inl h
  · exact .inr ⟨g, cap, cur, hv, Nat.le_trans hbc hge, r⟩
/-- add, of a node without children; its attributes lie in new memory. -/
theorem addA_any (d : Nd) (av : Value) (w0 w : World) {B : AB} {O : List Nat} {ns : List Nd} (hA : ArW B O ns w) (hl : ns.length ≤ 1000000) (hlt : ∀ k ∈ O, k < w0.heap.size) (hb : Below w0.heap.size w0 w) (hk : d.kids = [])
    (ha : w.ownsRow w0.heap.size 121 3 av d.attrs.length (attCells d.attrs)) :
    Calls Tryz.prog 36 #[.pointer (some ⟨B, 0, none⟩), .agg (ndCells d nilS av).toArray] w fun e w' => e = .returned (.int .i64 ((ns.length + 1 : Nat) : Int)) ∧ ∃ O', ArW B O' (ns ++ [d]) w' ∧ AStep O w0 O' w' := by
  obtain ⟨tab, L, h1, rfl, rfl⟩ := hA
  have hbl : blocks B tab (L ++ [⟨d, nilS, av⟩]) = blocks B tab L ++ av.ownBlock.toList := by simp [blocks, nilS, Value.ownBlock]
  have hg : ∀ g, av.ownBlock = some g → w0.heap.size ≤ g := fun g hg => ownsRow_ge ha hg
  have hnd : (blocks B tab (L ++ [⟨d, nilS, av⟩])).Nodup := by
    rw [hbl]
    refine List.nodup_append.2 ⟨h1.nd, by cases av.ownBlock <;> simp, ?_⟩
    rintro a ha b hb rfl
    have h2 := hg a (by simpa using hb)
    have h3 := hlt a ha
    omega
  have := add_any ⟨d, nilS, av⟩ w h1 (by simpa using hl) ⟨by rw [hk]; rfl, .inl ⟨rfl, by rw [hk]; rfl⟩⟩ (ownsRow_zero ha) hnd
  rw [hbl] at this
  refine this.mono fun e w' ⟨he, tab', h2, h3⟩ => ⟨by rw [he, List.length_map]; rfl, _, ⟨tab', _, h2, rfl, by simp⟩, ?_, ?_⟩
  · refine ⟨h3.mod.os.trans hb.os, h3.mod.tape.trans hb.tape, h3.mod.output.trans hb.output, Nat.le_trans hb.size h3.mod.size, fun k hk hO => ?_⟩
    refine (h3.mod.block k (Nat.lt_of_lt_of_le hk hb.size) fun hm => ?_).trans (hb.block k hk)
    rcases List.mem_append.1 hm with hm | hm
    · exact hO hm
    · have := hg k (by simpa using hm); omega
  · intro k hk
    rcases h3.own k hk with hm | hm
    · rcases List.mem_append.1 hm with hm | hm
      · exact .inl hm
      · exact .inr (hg k (by simpa using hm))
    · exact .inr (Nat.le_trans hb.size hm)
/-- The error of Element. -/
def eltE (ns : List Nd) (doc s : Int) (l : List Att) : Int := if docE ns doc ≠ 0 then docE ns doc else if (onceF [] l).2 && spaceOk s then 0 else 2
/-- Element has made its node, or has refused. -/
def EltQ (B : AB) (O : List Nat) (ns : List Nd) (w : World) (er : Int) (d : Nd) (e : Ending) (w' : World) : Prop :=
  (er ≠ 0 ∧ e = .returned (.tuple #[.int .i64 0, .int .i64 er]) ∧ Below w.heap.size w w') ∨
  (er = 0 ∧ e = .returned (.tuple #[.int .i64 ((ns.length + 1 : Nat) : Int), .int .i64 0]) ∧ ∃ O', ArW B O' (ns ++ [d]) w' ∧ AStep O w O' w')
set_option maxRecDepth 100000 in
set_option maxHeartbeats 2000000 in
theorem ElementA_any (doc : Nat) (s : Int) (nm : List UInt8) (l : List Att) (w : World) {B : AB} {O : List Nat} {ns : List Nd} {a : Option Addr} {c : Nat} (hA : ArW B O ns w) (hl : ns.length ≤ 1000000) (ht : (nm == tmplW) = false) (hal : l.length ≤ 100000) (hc : AttsAt w a l) :
    Calls Tryz.prog 9 #[.pointer (some ⟨B, 0, none⟩), .int .i64 (doc : Int), .int .i64 s, .string ⟨nm.toArray⟩, .slice a l.length c] w (EltQ B O ns w (eltE ns doc s l) { kind := 4, space := s, name := nm, doc := doc, attrs := (onceF [] l).1 }) := by
  have H1 := Lib.hid (document_any (doc : Int) w hA hl)
  have H2 := Lib.hid (fun w' (hb : Below w.heap.size w w') => once_any l w' (a := a) (c := c) hal (hc.later hb))
  have HS := Lib.hid (fun w' H c hc => spaces_one s w' (H := H) (c := c) hc)
  have HA := Lib.hid hA; have HT := Lib.hid ht
  have HE : Hid (eltE ns doc s l = if docE ns doc ≠ 0 then docE ns doc else if (onceF [] l).2 && spaceOk s then 0 else 2) := Lib.hid rfl
  have hol := onceF_len [] l
  generalize eltE ns doc s l = er at *
  generalize onceF [] l = oc at *
  obtain ⟨ol, ok⟩ := oc
  dsimp only at *
  clear hA ht hc
  obtain ⟨z, hz⟩ : ∃ z, docE ns (doc : Int) = z := ⟨_, rfl⟩
  rw [hz] at H1 HE
  by_cases h0 : z = 0
  · subst h0
    have HE2 := Lib.hid (HE.out.trans (if_neg (by simp)))
    clear HE hz
    go_enter Tryz.func9, Tryz.ntmps9
    go_wp2_with fail
    refine H1.out.mono ?_
    rintro e w1 ⟨rfl, b1⟩
    have H3 := Lib.hid (H2.out w1 b1)
    have HB1 := Lib.hid b1
    clear b1 H1 H2
    go_wp2_with fail
    refine H3.out.mono ?_
    rintro e w2 ⟨va, vc, rfl, hr, b2⟩
    have HR := Lib.hid hr; have HB2 := Lib.hid (bthen HB1.out HB1.out.size b2); have HB12 := Lib.hid b2
    clear hr b2 H3
    cases ok
    · have HE3 : Hid (er = 2) := Lib.hid (by rw [HE2.out]; rfl)
      have HF := Lib.hid (fun (w' : World) (hb : Below w.heap.size w w') => show EltQ B O ns w er { kind := 4, space := s, name := nm, doc := doc, attrs := ol } (.returned (.tuple #[.int .i64 0, .int .i64 2])) w' from .inl ⟨by rw [HE3.out]; decide, by rw [HE3.out], hb⟩)
      go_wp2_with fail
      go_ret2
      exact HF.out _ HB2.out
    · cases hsp : spaceOk s
      · have HE3 : Hid (er = 2) := Lib.hid (by rw [HE2.out, hsp]; rfl)
        have HF := Lib.hid (fun (w' : World) (hb : Below w.heap.size w w') => show EltQ B O ns w er { kind := 4, space := s, name := nm, doc := doc, attrs := ol } (.returned (.tuple #[.int .i64 0, .int .i64 2])) w' from .inl ⟨by rw [HE3.out]; decide, by rw [HE3.out], hb⟩)
        rw [hsp] at HS
        clear hsp HE2
        go_wp2_with fail
        refine (HS.out _ _ _ (by simp)).mono ?_
        rintro e w3 ⟨rfl, rfl⟩
        have HB3 := Lib.hid (HB2.out.alloc HB2.out.size (.cells #[.int .i64 s] 29))
        go_wp2_with fail
        go_ret2
        exact HF.out _ HB3.out
      · have HE3 : Hid (er = 0) := Lib.hid (by rw [HE2.out, hsp]; rfl)
        rw [hsp] at HS
        clear hsp HE2
        go_wp2_with fail
        refine (HS.out _ _ _ (by simp)).mono ?_
        rintro e w3 ⟨rfl, rfl⟩
        have HB3 := Lib.hid (HB2.out.alloc HB2.out.size (.cells #[.int .i64 s] 29))
        have H5 := Lib.hid (addA_any { kind := 4, space := s, name := nm, doc := doc, attrs := ol } (.slice va ol.length vc) w _ (HA.out.later HB3.out) hl (fun k hk => HA.out.lt hk) HB3.out rfl (ownsRow_base (Nat.le_trans HB1.out.size (Nat.le_refl _)) (ownsRow_below HR.out (balloc w2 _))))
        go_wp2_with fail
        refine H5.out.mono ?_
        rintro e w4 ⟨rfl, O', hA2, hS2⟩
        have hx : (ns ++ [({ kind := 4, space := s, name := nm, doc := doc, attrs := ol } : Nd)])[ns.length]? = some { kind := 4, space := s, name := nm, doc := doc, attrs := ol } := by simp
        obtain ⟨g, cap, kv, av, c0, hn, -, -⟩ := hA2.node hx
        have hlen : (ns ++ [({ kind := 4, space := s, name := nm, doc := doc, attrs := ol } : Nd)]).length = ns.length + 1 := by simp
        rw [hlen] at c0
        have H6 := Lib.hid (at_any ns.length w4 c0 (Nat.lt_succ_self _) (by omega))
        have H7 := Lib.hid (template_no _ kv av w4 hn rfl HT.out)
        have HF := Lib.hid (show EltQ B O ns w er { kind := 4, space := s, name := nm, doc := doc, attrs := ol } (.returned (.tuple #[.int .i64 ((ns.length + 1 : Nat) : Int), .int .i64 0])) w4 from .inr ⟨HE3.out, rfl, O', hA2, hS2⟩)
        clear hA2 hS2 hn c0 hlen hx H5
        obtain ⟨y, hy⟩ : ∃ y : Int, ((ns.length + 1 : Nat) : Int) = y := ⟨_, rfl⟩
        rw [hy] at HF H6 ⊢
        clear hy
        go_wp2_with (first | (go_at_call 37; refine H6.out.mono ?_; rintro e w5 ⟨rfl, rfl⟩) | (go_at_call 41; refine H7.out.mono ?_; rintro e w5 ⟨rfl, rfl⟩))
        go_ret2
        exact HF.out
  · have h1 : (z != 0) = true := by simpa using h0
    have HF := Lib.hid (fun (w' : World) (hb : Below w.heap.size w w') => show EltQ B O ns w er { kind := 4, space := s, name := nm, doc := doc, attrs := ol } (.returned (.tuple #[.int .i64 0, .int .i64 z])) w' from .inl ⟨by rw [HE.out, if_pos h0]; exact h0, by rw [HE.out, if_pos h0], hb⟩)
    clear HE hz h0
    go_enter Tryz.func9, Tryz.ntmps9
    go_wp2_with fail
    refine H1.out.mono ?_
    rintro e w1 ⟨rfl, b1⟩
    have HB1 := Lib.hid b1
    clear b1
    go_wp2_with fail
    go_ret2
    exact HF.out _ HB1.out
end Go.Proofs.YtdapdadcninidaaGreatDoor
namespace Go.Proofs.YtdapdadcninidaaGreatDoor
open Go.RowKit

/-- What the loop's body may turn. -/
def BoP (m n1 : Nat) (I : Nat → Prop) (k : Nat) : Prop := ¬ I k ∧ ¬ (m ≤ k ∧ k < n1)
/-- THE ITERATOR's CONTRACT: it hands xs to yield, one after the other, as long as yield says yes. -/
def IterP {α : Type} (F : Fence) (n : Nat) (P : Program) (g : Nat) (lb : Array Value) (encs : α → Array Value) (xs : List α) (I : Nat → Prop) (Pr : World → Prop) (w : World) : Prop :=
  ∀ (l : Nat) (J Jx : Nat → Nat → World → Prop) (W : World), Below w.heap.size w W →
    (∀ n1 i A B, J n1 i A → Mod (ItS W.heap.size n1 I) A B → J n1 i B) → (∀ n1 i A B, Jx n1 i A → Mod (ItS W.heap.size n1 I) A B → Jx n1 i B) →
    (∀ n1 i A, J n1 i A → Pr A) →
    (∀ n1 i x W1, xs[i]? = some x → J n1 i W1 → W.heap.size ≤ n1 → n1 ≤ W1.heap.size → YieldAt F (n - 1) P l (encs x) W1 fun e W' =>
      ((e = .returned (.bool true) ∧ J n1 (i + 1) W') ∨ (e = .returned (.bool false) ∧ Jx n1 (i + 1) W')) ∧ Mod (BoP W.heap.size n1 I) W1 W') →
    (∀ n1, W.heap.size ≤ n1 → J n1 0 W) →
    CallsIn F n P g (#[.func (.yield l) #[] #[]] ++ lb) W fun e W' => (∃ v, e = .returned v) ∧ ∃ n1, W.heap.size ≤ n1 ∧ n1 ≤ W'.heap.size ∧ (J n1 xs.length W' ∨ ∃ i, i ≤ xs.length ∧ Jx n1 i W')

variable {F : Fence} {n : Nat} {P : Program}
theorem wpIn_rangeFunc_itp {α : Type} {g : Operand} {ps : Array Tmp} {assign body : Code} {Q : Exit → Act → World → Prop} {a : Act} {w : World}
    (hro : F.round = none) (h1 : 1 ≤ n) {gf : Nat} {lb : Array Value} (hg : a.eval g = .func (.func gf) #[] lb) (hFg : F.fn gf) (eg : ∀ args w, (callFunc gf args).run P w = .ok (.enter gf args) w)
    {encs : α → Array Value} {xs : List α} {I : Nat → Prop} {Pr : World → Prop} (hseq : IterP F (n - 1) P gf lb encs xs I Pr w)
    (hI : ∀ k, I k → k < w.heap.size) (hps : ∀ x, (encs x).size = ps.size)
    (J : Nat → Nat → World → Prop) (Jx : Nat → Code → Nat → World → Prop)
    (hJ : ∀ n1 i A B, J n1 i A → Mod (ItS w.heap.size n1 I) A B → J n1 i B) (hJx : ∀ n1 c i A B, Jx n1 c i A → Mod (ItS w.heap.size n1 I) A B → Jx n1 c i B)
    (hP : ∀ n1 i A, J n1 i A → Pr A)
    (h0 : ∀ n1, w.heap.size ≤ n1 → J n1 0 w)
    (hround : ∀ (l : Nat) (x : α) (W : World),
      assign.wpIn (F.inRound l) (n - 1 - 1) P (Exit.then (fun a₁ W₁ => W₁ = W ∧ ∀ (n1 i : Nat) (W' : World), xs[i]? = some x → J n1 i W' → w.heap.size + 2 ≤ n1 → n1 ≤ W'.heap.size →
        body.wpIn (F.inRound l) (n - 1 - 1) P (bodyPostI (J n1) (Jx n1) (BoP w.heap.size n1 I) i W') a₁ W') (fun _ _ _ => False)) { tmps := (ps.zip (encs x)).foldl (fun t (p, v) => t.setIfInBounds p v) a.tmps, defers := [] } W)
    (hdone : ∀ (D n1 : Nat) (W : World), w.heap.size + 2 ≤ n1 → n1 ≤ W.heap.size → J n1 xs.length W → D = w.heap.size → W.heap[D]? = some (.deferred (some [])) → Q .normal { a with defers := { target := .collected D, args := #[] } :: a.defers } W)
    (hstop : ∀ (D n1 : Nat) (c : Code) (i : Nat) (W : World), w.heap.size + 2 ≤ n1 → n1 ≤ W.heap.size → i ≤ xs.length → Jx n1 c i W → D = w.heap.size → W.heap[D]? = some (.deferred (some [])) → c.wpIn F n P Q { a with defers := { target := .collected D, args := #[] } :: a.defers } W) :
    (Code.rangeFunc g ps assign body).wpIn F n P Q a w := by
  refine wpIn_rangeFunc ?_
  intro fn hfn
  rw [hro]
  obtain ⟨rec, hrec⟩ : ∃ rec : LoopState → Option Code → Loop, rec = fun st pe => { state := st, pending := pe, fn, tmps := a.tmps, params := ps, assign, body, defers := w.heap.size } := ⟨_, rfl⟩
  obtain ⟨W1, hW1⟩ : ∃ W1, (w.alloc (.deferred (some []))).alloc (.loop (rec .ready none)) = W1 := ⟨_, rfl⟩
  have hL1 : W1.heap[w.heap.size + 1]? = some (.loop (rec .ready none)) := by
    rw [← hW1]; have := World.alloc_heap_new (w.alloc (.deferred (some []))) (.loop (rec .ready none)); rwa [World.size_alloc] at this
  have hK1 : W1.heap[w.heap.size]? = some (.deferred (some [])) := by
    rw [← hW1]; exact (Below.heap_alloc _ _ _ (by simp)).trans (World.alloc_heap_new w _)
  have hs1 : W1.heap.size = w.heap.size + 2 := by rw [← hW1]; simp
  have hM1 : ∀ S, Mod S w W1 := fun S => by rw [← hW1]; exact (Mod.alloc S w _).trans (Mod.alloc S _ _)
  -- a step of the iterator is one of those that the caller's words abide
  have up : ∀ n1 k, ItS W1.heap.size n1 I k → ItS w.heap.size n1 I k := fun n1 k h => by
    rcases h with h | h
    · exact .inl h
    · exact .inr ⟨by omega, h.2⟩
  have nI : ∀ k, I k → k < w.heap.size := hI
  refine ⟨w.heap.size + 1, [{ target := .collected w.heap.size, args := #[] }], W1, { target := .fn (.func gf) lb, args := #[.func (.yield (w.heap.size + 1)) #[] #[]] }, W1, gf,
    #[.func (.yield (w.heap.size + 1)) #[] #[]] ++ lb, W1, ?_, ?_, ?_, ?_, fun _ => h1, ?_⟩
  · rw [← hW1, hrec]; exact run_enterLoop_outer _ _ _ _ _
  · simp only [resolve, hg]
    simp [go_sem]
  · intro f' hf'; simp [Target.leads] at hf'; subst hf'; exact hFg
  · simp [invoke, go_sem, eg]
  · have book : ∀ {n1 k}, k = w.heap.size ∨ k = w.heap.size + 1 → ¬ ItS W1.heap.size n1 I k := fun {n1 k} hk h => by
      rcases h with h | h
      · have := nI k h; omega
      · omega
    refine (hseq (w.heap.size + 1)
      (fun n1 i W => J n1 i W ∧ W.heap[w.heap.size + 1]? = some (.loop (rec .ready none)) ∧ W.heap[w.heap.size]? = some (.deferred (some [])))
      (fun n1 i W => i ≤ xs.length ∧ ∃ c, Jx n1 c i W ∧ W.heap[w.heap.size + 1]? = some (.loop (rec .done (some c))) ∧ W.heap[w.heap.size]? = some (.deferred (some [])))
      W1 ((hM1 (fun _ => False)).below (Nat.le_refl _) (fun _ _ h => h)) ?_ ?_ (fun n1 i A h => hP n1 i A h.1) ?_ ?_).mono ?_
    · rintro n1 i A B ⟨hj, hl, hk⟩ hm
      refine ⟨hJ n1 i A B hj (hm.mono fun k _ => up n1 k), (hm.block _ (Array.getElem?_eq_some_iff.1 hl).1 (book (.inr rfl))).trans hl, (hm.block _ (Array.getElem?_eq_some_iff.1 hk).1 (book (.inl rfl))).trans hk⟩
    · rintro n1 i A B ⟨hi, c, hj, hl, hk⟩ hm
      exact ⟨hi, c, hJx n1 c i A B hj (hm.mono fun k _ => up n1 k), (hm.block _ (Array.getElem?_eq_some_iff.1 hl).1 (book (.inr rfl))).trans hl, (hm.block _ (Array.getElem?_eq_some_iff.1 hk).1 (book (.inl rfl))).trans hk⟩
    · rintro n1 i x W hx ⟨hj, hl, hk⟩ hn1 hn1'
      have hlt : w.heap.size + 1 < W.heap.size := (Array.getElem?_eq_some_iff.1 hl).1
      have hi : i < xs.length := (List.getElem?_eq_some_iff.1 hx).1
      have hy := run_yield (P := P) (args := encs x) hl (by rw [hrec]; exact hps x)
      rw [hrec] at hy
      refine ⟨fn, _, assign, body, hy, roundIn_of_wpIn hfn (wpIn_mono (hround _ x W) ?_)⟩
      rintro (_ | _ | _ | _ | _ | _) a₁ W₁ hW₁ <;> first | exact hW₁.elim | skip
      obtain ⟨hWe, hbody⟩ := hW₁
      have hWe' := hWe.symm
      subst hWe'
      refine ⟨_, run_beginRound hl (by rw [hrec]), ?_⟩
      have inI : ItS w.heap.size n1 I (w.heap.size + 1) := .inr ⟨by omega, by omega⟩
      have inB : BoP W1.heap.size n1 I (w.heap.size + 1) := ⟨fun h => by have := nI _ h; omega, by omega⟩
      have hl2 : (W.putObj (w.heap.size + 1) (.loop { rec .ready none with state := .busy })).heap[w.heap.size + 1]? = some (.loop { rec .ready none with state := .busy }) := World.putObj_heap_same hlt
      have hk2 : (W.putObj (w.heap.size + 1) (.loop { rec .ready none with state := .busy })).heap[w.heap.size]? = some (.deferred (some [])) := (World.putObj_heap_other (by omega)).trans hk
      refine wpIn_mono (hbody n1 i _ hx (hJ n1 i _ _ hj (Mod.putObj _ _ inI)) (by omega) (by simp; omega)) ?_
      have fin : ∀ (jump : Option Code) (W3 : World), Mod (BoP w.heap.size n1 I) (W.putObj (w.heap.size + 1) (.loop { rec .ready none with state := .busy })) W3 →
          (Instr.endRound (w.heap.size + 1) jump).run P W3 = .ok (.bool jump.isNone) (W3.putObj (w.heap.size + 1) (.loop (rec (if jump.isNone then .ready else .done) jump))) ∧
          Mod (BoP W1.heap.size n1 I) W (W3.putObj (w.heap.size + 1) (.loop (rec (if jump.isNone then .ready else .done) jump))) ∧
          (W3.putObj (w.heap.size + 1) (.loop (rec (if jump.isNone then .ready else .done) jump))).heap[w.heap.size + 1]? = some (.loop (rec (if jump.isNone then .ready else .done) jump)) ∧
          (W3.putObj (w.heap.size + 1) (.loop (rec (if jump.isNone then .ready else .done) jump))).heap[w.heap.size]? = some (.deferred (some [])) := fun jump W3 hm3 => by
        have hl3 := (hm3.block _ (Array.getElem?_eq_some_iff.1 hl2).1 (fun h => h.2 ⟨by omega, by omega⟩)).trans hl2
        have hk3 := (hm3.block _ (Array.getElem?_eq_some_iff.1 hk2).1 (fun h => h.2 ⟨by omega, by omega⟩)).trans hk2
        have := run_endRound (P := P) jump hl3
        rw [hrec] at this ⊢
        refine ⟨this, ?_, World.putObj_heap_same (Array.getElem?_eq_some_iff.1 hl3).1, (World.putObj_heap_other (by omega)).trans hk3⟩
        exact ((Mod.putObj W _ inB).trans (hm3.mono fun k _ h => ⟨h.1, fun h' => h.2 ⟨by omega, h'.2⟩⟩)).trans (Mod.putObj W3 _ inB)
      rintro e a3 W3 hp
      cases e with
      | normal =>
        obtain ⟨hj3, hm3⟩ := hp
        obtain ⟨hr, hmm, hl4, hk4⟩ := fin none W3 hm3
        exact ⟨_, _, hr, .inl ⟨rfl, hJ n1 (i + 1) _ _ hj3 (Mod.putObj W3 _ inI), hl4, hk4⟩, hmm⟩
      | ret =>
        obtain ⟨hj3, hm3⟩ := hp
        obtain ⟨hr, hmm, hl4, hk4⟩ := fin (some .ret) W3 hm3
        exact ⟨_, _, hr, .inr ⟨rfl, by omega, .ret, hJx n1 _ (i + 1) _ _ hj3 (Mod.putObj W3 _ inI), hl4, hk4⟩, hmm⟩
      | exit id =>
        obtain ⟨hj3, hm3⟩ := hp
        obtain ⟨hr, hmm, hl4, hk4⟩ := fin (some (.exit id)) W3 hm3
        exact ⟨_, _, hr, .inr ⟨rfl, by omega, .exit id, hJx n1 _ (i + 1) _ _ hj3 (Mod.putObj W3 _ inI), hl4, hk4⟩, hmm⟩
      | goto t =>
        obtain ⟨hj3, hm3⟩ := hp
        obtain ⟨hr, hmm, hl4, hk4⟩ := fin (some (.goto t)) W3 hm3
        exact ⟨_, _, hr, .inr ⟨rfl, by omega, .goto t, hJx n1 _ (i + 1) _ _ hj3 (Mod.putObj W3 _ inI), hl4, hk4⟩, hmm⟩
      | panic ch => exact hp.elim
      | outgrown => exact hp.elim
    · intro n1 hn1
      exact ⟨hJ n1 0 _ _ (h0 n1 (by omega)) (hM1 _), hL1, hK1⟩
    · rintro e W2 ⟨⟨v, rfl⟩, n1, hn1, hn2, (⟨hj, hl, hk⟩ | ⟨i, hi', hi, c, hj, hl, hk⟩)⟩
      · have inI : ItS w.heap.size n1 I (w.heap.size + 1) := .inr ⟨by omega, by omega⟩
        exact ⟨none, _, by have := run_endLoop (P := P) hl (by rw [hrec]; simp); rw [hrec] at this; exact this, hdone _ n1 _ (by omega) (by simp; omega) (hJ n1 _ _ _ hj (Mod.putObj W2 _ inI)) rfl ((World.putObj_heap_other (by omega)).trans hk)⟩
      · have inI : ItS w.heap.size n1 I (w.heap.size + 1) := .inr ⟨by omega, by omega⟩
        exact ⟨some c, _, by have := run_endLoop (P := P) hl (by rw [hrec]; simp); rw [hrec] at this; exact this, hstop _ n1 c i _ (by omega) (by simp; omega) hi (hJx n1 c i _ _ hj (Mod.putObj W2 _ inI)) rfl ((World.putObj_heap_other (by omega)).trans hk)⟩
end Go.Proofs.YtdapdadcninidaaGreatDoor
namespace Go.Proofs.YtdapdadcninidaaGreatDoor
open Go.RowKit
attribute [local go_sem] Oper.semAt_some

/-- The next node on the way up. -/
def upN (ns : List Nd) (ho : Bool) (h : Int) : Int := if (ndAt ns h).parent = 0 ∧ ho = true then (ndAt ns h).host else (ndAt ns h).parent
/-- The way up from a node, which ends. -/
inductive Up (ns : List Nd) (ho : Bool) : Int → List Int → Prop
  | done : Up ns ho 0 []
  | more {h : Int} {xs : List Int} : isH ns.length h = true → Up ns ho (upN ns ho h) xs → Up ns ho h (h :: xs)
theorem Up.zero {ns : List Nd} {ho : Bool} {xs : List Int} (h : Up ns ho 0 xs) : xs = [] := by
  cases h with
  | done => rfl
  | more h1 _ => simp [isH] at h1
theorem Up.step {ns : List Nd} {ho : Bool} {h : Int} {xs : List Int} (hU : Up ns ho h xs) (hz : h ≠ 0) : isH ns.length h = true ∧ ∃ ys, xs = h :: ys ∧ Up ns ho (upN ns ho h) ys := by
  cases hU with
  | done => exact absurd rfl hz
  | more h1 h2 => exact ⟨h1, _, rfl, h2⟩
theorem Up.one {ns : List Nd} {ho : Bool} {h : Int} {xs ys : List Int} (hU : Up ns ho h xs) (hV : Up ns ho h ys) : xs = ys := by
  induction hU generalizing ys with
  | done => exact hV.zero.symm
  | more h1 _ ih => cases hV with
    | done => simp [isH] at h1
    | more _ h2 => rw [ih h2]
open Classical in
/-- The length of the way up. -/
noncomputable def upLen (ns : List Nd) (ho : Bool) (h : Int) : Nat := if e : ∃ ys, Up ns ho h ys then e.choose.length else 0
theorem upLen_of {ns : List Nd} {ho : Bool} {h : Int} {xs : List Int} (hU : Up ns ho h xs) : upLen ns ho h = xs.length := by
  have e : ∃ ys, Up ns ho h ys := ⟨xs, hU⟩
  rw [upLen, dif_pos e, hU.one e.choose_spec]
/-- Only its own blocks count. -/
theorem ArW.same {B : AB} {O : List Nat} {ns : List Nd} {w W : World} (h : ArW B O ns w) (hs : w.heap.size ≤ W.heap.size) (hb : ∀ k ∈ O, W.heap[k]? = w.heap[k]?) : ArW B O ns W := by
  have hm : Mod (fun k => k ∉ O) w { w with heap := W.heap } := ⟨rfl, rfl, rfl, hs, fun k _ hk => hb k (Classical.not_not.1 hk)⟩
  obtain ⟨tab, L, h1, h2, h3⟩ := h.kept hm fun k hk hn => hn hk
  exact ⟨tab, L, ⟨h1.hd, h1.row, h1.kid, h1.att, h1.nd⟩, h2, h3⟩
set_option maxRecDepth 100000 in
set_option maxHeartbeats 400000 in
theorem up_iter (ho : Bool) (h : Int) (xs : List Int) (n : Nat) (hn : 3 ≤ n) (w : World) {B : AB} {hb ab sb : Nat} {O : List Nat} {ns : List Nd} (hA : ArW B O ns w) (hl : ns.length ≤ 1000000) (hU : Up ns ho h xs)
    (c1 : w.heap[hb]? = some (.cells #[.int .i64 h] 3 (0, 0))) (c2 : w.cell? ⟨ab, 0, none⟩ = some (.pointer (some ⟨B, 0, none⟩))) (c3 : w.cell? ⟨sb, 0, none⟩ = some (.bool ho)) (hbO : hb ∉ O) (hba : hb ≠ ab) (hbs : hb ≠ sb) :
    IterP Fence.wide n Tryz.prog 138 #[.pointer (some ⟨hb, 0, none⟩), .pointer (some ⟨ab, 0, none⟩), .pointer (some ⟨sb, 0, none⟩)] (fun x : Int => #[.int .i64 x]) xs (fun k => k = hb)
      (fun W => ArW B O ns W ∧ W.cell? ⟨ab, 0, none⟩ = some (.pointer (some ⟨B, 0, none⟩)) ∧ W.cell? ⟨sb, 0, none⟩ = some (.bool ho)) w := by
  intro lp J Jx W hsz hJ hJx hP hY h0
  have hbl : hb < w.heap.size := (Array.getElem?_eq_some_iff.1 c1).1
  have e1 : W.heap[hb]? = some (.cells #[.int .i64 h] 3 (0, 0)) := (hsz.block hb hbl).trans c1
  have hs0 := hsz.size
  have HJ := Lib.hid hJ; have HJX := Lib.hid hJx; have HY := Lib.hid hY; have H0 := Lib.hid (h0 W.heap.size (Nat.le_refl _)); have HP := Lib.hid hP
  clear hJ hJx hY h0 hA c1 c2 c3 hP hsz
  obtain ⟨n1, hn1⟩ : ∃ n1, n1 = W.heap.size := ⟨_, rfl⟩
  rw [← hn1] at H0
  refine callsIn_of_wp Tryz.func138 rfl trivial ?_ rfl
  simp only [Tryz.ntmps138, List.size_toArray, List.length_cons, List.length_nil, Nat.reduceAdd, Nat.reduceSub, Array.replicate_succ, Array.replicate_zero, List.push_toArray, List.append_toArray, List.nil_append, List.cons_append]
  gi_wp2_with fail
  gi_loopw [5] (fun _ wr => ∃ (i : Nat) (hc : Int), i ≤ xs.length ∧ Up ns ho hc (xs.drop i) ∧ n1 ≤ wr.heap.size ∧ wr.heap[hb]? = some (.cells #[.int .i64 hc] 3 (0, 0)) ∧ J n1 i wr)
    (fun _ wr => match wr.cell? ⟨hb, 0, none⟩ with | some (.int .i64 z) => upLen ns ho z | _ => 0)
  case atStart => exact ⟨0, h, Nat.zero_le _, hU, by omega, e1, H0.out⟩
  case round =>
    obtain ⟨i, hc, hi, hu, hs1, e4, hj⟩ := hrel
    obtain ⟨hA1, e5, e6⟩ := HP.out _ _ _ hj
    have e7 : wr.cell? ⟨hb, 0, none⟩ = some (.int .i64 hc) := by rw [cell_of_row _ _ _ _ _ _ e4]; rfl
    have e7x := e7
    by_cases hz : hc = 0
    · subst hz
      have hie : i = xs.length := by
        have := congrArg List.length hu.zero
        simp at this
        omega
      have HF := Lib.hid (hie ▸ hj)
      clear hu hA1 hj H0 e1 hie
      gi_wp2_with fail
      refine ⟨by simp, ?_⟩
      gi_wp2_with fail
      go_end0
      exact ⟨⟨_, rfl⟩, n1, by omega, hs1, .inl HF.out⟩
    · have HN : (hc != 0) = true := by simpa using hz
      obtain ⟨hh, ys, hxe, hu2⟩ := hu.step hz
      have hxi : xs[i]? = some hc := by
        have h1 : (List.drop i xs)[0]? = some hc := by rw [hxe]; rfl
        simpa using h1
      have hil : i < xs.length := (List.getElem?_eq_some_iff.1 hxi).1
      have hdi : xs.drop (i + 1) = ys := by rw [← List.drop_drop, hxe]; rfl
      obtain ⟨fn, tmps, assign, body, hy, hR⟩ := HY.out n1 i _ wr hxi hj (by omega) (by omega)
      have HR := Lib.hid hR
      rw [← hdi] at hu2
      have hm1 : upLen ns ho (upN ns ho hc) < upLen ns ho hc := by
        rw [upLen_of hu2, upLen_of hu, hxe, hdi]; simp
      have HU2 := Lib.hid hu2; have HM1 := Lib.hid hm1
      clear hR e1 H0 hj hxi hxe hu hu2 hdi hm1
      have hbl2 : hb < wr.heap.size := (Array.getElem?_eq_some_iff.1 e4).1
      gi_wp2_with fail
      refine ⟨fun _ => by omega, ?_⟩
      refine HR.out.mono ?_
      rintro e W3 ⟨(⟨rfl, hj3⟩ | ⟨rfl, hj3⟩), hm3⟩
      · obtain ⟨hA3, k5, k6⟩ := HP.out _ _ _ hj3
        have k4 : W3.heap[hb]? = some (.cells #[.int .i64 hc] 3 (0, 0)) := (hm3.block hb hbl2 (fun h => h.1 rfl)).trans e4
        have k7 : W3.cell? ⟨hb, 0, none⟩ = some (.int .i64 hc) := by rw [cell_of_row _ _ _ _ _ _ k4]; rfl
        have hs3 := hm3.size
        obtain ⟨g, cap, kv, av, ix, -, hx, c0, hn, -, -, hat⟩ := atW_any hc W3 hA3 hh hl
        have n1c := hn.c1
        have n12 := hn.c12
        have hgO : g ∈ O := by
          obtain ⟨tab, L, h1, h2, h3⟩ := hA3
          rw [← h2]
          rw [h1.c0] at c0
          cases c0
          exact mem_blocks.2 (.inr (.inl rfl))
        have hgb : ¬ (g = hb) := fun e => hbO (e ▸ hgO)
        have f7 : W3.frozen? ⟨hb, 0, none⟩ = false := Lib.frozen_of_heap k4 0
        have H2 := Lib.hid (hat W3 rfl)
        have HJ3 := Lib.hid hj3; have K4 := Lib.hid k4
        have HD : Hid (∀ p q, (ndAt ns hc).parent = p → (ndAt ns hc).host = q → upN ns ho hc = if p = 0 ∧ ho = true then (q : Int) else p) := Lib.hid (by rintro p q rfl rfl; rfl)
        obtain ⟨p, hp⟩ : ∃ p, (ndAt ns hc).parent = p := ⟨_, rfl⟩
        obtain ⟨q, hq⟩ : ∃ q, (ndAt ns hc).host = q := ⟨_, rfl⟩
        have HE := Lib.hid (HD.out p q hp hq)
        rw [hp] at n1c
        rw [hq] at n12
        clear hj3 hm3 hy HR hA1 hA3 hat hx hn e7 e6 e5 k4 c0 hp hq HD
        have HMU : Hid (∀ u, wr.cell? ⟨hb, 0, none⟩ = some (.int .i64 u) → (match wr.cell? ⟨hb, 0, none⟩ with | some (.int .i64 z) => upLen ns ho z | _ => 0) = upLen ns ho u) := Lib.hid (fun u e => by rw [e])
        have HME := Lib.hid (HMU.out hc (e7x))
        have HREL : Hid (∀ (z : Int) (W4 : World), W4.heap[hb]? = some (.cells #[.int .i64 z] 3 (0, 0)) → z = upN ns ho hc → Mod (fun k => k = hb) W3 W4 →
            (∃ (i : Nat) (hc : Int), i ≤ xs.length ∧ Up ns ho hc (xs.drop i) ∧ n1 ≤ W4.heap.size ∧ W4.heap[hb]? = some (.cells #[.int .i64 hc] 3 (0, 0)) ∧ J n1 i W4) ∧
            (match W4.cell? ⟨hb, 0, none⟩ with | some (.int .i64 z) => upLen ns ho z | _ => 0) < (match wr.cell? ⟨hb, 0, none⟩ with | some (.int .i64 z) => upLen ns ho z | _ => 0)) := Lib.hid (by
          rintro z W4 h4 rfl hm
          refine ⟨⟨i + 1, _, by omega, HU2.out, by have := hm.size; omega, h4, HJ.out _ _ _ _ HJ3.out (hm.mono fun k _ h => .inl h)⟩, ?_⟩
          have h5 : W4.cell? ⟨hb, 0, none⟩ = some (.int .i64 (upN ns ho hc)) := by rw [cell_of_row _ _ _ _ _ _ h4]; rfl
          rw [HME.out, h5]
          exact HM1.out)
        clear HMU HME e7x
        have hset : ∀ z, (W3.setCell ⟨hb, 0, none⟩ (.int .i64 z)).heap[hb]? = some (.cells #[.int .i64 z] 3 (0, 0)) := fun z => by rw [Joins.block_setCell (i := 0) K4.out]; rfl
        have hset2 : ∀ z y, ((W3.setCell ⟨hb, 0, none⟩ (.int .i64 z)).setCell ⟨hb, 0, none⟩ (.int .i64 y)).heap[hb]? = some (.cells #[.int .i64 y] 3 (0, 0)) := fun z y => by rw [Joins.block_setCell (i := 0) (hset z)]; rfl
        have HS := Lib.hid hset; have HS2 := Lib.hid hset2
        clear hset hset2 HJ3 HJ HU2 HM1
        by_cases hp0 : p = 0
        · subst hp0
          cases ho
          · have HV : Hid (upN ns false hc = 0) := Lib.hid (by rw [HE.out]; rfl)
            gi_wp2_with (refine call_wide H2.out ?_ (by omega); rintro e w4 ⟨rfl, rfl⟩)
            go_roundw
            case rel => exact (HREL.out 0 _ (HS.out _) HV.out.symm (Mod.setCell _ _ rfl)).1
            case measure => exact (HREL.out 0 _ (HS.out _) HV.out.symm (Mod.setCell _ _ rfl)).2
          · have HV : Hid (upN ns true hc = (q : Int)) := Lib.hid (by rw [HE.out]; rfl)
            gi_wp2_with (refine call_wide H2.out ?_ (by omega); rintro e w4 ⟨rfl, rfl⟩)
            go_roundw
            case rel => exact (HREL.out q _ (HS2.out _ _) HV.out.symm (Mod.trans (S := fun k => k = hb) (Mod.setCell _ _ rfl) (Mod.setCell _ _ rfl))).1
            case measure => exact (HREL.out q _ (HS2.out _ _) HV.out.symm (Mod.trans (S := fun k => k = hb) (Mod.setCell _ _ rfl) (Mod.setCell _ _ rfl))).2
        · have HV : Hid (upN ns ho hc = (p : Int)) := Lib.hid (by rw [HE.out, if_neg (fun h => hp0 h.1)])
          have hpz : ((p : Int) == 0) = false := by simpa using hp0
          gi_wp2_with (refine call_wide H2.out ?_ (by omega); rintro e w4 ⟨rfl, rfl⟩)
          go_roundw
          case rel => exact (HREL.out p _ (HS.out _) HV.out.symm (Mod.setCell _ _ rfl)).1
          case measure => exact (HREL.out p _ (HS.out _) HV.out.symm (Mod.setCell _ _ rfl)).2
      · have HJ3 := Lib.hid hj3
        have hs3 := hm3.size
        clear hj3 hm3 hy
        gi_wp2_with fail
        go_end0
        exact ⟨⟨_, rfl⟩, n1, by omega, by omega, .inr ⟨i + 1, by omega, HJ3.out⟩⟩
end Go.Proofs.YtdapdadcninidaaGreatDoor
