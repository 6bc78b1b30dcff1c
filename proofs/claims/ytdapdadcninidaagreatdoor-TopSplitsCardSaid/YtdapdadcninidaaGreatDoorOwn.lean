/- Slices that a call makes itself and appends to: what a step of it leaves. -/
import Derived.Test.YtdapdadcninidaaGreatDoorBase
import Derived.Lib.FrozenHead2
import Derived.RangeFuncNested
import Derived.Lib.SlBytesRow
namespace Go.Proofs.YtdapdadcninidaaGreatDoor
open Go.RowKit

/-- Slice value v owns these one-cell elements of type T; its block lies from block R on. -/
def OwnV (R T : Nat) (w : World) (v : Value) (xs : List Value) : Prop := w.ownsRowF R T 1 v xs.length xs
theorem OwnV.nil (R T : Nat) (w : World) : OwnV R T w (.slice none 0 0) [] := World.ownsRowF_nil _ _ _ _
theorem OwnV.below {R T : Nat} {w w' : World} {v : Value} {xs : List Value} (h : OwnV R T w v xs) (hb : Below w.heap.size w w') : OwnV R T w' v xs := by
  refine ⟨h.1, ?_⟩
  rcases h.2 with h | ⟨g, cap, cur, fz, hv, hg, hgg, r⟩
  · exact .inl h
  · exact .inr ⟨g, cap, cur, fz, hv, hg, (hb.block g (Array.getElem?_eq_some_iff.1 hgg).1).trans hgg, r⟩
theorem OwnV.drewN {R T : Nat} {w : World} {v : Value} {xs : List Value} (h : OwnV R T w v xs) (n : Nat) : OwnV R T (w.drewN n) v xs := h
theorem OwnV.shape {R T : Nat} {w : World} {v : Value} {xs : List Value} (h : OwnV R T w v xs) : ∃ a c, v = .slice a xs.length c := by
  rcases h.2 with ⟨rfl, h0⟩ | ⟨g, cap, cur, fz, rfl, _⟩
  · rw [h0]; exact ⟨_, _, rfl⟩
  · exact ⟨_, _, rfl⟩
theorem OwnV.cell {R T : Nat} {w : World} {v : Value} {xs : List Value} (h : OwnV R T w v xs) {i : Nat} (hi : i < xs.length) : ∃ g c, v = .slice (some ⟨g, 0, none⟩) xs.length c ∧ R ≤ g ∧ w.cell? ⟨g, i, none⟩ = some xs[i] := by
  have hh := h.2
  rcases hh with ⟨rfl, h0⟩ | ⟨g, cap, cur, fz, rfl, hg, r⟩
  · omega
  · refine ⟨g, cap, rfl, hg, ?_⟩
    have := h.cells (g := g) rfl i xs[i] (List.getElem?_eq_getElem hi)
    by_cases h0 : i = 0
    · subst h0; simpa [Addr.add] using this
    · simpa [Addr.add, h0] using this
/-- append of one element: the element's own box lies in the newest block. -/
theorem append_one {P : Program} {ops : Array Oper} {rest : List Oper} {o : Oper} {a : Act} {Q : Exit → Act → World → Prop} {W : World} (hgd : o.guard = none) (s x : Operand) (t : TypeId)
    (ho : o.op = .call { callee := .builtin .append, args := #[s, x], argTypes := #[t, t] })
    (R : Nat) (e : TypeId) (z : Value) (bytes : Nat) (ht : P.underlying t = some (.slice e)) (hi : (P.info? e).map (fun i => (i.zero, i.size, i.bytes)) = some (some z, 1, bytes)) (hz : z.cells.size = 1)
    (v : Value) (xs : List Value) (hs : a.eval s = v) (hown : OwnV R e W v xs) (u : Value) (hu : u.oneCell' = true) (T : TypeId) (hx : a.eval x = .slice (some ⟨W.heap.size, 0, none⟩) 1 1)
    (hlen : xs.length + 1 ≤ 100000000000) (hby : bytes ≤ 1000) (hR : R ≤ W.heap.size)
    (h : ∀ v' w', OwnV R e w' v' (xs ++ [u]) → Below R W w' → wpList P ops Q rest (a.put o.dst v') w') : wpList P ops Q (o :: rest) a (W.alloc (.cells #[u] T)) := by
  obtain ⟨i0, hi, hz0, hz1, hz2⟩ := info_parts hi
  refine wpList_append_ownF _ hgd s x t ho R e i0 z 1 bytes ht hi hz0 hz1 hz2 hz (by decide) v _ xs hs (World.ownsRowF.alloc hown _) ⟨W.heap.size, 0, none⟩ 1 1 [u] hx rfl ?_ ?_ ?_ ?_ ?_ ?_
  · intro j y hj
    match j, hj with
    | 0, hj =>
      simp at hj; subst hj
      show (W.alloc _).cell? ⟨W.heap.size, 0, none⟩ = _
      rw [Lib.cell_of_heap (World.alloc_heap_new W _)]; rfl
  · intro y hy; simp at hy; subst hy; exact hu
  · unfold maxLen; omega
  · refine Nat.le_trans (Nat.mul_le_mul hlen hby) (by decide)
  · simp; omega
  · intro v' w' hown' hg _
    refine h v' w' (by unfold OwnV; rwa [List.length_append]) ?_
    have hb := (balloc W (.cells #[u] T))
    refine ⟨hg.os.trans hb.os, hg.tape.trans hb.tape, hg.output.trans hb.output, Nat.le_trans hb.size hg.size, fun k hk => ?_⟩
    refine (hg.block k (by simp; omega) (fun e => ?_)).trans (hb.block k (by omega))
    have := (hown.lt k e.symm).1
    omega
def byteVals (bs : List UInt8) : List Value := Lib.byteCells bs
theorem byteVals_len (bs : List UInt8) : (byteVals bs).length = bs.length := Lib.byteCells_length bs
theorem byteVals_app (a b : List UInt8) : byteVals (a ++ b) = byteVals a ++ byteVals b := by simp [byteVals, Lib.byteCells]
theorem byteVals_one (c : UInt8) : byteVals [c] = [.int .u8 (c.toNat : Int)] := rfl
/-- The same of a slice of bytes. -/
def OwnB (R : Nat) (w : World) (v : Value) (bs : List UInt8) : Prop := OwnV R 5 w v (byteVals bs)
theorem OwnB.nil (R : Nat) (w : World) : OwnB R w (.slice none 0 0) [] := OwnV.nil _ _ _
theorem OwnB.below {R : Nat} {w w' : World} {v : Value} {bs : List UInt8} (h : OwnB R w v bs) (hb : Below w.heap.size w w') : OwnB R w' v bs := OwnV.below h hb
theorem infoB : (Tryz.prog.info? 5).map (fun i => (i.zero, i.size, i.bytes)) = some (some (.int .u8 0), 1, 1) := by kernel_rfl
theorem append_byte {ops : Array Oper} {rest : List Oper} {o : Oper} {a : Act} {Q : Exit → Act → World → Prop} {W : World} (hgd : o.guard = none) (s x : Operand)
    (ho : o.op = .call { callee := .builtin .append, args := #[s, x], argTypes := #[110, 110] })
    (R : Nat) (v : Value) (bs : List UInt8) (hs : a.eval s = v) (hown : OwnB R W v bs) (c : UInt8) (T : TypeId) (hx : a.eval x = .slice (some ⟨W.heap.size, 0, none⟩) 1 1)
    (hlen : bs.length + 1 ≤ 100000000000) (hR : R ≤ W.heap.size)
    (h : ∀ v' w', OwnB R w' v' (bs ++ [c]) → Below R W w' → wpList Tryz.prog ops Q rest (a.put o.dst v') w') : wpList Tryz.prog ops Q (o :: rest) a (W.alloc (.cells #[.int .u8 (c.toNat : Int)] T)) :=
  append_one hgd s x 110 ho R 5 (.int .u8 0) 1 Tryz.underlying110 infoB rfl v (byteVals bs) hs hown (.int .u8 (c.toNat : Int)) rfl T hx (by rw [byteVals_len]; exact hlen) (by decide) hR
    (fun v' w' h1 h2 => h v' w' (by unfold OwnB; rw [byteVals_app]; exact h1) h2)
theorem append_str {ops : Array Oper} {rest : List Oper} {o : Oper} {a : Act} {Q : Exit → Act → World → Prop} {W : World} (hgd : o.guard = none) (s x : Operand)
    (ho : o.op = .call { callee := .builtin .append, args := #[s, x], argTypes := #[110, 9] })
    (R : Nat) (v : Value) (bs : List UInt8) (hs : a.eval s = v) (hown : OwnB R W v bs) (l : List UInt8) (hx : a.eval x = .string ⟨l.toArray⟩)
    (hlen : bs.length + l.length ≤ 100000000000) (hR : R ≤ W.heap.size)
    (h : ∀ v' w', OwnB R w' v' (bs ++ l) → Below R W w' → wpList Tryz.prog ops Q rest (a.put o.dst v') w') : wpList Tryz.prog ops Q (o :: rest) a W := by
  obtain ⟨i0, hi, hz0, hz1, hz2⟩ := info_parts infoB
  refine Lib.wpList_append_own_stringF _ hgd s x 110 9 ho R 5 i0 Tryz.underlying110 Tryz.underlying9 hi hz0 hz1 hz2 v _ _ hs hown ⟨l.toArray⟩ hx ?_ ?_ hR ?_
  · rw [byteVals_len]; show bs.length + l.length ≤ maxLen; unfold maxLen; omega
  · rw [byteVals_len]; show bs.length + l.length ≤ _; omega
  · intro v' w' hown' hg _
    refine h v' w' ?_ ?_
    · unfold OwnB OwnV
      rw [byteVals_app, List.length_append, byteVals_len, byteVals_len]
      rw [byteVals_len] at hown'
      exact hown'
    · refine ⟨hg.os, hg.tape, hg.output, hg.size, fun k hk => hg.block k (by omega) (fun e => ?_)⟩
      have := (hown.lt k e.symm).1
      omega
theorem OwnB.bytes {R : Nat} {w : World} {g c n : Nat} {bs : List UInt8} (h : OwnB R w (.slice (some ⟨g, 0, none⟩) n c) bs) : Lib.Bytes w g 0 ⟨bs.toArray⟩ := by
  intro i hi
  have hi : i < bs.length := hi
  obtain ⟨g', c', e, _, hc⟩ := OwnV.cell h (i := i) (by rw [byteVals_len]; exact hi)
  cases e
  rw [Nat.zero_add, hc]
  simp [byteVals, Lib.byteCells]
  rfl
theorem own_convert {R : Nat} {w : World} {v : Value} {bs : List UInt8} (h : OwnB R w v bs) : (convert 110 9 v).run Tryz.prog w = .ok (.string ⟨bs.toArray⟩) w := by
  have h2 := h.2
  have h1 := byteVals_len bs
  rcases h2 with ⟨rfl, h0⟩ | ⟨g, cap, cur, fz, rfl, _⟩
  · obtain rfl : bs = [] := List.eq_nil_of_length_eq_zero (by omega)
    simp [convert, run_underlying Tryz.underlying110, run_underlying Tryz.underlying9]
    simp [Conv.bytesToString]
    rfl
  · have := Lib.run_convert_whole (P := Tryz.prog) w 110 5 9 Tryz.underlying110 Tryz.underlying5 Tryz.underlying9 g 0 _ (OwnB.bytes h) cap
    rw [show (⟨bs.toArray⟩ : ByteArray).size = bs.length from rfl] at this
    rw [h1]
    exact this
end Go.Proofs.YtdapdadcninidaaGreatDoor
