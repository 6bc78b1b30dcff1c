/- text.Count, text.Valid, text.Decode, text.Input: loops over the pieces. -/
import Derived.Test.YtgjodmjegmilhaaDoorPcs
import Derived.Test.YtgjodmjegmilhaaDoorNew
namespace Go.Proofs.YtgjodmjegmilhaaDoor
open Go.RowKit
attribute [local go_sem] Oper.semAt_some
attribute [local go_sem] sext

def RetPieces (l : List UInt8) (w : World) (e : Ending) (w' : World) : Prop :=
  ∃ Bb, e = .returned (.func (.func 49) #[] #[.pointer (some ⟨Bb, 0, none⟩)]) ∧ w.heap.size ≤ Bb ∧ w'.cell? ⟨Bb, 0, none⟩ = some (.string ⟨l.toArray⟩) ∧ w'.frozen? ⟨Bb, 0, none⟩ = false ∧ Below w.heap.size w w'
theorem pieces_any (l : List UInt8) (w : World) : Calls Tryd.prog 35 #[.string ⟨l.toArray⟩] w (RetPieces l w) := by
  go_enter Tryd.func35, Tryd.ntmps35
  go_wp2
  go_ret
  exact ⟨w.heap.size, rfl, Nat.le_refl _, by go_cell, by go_cell, by go_grown⟩
theorem enter_pieces1 (args : Array Value) (W : World) : (callFunc 49 args).run Tryd.prog W = .ok (.enter 49 args) W := by simp [go_sem]

/-- Behind the loop the block of its deferred calls is shut. -/
theorem below_put {n D : Nat} {w W : World} {o : Obj} (h : Below n w W) (hD : n ≤ D) : Below n w (W.putObj D o) :=
  ⟨h.os, h.tape, h.output, by simpa using h.size, fun k hk => (World.putObj_heap_other (by omega)).trans (h.block k hk)⟩

/-- Cells of the caller's own, ahead of the loop, abide the iterator's steps. -/
theorem Mod.old {m n1 Bb : Nat} {A B : World} (h : Mod (ItS m n1 (fun k => k = Bb)) A B) {b o : Nat} {v : Value} (hc : A.cell? ⟨b, o, none⟩ = some v) (hb : b < m) (hne : b ≠ Bb) : B.cell? ⟨b, o, none⟩ = some v :=
  (h.cell (p := ⟨b, o, none⟩) (World.block_lt_of_cell? _ _ hc) (fun e => by rcases e with e | e; exact hne e; exact absurd hb (by show ¬ b < m; have := e.1; simp at this; omega))).trans hc
theorem Mod.oldF {m n1 Bb : Nat} {A B : World} (h : Mod (ItS m n1 (fun k => k = Bb)) A B) {b o : Nat} {v : Value} (hc : A.cell? ⟨b, o, none⟩ = some v) (hf : A.frozen? ⟨b, o, none⟩ = false) (hb : b < m) (hne : b ≠ Bb) : B.frozen? ⟨b, o, none⟩ = false :=
  (h.frozen (p := ⟨b, o, none⟩) (World.block_lt_of_cell? _ _ hc) (fun e => by rcases e with e | e; exact hne e; exact absurd hb (by show ¬ b < m; have := e.1; simp at this; omega))).trans hf
theorem Mod.oldB {m n1 Bb n : Nat} {w A B : World} (h : Mod (ItS m n1 (fun k => k = Bb)) A B) (hb : Below n w A) (hn : n ≤ w.heap.size) (hm : n ≤ m) (hB : n ≤ Bb) : Below n w B :=
  hb.trans (h.below (Nat.le_trans hn hb.size) (fun k hk e => by rcases e with e | e <;> omega))
def CountJ (w : World) (i : Nat) (W : World) : Prop := W.cell? ⟨w.heap.size, 0, none⟩ = some (.int .i64 (i : Nat)) ∧ W.frozen? ⟨w.heap.size, 0, none⟩ = false ∧ Below w.heap.size w W
theorem pieces_len_le (l : List UInt8) : (pieces l).length ≤ l.length := by
  have : ∀ n b, (piecesF n b).length ≤ n := by
    intro n
    induction n with
    | zero => intro b; simp [piecesF]
    | succ n ih =>
      intro b
      rw [piecesF]
      split
      · simp
      · have := ih (b.drop (pieceL b).1); simp; omega
  exact this _ _

theorem putObj_cell {W : World} {D b o : Nat} {x : Obj} {v : Value} (h : W.cell? ⟨b, o, none⟩ = some v) (hne : b ≠ D) : (W.putObj D x).cell? ⟨b, o, none⟩ = some v :=
  (World.cell?_of_block (w := W) (World.putObj_heap_other hne)).trans h

def validL (l : List UInt8) : Bool := (pieces l).all fun x => x.2
def ValidJ (l : List UInt8) (w : World) (i : Nat) (W : World) : Prop :=
  (∀ j x, j < i → (pieces l)[j]? = some x → x.2 = true) ∧ (∃ v, W.cell? ⟨w.heap.size, 0, none⟩ = some (.bool v)) ∧ W.frozen? ⟨w.heap.size, 0, none⟩ = false ∧ Below w.heap.size w W
def ValidX (l : List UInt8) (w : World) (c : Code) (W : World) : Prop :=
  c = .ret ∧ validL l = false ∧ W.cell? ⟨w.heap.size, 0, none⟩ = some (.bool false) ∧ Below w.heap.size w W
theorem validL_true {l : List UInt8} (h : ∀ j x, j < (pieces l).length → (pieces l)[j]? = some x → x.2 = true) : validL l = true := by
  unfold validL
  rw [List.all_eq_true]
  intro x hx
  obtain ⟨j, hj, rfl⟩ := List.getElem_of_mem hx
  exact h j _ hj (List.getElem?_eq_getElem hj)
theorem validL_false {l : List UInt8} {i : Nat} {x : Piece} (hx : (pieces l)[i]? = some x) (h : x.2 = false) : validL l = false := by
  unfold validL
  rw [List.all_eq_false]
  exact ⟨x, List.mem_of_getElem? hx, by simp [h]⟩

end Go.Proofs.YtgjodmjegmilhaaDoor
