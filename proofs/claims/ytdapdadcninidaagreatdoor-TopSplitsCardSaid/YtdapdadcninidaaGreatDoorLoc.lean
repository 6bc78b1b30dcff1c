/- A function over an arena with local blocks: what it has done so far. -/
import Derived.Test.YtdapdadcninidaaGreatDoorDm1
import Derived.Test.YtdapdadcninidaaGreatDoorPut
namespace Go.Proofs.YtdapdadcninidaaGreatDoor
open Go.RowKit

/-- From w on: the arena's own blocks were O, are O1 now; n local blocks lie behind w. -/
structure Loc (B n : Nat) (O : List Nat) (w : World) (O1 : List Nat) (ns1 : List Nd) (w1 : World) : Prop where
  ar : ArW B O1 ns1 w1
  md : Mod (· ∈ O) w w1
  ow : ∀ k ∈ O1, k ∈ O ∨ w.heap.size + n ≤ k
  sz : w.heap.size + n ≤ w1.heap.size
  lo : ∀ k ∈ O, k < w.heap.size
theorem Loc.start {B n : Nat} {O : List Nat} {ns : List Nd} {w w1 : World} (hA : ArW B O ns w) (hb : Below w.heap.size w w1) (hs : w1.heap.size = w.heap.size + n) : Loc B n O w O ns w1 :=
  ⟨hA.later hb, Mod.of_below hb, fun _ h => .inl h, by omega, fun _ hk => hA.lt hk⟩
theorem Loc.call {B n : Nat} {O O1 O2 : List Nat} {ns1 ns2 : List Nd} {w w1 w2 : World} (h : Loc B n O w O1 ns1 w1) (hA : ArW B O2 ns2 w2) (hs : AStep O1 w1 O2 w2) : Loc B n O w O2 ns2 w2 := by
  obtain ⟨h1, h2, h3, h4, h5⟩ := h
  refine ⟨hA, ⟨hs.mod.os.trans h2.os, hs.mod.tape.trans h2.tape, hs.mod.output.trans h2.output, Nat.le_trans h2.size hs.mod.size, fun k hk hO => ?_⟩, fun k hk => ?_, Nat.le_trans h4 hs.mod.size, h5⟩
  · refine (hs.mod.block k (by omega) fun hk1 => ?_).trans (h2.block k hk hO)
    rcases h3 k hk1 with h | h
    · exact hO h
    · omega
  · rcases hs.own k hk with h | h
    · exact h3 k h
    · exact .inr (by omega)
/-- A call keeps the local blocks. -/
theorem Loc.keep {B n : Nat} {O O1 O2 : List Nat} {ns1 : List Nd} {w w1 w2 : World} (h : Loc B n O w O1 ns1 w1) (hs : AStep O1 w1 O2 w2) {b : Nat} (hb : w.heap.size ≤ b ∧ b < w.heap.size + n) : w2.heap[b]? = w1.heap[b]? :=
  hs.mod.block b (by have := h.sz; omega) fun hk => by
    rcases h.ow b hk with h1 | h1
    · have := h.lo b h1; omega
    · omega
theorem Loc.below {B n : Nat} {O O1 : List Nat} {ns1 : List Nd} {w w1 w2 : World} (h : Loc B n O w O1 ns1 w1) (hb : Below w1.heap.size w1 w2) : Loc B n O w O1 ns1 w2 :=
  h.call (h.ar.later hb) ⟨Mod.of_below hb, fun _ hk => .inl hk⟩
theorem Loc.set {B n : Nat} {O O1 : List Nat} {ns1 : List Nd} {w w1 : World} (h : Loc B n O w O1 ns1 w1) {b o : Nat} (v : Value) (hb : w.heap.size ≤ b ∧ b < w.heap.size + n) : Loc B n O w O1 ns1 (w1.setCell ⟨b, o, none⟩ v) := by
  obtain ⟨h1, h2, h3, h4, h5⟩ := h
  have hm : Mod (fun k => k = b) w1 (w1.setCell ⟨b, o, none⟩ v) := Mod.setCell _ _ rfl
  refine ⟨h1.kept hm fun k hk e => ?_, ⟨hm.os.trans h2.os, hm.tape.trans h2.tape, hm.output.trans h2.output, Nat.le_trans h2.size hm.size, fun k hk hO => (hm.block k (by omega) (by omega)).trans (h2.block k hk hO)⟩, h3, Nat.le_trans h4 hm.size, h5⟩
  subst e
  rcases h3 k hk with h | h
  · have := h5 k h; omega
  · omega
theorem Loc.drew {B n : Nat} {O O1 : List Nat} {ns1 : List Nd} {w w1 : World} (h : Loc B n O w O1 ns1 w1) : Loc B n O w O1 ns1 w1.drew := h.below ⟨rfl, rfl, rfl, Nat.le_refl _, fun _ _ => rfl⟩
theorem Loc.step {B n : Nat} {O O1 : List Nat} {ns1 : List Nd} {w w1 : World} (h : Loc B n O w O1 ns1 w1) : AStep O w O1 w1 :=
  ⟨h.md, fun k hk => (h.ow k hk).imp id fun h => by omega⟩
/-- A call that sets something, as one step. -/
theorem Did.step {B : Nat} {O : List Nat} {ns ns' : List Nd} {w w' : World} {er : Int} {e : Ending} (hA : ArW B O ns w) (h : Did B O w er ns' e w') : ∃ O', ArW B O' (if er = 0 then ns' else ns) w' ∧ AStep O w O' w' := by
  rcases h.2 with ⟨h1, h2⟩ | ⟨h1, O', h2, h3⟩
  · rw [if_neg h1]
    exact ⟨O, hA.later h2, Mod.of_below h2, fun _ hk => .inl hk⟩
  · rw [if_pos h1]
    exact ⟨O', h2, h3⟩
theorem heap_cell {w w' : World} {b : Nat} (h : w'.heap[b]? = w.heap[b]?) (o : Nat) : w'.cell? ⟨b, o, none⟩ = w.cell? ⟨b, o, none⟩ := World.cell?_of_block (w := w) h
theorem heap_frozen {w w' : World} {b : Nat} (h : w'.heap[b]? = w.heap[b]?) (o : Nat) : w'.frozen? ⟨b, o, none⟩ = w.frozen? ⟨b, o, none⟩ := World.frozen?_of_block (w := w) h
end Go.Proofs.YtdapdadcninidaaGreatDoor
