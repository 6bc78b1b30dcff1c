/- Words that all contracts of this seat share: what a call leaves behind, and small lemmas on worlds. No condition. -/
import Derived.Test.YtgjodmjegmilhaaDoorProg
import Derived.WalkKit
import Derived.WalkSpells
import Derived.Lib.Hide
import Derived.Handy
import Derived.Lib.Strings
import Derived.Lib.SmallJoins
namespace Go.Proofs.YtgjodmjegmilhaaDoor
open Go.RowKit

/-- The call returns v, and nothing that lay in memory before has changed. -/
def Ret (w : World) (v : Value) (e : Ending) (w' : World) : Prop := e = .returned v ∧ Below w.heap.size w w'
theorem Ret.mk {w w' : World} {v u : Value} (h : u = v) (hb : Below w.heap.size w w') : Ret w v (.returned u) w' := ⟨by rw [h], hb⟩
/-- The variable of the library that its search reads holds a number. -/
def Good (w : World) : Prop := ∃ m, w.cell? ⟨0, 0, none⟩ = some (.int .i64 m)
theorem Good.size {w : World} (h : Good w) : 0 < w.heap.size := by
  obtain ⟨m, h⟩ := h
  exact World.block_lt_of_cell? w _ h
theorem Good.below {w w' : World} {B : Nat} (h : Good w) (hb : Below B w w') (hB : 0 < B) : Good w' := by
  obtain ⟨m, h⟩ := h
  exact ⟨m, (hb.cell (p := ⟨0, 0, none⟩) hB).trans h⟩
theorem Good.kept {w w' : World} (h : Good w) (hb : Below w.heap.size w w') : Good w' := h.below hb h.size
theorem Good.alloc {w : World} (h : Good w) (o : Obj) : Good (w.alloc o) := h.kept ((Below.refl _ _).alloc (Nat.le_refl _) o)
theorem Good.drew {w : World} (h : Good w) : Good w.drew := h
theorem bcell {W w1 : World} (hb : Below W.heap.size W w1) : (∀ b o, b < W.heap.size → w1.cell? ⟨b, o, none⟩ = W.cell? ⟨b, o, none⟩) ∧ (∀ b o, b < W.heap.size → w1.frozen? ⟨b, o, none⟩ = W.frozen? ⟨b, o, none⟩) :=
  ⟨fun b o h => hb.cell (p := ⟨b, o, none⟩) h, fun b o h => hb.frozen (p := ⟨b, o, none⟩) h⟩
/-- A draw ahead of a call turns no block. -/
theorem bdrew {w w' : World} (h : Below w.drew.heap.size w.drew w') : Below w.heap.size w w' := ⟨h.os, h.tape, h.output, h.size, h.block⟩
/-- What lay below stays below, over a call that was made later. -/
theorem bthen {n : Nat} {a b c : World} (h : Below n a b) (hn : n ≤ b.heap.size) (k : Below b.heap.size b c) : Below n a c := h.trans (k.mono hn)
theorem balloc (w : World) (o : Obj) : Below w.heap.size w (w.alloc o) := (Below.refl _ _).alloc (Nat.le_refl _) o
theorem sget (l : List UInt8) (k : Nat) (h : k < l.length) (hb : k < (⟨l.toArray⟩ : ByteArray).size) : (⟨l.toArray⟩ : ByteArray)[k]'hb = l[k]'h := rfl
/-- The same as a rewrite rule: no side condition is left. -/
theorem sgetr (l : List UInt8) (k : Nat) (hb : k < (⟨l.toArray⟩ : ByteArray).size) : (⟨l.toArray⟩ : ByteArray)[k]'hb = l[k]'hb := rfl
theorem sext (l : List UInt8) (a b : Nat) : (⟨l.toArray⟩ : ByteArray).extract a b = ⟨((l.drop a).take (b - a)).toArray⟩ := by
  have := Lib.extract_data ⟨l.toArray⟩ a b
  cases h : (⟨l.toArray⟩ : ByteArray).extract a b with
  | mk d => rw [h] at this; cases d; simp at this; subst this; rfl
theorem sapp (a b : List UInt8) : (⟨a.toArray⟩ : ByteArray) ++ (⟨b.toArray⟩ : ByteArray) = ⟨(a ++ b).toArray⟩ := by
  cases h : (⟨a.toArray⟩ : ByteArray) ++ (⟨b.toArray⟩ : ByteArray) with
  | mk d => have := Joins.data_append ⟨a.toArray⟩ ⟨b.toArray⟩; rw [h] at this; cases d; simp at this; subst this; rfl
theorem wrap32_byte (c : UInt8) : wrap32 (c.toNat : Int) = (c.toNat : Int) := IntWalk.wrap32_in _ ⟨by omega, by have := c.toNat_lt; omega⟩
theorem wrap64_byte (c : UInt8) : wrap64 (c.toNat : Int) = (c.toNat : Int) := IntWalk.wrap64_in _ ⟨by omega, by have := c.toNat_lt; omega⟩
end Go.Proofs.YtgjodmjegmilhaaDoor
