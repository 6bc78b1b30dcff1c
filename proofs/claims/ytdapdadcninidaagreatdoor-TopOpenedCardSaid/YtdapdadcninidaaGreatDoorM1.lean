/- Words that all contracts of this seat share: what a call leaves behind, and small lemmas on worlds. No condition. What all claims of this seat share: the step from a contract to the row's statement and the card. No condition. Ranging over a function: an iterator's contract that may keep state of its own in cells, and the law of the statement over it.
   I: the iterator's own cells (laid before the loop); R: what it reads beside them; m: the heap's size where the loop (the iterator's call) begins; n1: the heap's size at the first call of yield. strings.Builder, the frame in full: a builder at block b whose bytes lie in blocks from R on: a write turns b and blocks from R on, and nothing else. Package arena: what a stored arena looks like in memory; the look-ups. Package arena: a field of a stored node is set; check. -/
import Derived.Test.YtdapdadcninidaaGreatDoorProg
import Derived.WalkKit
import Derived.WalkSpells
import Derived.Lib.Hide
import Derived.Handy
import Derived.Lib.Strings
import Derived.Lib.SmallJoins
import Derived.Test.YtdapdadcninidaaGreatDoorRows
import Derived.Test.YtdapdadcninidaaGreatDoorCards
import Derived.Test.YtdapdadcninidaaGreatDoorTie
import Derived.ProofKit
import Derived.OpenShut
import Derived.Below
import Derived.ChangeSame
import Derived.HandedShaped
import Derived.Deep.DeepHandedRow
import Derived.Lib.LaidTab
import Derived.Shelf.Vars
import Derived.RangeFuncNested
import Derived.RangeFuncBound
import Derived.RangeFuncCalls
import Derived.RangeFuncLeaves
import Derived.OwnWalkIn
import Derived.TacticsInMore
import Derived.LoopNIn
import Derived.LoopIn
import Derived.Test.YtdapdadcninidaaGreatDoorShelf
import Derived.Deep.AppendLies
import Derived.Deep.RegionHeld3
import Derived.Deep.MidRow
import Derived.Deep.RegionLaw
import Derived.Deep.DrawnRows
set_option linter.unusedSimpArgs false
set_option linter.unusedVariables false
namespace Go.Proofs.YtdapdadcninidaaGreatDoor
open Go.RowKit

/-- The call returns v, and nothing that lay in memory before has changed. -/
def Ret (w : World) (v : Value) (e : Ending) (w' : World) : Prop := e = .returned v ∧ Below w.heap.size w w'
theorem Ret.mk {w w' : World} {v u : Value} (h : u = v) (hb : Below w.heap.size w w') : Ret w v (.returned u) w' := ⟨by rw [h], hb⟩
/-- The variable of the library that its search reads holds a number. -/
def Good (w : World) : Prop := ∃ m, w.cell? ⟨1, 0, none⟩ = some (.int .i64 m)
theorem Good.size {w : World} (h : Good w) : 1 < w.heap.size := by
  obtain ⟨m, h⟩ := h
  exact World.block_lt_of_cell? w _ h
theorem Good.below {w w' : World} {B : Nat} (h : Good w) (hb : Below B w w') (hB : 1 < B) : Good w' := by
  obtain ⟨m, h⟩ := h
  exact ⟨m, (hb.cell (p := ⟨1, 0, none⟩) hB).trans h⟩
theorem Good.kept {w w' : World} (h : Good w) (hb : Below w.heap.size w w') : Good w' := h.below hb h.size
theorem Good.alloc {w : World} (h : Good w) (o : Obj) : Good (w.alloc o) := h.kept ((Below.refl _ _).alloc (Nat.le_refl _) o)
theorem Good.drew {w : World} (h : Good w) : Good w.drew := h
theorem bcell {W w1 : World} (hb : Below W.heap.size W w1) : (∀ b o, b < W.heap.size → w1.cell? ⟨b, o, none⟩ = W.cell? ⟨b, o, none⟩) ∧ (∀ b o, b < W.heap.size → w1.frozen? ⟨b, o, none⟩ = W.frozen? ⟨b, o, none⟩) :=
  ⟨fun b o h => hb.cell (p := ⟨b, o, none⟩) h, fun b o h => hb.frozen (p := ⟨b, o, none⟩) h⟩
/-- A draw ahead of a call turns no block. -/
theorem bdrew {w w' : World} (h : Below w.drew.heap.size w.drew w') : Below w.heap.size w w' := ⟨h.os, h.tape, h.output, h.size, h.block⟩
/-- What lay below stays below, over a call that was made later. -/
theorem bthen {n : Nat} {a b c : World} (h : Below n a b) (hn : n ≤ b.heap.size) (k : Below b.heap.size b c) : Below n a c := h.trans (k.mono hn)
theorem balloc (w : World) (o : Obj) : Below w.heap.size w (w.alloc o) := (Below.refl _ _).alloc (Nat.le_refl _) o
theorem sget (l : List UInt8) (k : Nat) (h : k < l.length) (hb : k < (⟨l.toArray⟩ : ByteArray).size) : (⟨l.toArray⟩ : ByteArray)[k]'hb = l[k]'h := rfl
/-- The same as a rewrite rule: no side condition is left. -/
theorem sgetr (l : List UInt8) (k : Nat) (hb : k < (⟨l.toArray⟩ : ByteArray).size) : (⟨l.toArray⟩ : ByteArray)[k]'hb = l[k]'hb := rfl
theorem sext (l : List UInt8) (a b : Nat) : (⟨l.toArray⟩ : ByteArray).extract a b = ⟨((l.drop a).take (b - a)).toArray⟩ := by
  have := Lib.extract_data ⟨l.toArray⟩ a b
  cases h : (⟨l.toArray⟩ : ByteArray).extract a b with
  | mk d => rw [h] at this; cases d; simp at this; subst this; rfl
theorem sapp (a b : List UInt8) : (⟨a.toArray⟩ : ByteArray) ++ (⟨b.toArray⟩ : ByteArray) = ⟨(a ++ b).toArray⟩ := by
  cases h : (⟨a.toArray⟩ : ByteArray) ++ (⟨b.toArray⟩ : ByteArray) with
  | mk d => have := Joins.data_append ⟨a.toArray⟩ ⟨b.toArray⟩; rw [h] at this; cases d; simp at this; subst this; rfl
theorem wrap32_byte (c : UInt8) : wrap32 (c.toNat : Int) = (c.toNat : Int) := IntWalk.wrap32_in _ ⟨by omega, by have := c.toNat_lt; omega⟩
theorem wrap64_byte (c : UInt8) : wrap64 (c.toNat : Int) = (c.toNat : Int) := IntWalk.wrap64_in _ ⟨by omega, by have := c.toNat_lt; omega⟩
end Go.Proofs.YtdapdadcninidaaGreatDoor
namespace Go.Proofs.YtdapdadcninidaaGreatDoor
open Go.ChangeShapes Go.WideShapes Go.ChangeAt Go.RowKit
section
variable {H : Type} {enc : TypeId × Value → H} {P : Program}
theorem post_of_below {f : Func} {s : ChangeSpec} {apart fresh handsOn again : Bool} {W W' : World} {args : Array Value} {v : Value} {ds gs : List (DataW H)} {before pa pv : List MemPlace}
    (hW : DataW.Whole enc P f.params.toList s.vars apart W args.toList ds gs before)
    (hres : ∀ (b : Nat) (sp : Nat → Bool) (hd : Bool), DataW.TrodAll enc P W' b sp hd f.resultTypes.toList (v.resultList f.resultTypes.size) (s.fn H (ds ++ gs)).results [])
    (hargs : ∀ sp : Nat → Bool, (∀ p ∈ before, sp p.block = true) → DataW.TrodAll enc P W' 0 sp true f.params.toList args.toList (s.fn H (ds ++ gs)).args pa)
    (hvars : ∀ sp : Nat → Bool, (∀ p ∈ before, sp p.block = true) → DataW.TrodVars enc P W' sp s.vars (s.fn H (ds ++ gs)).vars pv)
    (hps : before = pa ++ pv) (hb : Below W.heap.size W W')
    (hok : ∀ (j : Nat) (t : TypeId) (r : Value), f.resultTypes[j]? = some t → (v.resultList f.resultTypes.size)[j]? = some r → Value.okWide P W' .any 0 t r) :
    s.post enc P f apart fresh handsOn again W args v W' := by
  have hlt : ∀ p ∈ before, p.block < W.heap.size := fun p hp => hW.lt p hp
  have hold : ∀ p ∈ before, (fun b => decide (b < W.heap.size)) p.block = true := fun p hp => by simpa using hlt p hp
  refine ⟨ds, gs, before, [], pa, pv, hW, hres _ _ _, hargs _ hold, hvars _ hold, World.keptBut_mono (fun p hp => ⟨hp, ?_⟩) (hb.frame (· ∈ before)), fun _ => ?_⟩
  · rw [hps, List.mem_append] at hp
    exact Or.inr hp
  · obtain ⟨_, _, _, _, _, hz, hn⟩ := hW
    refine ⟨hok, _, _, ([] ++ pa) ++ pv, ⟨[] ++ pa, pv, trodAll_append (hargs _ (fun _ _ => rfl)) (hres _ _ _), hvars _ (fun _ _ => rfl), rfl, ?_, ?_⟩, ?_⟩
    · intro b off hp
      have hin : MemPlace.cell b off ∈ before := by rw [hps]; simpa using hp
      rw [hb.frozen (hlt _ hin)]
      exact hz b off hin
    · intro ha
      have := hn ha
      rw [hps] at this
      simpa using this
    · intro p hp _
      rw [hps]
      simpa using hp
end
theorem own : ownKnob Tryz.prog.godebug = none := by kernel_rfl
theorem good_of_shaped {W : World} (h : W.ShapedOpen Tryz.prog) : Good W :=
  cell_of_shapedOpen_int (zero := #[.int .i64 0]) (t := 3) h (of_decide_eq_true (by kernel_rfl)) (by kernel_rfl) rfl (by kernel_rfl) (by kernel_rfl) Tryz.underlying3
theorem str_list (s : ByteArray) : s = ⟨s.data.toList.toArray⟩ := by cases s; simp
theorem lit_u8 {n : Int} (h : (Lit.int .u8 n).wf = true) : ∃ c : UInt8, n = (c.toNat : Int) := by
  have h : 0 ≤ n ∧ n ≤ 255 := by
    simp only [Lit.wf, Bool.and_eq_true, decide_eq_true_eq] at h
    exact h
  refine ⟨UInt8.ofNat n.toNat, ?_⟩
  rw [UInt8.toNat_ofNat']
  omega
/-- The cells of a datum of numbers, one level or two. -/
def num0 : DataW Unit → List Value
  | .lit (.int k n) => [.int k n]
  | _ => []
def num1 : DataW Unit → List Value
  | .agg l => l.flatMap num0
  | d => num0 d
def numsOf : DataW Unit → List Value
  | .agg l => l.flatMap num1
  | d => num0 d
def layAt (b : Nat) (d : DataW Unit) (h : Array Obj) : Array Obj := h.modify b fun
  | .cells _ t frozen => .cells (numsOf d).toArray t frozen
  | o => o
end Go.Proofs.YtdapdadcninidaaGreatDoor
namespace Go.Proofs.YtdapdadcninidaaGreatDoor
open Go.RowKit

/-- Of the blocks that lay in A only those with S may have turned. -/
structure Mod (S : Nat → Prop) (A B : World) : Prop where
  os : B.os = A.os
  tape : B.tape = A.tape
  output : B.output = A.output
  size : A.heap.size ≤ B.heap.size
  block : ∀ k, k < A.heap.size → ¬ S k → B.heap[k]? = A.heap[k]?
theorem Mod.refl (S : Nat → Prop) (A : World) : Mod S A A := ⟨rfl, rfl, rfl, Nat.le_refl _, fun _ _ _ => rfl⟩
theorem Mod.trans {S : Nat → Prop} {A B C : World} (h : Mod S A B) (k : Mod S B C) : Mod S A C :=
  ⟨k.os.trans h.os, k.tape.trans h.tape, k.output.trans h.output, Nat.le_trans h.size k.size, fun i hi hs => (k.block i (Nat.lt_of_lt_of_le hi h.size) hs).trans (h.block i hi hs)⟩
theorem Mod.mono {S T : Nat → Prop} {A B : World} (h : Mod S A B) (hs : ∀ k, k < A.heap.size → S k → T k) : Mod T A B :=
  ⟨h.os, h.tape, h.output, h.size, fun k hk ht => h.block k hk (fun e => ht (hs k hk e))⟩
theorem Mod.alloc (S : Nat → Prop) (A : World) (o : Obj) : Mod S A (A.alloc o) := ⟨rfl, rfl, rfl, by simp, fun k hk _ => Below.heap_alloc A o k hk⟩
theorem Mod.drew {S : Nat → Prop} {A B : World} (h : Mod S A B) : Mod S A B.drew := ⟨h.os, h.tape, h.output, h.size, h.block⟩
theorem Mod.drewN {S : Nat → Prop} {A B : World} (h : Mod S A B) (n : Nat) : Mod S A (B.drewN n) := ⟨h.os, h.tape, h.output, h.size, h.block⟩
theorem Mod.putObj {S : Nat → Prop} (A : World) {r : Nat} (o : Obj) (hr : S r) : Mod S A (A.putObj r o) :=
  ⟨rfl, rfl, rfl, by simp, fun k _ hs => World.putObj_heap_other (fun e => hs (e ▸ hr))⟩
theorem Mod.setCell {S : Nat → Prop} (A : World) {a : Addr} (v : Value) (hr : S a.block) : Mod S A (A.setCell a v) :=
  ⟨rfl, rfl, rfl, by simp [World.setCell], fun k _ hs => Below.heap_setCell A a v k (fun e => hs (e ▸ hr))⟩
theorem Mod.of_below {S : Nat → Prop} {A B : World} (h : Below A.heap.size A B) : Mod S A B := ⟨h.os, h.tape, h.output, h.size, fun k hk _ => h.block k hk⟩
theorem Mod.below {S : Nat → Prop} {A B : World} {n : Nat} (h : Mod S A B) (hn : n ≤ A.heap.size) (hs : ∀ k, k < n → ¬ S k) : Below n A B :=
  ⟨h.os, h.tape, h.output, h.size, fun k hk => h.block k (Nat.lt_of_lt_of_le hk hn) (hs k hk)⟩
theorem Mod.cell {S : Nat → Prop} {A B : World} (h : Mod S A B) {p : Addr} (hp : p.block < A.heap.size) (hs : ¬ S p.block) : B.cell? p = A.cell? p :=
  World.cell?_of_block (w := A) (h.block p.block hp hs)
theorem Mod.frozen {S : Nat → Prop} {A B : World} (h : Mod S A B) {p : Addr} (hp : p.block < A.heap.size) (hs : ¬ S p.block) : B.frozen? p = A.frozen? p :=
  World.frozen?_of_block (w := A) (h.block p.block hp hs)

/-- What the iterator may turn between two rounds. -/
def ItS (m n1 : Nat) (I : Nat → Prop) (k : Nat) : Prop := I k ∨ (m ≤ k ∧ k < n1)
/-- What the loop's body may turn. -/
def BoS (m n1 : Nat) (I R : Nat → Prop) (k : Nat) : Prop := ¬ I k ∧ ¬ R k ∧ ¬ (m ≤ k ∧ k < n1)

/-- THE ITERATOR's CONTRACT: it hands xs to yield, one after the other, as long as yield says yes. -/
def IterAt {α : Type} (F : Fence) (n : Nat) (P : Program) (g : Nat) (lb : Array Value) (encs : α → Array Value) (xs : List α) (I R : Nat → Prop) (w : World) : Prop :=
  ∀ (l : Nat) (J Jx : Nat → Nat → World → Prop) (W : World), w.heap.size ≤ W.heap.size → (∀ k, I k ∨ R k → W.heap[k]? = w.heap[k]?) →
    (∀ n1 i A B, J n1 i A → Mod (ItS W.heap.size n1 I) A B → J n1 i B) → (∀ n1 i A B, Jx n1 i A → Mod (ItS W.heap.size n1 I) A B → Jx n1 i B) →
    (∀ n1 i x W1, xs[i]? = some x → J n1 i W1 → W.heap.size ≤ n1 → n1 ≤ W1.heap.size → YieldAt F (n - 1) P l (encs x) W1 fun e W' =>
      ((e = .returned (.bool true) ∧ J n1 (i + 1) W') ∨ (e = .returned (.bool false) ∧ Jx n1 (i + 1) W')) ∧ Mod (BoS W.heap.size n1 I R) W1 W') →
    (∀ n1, W.heap.size ≤ n1 → J n1 0 W) →
    CallsIn F n P g (#[.func (.yield l) #[] #[]] ++ lb) W fun e W' => (∃ v, e = .returned v) ∧ ∃ n1, W.heap.size ≤ n1 ∧ n1 ≤ W'.heap.size ∧ (J n1 xs.length W' ∨ ∃ i, i ≤ xs.length ∧ Jx n1 i W')

/-- What the body's walk must come to. -/
def bodyPostI (J : Nat → World → Prop) (Jx : Code → Nat → World → Prop) (S : Nat → Prop) (i : Nat) (W : World) : Exit → Act → World → Prop
  | .normal, _, W' => J (i + 1) W' ∧ Mod S W W'
  | .ret, _, W' => Jx .ret (i + 1) W' ∧ Mod S W W'
  | .exit id, _, W' => Jx (.exit id) (i + 1) W' ∧ Mod S W W'
  | .goto t, _, W' => Jx (.goto t) (i + 1) W' ∧ Mod S W W'
  | .panic _, _, _ => False
  | .outgrown, _, _ => False

variable {F : Fence} {n : Nat} {P : Program}
theorem wpIn_rangeFunc_it2 {α : Type} {g : Operand} {ps : Array Tmp} {assign body : Code} {Q : Exit → Act → World → Prop} {a : Act} {w : World}
    (hro : F.round = none) (h1 : 1 ≤ n) {gf : Nat} {lb : Array Value} (hg : a.eval g = .func (.func gf) #[] lb) (hFg : F.fn gf) (eg : ∀ args w, (callFunc gf args).run P w = .ok (.enter gf args) w)
    {encs : α → Array Value} {xs : List α} {I R : Nat → Prop} {w0 : World} (hseq : IterAt F (n - 1) P gf lb encs xs I R w0)
    (hsz : w0.heap.size ≤ w.heap.size) (hRI : ∀ k, R k → ¬ I k) (hIR : ∀ k, I k ∨ R k → k < w.heap.size ∧ w.heap[k]? = w0.heap[k]?) (hps : ∀ x, (encs x).size = ps.size)
    (J : Nat → Nat → World → Prop) (Jx : Nat → Code → Nat → World → Prop)
    (hJ : ∀ n1 i A B, J n1 i A → Mod (ItS w.heap.size n1 I) A B → J n1 i B) (hJx : ∀ n1 c i A B, Jx n1 c i A → Mod (ItS w.heap.size n1 I) A B → Jx n1 c i B)
    (h0 : ∀ n1, w.heap.size ≤ n1 → J n1 0 w)
    (hround : ∀ (l : Nat) (x : α) (W : World),
      assign.wpIn (F.inRound l) (n - 1 - 1) P (Exit.then (fun a₁ W₁ => W₁ = W ∧ ∀ (n1 i : Nat) (W' : World), xs[i]? = some x → J n1 i W' → w.heap.size + 2 ≤ n1 → n1 ≤ W'.heap.size → (∀ k, R k → W'.heap[k]? = w.heap[k]?) →
        body.wpIn (F.inRound l) (n - 1 - 1) P (bodyPostI (J n1) (Jx n1) (BoS w.heap.size n1 I R) i W') a₁ W') (fun _ _ _ => False)) { tmps := (ps.zip (encs x)).foldl (fun t (p, v) => t.setIfInBounds p v) a.tmps, defers := [] } W)
    (hdone : ∀ (D n1 : Nat) (W : World), w.heap.size + 2 ≤ n1 → n1 ≤ W.heap.size → J n1 xs.length W → D = w.heap.size → W.heap[D]? = some (.deferred (some [])) → Q .normal { a with defers := { target := .collected D, args := #[] } :: a.defers } W)
    (hstop : ∀ (D n1 : Nat) (c : Code) (i : Nat) (W : World), w.heap.size + 2 ≤ n1 → n1 ≤ W.heap.size → i ≤ xs.length → Jx n1 c i W → D = w.heap.size → W.heap[D]? = some (.deferred (some [])) → c.wpIn F n P Q { a with defers := { target := .collected D, args := #[] } :: a.defers } W) :
    (Code.rangeFunc g ps assign body).wpIn F n P Q a w := by
  refine wpIn_rangeFunc ?_
  intro fn hfn
  rw [hro]
  obtain ⟨rec, hrec⟩ : ∃ rec : LoopState → Option Code → Loop, rec = fun st pe => { state := st, pending := pe, fn, tmps := a.tmps, params := ps, assign, body, defers := w.heap.size } := ⟨_, rfl⟩
  obtain ⟨W1, hW1⟩ : ∃ W1, (w.alloc (.deferred (some []))).alloc (.loop (rec .ready none)) = W1 := ⟨_, rfl⟩
  have hL1 : W1.heap[w.heap.size + 1]? = some (.loop (rec .ready none)) := by
    rw [← hW1]; have := World.alloc_heap_new (w.alloc (.deferred (some []))) (.loop (rec .ready none)); rwa [World.size_alloc] at this
  have hK1 : W1.heap[w.heap.size]? = some (.deferred (some [])) := by
    rw [← hW1]; exact (Below.heap_alloc _ _ _ (by simp)).trans (World.alloc_heap_new w _)
  have hs1 : W1.heap.size = w.heap.size + 2 := by rw [← hW1]; simp
  have hM1 : ∀ S, Mod S w W1 := fun S => by rw [← hW1]; exact (Mod.alloc S w _).trans (Mod.alloc S _ _)
  -- a step of the iterator is one of those that the caller's words abide
  have up : ∀ n1 k, ItS W1.heap.size n1 I k → ItS w.heap.size n1 I k := fun n1 k h => by
    rcases h with h | h
    · exact .inl h
    · exact .inr ⟨by omega, h.2⟩
  have nI : ∀ k, I k → k < w.heap.size := fun k h => (hIR k (.inl h)).1
  refine ⟨w.heap.size + 1, [{ target := .collected w.heap.size, args := #[] }], W1, { target := .fn (.func gf) lb, args := #[.func (.yield (w.heap.size + 1)) #[] #[]] }, W1, gf,
    #[.func (.yield (w.heap.size + 1)) #[] #[]] ++ lb, W1, ?_, ?_, ?_, ?_, fun _ => h1, ?_⟩
  · rw [← hW1, hrec]; exact run_enterLoop_outer _ _ _ _ _
  · simp only [resolve, hg]
    simp [go_sem]
  · intro f' hf'; simp [Target.leads] at hf'; subst hf'; exact hFg
  · simp [invoke, go_sem, eg]
  · have book : ∀ {n1 k}, k = w.heap.size ∨ k = w.heap.size + 1 → ¬ ItS W1.heap.size n1 I k := fun {n1 k} hk h => by
      rcases h with h | h
      · have := nI k h; omega
      · omega
    refine (hseq (w.heap.size + 1)
      (fun n1 i W => J n1 i W ∧ W.heap[w.heap.size + 1]? = some (.loop (rec .ready none)) ∧ W.heap[w.heap.size]? = some (.deferred (some [])) ∧ ∀ k, R k → W.heap[k]? = w.heap[k]?)
      (fun n1 i W => i ≤ xs.length ∧ ∃ c, Jx n1 c i W ∧ W.heap[w.heap.size + 1]? = some (.loop (rec .done (some c))) ∧ W.heap[w.heap.size]? = some (.deferred (some [])))
      W1 (by omega) (fun k hk => ((hM1 (fun _ => False)).block k (hIR k hk).1 (fun h => h)).trans (hIR k hk).2) ?_ ?_ ?_ ?_).mono ?_
    · rintro n1 i A B ⟨hj, hl, hk, hR⟩ hm
      refine ⟨hJ n1 i A B hj (hm.mono fun k _ => up n1 k), (hm.block _ (Array.getElem?_eq_some_iff.1 hl).1 (book (.inr rfl))).trans hl, (hm.block _ (Array.getElem?_eq_some_iff.1 hk).1 (book (.inl rfl))).trans hk, fun k hr => ?_⟩
      have hlt := (hIR k (.inr hr)).1
      have hlA := (Array.getElem?_eq_some_iff.1 hl).1
      refine (hm.block k (by omega) (fun h => ?_)).trans (hR k hr)
      rcases h with h | h
      · exact hRI k hr h
      · omega
    · rintro n1 i A B ⟨hi, c, hj, hl, hk⟩ hm
      exact ⟨hi, c, hJx n1 c i A B hj (hm.mono fun k _ => up n1 k), (hm.block _ (Array.getElem?_eq_some_iff.1 hl).1 (book (.inr rfl))).trans hl, (hm.block _ (Array.getElem?_eq_some_iff.1 hk).1 (book (.inl rfl))).trans hk⟩
    · rintro n1 i x W hx ⟨hj, hl, hk, hR⟩ hn1 hn1'
      have hlt : w.heap.size + 1 < W.heap.size := (Array.getElem?_eq_some_iff.1 hl).1
      have hi : i < xs.length := (List.getElem?_eq_some_iff.1 hx).1
      have hy := run_yield (P := P) (args := encs x) hl (by rw [hrec]; exact hps x)
      rw [hrec] at hy
      refine ⟨fn, _, assign, body, hy, roundIn_of_wpIn hfn (wpIn_mono (hround _ x W) ?_)⟩
      rintro (_ | _ | _ | _ | _ | _) a₁ W₁ hW₁ <;> first | exact hW₁.elim | skip
      obtain ⟨hWe, hbody⟩ := hW₁
      have hWe' := hWe.symm
      subst hWe'
      refine ⟨_, run_beginRound hl (by rw [hrec]), ?_⟩
      have inI : ItS w.heap.size n1 I (w.heap.size + 1) := .inr ⟨by omega, by omega⟩
      have inB : BoS W1.heap.size n1 I R (w.heap.size + 1) := ⟨fun h => by have := nI _ h; omega, fun h => by have := (hIR _ (.inr h)).1; omega, by omega⟩
      have hl2 : (W.putObj (w.heap.size + 1) (.loop { rec .ready none with state := .busy })).heap[w.heap.size + 1]? = some (.loop { rec .ready none with state := .busy }) := World.putObj_heap_same hlt
      have hk2 : (W.putObj (w.heap.size + 1) (.loop { rec .ready none with state := .busy })).heap[w.heap.size]? = some (.deferred (some [])) := (World.putObj_heap_other (by omega)).trans hk
      have hR2 : ∀ k, R k → (W.putObj (w.heap.size + 1) (.loop { rec .ready none with state := .busy })).heap[k]? = w.heap[k]? := fun k hr => (World.putObj_heap_other (by have := (hIR k (.inr hr)).1; omega)).trans (hR k hr)
      refine wpIn_mono (hbody n1 i _ hx (hJ n1 i _ _ hj (Mod.putObj _ _ inI)) (by omega) (by simp; omega) hR2) ?_
      have fin : ∀ (jump : Option Code) (W3 : World), Mod (BoS w.heap.size n1 I R) (W.putObj (w.heap.size + 1) (.loop { rec .ready none with state := .busy })) W3 →
          (Instr.endRound (w.heap.size + 1) jump).run P W3 = .ok (.bool jump.isNone) (W3.putObj (w.heap.size + 1) (.loop (rec (if jump.isNone then .ready else .done) jump))) ∧
          Mod (BoS W1.heap.size n1 I R) W (W3.putObj (w.heap.size + 1) (.loop (rec (if jump.isNone then .ready else .done) jump))) ∧
          (W3.putObj (w.heap.size + 1) (.loop (rec (if jump.isNone then .ready else .done) jump))).heap[w.heap.size + 1]? = some (.loop (rec (if jump.isNone then .ready else .done) jump)) ∧
          (W3.putObj (w.heap.size + 1) (.loop (rec (if jump.isNone then .ready else .done) jump))).heap[w.heap.size]? = some (.deferred (some [])) ∧
          ∀ k, R k → (W3.putObj (w.heap.size + 1) (.loop (rec (if jump.isNone then .ready else .done) jump))).heap[k]? = w.heap[k]? := fun jump W3 hm3 => by
        have hl3 := (hm3.block _ (Array.getElem?_eq_some_iff.1 hl2).1 (fun h => h.2.2 ⟨by omega, by omega⟩)).trans hl2
        have hk3 := (hm3.block _ (Array.getElem?_eq_some_iff.1 hk2).1 (fun h => h.2.2 ⟨by omega, by omega⟩)).trans hk2
        have := run_endRound (P := P) jump hl3
        rw [hrec] at this ⊢
        refine ⟨this, ?_, World.putObj_heap_same (Array.getElem?_eq_some_iff.1 hl3).1, (World.putObj_heap_other (by omega)).trans hk3, fun k hr => ?_⟩
        · refine ((Mod.putObj W _ inB).trans (hm3.mono fun k _ h => ⟨h.1, h.2.1, fun h' => h.2.2 ⟨by omega, h'.2⟩⟩)).trans (Mod.putObj W3 _ inB)
        · refine (World.putObj_heap_other (by have := (hIR k (.inr hr)).1; omega)).trans ((hm3.block k (by have := (hIR k (.inr hr)).1; simp; omega) (fun h => h.2.1 hr)).trans (hR2 k hr))
      rintro e a3 W3 hp
      cases e with
      | normal =>
        obtain ⟨hj3, hm3⟩ := hp
        obtain ⟨hr, hmm, hl4, hk4, hR4⟩ := fin none W3 hm3
        exact ⟨_, _, hr, .inl ⟨rfl, hJ n1 (i + 1) _ _ hj3 (Mod.putObj W3 _ inI), hl4, hk4, hR4⟩, hmm⟩
      | ret =>
        obtain ⟨hj3, hm3⟩ := hp
        obtain ⟨hr, hmm, hl4, hk4, hR4⟩ := fin (some .ret) W3 hm3
        exact ⟨_, _, hr, .inr ⟨rfl, by omega, .ret, hJx n1 _ (i + 1) _ _ hj3 (Mod.putObj W3 _ inI), hl4, hk4⟩, hmm⟩
      | exit id =>
        obtain ⟨hj3, hm3⟩ := hp
        obtain ⟨hr, hmm, hl4, hk4, hR4⟩ := fin (some (.exit id)) W3 hm3
        exact ⟨_, _, hr, .inr ⟨rfl, by omega, .exit id, hJx n1 _ (i + 1) _ _ hj3 (Mod.putObj W3 _ inI), hl4, hk4⟩, hmm⟩
      | goto t =>
        obtain ⟨hj3, hm3⟩ := hp
        obtain ⟨hr, hmm, hl4, hk4, hR4⟩ := fin (some (.goto t)) W3 hm3
        exact ⟨_, _, hr, .inr ⟨rfl, by omega, .goto t, hJx n1 _ (i + 1) _ _ hj3 (Mod.putObj W3 _ inI), hl4, hk4⟩, hmm⟩
      | panic ch => exact hp.elim
      | outgrown => exact hp.elim
    · intro n1 hn1
      exact ⟨hJ n1 0 _ _ (h0 n1 (by omega)) (hM1 _), hL1, hK1, fun k hr => (hM1 (fun _ => False)).block k (hIR k (.inr hr)).1 (fun h => h)⟩
    · rintro e W2 ⟨⟨v, rfl⟩, n1, hn1, hn2, (⟨hj, hl, hk, hR⟩ | ⟨i, hi', hi, c, hj, hl, hk⟩)⟩
      · have inI : ItS w.heap.size n1 I (w.heap.size + 1) := .inr ⟨by omega, by omega⟩
        exact ⟨none, _, by have := run_endLoop (P := P) hl (by rw [hrec]; simp); rw [hrec] at this; exact this, hdone _ n1 _ (by omega) (by simp; omega) (hJ n1 _ _ _ hj (Mod.putObj W2 _ inI)) rfl ((World.putObj_heap_other (by omega)).trans hk)⟩
      · have inI : ItS w.heap.size n1 I (w.heap.size + 1) := .inr ⟨by omega, by omega⟩
        exact ⟨some c, _, by have := run_endLoop (P := P) hl (by rw [hrec]; simp); rw [hrec] at this; exact this, hstop _ n1 c i _ (by omega) (by simp; omega) hi (hJx n1 c i _ _ hj (Mod.putObj W2 _ inI)) rfl ((World.putObj_heap_other (by omega)).trans hk)⟩
theorem wpIn_rangeFunc_it {α : Type} {g : Operand} {ps : Array Tmp} {assign body : Code} {Q : Exit → Act → World → Prop} {a : Act} {w : World}
    (hro : F.round = none) (h1 : 1 ≤ n) {gf : Nat} {lb : Array Value} (hg : a.eval g = .func (.func gf) #[] lb) (hFg : F.fn gf) (eg : ∀ args w, (callFunc gf args).run P w = .ok (.enter gf args) w)
    {encs : α → Array Value} {xs : List α} {I R : Nat → Prop} {w0 : World} (hseq : IterAt F (n - 1) P gf lb encs xs I R w0)
    (hsz : w0.heap.size ≤ w.heap.size) (hRI : ∀ k, R k → ¬ I k) (hIR : ∀ k, I k ∨ R k → k < w.heap.size ∧ w.heap[k]? = w0.heap[k]?) (hps : ∀ x, (encs x).size = ps.size)
    (J : Nat → Nat → World → Prop) (Jx : Nat → Code → Nat → World → Prop)
    (hJ : ∀ n1 i A B, J n1 i A → Mod (ItS w.heap.size n1 I) A B → J n1 i B) (hJx : ∀ n1 c i A B, Jx n1 c i A → Mod (ItS w.heap.size n1 I) A B → Jx n1 c i B)
    (h0 : ∀ n1, w.heap.size ≤ n1 → J n1 0 w)
    (hround : ∀ (l : Nat) (x : α) (W : World),
      assign.wpIn (F.inRound l) (n - 1 - 1) P (Exit.then (fun a₁ W₁ => W₁ = W ∧ ∀ (n1 i : Nat) (W' : World), xs[i]? = some x → J n1 i W' → w.heap.size + 2 ≤ n1 → n1 ≤ W'.heap.size → (∀ k, R k → W'.heap[k]? = w.heap[k]?) →
        body.wpIn (F.inRound l) (n - 1 - 1) P (bodyPostI (J n1) (Jx n1) (BoS w.heap.size n1 I R) i W') a₁ W') (fun _ _ _ => False)) { tmps := (ps.zip (encs x)).foldl (fun t (p, v) => t.setIfInBounds p v) a.tmps, defers := [] } W)
    (hdone : ∀ (D n1 : Nat) (W : World), w.heap.size ≤ n1 → n1 ≤ W.heap.size → J n1 xs.length W → w.heap.size ≤ D → W.heap[D]? = some (.deferred (some [])) → Q .normal { a with defers := { target := .collected D, args := #[] } :: a.defers } W)
    (hstop : ∀ (D n1 : Nat) (c : Code) (i : Nat) (W : World), w.heap.size ≤ n1 → n1 ≤ W.heap.size → i ≤ xs.length → Jx n1 c i W → w.heap.size ≤ D → W.heap[D]? = some (.deferred (some [])) → c.wpIn F n P Q { a with defers := { target := .collected D, args := #[] } :: a.defers } W) :
    (Code.rangeFunc g ps assign body).wpIn F n P Q a w :=
  wpIn_rangeFunc_it2 hro h1 hg hFg eg hseq hsz hRI hIR hps J Jx hJ hJx h0 hround (fun D n1 W h1 h2 h3 h4 h5 => hdone D n1 W (by omega) h2 h3 (by omega) h5) (fun D n1 c i W h1 h2 h3 h4 h5 h6 => hstop D n1 c i W (by omega) h2 h3 h4 (by omega) h6)

/-- A call within the wide fence: its plain contract serves. -/
theorem call_wide {n : Nat} {P : Program} {f : FuncId} {args : Array Value} {w : World} {R R' : Ending → World → Prop} (h : Calls P f args w R) (hr : ∀ e w', R e w' → R' e w') (hn : 1 ≤ n) :
    Fence.wide.fn f ∧ (Fence.wide.depth.isSome = true → 1 ≤ n) ∧ CallsIn Fence.wide (n - 1) P f args w R' :=
  ⟨trivial, fun _ => hn, callsIn_wide.2 (h.mono hr)⟩
theorem call_round {n l : Nat} {P : Program} {f : FuncId} {args : Array Value} {w : World} {R R' : Ending → World → Prop} (h : Calls P f args w R) (hr : ∀ e w', R e w' → R' e w') (hn : 1 ≤ n) :
    (Fence.wide.inRound l).fn f ∧ ((Fence.wide.inRound l).depth.isSome = true → 1 ≤ n) ∧ CallsIn (Fence.wide.inRound l) (n - 1) P f args w R' :=
  ⟨trivial, fun _ => hn, callsIn_wide.2 (h.mono hr)⟩
end Go.Proofs.YtdapdadcninidaaGreatDoor
namespace Go.Proofs.YtdapdadcninidaaGreatDoor
open Go.RowKit

theorem cc_used (b : Nat) (w : World) (h0 : w.cell? ⟨b, 0, none⟩ = some (.pointer (some ⟨b, 0, none⟩))) :
    Calls Tryz.prog 140 #[.pointer (some ⟨b, 0, none⟩)] w fun e w' => e = .returned (.tuple #[]) ∧ w' = w := Any.Builder_copyCheck_used Tryz.lays240 Tryz.bextra.toX72 b w h0
theorem cc_fresh (b : Nat) (w : World) (h0 : w.cell? ⟨b, 0, none⟩ = some (.pointer none)) (hsh : w.shape? b = some (112, 2)) (hfz : w.frozen? ⟨b, 0, none⟩ = false) :
    Calls Tryz.prog 140 #[.pointer (some ⟨b, 0, none⟩)] w fun e w' => e = .returned (.tuple #[]) ∧ w' = w.setCell ⟨b, 0, none⟩ (.pointer (some ⟨b, 0, none⟩)) := Any.Builder_copyCheck_fresh Tryz.lays240 Tryz.bextra.toX72 b w h0 hsh hfz

def BldAt (R b : Nat) (p : Value) (bs : List Value) (w : World) : Prop :=
  b < R ∧ ∃ v, w.heap[b]? = some (.cells #[p, v] 112 (0, 0)) ∧ w.ownsRowF R 5 1 v bs.length bs
def Bld (R b : Nat) (bs : List Value) (w : World) : Prop := BldAt R b (.pointer none) bs w ∨ BldAt R b (.pointer (some ⟨b, 0, none⟩)) bs w
/-- What a write may turn. -/
def BlS (R b k : Nat) : Prop := k = b ∨ R ≤ k
theorem BldAt.kept {R b : Nat} {p : Value} {bs : List Value} {A B : World} (h : BldAt R b p bs A) (hk : ∀ k, k < A.heap.size → BlS R b k → B.heap[k]? = A.heap[k]?) : BldAt R b p bs B := by
  obtain ⟨h1, v, h3, h4⟩ := h
  refine ⟨h1, v, (hk b (Array.getElem?_eq_some_iff.1 h3).1 (.inl rfl)).trans h3, h4.1, ?_⟩
  rcases h4.2 with h | ⟨g, cap, cur, fz, hv, hg, hgg, r⟩
  · exact .inl h
  · exact .inr ⟨g, cap, cur, fz, hv, hg, (hk g (Array.getElem?_eq_some_iff.1 hgg).1 (.inr hg)).trans hgg, r⟩
theorem Bld.kept {R b : Nat} {bs : List Value} {A B : World} (h : Bld R b bs A) (hk : ∀ k, k < A.heap.size → BlS R b k → B.heap[k]? = A.heap[k]?) : Bld R b bs B :=
  h.imp (fun h => h.kept hk) (fun h => h.kept hk)
theorem Bld.fresh {R b : Nat} {w : World} (h : w.heap[b]? = some (.cells #[.pointer none, .slice none 0 0] 112 (0, 0))) (hb : b < R) : Bld R b [] w :=
  .inl ⟨hb, _, h, World.ownsRowF_nil _ _ _ _⟩
/-- The block in which the builder's bytes lie. -/
def RowOf (w : World) (b k : Nat) : Prop := ∃ p v t fz, w.heap[b]? = some (.cells #[p, v] t fz) ∧ v.ownBlock = some k
def BlR (w : World) (b k : Nat) : Prop := k = b ∨ RowOf w b k
theorem Bld.row {R b : Nat} {bs : List Value} {w : World} (h : Bld R b bs w) {k : Nat} (hr : RowOf w b k) : R ≤ k ∧ k < w.heap.size := by
  obtain ⟨p, v, t, fz, h1, h2⟩ := hr
  rcases h with h | h
  · obtain ⟨_, v', h3, h4⟩ := h
    rw [h3] at h1; cases h1
    exact h4.lt k h2
  · obtain ⟨_, v', h3, h4⟩ := h
    rw [h3] at h1; cases h1
    exact h4.lt k h2
theorem RowOf.of_block {w w' : World} {b k : Nat} (h : w'.heap[b]? = w.heap[b]?) (hr : RowOf w' b k) : RowOf w b k := by
  obtain ⟨p, v, t, fz, h1, h2⟩ := hr
  exact ⟨p, v, t, fz, h ▸ h1, h2⟩
theorem Bld.mod {R b : Nat} {bs : List Value} {w w' : World} (h : Bld R b bs w) (hm : Mod (BlR w b) w w') : Mod (BlS R b) w w' :=
  hm.mono fun _ _ e => e.imp id fun e => (h.row e).1
def RetB (R b : Nat) (w : World) (v : Value) (bs : List Value) (e : Ending) (w' : World) : Prop := e = .returned v ∧ BldAt R b (.pointer (some ⟨b, 0, none⟩)) bs w' ∧ Mod (BlR w b) w w'
theorem copyCheck_bld (R b : Nat) (bs : List Value) (w : World) (h : Bld R b bs w) : Calls Tryz.prog 140 #[.pointer (some ⟨b, 0, none⟩)] w fun e w' => RetB R b w (.tuple #[]) bs e w' ∧ ∀ k, RowOf w' b k → RowOf w b k := by
  rcases h with h | h
  · obtain ⟨h1, v, h3, h4⟩ := h
    refine (cc_fresh b w (by rw [Lib.cell_of_heap h3]; rfl) (by simp [World.shape?, h3]) (Lib.frozen_of_heap h3 0)).mono ?_
    rintro e w' ⟨rfl, rfl⟩
    have hn : (w.setCell ⟨b, 0, none⟩ (.pointer (some ⟨b, 0, none⟩))).heap[b]? = some (.cells #[.pointer (some ⟨b, 0, none⟩), v] 112 (0, 0)) := by
      show (w.heap.modify b _)[b]? = _
      rw [Array.getElem?_modify, if_pos rfl, h3]
      rfl
    refine ⟨⟨rfl, ⟨h1, v, hn, h4.1, ?_⟩, Mod.setCell _ _ (.inl rfl)⟩, fun k hk => ?_⟩
    · rcases h4.2 with h | ⟨g, cap, cur, fz, hv, hg, hgg, r⟩
      · exact .inl h
      · exact .inr ⟨g, cap, cur, fz, hv, hg, (Below.heap_setCell _ _ _ _ (by show g ≠ b; omega)).trans hgg, r⟩
    · obtain ⟨p, v', t, fz, e1, e2⟩ := hk
      rw [hn] at e1; cases e1
      exact ⟨_, _, _, _, h3, e2⟩
  · obtain ⟨h1, v, h3, h4⟩ := h
    refine (cc_used b w (by rw [Lib.cell_of_heap h3]; rfl)).mono ?_
    rintro e w' ⟨rfl, rfl⟩
    exact ⟨⟨rfl, ⟨h1, v, h3, h4⟩, Mod.refl _ _⟩, fun _ h => h⟩
theorem infoByte : (Tryz.prog.info? 5).map (fun i => (i.zero, i.size, i.bytes)) = some (some (.int .u8 0), 1, 1) := by kernel_rfl

theorem put_bld {R b : Nat} {p v v' : Value} {bs' : List Value} {w2 : World} (hb : b < R) (h : w2.heap[b]? = some (.cells #[p, v] 112 (0, 0))) (hown : w2.ownsRowF R 5 1 v' bs'.length bs') :
    BldAt R b p bs' (w2.setCell ⟨b, 1, none⟩ v') := by
  refine ⟨hb, v', ?_, hown.1, ?_⟩
  · show (w2.heap.modify b _)[b]? = _
    rw [Array.getElem?_modify, if_pos rfl, h]
    rfl
  · rcases hown.2 with h | ⟨g, cap, cur, fz, hv, hg, hgg, r⟩
    · exact .inl h
    · exact .inr ⟨g, cap, cur, fz, hv, hg, (Below.heap_setCell _ _ _ _ (by show g ≠ b; omega)).trans hgg, r⟩
theorem Mod.of_grown {S : Nat → Prop} {A B : World} {row : Option Nat} (h : A.grownBy B row) (hr : ∀ k, row = some k → S k) : Mod S A B :=
  ⟨h.os, h.tape, h.output, h.size, fun k hk hs => h.block k hk (fun e => hs (hr k e.symm))⟩

set_option maxHeartbeats 2000000 in
set_option maxRecDepth 100000 in
theorem WriteString_bld (R b : Nat) (bs : List Value) (l : List UInt8) (w : World) (h : Bld R b bs w) (hR0 : R ≤ w.heap.size) (hlen : bs.length + l.length ≤ 100000000000) :
    Calls Tryz.prog 92 #[.pointer (some ⟨b, 0, none⟩), .string ⟨l.toArray⟩] w (RetB R b w (.tuple #[.int .i64 (l.length : Nat), .nilIface]) (bs ++ Lib.byteCells l)) := by
  obtain ⟨i0, hi, hz0, hz1, hz2⟩ := info_parts infoByte
  have hcc := copyCheck_bld R b bs w h
  have HCC := Lib.hid hcc
  clear hcc h
  go_enter Tryz.func92, Tryz.ntmps92
  go_wp2_with fail
  refine HCC.out.mono ?_
  rintro e w1 ⟨⟨rfl, ⟨hB, v, hbk, hown⟩, hm1⟩, hrow⟩
  have hR : R ≤ w1.heap.size := Nat.le_trans hR0 hm1.size
  have c0 : w1.cell? ⟨b, 0, none⟩ = some (.pointer (some ⟨b, 0, none⟩)) := by rw [Lib.cell_of_heap hbk]; rfl
  have c1 : w1.cell? ⟨b, 1, none⟩ = some v := by rw [Lib.cell_of_heap hbk]; rfl
  go_wp2_with (at_builtin; refine Lib.wpList_append_own_stringF _ rfl _ _ 110 9 rfl R 5 i0 Tryz.underlying110 Tryz.underlying9 hi hz0 hz1 hz2 _ _ _ rfl hown ⟨l.toArray⟩ rfl ?c3 ?c4 ?c5 ?_)
  case c3 => show bs.length + l.length ≤ maxLen; unfold maxLen; omega
  case c4 => show bs.length + l.length ≤ _; omega
  case c5 => exact hR
  intro v' w2 hown' hgrow _
  have hsz2 := hgrow.size
  have hlt : b < w1.heap.size := by omega
  have hne : some b ≠ v.ownBlock := fun e => by have := (hown.lt b e.symm).1; omega
  have hb2 : w2.heap[b]? = some (.cells #[.pointer (some ⟨b, 0, none⟩), v] 112 (0, 0)) := by
    rw [hgrow.block b hlt hne]
    exact hbk
  have d0 : w2.cell? ⟨b, 0, none⟩ = some (.pointer (some ⟨b, 0, none⟩)) := by rw [Lib.cell_of_heap hb2]; rfl
  have d1 : w2.cell? ⟨b, 1, none⟩ = some v := by rw [Lib.cell_of_heap hb2]; rfl
  have f1 : w2.frozen? ⟨b, 1, none⟩ = false := Lib.frozen_of_heap hb2 1
  obtain ⟨ao, n', cap, rfl⟩ : ∃ ao n' cap, v' = .slice ao n' cap := by
    rcases hown'.2 with ⟨hv, _⟩ | ⟨g, cap, cur, fz, hv, _⟩
    · exact ⟨_, _, _, hv⟩
    · exact ⟨_, _, _, hv⟩
  have HR := Lib.hid (put_bld (bs' := bs ++ Lib.byteCells l) hB hb2 (by rw [show (bs ++ Lib.byteCells l).length = bs.length + l.length by simp [Lib.byteCells_length]]; exact hown'))
  have HM := Lib.hid (hm1.trans (Mod.of_grown (S := BlR w b) hgrow (fun k hk => .inr (hrow k ⟨_, _, _, _, hbk, hk⟩))))
  clear hown hown' hgrow hbk hb2 hm1 hrow
  go_wp2
  go_ret2
  exact ⟨rfl, HR.out, HM.out.trans (Mod.setCell _ _ (.inl rfl))⟩

set_option maxHeartbeats 2000000 in
set_option maxRecDepth 100000 in
theorem WriteByte_bld (R b : Nat) (bs : List Value) (c : UInt8) (w : World) (h : Bld R b bs w) (hR0 : R ≤ w.heap.size) (hlen : bs.length + 1 ≤ 100000000000) :
    Calls Tryz.prog 95 #[.pointer (some ⟨b, 0, none⟩), .int .u8 (c.toNat : Int)] w (RetB R b w .nilIface (bs ++ [.int .u8 (c.toNat : Int)])) := by
  obtain ⟨i0, hi, hz0, hz1, hz2⟩ := info_parts infoByte
  have hcc := copyCheck_bld R b bs w h
  have HCC := Lib.hid hcc
  clear hcc h
  go_enter Tryz.func95, Tryz.ntmps95
  go_wp2_with fail
  refine HCC.out.mono ?_
  rintro e w1 ⟨⟨rfl, ⟨hB, v, hbk, hown⟩, hm1⟩, hrow⟩
  have hR : R ≤ w1.heap.size := Nat.le_trans hR0 hm1.size
  have c0 : w1.cell? ⟨b, 0, none⟩ = some (.pointer (some ⟨b, 0, none⟩)) := by rw [Lib.cell_of_heap hbk]; rfl
  have c1 : w1.cell? ⟨b, 1, none⟩ = some v := by rw [Lib.cell_of_heap hbk]; rfl
  go_wp2_with (at_builtin; refine wpList_append_ownF _ rfl _ _ 110 rfl R 5 i0 (.int .u8 0) 1 1 Tryz.underlying110 hi hz0 hz1 hz2 rfl (by decide) _ _ _ rfl (hown.alloc _) ⟨w1.heap.size, 0, none⟩ 1 1 [.int .u8 (c.toNat : Int)] rfl rfl ?c1 ?c2 ?c3 ?c4 ?c5 ?_)
  case c1 =>
    intro j u hj
    match j, hj with
    | 0, hj => simp at hj; subst hj; simp [Addr.add]
  case c2 => intro u hu; simp at hu; subst hu; rfl
  case c3 => unfold maxLen; omega
  case c4 => omega
  case c5 => simp; omega
  intro v' w2 hown' hgrow _
  have hsz2 := hgrow.size
  simp only [World.size_alloc] at hsz2
  have hlt : b < w1.heap.size := by omega
  have hne : some b ≠ v.ownBlock := fun e => by have := (hown.lt b e.symm).1; omega
  have hb2 : w2.heap[b]? = some (.cells #[.pointer (some ⟨b, 0, none⟩), v] 112 (0, 0)) := by
    rw [hgrow.block b (by simp; omega) hne, Below.heap_alloc w1 _ b hlt]
    exact hbk
  have d0 : w2.cell? ⟨b, 0, none⟩ = some (.pointer (some ⟨b, 0, none⟩)) := by rw [Lib.cell_of_heap hb2]; rfl
  have d1 : w2.cell? ⟨b, 1, none⟩ = some v := by rw [Lib.cell_of_heap hb2]; rfl
  have f1 : w2.frozen? ⟨b, 1, none⟩ = false := Lib.frozen_of_heap hb2 1
  obtain ⟨ao, n', cap, rfl⟩ : ∃ ao n' cap, v' = .slice ao n' cap := by
    rcases hown'.2 with ⟨hv, _⟩ | ⟨g, cap, cur, fz, hv, _⟩
    · exact ⟨_, _, _, hv⟩
    · exact ⟨_, _, _, hv⟩
  have HR := Lib.hid (put_bld (bs' := bs ++ [.int .u8 (c.toNat : Int)]) hB hb2 (by rw [show (bs ++ [Value.int .u8 (c.toNat : Int)]).length = bs.length + 1 by simp]; exact hown'))
  have HM := Lib.hid ((hm1.trans (Mod.alloc _ _ _)).trans (Mod.of_grown (S := BlR w b) hgrow (fun k hk => .inr (hrow k ⟨_, _, _, _, hbk, hk⟩))))
  clear hown hown' hgrow hbk hb2 hm1 hrow
  go_wp2
  go_ret
  exact ⟨rfl, HR.out, HM.out.trans (Mod.setCell _ _ (.inl rfl))⟩

/-- What the builder holds, as a string; it is not written on behind this. -/
theorem String_bld (R b : Nat) (l : List UInt8) (w : World) (h : Bld R b (Lib.byteCells l) w) :
    Calls Tryz.prog 51 #[.pointer (some ⟨b, 0, none⟩)] w fun e w' => e = .returned (.string ⟨l.toArray⟩) ∧ Below b w w' ∧ Lib.OthersKept 5 (some b) w w' := by
  have hw : ∀ {p}, BldAt R b p (Lib.byteCells l) w → Lib.BuilderAtF 112 5 b b p (Lib.byteCells l) w := by
    rintro p ⟨h1, v, h3, h4⟩
    refine ⟨Nat.le_refl _, v, h3, ⟨h4.1, ?_⟩, fun e => by have := (h4.lt b e).1; omega⟩
    rcases h4.2 with h | ⟨g, cap, cur, fz, hv, hg, r⟩
    · exact .inl h
    · exact .inr ⟨g, cap, cur, fz, hv, by omega, r⟩
  have hb : b ≤ w.heap.size := by
    rcases h with h | h
    · obtain ⟨_, v, h3, _⟩ := h; exact Nat.le_of_lt (Array.getElem?_eq_some_iff.1 h3).1
    · obtain ⟨_, v, h3, _⟩ := h; exact Nat.le_of_lt (Array.getElem?_eq_some_iff.1 h3).1
  refine (Tryz.Builder_String_any_k b b l w (h.imp hw hw) hb).mono ?_
  rintro e w' ⟨rfl, _, h2, h3⟩
  exact ⟨rfl, h2, h3⟩
end Go.Proofs.YtdapdadcninidaaGreatDoor
namespace Go.Proofs.YtdapdadcninidaaGreatDoor
open Go.RowKit
attribute [local go_sem ↓] Go.wp_at_zero Go.wp_at_succ

/-- An attribute. -/
structure Att where
  space : Int := 0
  name : List UInt8 := []
  value : List UInt8 := []
  deriving DecidableEq
/-- A node. -/
structure Nd where
  kind : Int := 0
  parent : Nat := 0
  kids : List Nat := []
  doc : Nat := 0
  space : Int := 0
  name : List UInt8 := []
  attrs : List Att := []
  data : List UInt8 := []
  pub : List UInt8 := []
  sys : List UInt8 := []
  quirks : Bool := false
  contents : Nat := 0
  host : Nat := 0
  deriving DecidableEq
def strV (l : List UInt8) : Value := .string ⟨l.toArray⟩
def natV (n : Nat) : Value := .int .i64 (n : Int)
/-- A node as it is stored: the values of its two slices. -/
structure Nv where
  nd : Nd
  kv : Value
  av : Value
def ndCells (d : Nd) (kv av : Value) : List Value :=
  [.int .i64 d.kind, natV d.parent, kv, natV d.doc, .int .i64 d.space, strV d.name, av, strV d.data, strV d.pub, strV d.sys, .bool d.quirks, natV d.contents, natV d.host]
def Nv.cells (x : Nv) : List Value := ndCells x.nd x.kv x.av
def rowCells (L : List Nv) : List Value := L.flatMap Nv.cells
def attCells (l : List Att) : List Value := l.flatMap fun a => [.int .i64 a.space, strV a.name, strV a.value]
def kidCells (l : List Nat) : List Value := l.map natV
def blocks (B : Nat) (tab : Value) (L : List Nv) : List Nat := B :: (tab.ownBlock.toList ++ L.flatMap fun x => x.kv.ownBlock.toList ++ x.av.ownBlock.toList)
/-- An arena lies at block B; tab: its slice of nodes; inv: its map. -/
structure Ar (w : World) (B : Nat) (tab inv : Value) (L : List Nv) : Prop where
  hd : w.heap[B]? = some (.cells #[tab, inv] 93 (0, 0))
  row : w.ownsRow 0 96 13 tab L.length (rowCells L)
  kid : ∀ x ∈ L, w.ownsRow 0 3 1 x.kv x.nd.kids.length (kidCells x.nd.kids)
  att : ∀ x ∈ L, w.ownsRow 0 121 3 x.av x.nd.attrs.length (attCells x.nd.attrs)
  nd : (blocks B tab L).Nodup
theorem Ar.c0 {w : World} {B : Nat} {tab inv : Value} {L : List Nv} (h : Ar w B tab inv L) : w.cell? ⟨B, 0, none⟩ = some tab := by rw [Lib.cell_of_heap h.hd]; rfl
theorem Ar.c1 {w : World} {B : Nat} {tab inv : Value} {L : List Nv} (h : Ar w B tab inv L) : w.cell? ⟨B, 1, none⟩ = some inv := by rw [Lib.cell_of_heap h.hd]; rfl
theorem Ar.f0 {w : World} {B : Nat} {tab inv : Value} {L : List Nv} (h : Ar w B tab inv L) (o : Nat) : w.frozen? ⟨B, o, none⟩ = false := Lib.frozen_of_heap h.hd o
theorem rowCells_len (L : List Nv) : (rowCells L).length = L.length * 13 := by
  induction L with
  | nil => rfl
  | cons x L ih => simp only [rowCells, List.flatMap_cons, List.length_append, List.length_cons] at ih ⊢; rw [ih]; simp [Nv.cells, ndCells]; omega
theorem rowCells_at : ∀ (L : List Nv) (i : Nat) (x : Nv), L[i]? = some x → ∀ j, j < 13 → (rowCells L)[i * 13 + j]? = x.cells[j]?
  | [], _, _, h, _, _ => by simp at h
  | y :: L, 0, x, h, j, hj => by
    obtain rfl : y = x := by simpa using h
    rw [rowCells, List.flatMap_cons, List.getElem?_append_left (by simpa [Nv.cells, ndCells] using hj), Nat.zero_mul, Nat.zero_add]
  | y :: L, i + 1, x, h, j, hj => by
    have := rowCells_at L i x (by simpa using h) j hj
    rw [rowCells, List.flatMap_cons, List.getElem?_append_right (by simp [Nv.cells, ndCells]; omega)]
    rw [show (i + 1) * 13 + j - y.cells.length = i * 13 + j by simp [Nv.cells, ndCells]; omega]
    exact this
/-- The slice of nodes, written out. -/
theorem Ar.tab {w : World} {B : Nat} {tab inv : Value} {L : List Nv} (h : Ar w B tab inv L) : (tab = .slice none 0 0 ∧ L = []) ∨
    ∃ g cap, tab = .slice (some ⟨g, 0, none⟩) L.length cap ∧ g < w.heap.size ∧ L.length ≤ cap ∧ cap ≤ maxLen ∧ g ≠ B ∧
      ∀ i x, L[i]? = some x → ∀ j v, x.cells[j]? = some v → w.cell? ⟨g, i * 13 + j, none⟩ = some v ∧ w.frozen? ⟨g, i * 13 + j, none⟩ = false := by
  obtain ⟨h1, ⟨h2, h3⟩ | ⟨g, cap, cur, h2, h3, h4, h5, h6, h7, h8⟩⟩ := h.row
  · exact .inl ⟨h2, List.eq_nil_of_length_eq_zero h3⟩
  · refine .inr ⟨g, cap, h2, (Array.getElem?_eq_some_iff.1 h4).1, h5, h6, fun e => ?_, fun i x hx j v hv => ⟨?_, Lib.frozen_of_heap h4 _⟩⟩
    · have := h.nd
      rw [blocks, h2] at this
      simp [Value.ownBlock, e] at this
    · have hj : j < 13 := by have := (List.getElem?_eq_some_iff.1 hv).1; simpa [Nv.cells, ndCells] using this
      have hr := rowCells_at L i x hx j hj
      rw [hv] at hr
      rw [cell_of_row w g _ cur _ _ h4, ← Array.getElem?_toList]
      have hi : i < L.length := (List.getElem?_eq_some_iff.1 hx).1
      rw [← h8, List.getElem?_take, if_pos (by omega)] at hr
      exact hr

theorem Ar.tab_ne {w : World} {B : Nat} {tab inv : Value} {L : List Nv} (h : Ar w B tab inv L) : some B ≠ tab.ownBlock := by
  intro e
  have := h.nd
  rw [blocks, ← e] at this
  simp at this
theorem Ar.tab_new {w : World} {B : Nat} {tab inv : Value} {L : List Nv} (h : Ar w B tab inv L) : some w.heap.size ≠ tab.ownBlock := by
  rcases h.tab with ⟨rfl, _⟩ | ⟨g, cap, rfl, hg, _⟩
  · simp [Value.ownBlock]
  · simp [Value.ownBlock]; omega
theorem Ar.form {w : World} {B : Nat} {tab inv : Value} {L : List Nv} (h : Ar w B tab inv L) : ∃ ad cap, tab = .slice ad L.length cap := by
  rcases h.tab with ⟨ht, hl⟩ | ⟨g, cap, ht, _⟩
  · subst hl; exact ⟨none, 0, ht⟩
  · exact ⟨_, _, ht⟩
def isH (n : Nat) (h : Int) : Bool := decide (1 ≤ h) && decide (h ≤ (n : Int))
set_option maxRecDepth 100000 in
theorem has_any (h : Int) (w : World) {B : Nat} {tab inv : Value} {L : List Nv} (hA : Ar w B tab inv L) : Calls Tryz.prog 45 #[.pointer (some ⟨B, 0, none⟩), .int .i64 h] w fun e w' => e = .returned (.bool (isH L.length h)) ∧ w = w' := by
  have c0 := hA.c0
  obtain ⟨ad, cap, rfl⟩ := hA.form
  clear hA
  unfold isH
  by_cases h1 : 1 ≤ h
  · go_enter Tryz.func45, Tryz.ntmps45
    go_wp2
    all_goals
      go_ret
      exact ⟨by simp [*], rfl⟩
  · have h2 : decide (1 ≤ h) = false := by simpa using h1
    go_enter Tryz.func45, Tryz.ntmps45
    go_wp2
    all_goals
      go_ret
      exact ⟨by simp, rfl⟩
set_option maxRecDepth 100000 in
theorem at_any (i : Nat) (w : World) {B g n cap : Nat} (c0 : w.cell? ⟨B, 0, none⟩ = some (.slice (some ⟨g, 0, none⟩) n cap)) (hi : i < n) (hn : n ≤ 1000000000) :
    Calls Tryz.prog 37 #[.pointer (some ⟨B, 0, none⟩), .int .i64 ((i + 1 : Nat) : Int)] w fun e w' => e = .returned (.pointer (some ⟨g, i * 13, none⟩)) ∧ w = w' := by
  go_enter Tryz.func37, Tryz.ntmps37
  go_wp2
  go_ret
  exact ⟨by simp, rfl⟩
def zeroN : Value := .agg #[.int .i64 0, .int .i64 0, .slice none 0 0, .int .i64 0, .int .i64 0, .string ⟨#[]⟩, .slice none 0 0, .string ⟨#[]⟩, .string ⟨#[]⟩, .string ⟨#[]⟩, .bool false, .int .i64 0, .int .i64 0]
theorem ownsRow_below {w w' : World} {b n s : Nat} {e : TypeId} {v : Value} {xs : List Value} (h : w.ownsRow b e s v n xs) (hb : Below w.heap.size w w') : w'.ownsRow b e s v n xs := by
  refine ⟨h.1, ?_⟩
  rcases h.2 with h | ⟨g, cap, cur, hv, hg, hgg, r⟩
  · exact .inl h
  · exact .inr ⟨g, cap, cur, hv, hg, (hb.block g (Array.getElem?_eq_some_iff.1 hgg).1).trans hgg, r⟩
theorem ownsRow_one {w : World} {b n s : Nat} {e : TypeId} {v : Value} {xs : List Value} (h : w.ownsRow b e s v n xs) : v.oneCell' = true := by
  rcases h.2 with ⟨rfl, _⟩ | ⟨g, cap, cur, rfl, _⟩ <;> rfl
/-- The cells of the newest block, as what is to be appended. -/
theorem news_new {w : World} {H : Nat} {cs : List Value} {t : TypeId} (h : w.heap.size = H) : ∀ j u, cs[j]? = some u → (w.alloc (.cells cs.toArray t)).cell? ((⟨H, 0, none⟩ : Addr).add j) = some u := by
  subst h
  intro j u hj
  exact World.news_of_block (World.alloc_heap_new w _) j u (by simpa using hj)
/-- A step of the program on an arena: only its own blocks have turned; what it owns then it owned before, or is new. -/
structure AStep (O : List Nat) (w : World) (O' : List Nat) (w' : World) : Prop where
  mod : Mod (· ∈ O) w w'
  own : ∀ k ∈ O', k ∈ O ∨ w.heap.size ≤ k
theorem AStep.trans {O O1 O2 : List Nat} {w w1 w2 : World} (h : AStep O w O1 w1) (k : AStep O1 w1 O2 w2) : AStep O w O2 w2 := by
  refine ⟨⟨k.mod.os.trans h.mod.os, k.mod.tape.trans h.mod.tape, k.mod.output.trans h.mod.output, Nat.le_trans h.mod.size k.mod.size, fun i hi hO => ?_⟩, fun i hi => ?_⟩
  · refine (k.mod.block i (Nat.lt_of_lt_of_le hi h.mod.size) fun hO1 => ?_).trans (h.mod.block i hi hO)
    rcases h.own i hO1 with h1 | h1
    · exact hO h1
    · omega
  · rcases k.own i hi with h1 | h1
    · exact h.own i h1
    · exact .inr (Nat.le_trans h.mod.size h1)
theorem ownsRow_mod {S : Nat → Prop} {w w' : World} {b n s : Nat} {e : TypeId} {v : Value} {xs : List Value} (h : w.ownsRow b e s v n xs) (hm : Mod S w w') (hS : ∀ g, v.ownBlock = some g → ¬ S g) : w'.ownsRow b e s v n xs := by
  refine ⟨h.1, ?_⟩
  rcases h.2 with h | ⟨g, cap, cur, hv, hg, hgg, r⟩
  · exact .inl h
  · exact .inr ⟨g, cap, cur, hv, hg, (hm.block g (Array.getElem?_eq_some_iff.1 hgg).1 (hS g (by rw [hv]; rfl))).trans hgg, r⟩
theorem ownsRow_lt {w : World} {b n s : Nat} {e : TypeId} {v : Value} {xs : List Value} (h : w.ownsRow b e s v n xs) {g : Nat} (hg : v.ownBlock = some g) : g < w.heap.size := by
  rcases h.2 with ⟨rfl, _⟩ | ⟨g', cap, cur, rfl, _, hgg, _⟩
  · simp [Value.ownBlock] at hg
  · simp [Value.ownBlock] at hg
    subst hg
    exact (Array.getElem?_eq_some_iff.1 hgg).1
theorem mem_blocks {B k : Nat} {tab : Value} {L : List Nv} : k ∈ blocks B tab L ↔ k = B ∨ tab.ownBlock = some k ∨ ∃ x ∈ L, x.kv.ownBlock = some k ∨ x.av.ownBlock = some k := by
  simp only [blocks, List.mem_cons, List.mem_append, Option.mem_toList, List.mem_flatMap]
theorem Ar.lt {w : World} {B : Nat} {tab inv : Value} {L : List Nv} (h : Ar w B tab inv L) {k : Nat} (hk : k ∈ blocks B tab L) : k < w.heap.size := by
  rcases mem_blocks.1 hk with rfl | hk | ⟨x, hx, hk | hk⟩
  · exact (Array.getElem?_eq_some_iff.1 h.hd).1
  · exact ownsRow_lt h.row hk
  · exact ownsRow_lt (h.kid x hx) hk
  · exact ownsRow_lt (h.att x hx) hk
theorem Ar.kept {S : Nat → Prop} {w w' : World} {B : Nat} {tab inv : Value} {L : List Nv} (h : Ar w B tab inv L) (hm : Mod S w w') (hS : ∀ k ∈ blocks B tab L, ¬ S k) : Ar w' B tab inv L :=
  ⟨(hm.block B (Array.getElem?_eq_some_iff.1 h.hd).1 (hS B (mem_blocks.2 (.inl rfl)))).trans h.hd, ownsRow_mod h.row hm fun g hg => hS g (mem_blocks.2 (.inr (.inl hg))),
    fun x hx => ownsRow_mod (h.kid x hx) hm fun g hg => hS g (mem_blocks.2 (.inr (.inr ⟨x, hx, .inl hg⟩))), fun x hx => ownsRow_mod (h.att x hx) hm fun g hg => hS g (mem_blocks.2 (.inr (.inr ⟨x, hx, .inr hg⟩))), h.nd⟩
theorem Ar.later {w w' : World} {B : Nat} {tab inv : Value} {L : List Nv} (h : Ar w B tab inv L) (hb : Below w.heap.size w w') : Ar w' B tab inv L := h.kept (S := fun _ => False) (Mod.of_below hb) fun _ _ h => h
theorem rowCells_app (L M : List Nv) : rowCells (L ++ M) = rowCells L ++ rowCells M := by simp [rowCells]
theorem ar_added {w w1 : World} {B g cap : Nat} {tab inv : Value} {L : List Nv} {x : Nv} (h : Ar w B tab inv L) (hk : w.ownsRow 0 3 1 x.kv x.nd.kids.length (kidCells x.nd.kids)) (ha : w.ownsRow 0 121 3 x.av x.nd.attrs.length (attCells x.nd.attrs))
    (hnd : (blocks B tab (L ++ [x])).Nodup) (hown : w1.ownsRow 0 96 13 (.slice (some ⟨g, 0, none⟩) (L.length + 1) cap) (L.length + 1) (rowCells L ++ x.cells))
    (hm : Mod (fun k => tab.ownBlock = some k) w w1) (hat : tab.ownBlock = some g ∨ w.heap.size ≤ g) :
    Ar (w1.setCell ⟨B, 0, none⟩ (.slice (some ⟨g, 0, none⟩) (L.length + 1) cap)) B (.slice (some ⟨g, 0, none⟩) (L.length + 1) cap) inv (L ++ [x]) ∧
      AStep (blocks B tab (L ++ [x])) w (blocks B (.slice (some ⟨g, 0, none⟩) (L.length + 1) cap) (L ++ [x])) (w1.setCell ⟨B, 0, none⟩ (.slice (some ⟨g, 0, none⟩) (L.length + 1) cap)) := by
  have hBl := (Array.getElem?_eq_some_iff.1 h.hd).1
  have hBt : tab.ownBlock ≠ some B := fun e => h.tab_ne e.symm
  have hgB : g ≠ B := by
    rintro rfl
    rcases hat with e | e
    · exact hBt e
    · omega
  have hd1 : w1.heap[B]? = some (.cells #[tab, inv] 93 (0, 0)) := (hm.block B hBl hBt).trans h.hd
  have hd2 := Joins.block_setCell (i := 0) hd1 (.slice (some ⟨g, 0, none⟩) (L.length + 1) cap)
  -- the nodes' own blocks
  have hx : ∀ y ∈ L ++ [x], w.ownsRow 0 3 1 y.kv y.nd.kids.length (kidCells y.nd.kids) ∧ w.ownsRow 0 121 3 y.av y.nd.attrs.length (attCells y.nd.attrs) := by
    intro y hy
    rcases List.mem_append.1 hy with hy | hy
    · exact ⟨h.kid y hy, h.att y hy⟩
    · obtain rfl : y = x := by simpa using hy
      exact ⟨hk, ha⟩
  have hrest : ∀ k, k ∈ ((L ++ [x]).flatMap fun x => x.kv.ownBlock.toList ++ x.av.ownBlock.toList) → k < w.heap.size ∧ k ≠ B ∧ tab.ownBlock ≠ some k := by
    intro k hkm
    refine ⟨?_, ?_, ?_⟩
    · simp only [List.mem_flatMap, List.mem_append, Option.mem_toList] at hkm
      obtain ⟨y, hy, hyk⟩ := hkm
      rcases hyk with hyk | hyk
      · exact ownsRow_lt (hx y (by simpa using hy)).1 hyk
      · exact ownsRow_lt (hx y (by simpa using hy)).2 hyk
    · rintro rfl
      exact (List.nodup_cons.1 hnd).1 (List.mem_append_right _ hkm)
    · intro e
      have := (List.nodup_append.1 (List.nodup_cons.1 hnd).2).2.2 k (by simp [e]) k hkm
      exact this rfl
  have hm2 : Mod (fun k => k = B ∨ tab.ownBlock = some k) w (w1.setCell ⟨B, 0, none⟩ (.slice (some ⟨g, 0, none⟩) (L.length + 1) cap)) :=
    (hm.mono fun k _ hk => .inr hk).trans (Mod.setCell _ _ (.inl rfl))
  have hkeep : ∀ k, k ∈ ((L ++ [x]).flatMap fun x => x.kv.ownBlock.toList ++ x.av.ownBlock.toList) → ¬ (k = B ∨ tab.ownBlock = some k) := fun k hk h => h.elim (hrest k hk).2.1 (hrest k hk).2.2
  refine ⟨⟨?_, ?_, fun y hy => ?_, fun y hy => ?_, ?_⟩, ⟨?_, ?_⟩⟩
  · rw [hd2]; rfl
  · refine ⟨by rw [rowCells_len], ?_⟩
    rcases hown.2 with ⟨e, _⟩ | ⟨g', cap', cur, e, _, hgg, r⟩
    · cases e
    · cases e
      refine .inr ⟨g, cap, cur, by simp, Nat.zero_le _, (Below.heap_setCell _ _ _ _ hgB).trans hgg, ?_⟩
      rw [rowCells_app, show rowCells [x] = x.cells by simp [rowCells], List.length_append]
      exact r
  · exact ownsRow_mod (hx y hy).1 hm2 fun k hk => hkeep k (List.mem_flatMap.2 ⟨y, hy, by simp [hk]⟩)
  · exact ownsRow_mod (hx y hy).2 hm2 fun k hk => hkeep k (List.mem_flatMap.2 ⟨y, hy, by simp [hk]⟩)
  · obtain ⟨n1, n2⟩ := List.nodup_cons.1 hnd
    refine List.nodup_cons.2 ⟨fun hmem => ?_, ?_⟩
    · rcases List.mem_append.1 hmem with hmem | hmem
      · simp [Value.ownBlock] at hmem; exact hgB hmem.symm
      · exact (hrest B hmem).2.1 rfl
    · refine List.nodup_append.2 ⟨by simp [Value.ownBlock], (List.nodup_append.1 n2).2.1, ?_⟩
      rintro a ha b hb rfl
      have : a = g := by simpa [Value.ownBlock] using ha
      subst this
      rcases hat with e | e
      · exact (hrest a hb).2.2 e
      · have := (hrest a hb).1; omega
  · refine hm2.mono fun k _ hk => mem_blocks.2 ?_
    rcases hk with hk | hk
    · exact .inl hk
    · exact .inr (.inl hk)
  · intro k hk
    rcases mem_blocks.1 hk with rfl | hk | ⟨y, hy, hk⟩
    · exact .inl (mem_blocks.2 (.inl rfl))
    · have : k = g := by simpa [Value.ownBlock] using hk.symm
      subst this
      rcases hat with e | e
      · exact .inl (mem_blocks.2 (.inr (.inl e)))
      · exact .inr e
    · exact .inl (mem_blocks.2 (.inr (.inr ⟨y, hy, hk⟩)))
theorem infoN : (Tryz.prog.info? 96).map (fun i => (i.zero, i.size, i.bytes)) = some (some zeroN, 13, 168) := by kernel_rfl
set_option maxRecDepth 100000 in
set_option maxHeartbeats 1000000 in
theorem add_any (x : Nv) (w : World) {B : Nat} {tab inv : Value} {L : List Nv} (hA : Ar w B tab inv L) (hl : L.length ≤ 1000000) (hk : w.ownsRow 0 3 1 x.kv x.nd.kids.length (kidCells x.nd.kids)) (ha : w.ownsRow 0 121 3 x.av x.nd.attrs.length (attCells x.nd.attrs))
    (hnd : (blocks B tab (L ++ [x])).Nodup) :
    Calls Tryz.prog 36 #[.pointer (some ⟨B, 0, none⟩), .agg x.cells.toArray] w fun e w' => e = .returned (natV (L.length + 1)) ∧ ∃ tab', Ar w' B tab' inv (L ++ [x]) ∧ AStep (blocks B tab (L ++ [x])) w (blocks B tab' (L ++ [x])) w' := by
  have hkv := ownsRow_one hk
  have hav := ownsRow_one ha
  have c0 := hA.c0
  have hrow := hA.row
  obtain ⟨d, kv, av⟩ := x
  simp only [Nv.cells, ndCells]
  obtain ⟨i0, hi, hz0, hz1, hz2⟩ := info_parts infoN
  have hz3 : zeroN.cells.size = 13 := by decide
  have hm1 : L.length + 1 ≤ maxLen := by unfold maxLen; omega
  have hm2 : (L.length + 1) * 168 ≤ 140737488355328 := by omega
  have hone : ∀ u ∈ ndCells d kv av, u.oneCell' = true := by
    intro u hu
    simp only [ndCells, List.mem_cons, List.not_mem_nil, or_false] at hu
    rcases hu with rfl | rfl | rfl | rfl | rfl | rfl | rfl | rfl | rfl | rfl | rfl | rfl | rfl <;> first | rfl | exact hkv | exact hav
  have HR := Lib.hid hrow
  have hBl : B < w.heap.size := World.block_lt_of_cell? _ _ c0
  have hnB : some B ≠ tab.ownBlock := hA.tab_ne
  have hnH : some w.heap.size ≠ tab.ownBlock := hA.tab_new
  have f0 : w.frozen? ⟨B, 0, none⟩ = false := hA.f0 0
  have HA := Lib.hid hA; have HK := Lib.hid hk; have HAT := Lib.hid ha; have HND := Lib.hid hnd
  clear hrow hA hk ha hnd
  go_enter Tryz.func36, Tryz.ntmps36
  go_wp2
  go_region_law ((refine step_append_lies _ (by rfl) _ _ _ (by rfl) 0 96 i0 zeroN 13 168 Tryz.underlying90 hi hz0 hz1 hz2 hz3 (by decide) tab L.length (rowCells L) (by rfl) (ownsRow_below HR.out (by go_grown)) ⟨w.heap.size + 1, 0, none⟩ 1 1 (ndCells d kv av) (by rfl) (by rfl) (news_new (by simp)) hone (by decide) hm1 hm2 (Nat.zero_le _) (w.heap.size + 2) (by simp) ?_; intro g cap w1 hown hgrow hat hlt; have hfz : w1.frozen? ⟨B, 0, none⟩ = false := (hgrow.frozen_far _ (by simp; omega) hnB).trans (by go_simp); have hcz : w1.cell? ⟨B, 0, none⟩ = some tab := (hgrow.cell_far _ (by simp; omega) hnB).trans (by go_simp)))
  all_goals
    have hfin := ar_added HA.out HK.out HAT.out HND.out (w1 := w1) (g := g) (cap := cap) (by first | exact hown | simpa using hown) (by first | exact ((Mod.alloc _ w _).trans (Mod.alloc _ _ _)).trans (Mod.of_grown hgrow fun _ h => h) | exact ((Mod.alloc _ w _).trans (Mod.alloc _ _ _)).drew.trans (Mod.of_grown hgrow fun _ h => h) | exact ((Mod.alloc _ w _).drew.trans (Mod.alloc _ _ _)).trans (Mod.of_grown hgrow fun _ h => h) | exact ((Mod.alloc _ w _).drew.trans (Mod.alloc _ _ _)).drew.trans (Mod.of_grown hgrow fun _ h => h)) (by rcases hat with h | h; (· exact .inl h); (· exact .inr (by omega)))
    have HF := Lib.hid hfin
    clear hfin hown hgrow hat
    go_wp2
    go_ret
    exact ⟨by simp [natV], _, HF.out⟩
end Go.Proofs.YtdapdadcninidaaGreatDoor
namespace Go.Proofs.YtdapdadcninidaaGreatDoor
open Go.RowKit
attribute [local go_sem ↓] Go.wp_at_zero Go.wp_at_succ

theorem Nv.cells_len (x : Nv) : x.cells.length = 13 := rfl
theorem rowCells_set : ∀ (L : List Nv) (i j : Nat) (x y : Nv) (v : Value), L[i]? = some x → j < 13 → y.cells = x.cells.set j v → rowCells (L.set i y) = (rowCells L).set (i * 13 + j) v
  | [], _, _, _, _, _, h, _, _ => by simp at h
  | z :: L, 0, j, x, y, v, h, hj, hy => by
    obtain rfl : z = x := by simpa using h
    rw [List.set_cons_zero, rowCells, List.flatMap_cons, hy, rowCells, List.flatMap_cons, Nat.zero_mul, Nat.zero_add, List.set_append_left _ _ (by rw [Nv.cells_len]; exact hj)]
  | z :: L, i + 1, j, x, y, v, h, hj, hy => by
    have ih := rowCells_set L i j x y v (by simpa using h) hj hy
    rw [List.set_cons_succ, rowCells, List.flatMap_cons, rowCells, List.flatMap_cons, List.set_append_right _ _ (by rw [Nv.cells_len]; omega), Nv.cells_len, show (i + 1) * 13 + j - 13 = i * 13 + j by omega]
    exact congrArg _ ih
/-- A field of node i is set. -/
theorem ar_set {w : World} {B g n cap i j : Nat} {tab inv v : Value} {L : List Nv} {x y : Nv} (h : Ar w B tab inv L) (ht : tab = .slice (some ⟨g, 0, none⟩) n cap) (hx : L[i]? = some x) (hj : j < 13) (hy : y.cells = x.cells.set j v)
    (hk : w.ownsRow 0 3 1 y.kv y.nd.kids.length (kidCells y.nd.kids)) (ha : w.ownsRow 0 121 3 y.av y.nd.attrs.length (attCells y.nd.attrs)) (hnd : (blocks B tab (L.set i y)).Nodup) :
    Ar (w.setCell ⟨g, i * 13 + j, none⟩ v) B tab inv (L.set i y) := by
  have hi : i < L.length := (List.getElem?_eq_some_iff.1 hx).1
  have hgt : tab.ownBlock = some g := by rw [ht]; rfl
  have hgB : g ≠ B := fun e => h.tab_ne (by rw [hgt, e])
  have hm : Mod (fun k => k = g) w (w.setCell ⟨g, i * 13 + j, none⟩ v) := Mod.setCell _ _ rfl
  obtain ⟨n1, n2⟩ := List.nodup_cons.1 hnd
  have hrest : ∀ z ∈ L.set i y, z.kv.ownBlock ≠ some g ∧ z.av.ownBlock ≠ some g := by
    intro z hz
    have := (List.nodup_append.1 n2).2.2 g (by simp [hgt])
    exact ⟨fun e => this g (List.mem_flatMap.2 ⟨z, hz, by simp [e]⟩) rfl, fun e => this g (List.mem_flatMap.2 ⟨z, hz, by simp [e]⟩) rfl⟩
  have hown : ∀ z ∈ L.set i y, w.ownsRow 0 3 1 z.kv z.nd.kids.length (kidCells z.nd.kids) ∧ w.ownsRow 0 121 3 z.av z.nd.attrs.length (attCells z.nd.attrs) := by
    intro z hz
    rcases List.mem_or_eq_of_mem_set hz with hz | rfl
    · exact ⟨h.kid z hz, h.att z hz⟩
    · exact ⟨hk, ha⟩
  refine ⟨(Below.heap_setCell _ _ _ _ (Ne.symm hgB)).trans h.hd, ?_, fun z hz => ?_, fun z hz => ?_, hnd⟩
  · obtain ⟨h1, ⟨h2, h3⟩ | ⟨g', cap', cur, h2, h3, h4, h5, h6, h7, h8⟩⟩ := h.row
    · omega
    · rw [ht] at h2
      cases h2
      refine ⟨by rw [rowCells_len], .inr ⟨g, cap, cur.setIfInBounds (i * 13 + j) v, by rw [ht, List.length_set], h3, Joins.block_setCell h4 v, by simpa using h5, h6, by simpa using h7, ?_⟩⟩
      rw [rowCells_set L i j x y v hx hj hy, ← h8, List.length_set, Array.toList_setIfInBounds, List.take_set]
  · exact ownsRow_mod (hown z hz).1 hm fun k hkk e => (hrest z hz).1 (by rw [hkk, e])
  · exact ownsRow_mod (hown z hz).2 hm fun k hkk e => (hrest z hz).2 (by rw [hkk, e])
theorem blocks_set {B i : Nat} {tab : Value} {L : List Nv} {x y : Nv} (hx : L[i]? = some x) (hk : y.kv = x.kv) (ha : y.av = x.av) : blocks B tab (L.set i y) = blocks B tab L := by
  unfold blocks
  congr 2
  induction L generalizing i with
  | nil => rfl
  | cons z L ih =>
    cases i with
    | zero =>
      obtain rfl : z = x := by simpa using hx
      simp [hk, ha]
    | succ i => simp only [List.set_cons_succ, List.flatMap_cons]; rw [ih (by simpa using hx)]
/-- .. one that is no slice. -/
theorem ar_put {w : World} {B g n cap i j : Nat} {tab inv v : Value} {L : List Nv} {x : Nv} {d : Nd} (h : Ar w B tab inv L) (ht : tab = .slice (some ⟨g, 0, none⟩) n cap) (hx : L[i]? = some x) (hj : j < 13)
    (hd : ndCells d x.kv x.av = x.cells.set j v) (hk : d.kids = x.nd.kids) (ha : d.attrs = x.nd.attrs) :
    Ar (w.setCell ⟨g, i * 13 + j, none⟩ v) B tab inv (L.set i ⟨d, x.kv, x.av⟩) ∧ AStep (blocks B tab L) w (blocks B tab (L.set i ⟨d, x.kv, x.av⟩)) (w.setCell ⟨g, i * 13 + j, none⟩ v) := by
  have hm := List.mem_of_getElem? hx
  have hb := blocks_set (B := B) (tab := tab) (y := ⟨d, x.kv, x.av⟩) hx rfl rfl
  refine ⟨ar_set h ht hx hj hd ?_ ?_ (by rw [hb]; exact h.nd), ⟨Mod.setCell _ _ (mem_blocks.2 (.inr (.inl (by rw [ht]; rfl)))), fun k hk => .inl (by rwa [hb] at hk)⟩⟩
  · dsimp only; rw [hk]; exact h.kid x hm
  · dsimp only; rw [ha]; exact h.att x hm

/-- Where an arena lies: its block, and its map's value. -/
structure AB where
  blk : Nat
  iv : Value
instance : Coe AB Nat := ⟨AB.blk⟩
/-- The arena at B holds these nodes; O: the blocks that are its own. -/
def ArW (B : AB) (O : List Nat) (ns : List Nd) (w : World) : Prop := ∃ tab L, Ar w B.blk tab B.iv L ∧ blocks B.blk tab L = O ∧ L.map (·.nd) = ns
theorem ArW.later {B : AB} {O : List Nat} {ns : List Nd} {w w' : World} (h : ArW B O ns w) (hb : Below w.heap.size w w') : ArW B O ns w' := by
  obtain ⟨tab, L, h1, h2, h3⟩ := h
  exact ⟨tab, L, h1.later hb, h2, h3⟩
theorem ArW.kept {S : Nat → Prop} {B : AB} {O : List Nat} {ns : List Nd} {w w' : World} (h : ArW B O ns w) (hm : Mod S w w') (hS : ∀ k ∈ O, ¬ S k) : ArW B O ns w' := by
  obtain ⟨tab, L, h1, h2, h3⟩ := h
  exact ⟨tab, L, h1.kept hm (by rw [h2]; exact hS), h2, h3⟩
theorem ArW.lt {B : AB} {O : List Nat} {ns : List Nd} {w : World} (h : ArW B O ns w) {k : Nat} (hk : k ∈ O) : k < w.heap.size := by
  obtain ⟨tab, L, h1, h2, h3⟩ := h
  rw [← h2] at hk
  exact h1.lt hk
theorem ArW.hasB {B : AB} {O : List Nat} {ns : List Nd} {w : World} (h : ArW B O ns w) : B.blk ∈ O := by
  obtain ⟨tab, L, h1, h2, h3⟩ := h
  rw [← h2]
  exact mem_blocks.2 (.inl rfl)
/-- The error of a call with these handles. -/
def chkH (n : Nat) (hs : List Int) : Int := if hs.all (isH n) then 0 else 3
theorem isH_any (h : Int) (w : World) {B : AB} {O : List Nat} {ns : List Nd} (hA : ArW B O ns w) : Calls Tryz.prog 45 #[.pointer (some ⟨B, 0, none⟩), .int .i64 h] w fun e w' => e = .returned (.bool (isH ns.length h)) ∧ w = w' := by
  obtain ⟨tab, L, h1, h2, rfl⟩ := hA
  rw [List.length_map]
  exact has_any h w h1
set_option maxRecDepth 100000 in
set_option maxHeartbeats 1000000 in
theorem check_any (hs : List Int) (w : World) {B : AB} {H c : Nat} {O : List Nat} {ns : List Nd} (hA : ArW B O ns w) (hc : ∀ j v, hs[j]? = some v → w.cell? ⟨H, j, none⟩ = some (.int .i64 v)) (hn : hs.length ≤ 1000) :
    Calls Tryz.prog 44 #[.pointer (some ⟨B, 0, none⟩), .slice (some ⟨H, 0, none⟩) hs.length c] w fun e w' => e = .returned (.int .i64 (chkH ns.length hs)) ∧ w = w' := by
  have H1 := Lib.hid (fun h => isH_any h w hA)
  have HC := Lib.hid hc
  clear hc hA
  go_enter Tryz.func44, Tryz.ntmps44
  go_wp2
  go_loop [6, 11] (fun _ i => ∃ k : Nat, k ≤ hs.length ∧ i = .int .i64 k ∧ (hs.take k).all (isH ns.length) = true) (fun _ i => hs.length - (intOf i).toNat)
  case atStart => exact ⟨0, Nat.zero_le _, rfl, rfl⟩
  case round =>
    obtain ⟨k, hk, rfl, hall⟩ := hrel
    have HA := Lib.hid hall
    clear hall
    by_cases hlt : k < hs.length
    · have hcell := HC.out k hs[k] (List.getElem?_eq_getElem hlt)
      obtain ⟨z, hz⟩ : ∃ z, hs[k] = z := ⟨_, rfl⟩
      rw [hz] at hcell
      have HZ := Lib.hid hz
      clear hz
      cases hb : isH ns.length z
      · have H2 := H1.out z
        rw [hb] at H2
        have H3 := Lib.hid H2
        have HR : Hid (chkH ns.length hs = 3) := Lib.hid (by
          unfold chkH
          rw [if_neg]
          rw [List.all_eq_true]
          intro h
          have := h hs[k] (List.getElem_mem hlt)
          rw [HZ.out, hb] at this
          cases this)
        clear H2 hb
        go_wp2_with (refine H3.out.mono ?_; rintro e w' ⟨rfl, rfl⟩)
        go_ret
        exact ⟨by rw [HR.out]; rfl, rfl⟩
      · have H2 := H1.out z
        rw [hb] at H2
        have H3 := Lib.hid H2
        have HN : Hid ((hs.take (k + 1)).all (isH ns.length) = true) := Lib.hid (by
          rw [List.take_succ_eq_append_getElem hlt, List.all_append, HA.out, HZ.out]; simp [hb])
        clear H2 hb
        go_wp2_with (refine H3.out.mono ?_; rintro e w' ⟨rfl, rfl⟩)
        go_round
        case rel => exact ⟨k + 1, by omega, by go_num, HN.out⟩
        case measure => simp [intOf]; omega
    · have HR : Hid (chkH ns.length hs = 0) := Lib.hid (by
        unfold chkH
        rw [if_pos]
        have := HA.out
        rwa [List.take_of_length_le (by omega)] at this)
      go_wp2
      go_ret
      exact ⟨by rw [HR.out]; rfl, rfl⟩
end Go.Proofs.YtdapdadcninidaaGreatDoor
