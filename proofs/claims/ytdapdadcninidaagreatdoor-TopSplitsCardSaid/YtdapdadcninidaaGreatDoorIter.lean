/- Ranging over a function: an iterator's contract that may keep state of its own in cells, and the law of the statement over it.
   I: the iterator's own cells (laid before the loop); R: what it reads beside them; m: the heap's size where the loop (the iterator's call) begins; n1: the heap's size at the first call of yield. -/
import Derived.Test.YtdapdadcninidaaGreatDoorBase
import Derived.RangeFuncNested
import Derived.RangeFuncBound
import Derived.RangeFuncCalls
import Derived.RangeFuncLeaves
import Derived.OwnWalkIn
import Derived.TacticsInMore
import Derived.LoopNIn
import Derived.LoopIn
namespace Go.Proofs.YtdapdadcninidaaGreatDoor
open Go.RowKit

/-- Of the blocks that lay in A only those with S may have turned. -/
structure Mod (S : Nat → Prop) (A B : World) : Prop where
  os : B.os = A.os
  tape : B.tape = A.tape
  output : B.output = A.output
  size : A.heap.size ≤ B.heap.size
  block : ∀ k, k < A.heap.size → ¬ S k → B.heap[k]? = A.heap[k]?
theorem Mod.refl (S : Nat → Prop) (A : World) : Mod S A A := ⟨rfl, rfl, rfl, Nat.le_refl _, fun _ _ _ => rfl⟩
theorem Mod.trans {S : Nat → Prop} {A B C : World} (h : Mod S A B) (k : Mod S B C) : Mod S A C :=
  ⟨k.os.trans h.os, k.tape.trans h.tape, k.output.trans h.output, Nat.le_trans h.size k.size, fun i hi hs => (k.block i (Nat.lt_of_lt_of_le hi h.size) hs).trans (h.block i hi hs)⟩
theorem Mod.mono {S T : Nat → Prop} {A B : World} (h : Mod S A B) (hs : ∀ k, k < A.heap.size → S k → T k) : Mod T A B :=
  ⟨h.os, h.tape, h.output, h.size, fun k hk ht => h.block k hk (fun e => ht (hs k hk e))⟩
theorem Mod.alloc (S : Nat → Prop) (A : World) (o : Obj) : Mod S A (A.alloc o) := ⟨rfl, rfl, rfl, by simp, fun k hk _ => Below.heap_alloc A o k hk⟩
theorem Mod.drew {S : Nat → Prop} {A B : World} (h : Mod S A B) : Mod S A B.drew := ⟨h.os, h.tape, h.output, h.size, h.block⟩
theorem Mod.drewN {S : Nat → Prop} {A B : World} (h : Mod S A B) (n : Nat) : Mod S A (B.drewN n) := ⟨h.os, h.tape, h.output, h.size, h.block⟩
theorem Mod.putObj {S : Nat → Prop} (A : World) {r : Nat} (o : Obj) (hr : S r) : Mod S A (A.putObj r o) :=
  ⟨rfl, rfl, rfl, by simp, fun k _ hs => World.putObj_heap_other (fun e => hs (e ▸ hr))⟩
theorem Mod.setCell {S : Nat → Prop} (A : World) {a : Addr} (v : Value) (hr : S a.block) : Mod S A (A.setCell a v) :=
  ⟨rfl, rfl, rfl, by simp [World.setCell], fun k _ hs => Below.heap_setCell A a v k (fun e => hs (e ▸ hr))⟩
theorem Mod.of_below {S : Nat → Prop} {A B : World} (h : Below A.heap.size A B) : Mod S A B := ⟨h.os, h.tape, h.output, h.size, fun k hk _ => h.block k hk⟩
theorem Mod.below {S : Nat → Prop} {A B : World} {n : Nat} (h : Mod S A B) (hn : n ≤ A.heap.size) (hs : ∀ k, k < n → ¬ S k) : Below n A B :=
  ⟨h.os, h.tape, h.output, h.size, fun k hk => h.block k (Nat.lt_of_lt_of_le hk hn) (hs k hk)⟩
theorem Mod.cell {S : Nat → Prop} {A B : World} (h : Mod S A B) {p : Addr} (hp : p.block < A.heap.size) (hs : ¬ S p.block) : B.cell? p = A.cell? p :=
  World.cell?_of_block (w := A) (h.block p.block hp hs)
theorem Mod.frozen {S : Nat → Prop} {A B : World} (h : Mod S A B) {p : Addr} (hp : p.block < A.heap.size) (hs : ¬ S p.block) : B.frozen? p = A.frozen? p :=
  World.frozen?_of_block (w := A) (h.block p.block hp hs)

/-- What the iterator may turn between two rounds. -/
def ItS (m n1 : Nat) (I : Nat → Prop) (k : Nat) : Prop := I k ∨ (m ≤ k ∧ k < n1)
/-- What the loop's body may turn. -/
def BoS (m n1 : Nat) (I R : Nat → Prop) (k : Nat) : Prop := ¬ I k ∧ ¬ R k ∧ ¬ (m ≤ k ∧ k < n1)

/-- THE ITERATOR's CONTRACT: it hands xs to yield, one after the other, as long as yield says yes. -/
def IterAt {α : Type} (F : Fence) (n : Nat) (P : Program) (g : Nat) (lb : Array Value) (encs : α → Array Value) (xs : List α) (I R : Nat → Prop) (w : World) : Prop :=
  ∀ (l : Nat) (J Jx : Nat → Nat → World → Prop) (W : World), w.heap.size ≤ W.heap.size → (∀ k, I k ∨ R k → W.heap[k]? = w.heap[k]?) →
    (∀ n1 i A B, J n1 i A → Mod (ItS W.heap.size n1 I) A B → J n1 i B) → (∀ n1 i A B, Jx n1 i A → Mod (ItS W.heap.size n1 I) A B → Jx n1 i B) →
    (∀ n1 i x W1, xs[i]? = some x → J n1 i W1 → W.heap.size ≤ n1 → n1 ≤ W1.heap.size → YieldAt F (n - 1) P l (encs x) W1 fun e W' =>
      ((e = .returned (.bool true) ∧ J n1 (i + 1) W') ∨ (e = .returned (.bool false) ∧ Jx n1 (i + 1) W')) ∧ Mod (BoS W.heap.size n1 I R) W1 W') →
    (∀ n1, W.heap.size ≤ n1 → J n1 0 W) →
    CallsIn F n P g (#[.func (.yield l) #[] #[]] ++ lb) W fun e W' => (∃ v, e = .returned v) ∧ ∃ n1, W.heap.size ≤ n1 ∧ n1 ≤ W'.heap.size ∧ (J n1 xs.length W' ∨ ∃ i, i ≤ xs.length ∧ Jx n1 i W')

/-- What the body's walk must come to. -/
def bodyPostI (J : Nat → World → Prop) (Jx : Code → Nat → World → Prop) (S : Nat → Prop) (i : Nat) (W : World) : Exit → Act → World → Prop
  | .normal, _, W' => J (i + 1) W' ∧ Mod S W W'
  | .ret, _, W' => Jx .ret (i + 1) W' ∧ Mod S W W'
  | .exit id, _, W' => Jx (.exit id) (i + 1) W' ∧ Mod S W W'
  | .goto t, _, W' => Jx (.goto t) (i + 1) W' ∧ Mod S W W'
  | .panic _, _, _ => False
  | .outgrown, _, _ => False

variable {F : Fence} {n : Nat} {P : Program}
theorem wpIn_rangeFunc_it2 {α : Type} {g : Operand} {ps : Array Tmp} {assign body : Code} {Q : Exit → Act → World → Prop} {a : Act} {w : World}
    (hro : F.round = none) (h1 : 1 ≤ n) {gf : Nat} {lb : Array Value} (hg : a.eval g = .func (.func gf) #[] lb) (hFg : F.fn gf) (eg : ∀ args w, (callFunc gf args).run P w = .ok (.enter gf args) w)
    {encs : α → Array Value} {xs : List α} {I R : Nat → Prop} {w0 : World} (hseq : IterAt F (n - 1) P gf lb encs xs I R w0)
    (hsz : w0.heap.size ≤ w.heap.size) (hRI : ∀ k, R k → ¬ I k) (hIR : ∀ k, I k ∨ R k → k < w.heap.size ∧ w.heap[k]? = w0.heap[k]?) (hps : ∀ x, (encs x).size = ps.size)
    (J : Nat → Nat → World → Prop) (Jx : Nat → Code → Nat → World → Prop)
    (hJ : ∀ n1 i A B, J n1 i A → Mod (ItS w.heap.size n1 I) A B → J n1 i B) (hJx : ∀ n1 c i A B, Jx n1 c i A → Mod (ItS w.heap.size n1 I) A B → Jx n1 c i B)
    (h0 : ∀ n1, w.heap.size ≤ n1 → J n1 0 w)
    (hround : ∀ (l : Nat) (x : α) (W : World),
      assign.wpIn (F.inRound l) (n - 1 - 1) P (Exit.then (fun a₁ W₁ => W₁ = W ∧ ∀ (n1 i : Nat) (W' : World), xs[i]? = some x → J n1 i W' → w.heap.size + 2 ≤ n1 → n1 ≤ W'.heap.size → (∀ k, R k → W'.heap[k]? = w.heap[k]?) →
        body.wpIn (F.inRound l) (n - 1 - 1) P (bodyPostI (J n1) (Jx n1) (BoS w.heap.size n1 I R) i W') a₁ W') (fun _ _ _ => False)) { tmps := (ps.zip (encs x)).foldl (fun t (p, v) => t.setIfInBounds p v) a.tmps, defers := [] } W)
    (hdone : ∀ (D n1 : Nat) (W : World), w.heap.size + 2 ≤ n1 → n1 ≤ W.heap.size → J n1 xs.length W → D = w.heap.size → W.heap[D]? = some (.deferred (some [])) → Q .normal { a with defers := { target := .collected D, args := #[] } :: a.defers } W)
    (hstop : ∀ (D n1 : Nat) (c : Code) (i : Nat) (W : World), w.heap.size + 2 ≤ n1 → n1 ≤ W.heap.size → i ≤ xs.length → Jx n1 c i W → D = w.heap.size → W.heap[D]? = some (.deferred (some [])) → c.wpIn F n P Q { a with defers := { target := .collected D, args := #[] } :: a.defers } W) :
    (Code.rangeFunc g ps assign body).wpIn F n P Q a w := by
  refine wpIn_rangeFunc ?_
  intro fn hfn
  rw [hro]
  obtain ⟨rec, hrec⟩ : ∃ rec : LoopState → Option Code → Loop, rec = fun st pe => { state := st, pending := pe, fn, tmps := a.tmps, params := ps, assign, body, defers := w.heap.size } := ⟨_, rfl⟩
  obtain ⟨W1, hW1⟩ : ∃ W1, (w.alloc (.deferred (some []))).alloc (.loop (rec .ready none)) = W1 := ⟨_, rfl⟩
  have hL1 : W1.heap[w.heap.size + 1]? = some (.loop (rec .ready none)) := by
    rw [← hW1]; have := World.alloc_heap_new (w.alloc (.deferred (some []))) (.loop (rec .ready none)); rwa [World.size_alloc] at this
  have hK1 : W1.heap[w.heap.size]? = some (.deferred (some [])) := by
    rw [← hW1]; exact (Below.heap_alloc _ _ _ (by simp)).trans (World.alloc_heap_new w _)
  have hs1 : W1.heap.size = w.heap.size + 2 := by rw [← hW1]; simp
  have hM1 : ∀ S, Mod S w W1 := fun S => by rw [← hW1]; exact (Mod.alloc S w _).trans (Mod.alloc S _ _)
  -- a step of the iterator is one of those that the caller's words abide
  have up : ∀ n1 k, ItS W1.heap.size n1 I k → ItS w.heap.size n1 I k := fun n1 k h => by
    rcases h with h | h
    · exact .inl h
    · exact .inr ⟨by omega, h.2⟩
  have nI : ∀ k, I k → k < w.heap.size := fun k h => (hIR k (.inl h)).1
  refine ⟨w.heap.size + 1, [{ target := .collected w.heap.size, args := #[] }], W1, { target := .fn (.func gf) lb, args := #[.func (.yield (w.heap.size + 1)) #[] #[]] }, W1, gf,
    #[.func (.yield (w.heap.size + 1)) #[] #[]] ++ lb, W1, ?_, ?_, ?_, ?_, fun _ => h1, ?_⟩
  · rw [← hW1, hrec]; exact run_enterLoop_outer _ _ _ _ _
  · simp only [resolve, hg]
    simp [go_sem]
  · intro f' hf'; simp [Target.leads] at hf'; subst hf'; exact hFg
  · simp [invoke, go_sem, eg]
  · have book : ∀ {n1 k}, k = w.heap.size ∨ k = w.heap.size + 1 → ¬ ItS W1.heap.size n1 I k := fun {n1 k} hk h => by
      rcases h with h | h
      · have := nI k h; omega
      · omega
    refine (hseq (w.heap.size + 1)
      (fun n1 i W => J n1 i W ∧ W.heap[w.heap.size + 1]? = some (.loop (rec .ready none)) ∧ W.heap[w.heap.size]? = some (.deferred (some [])) ∧ ∀ k, R k → W.heap[k]? = w.heap[k]?)
      (fun n1 i W => i ≤ xs.length ∧ ∃ c, Jx n1 c i W ∧ W.heap[w.heap.size + 1]? = some (.loop (rec .done (some c))) ∧ W.heap[w.heap.size]? = some (.deferred (some [])))
      W1 (by omega) (fun k hk => ((hM1 (fun _ => False)).block k (hIR k hk).1 (fun h => h)).trans (hIR k hk).2) ?_ ?_ ?_ ?_).mono ?_
    · rintro n1 i A B ⟨hj, hl, hk, hR⟩ hm
      refine ⟨hJ n1 i A B hj (hm.mono fun k _ => up n1 k), (hm.block _ (Array.getElem?_eq_some_iff.1 hl).1 (book (.inr rfl))).trans hl, (hm.block _ (Array.getElem?_eq_some_iff.1 hk).1 (book (.inl rfl))).trans hk, fun k hr => ?_⟩
      have hlt := (hIR k (.inr hr)).1
      have hlA := (Array.getElem?_eq_some_iff.1 hl).1
      refine (hm.block k (by omega) (fun h => ?_)).trans (hR k hr)
      rcases h with h | h
      · exact hRI k hr h
      · omega
    · rintro n1 i A B ⟨hi, c, hj, hl, hk⟩ hm
      exact ⟨hi, c, hJx n1 c i A B hj (hm.mono fun k _ => up n1 k), (hm.block _ (Array.getElem?_eq_some_iff.1 hl).1 (book (.inr rfl))).trans hl, (hm.block _ (Array.getElem?_eq_some_iff.1 hk).1 (book (.inl rfl))).trans hk⟩
    · rintro n1 i x W hx ⟨hj, hl, hk, hR⟩ hn1 hn1'
      have hlt : w.heap.size + 1 < W.heap.size := (Array.getElem?_eq_some_iff.1 hl).1
      have hi : i < xs.length := (List.getElem?_eq_some_iff.1 hx).1
      have hy := run_yield (P := P) (args := encs x) hl (by rw [hrec]; exact hps x)
      rw [hrec] at hy
      refine ⟨fn, _, assign, body, hy, roundIn_of_wpIn hfn (wpIn_mono (hround _ x W) ?_)⟩
      rintro (_ | _ | _ | _ | _ | _) a₁ W₁ hW₁ <;> first | exact hW₁.elim | skip
      obtain ⟨hWe, hbody⟩ := hW₁
      have hWe' := hWe.symm
      subst hWe'
      refine ⟨_, run_beginRound hl (by rw [hrec]), ?_⟩
      have inI : ItS w.heap.size n1 I (w.heap.size + 1) := .inr ⟨by omega, by omega⟩
      have inB : BoS W1.heap.size n1 I R (w.heap.size + 1) := ⟨fun h => by have := nI _ h; omega, fun h => by have := (hIR _ (.inr h)).1; omega, by omega⟩
      have hl2 : (W.putObj (w.heap.size + 1) (.loop { rec .ready none with state := .busy })).heap[w.heap.size + 1]? = some (.loop { rec .ready none with state := .busy }) := World.putObj_heap_same hlt
      have hk2 : (W.putObj (w.heap.size + 1) (.loop { rec .ready none with state := .busy })).heap[w.heap.size]? = some (.deferred (some [])) := (World.putObj_heap_other (by omega)).trans hk
      have hR2 : ∀ k, R k → (W.putObj (w.heap.size + 1) (.loop { rec .ready none with state := .busy })).heap[k]? = w.heap[k]? := fun k hr => (World.putObj_heap_other (by have := (hIR k (.inr hr)).1; omega)).trans (hR k hr)
      refine wpIn_mono (hbody n1 i _ hx (hJ n1 i _ _ hj (Mod.putObj _ _ inI)) (by omega) (by simp; omega) hR2) ?_
      have fin : ∀ (jump : Option Code) (W3 : World), Mod (BoS w.heap.size n1 I R) (W.putObj (w.heap.size + 1) (.loop { rec .ready none with state := .busy })) W3 →
          (Instr.endRound (w.heap.size + 1) jump).run P W3 = .ok (.bool jump.isNone) (W3.putObj (w.heap.size + 1) (.loop (rec (if jump.isNone then .ready else .done) jump))) ∧
          Mod (BoS W1.heap.size n1 I R) W (W3.putObj (w.heap.size + 1) (.loop (rec (if jump.isNone then .ready else .done) jump))) ∧
          (W3.putObj (w.heap.size + 1) (.loop (rec (if jump.isNone then .ready else .done) jump))).heap[w.heap.size + 1]? = some (.loop (rec (if jump.isNone then .ready else .done) jump)) ∧
          (W3.putObj (w.heap.size + 1) (.loop (rec (if jump.isNone then .ready else .done) jump))).heap[w.heap.size]? = some (.deferred (some [])) ∧
          ∀ k, R k → (W3.putObj (w.heap.size + 1) (.loop (rec (if jump.isNone then .ready else .done) jump))).heap[k]? = w.heap[k]? := fun jump W3 hm3 => by
        have hl3 := (hm3.block _ (Array.getElem?_eq_some_iff.1 hl2).1 (fun h => h.2.2 ⟨by omega, by omega⟩)).trans hl2
        have hk3 := (hm3.block _ (Array.getElem?_eq_some_iff.1 hk2).1 (fun h => h.2.2 ⟨by omega, by omega⟩)).trans hk2
        have := run_endRound (P := P) jump hl3
        rw [hrec] at this ⊢
        refine ⟨this, ?_, World.putObj_heap_same (Array.getElem?_eq_some_iff.1 hl3).1, (World.putObj_heap_other (by omega)).trans hk3, fun k hr => ?_⟩
        · refine ((Mod.putObj W _ inB).trans (hm3.mono fun k _ h => ⟨h.1, h.2.1, fun h' => h.2.2 ⟨by omega, h'.2⟩⟩)).trans (Mod.putObj W3 _ inB)
        · refine (World.putObj_heap_other (by have := (hIR k (.inr hr)).1; omega)).trans ((hm3.block k (by have := (hIR k (.inr hr)).1; simp; omega) (fun h => h.2.1 hr)).trans (hR2 k hr))
      rintro e a3 W3 hp
      cases e with
      | normal =>
        obtain ⟨hj3, hm3⟩ := hp
        obtain ⟨hr, hmm, hl4, hk4, hR4⟩ := fin none W3 hm3
        exact ⟨_, _, hr, .inl ⟨rfl, hJ n1 (i + 1) _ _ hj3 (Mod.putObj W3 _ inI), hl4, hk4, hR4⟩, hmm⟩
      | ret =>
        obtain ⟨hj3, hm3⟩ := hp
        obtain ⟨hr, hmm, hl4, hk4, hR4⟩ := fin (some .ret) W3 hm3
        exact ⟨_, _, hr, .inr ⟨rfl, by omega, .ret, hJx n1 _ (i + 1) _ _ hj3 (Mod.putObj W3 _ inI), hl4, hk4⟩, hmm⟩
      | exit id =>
        obtain ⟨hj3, hm3⟩ := hp
        obtain ⟨hr, hmm, hl4, hk4, hR4⟩ := fin (some (.exit id)) W3 hm3
        exact ⟨_, _, hr, .inr ⟨rfl, by omega, .exit id, hJx n1 _ (i + 1) _ _ hj3 (Mod.putObj W3 _ inI), hl4, hk4⟩, hmm⟩
      | goto t =>
        obtain ⟨hj3, hm3⟩ := hp
        obtain ⟨hr, hmm, hl4, hk4, hR4⟩ := fin (some (.goto t)) W3 hm3
        exact ⟨_, _, hr, .inr ⟨rfl, by omega, .goto t, hJx n1 _ (i + 1) _ _ hj3 (Mod.putObj W3 _ inI), hl4, hk4⟩, hmm⟩
      | panic ch => exact hp.elim
      | outgrown => exact hp.elim
    · intro n1 hn1
      exact ⟨hJ n1 0 _ _ (h0 n1 (by omega)) (hM1 _), hL1, hK1, fun k hr => (hM1 (fun _ => False)).block k (hIR k (.inr hr)).1 (fun h => h)⟩
    · rintro e W2 ⟨⟨v, rfl⟩, n1, hn1, hn2, (⟨hj, hl, hk, hR⟩ | ⟨i, hi', hi, c, hj, hl, hk⟩)⟩
      · have inI : ItS w.heap.size n1 I (w.heap.size + 1) := .inr ⟨by omega, by omega⟩
        exact ⟨none, _, by have := run_endLoop (P := P) hl (by rw [hrec]; simp); rw [hrec] at this; exact this, hdone _ n1 _ (by omega) (by simp; omega) (hJ n1 _ _ _ hj (Mod.putObj W2 _ inI)) rfl ((World.putObj_heap_other (by omega)).trans hk)⟩
      · have inI : ItS w.heap.size n1 I (w.heap.size + 1) := .inr ⟨by omega, by omega⟩
        exact ⟨some c, _, by have := run_endLoop (P := P) hl (by rw [hrec]; simp); rw [hrec] at this; exact this, hstop _ n1 c i _ (by omega) (by simp; omega) hi (hJx n1 c i _ _ hj (Mod.putObj W2 _ inI)) rfl ((World.putObj_heap_other (by omega)).trans hk)⟩
theorem wpIn_rangeFunc_it {α : Type} {g : Operand} {ps : Array Tmp} {assign body : Code} {Q : Exit → Act → World → Prop} {a : Act} {w : World}
    (hro : F.round = none) (h1 : 1 ≤ n) {gf : Nat} {lb : Array Value} (hg : a.eval g = .func (.func gf) #[] lb) (hFg : F.fn gf) (eg : ∀ args w, (callFunc gf args).run P w = .ok (.enter gf args) w)
    {encs : α → Array Value} {xs : List α} {I R : Nat → Prop} {w0 : World} (hseq : IterAt F (n - 1) P gf lb encs xs I R w0)
    (hsz : w0.heap.size ≤ w.heap.size) (hRI : ∀ k, R k → ¬ I k) (hIR : ∀ k, I k ∨ R k → k < w.heap.size ∧ w.heap[k]? = w0.heap[k]?) (hps : ∀ x, (encs x).size = ps.size)
    (J : Nat → Nat → World → Prop) (Jx : Nat → Code → Nat → World → Prop)
    (hJ : ∀ n1 i A B, J n1 i A → Mod (ItS w.heap.size n1 I) A B → J n1 i B) (hJx : ∀ n1 c i A B, Jx n1 c i A → Mod (ItS w.heap.size n1 I) A B → Jx n1 c i B)
    (h0 : ∀ n1, w.heap.size ≤ n1 → J n1 0 w)
    (hround : ∀ (l : Nat) (x : α) (W : World),
      assign.wpIn (F.inRound l) (n - 1 - 1) P (Exit.then (fun a₁ W₁ => W₁ = W ∧ ∀ (n1 i : Nat) (W' : World), xs[i]? = some x → J n1 i W' → w.heap.size + 2 ≤ n1 → n1 ≤ W'.heap.size → (∀ k, R k → W'.heap[k]? = w.heap[k]?) →
        body.wpIn (F.inRound l) (n - 1 - 1) P (bodyPostI (J n1) (Jx n1) (BoS w.heap.size n1 I R) i W') a₁ W') (fun _ _ _ => False)) { tmps := (ps.zip (encs x)).foldl (fun t (p, v) => t.setIfInBounds p v) a.tmps, defers := [] } W)
    (hdone : ∀ (D n1 : Nat) (W : World), w.heap.size ≤ n1 → n1 ≤ W.heap.size → J n1 xs.length W → w.heap.size ≤ D → W.heap[D]? = some (.deferred (some [])) → Q .normal { a with defers := { target := .collected D, args := #[] } :: a.defers } W)
    (hstop : ∀ (D n1 : Nat) (c : Code) (i : Nat) (W : World), w.heap.size ≤ n1 → n1 ≤ W.heap.size → i ≤ xs.length → Jx n1 c i W → w.heap.size ≤ D → W.heap[D]? = some (.deferred (some [])) → c.wpIn F n P Q { a with defers := { target := .collected D, args := #[] } :: a.defers } W) :
    (Code.rangeFunc g ps assign body).wpIn F n P Q a w :=
  wpIn_rangeFunc_it2 hro h1 hg hFg eg hseq hsz hRI hIR hps J Jx hJ hJx h0 hround (fun D n1 W h1 h2 h3 h4 h5 => hdone D n1 W (by omega) h2 h3 (by omega) h5) (fun D n1 c i W h1 h2 h3 h4 h5 h6 => hstop D n1 c i W (by omega) h2 h3 h4 (by omega) h6)

/-- A call within the wide fence: its plain contract serves. -/
theorem call_wide {n : Nat} {P : Program} {f : FuncId} {args : Array Value} {w : World} {R R' : Ending → World → Prop} (h : Calls P f args w R) (hr : ∀ e w', R e w' → R' e w') (hn : 1 ≤ n) :
    Fence.wide.fn f ∧ (Fence.wide.depth.isSome = true → 1 ≤ n) ∧ CallsIn Fence.wide (n - 1) P f args w R' :=
  ⟨trivial, fun _ => hn, callsIn_wide.2 (h.mono hr)⟩
theorem call_round {n l : Nat} {P : Program} {f : FuncId} {args : Array Value} {w : World} {R R' : Ending → World → Prop} (h : Calls P f args w R) (hr : ∀ e w', R e w' → R' e w') (hn : 1 ≤ n) :
    (Fence.wide.inRound l).fn f ∧ ((Fence.wide.inRound l).depth.isSome = true → 1 ≤ n) ∧ CallsIn (Fence.wide.inRound l) (n - 1) P f args w R' :=
  ⟨trivial, fun _ => hn, callsIn_wide.2 (h.mono hr)⟩
end Go.Proofs.YtdapdadcninidaaGreatDoor
