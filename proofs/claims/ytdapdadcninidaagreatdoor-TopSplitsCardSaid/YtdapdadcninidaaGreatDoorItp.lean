/- Ranging over a function: an iterator's contract where what the iterator leans on is handed on by the body's own words (Pr follows from J), so that the body may write what the iterator reads.
   I: the iterator's own cells (laid before the loop); n1: the heap's size at the first call of yield. No condition. -/
import Derived.Test.YtdapdadcninidaaGreatDoorIter
namespace Go.Proofs.YtdapdadcninidaaGreatDoor
open Go.RowKit

/-- What the loop's body may turn. -/
def BoP (m n1 : Nat) (I : Nat → Prop) (k : Nat) : Prop := ¬ I k ∧ ¬ (m ≤ k ∧ k < n1)
/-- THE ITERATOR's CONTRACT: it hands xs to yield, one after the other, as long as yield says yes. -/
def IterP {α : Type} (F : Fence) (n : Nat) (P : Program) (g : Nat) (lb : Array Value) (encs : α → Array Value) (xs : List α) (I : Nat → Prop) (Pr : World → Prop) (w : World) : Prop :=
  ∀ (l : Nat) (J Jx : Nat → Nat → World → Prop) (W : World), Below w.heap.size w W →
    (∀ n1 i A B, J n1 i A → Mod (ItS W.heap.size n1 I) A B → J n1 i B) → (∀ n1 i A B, Jx n1 i A → Mod (ItS W.heap.size n1 I) A B → Jx n1 i B) →
    (∀ n1 i A, J n1 i A → Pr A) →
    (∀ n1 i x W1, xs[i]? = some x → J n1 i W1 → W.heap.size ≤ n1 → n1 ≤ W1.heap.size → YieldAt F (n - 1) P l (encs x) W1 fun e W' =>
      ((e = .returned (.bool true) ∧ J n1 (i + 1) W') ∨ (e = .returned (.bool false) ∧ Jx n1 (i + 1) W')) ∧ Mod (BoP W.heap.size n1 I) W1 W') →
    (∀ n1, W.heap.size ≤ n1 → J n1 0 W) →
    CallsIn F n P g (#[.func (.yield l) #[] #[]] ++ lb) W fun e W' => (∃ v, e = .returned v) ∧ ∃ n1, W.heap.size ≤ n1 ∧ n1 ≤ W'.heap.size ∧ (J n1 xs.length W' ∨ ∃ i, i ≤ xs.length ∧ Jx n1 i W')

variable {F : Fence} {n : Nat} {P : Program}
theorem wpIn_rangeFunc_itp {α : Type} {g : Operand} {ps : Array Tmp} {assign body : Code} {Q : Exit → Act → World → Prop} {a : Act} {w : World}
    (hro : F.round = none) (h1 : 1 ≤ n) {gf : Nat} {lb : Array Value} (hg : a.eval g = .func (.func gf) #[] lb) (hFg : F.fn gf) (eg : ∀ args w, (callFunc gf args).run P w = .ok (.enter gf args) w)
    {encs : α → Array Value} {xs : List α} {I : Nat → Prop} {Pr : World → Prop} (hseq : IterP F (n - 1) P gf lb encs xs I Pr w)
    (hI : ∀ k, I k → k < w.heap.size) (hps : ∀ x, (encs x).size = ps.size)
    (J : Nat → Nat → World → Prop) (Jx : Nat → Code → Nat → World → Prop)
    (hJ : ∀ n1 i A B, J n1 i A → Mod (ItS w.heap.size n1 I) A B → J n1 i B) (hJx : ∀ n1 c i A B, Jx n1 c i A → Mod (ItS w.heap.size n1 I) A B → Jx n1 c i B)
    (hP : ∀ n1 i A, J n1 i A → Pr A)
    (h0 : ∀ n1, w.heap.size ≤ n1 → J n1 0 w)
    (hround : ∀ (l : Nat) (x : α) (W : World),
      assign.wpIn (F.inRound l) (n - 1 - 1) P (Exit.then (fun a₁ W₁ => W₁ = W ∧ ∀ (n1 i : Nat) (W' : World), xs[i]? = some x → J n1 i W' → w.heap.size + 2 ≤ n1 → n1 ≤ W'.heap.size →
        body.wpIn (F.inRound l) (n - 1 - 1) P (bodyPostI (J n1) (Jx n1) (BoP w.heap.size n1 I) i W') a₁ W') (fun _ _ _ => False)) { tmps := (ps.zip (encs x)).foldl (fun t (p, v) => t.setIfInBounds p v) a.tmps, defers := [] } W)
    (hdone : ∀ (D n1 : Nat) (W : World), w.heap.size + 2 ≤ n1 → n1 ≤ W.heap.size → J n1 xs.length W → D = w.heap.size → W.heap[D]? = some (.deferred (some [])) → Q .normal { a with defers := { target := .collected D, args := #[] } :: a.defers } W)
    (hstop : ∀ (D n1 : Nat) (c : Code) (i : Nat) (W : World), w.heap.size + 2 ≤ n1 → n1 ≤ W.heap.size → i ≤ xs.length → Jx n1 c i W → D = w.heap.size → W.heap[D]? = some (.deferred (some [])) → c.wpIn F n P Q { a with defers := { target := .collected D, args := #[] } :: a.defers } W) :
    (Code.rangeFunc g ps assign body).wpIn F n P Q a w := by
  refine wpIn_rangeFunc ?_
  intro fn hfn
  rw [hro]
  obtain ⟨rec, hrec⟩ : ∃ rec : LoopState → Option Code → Loop, rec = fun st pe => { state := st, pending := pe, fn, tmps := a.tmps, params := ps, assign, body, defers := w.heap.size } := ⟨_, rfl⟩
  obtain ⟨W1, hW1⟩ : ∃ W1, (w.alloc (.deferred (some []))).alloc (.loop (rec .ready none)) = W1 := ⟨_, rfl⟩
  have hL1 : W1.heap[w.heap.size + 1]? = some (.loop (rec .ready none)) := by
    rw [← hW1]; have := World.alloc_heap_new (w.alloc (.deferred (some []))) (.loop (rec .ready none)); rwa [World.size_alloc] at this
  have hK1 : W1.heap[w.heap.size]? = some (.deferred (some [])) := by
    rw [← hW1]; exact (Below.heap_alloc _ _ _ (by simp)).trans (World.alloc_heap_new w _)
  have hs1 : W1.heap.size = w.heap.size + 2 := by rw [← hW1]; simp
  have hM1 : ∀ S, Mod S w W1 := fun S => by rw [← hW1]; exact (Mod.alloc S w _).trans (Mod.alloc S _ _)
  -- a step of the iterator is one of those that the caller's words abide
  have up : ∀ n1 k, ItS W1.heap.size n1 I k → ItS w.heap.size n1 I k := fun n1 k h => by
    rcases h with h | h
    · exact .inl h
    · exact .inr ⟨by omega, h.2⟩
  have nI : ∀ k, I k → k < w.heap.size := hI
  refine ⟨w.heap.size + 1, [{ target := .collected w.heap.size, args := #[] }], W1, { target := .fn (.func gf) lb, args := #[.func (.yield (w.heap.size + 1)) #[] #[]] }, W1, gf,
    #[.func (.yield (w.heap.size + 1)) #[] #[]] ++ lb, W1, ?_, ?_, ?_, ?_, fun _ => h1, ?_⟩
  · rw [← hW1, hrec]; exact run_enterLoop_outer _ _ _ _ _
  · simp only [resolve, hg]
    simp [go_sem]
  · intro f' hf'; simp [Target.leads] at hf'; subst hf'; exact hFg
  · simp [invoke, go_sem, eg]
  · have book : ∀ {n1 k}, k = w.heap.size ∨ k = w.heap.size + 1 → ¬ ItS W1.heap.size n1 I k := fun {n1 k} hk h => by
      rcases h with h | h
      · have := nI k h; omega
      · omega
    refine (hseq (w.heap.size + 1)
      (fun n1 i W => J n1 i W ∧ W.heap[w.heap.size + 1]? = some (.loop (rec .ready none)) ∧ W.heap[w.heap.size]? = some (.deferred (some [])))
      (fun n1 i W => i ≤ xs.length ∧ ∃ c, Jx n1 c i W ∧ W.heap[w.heap.size + 1]? = some (.loop (rec .done (some c))) ∧ W.heap[w.heap.size]? = some (.deferred (some [])))
      W1 ((hM1 (fun _ => False)).below (Nat.le_refl _) (fun _ _ h => h)) ?_ ?_ (fun n1 i A h => hP n1 i A h.1) ?_ ?_).mono ?_
    · rintro n1 i A B ⟨hj, hl, hk⟩ hm
      refine ⟨hJ n1 i A B hj (hm.mono fun k _ => up n1 k), (hm.block _ (Array.getElem?_eq_some_iff.1 hl).1 (book (.inr rfl))).trans hl, (hm.block _ (Array.getElem?_eq_some_iff.1 hk).1 (book (.inl rfl))).trans hk⟩
    · rintro n1 i A B ⟨hi, c, hj, hl, hk⟩ hm
      exact ⟨hi, c, hJx n1 c i A B hj (hm.mono fun k _ => up n1 k), (hm.block _ (Array.getElem?_eq_some_iff.1 hl).1 (book (.inr rfl))).trans hl, (hm.block _ (Array.getElem?_eq_some_iff.1 hk).1 (book (.inl rfl))).trans hk⟩
    · rintro n1 i x W hx ⟨hj, hl, hk⟩ hn1 hn1'
      have hlt : w.heap.size + 1 < W.heap.size := (Array.getElem?_eq_some_iff.1 hl).1
      have hi : i < xs.length := (List.getElem?_eq_some_iff.1 hx).1
      have hy := run_yield (P := P) (args := encs x) hl (by rw [hrec]; exact hps x)
      rw [hrec] at hy
      refine ⟨fn, _, assign, body, hy, roundIn_of_wpIn hfn (wpIn_mono (hround _ x W) ?_)⟩
      rintro (_ | _ | _ | _ | _ | _) a₁ W₁ hW₁ <;> first | exact hW₁.elim | skip
      obtain ⟨hWe, hbody⟩ := hW₁
      have hWe' := hWe.symm
      subst hWe'
      refine ⟨_, run_beginRound hl (by rw [hrec]), ?_⟩
      have inI : ItS w.heap.size n1 I (w.heap.size + 1) := .inr ⟨by omega, by omega⟩
      have inB : BoP W1.heap.size n1 I (w.heap.size + 1) := ⟨fun h => by have := nI _ h; omega, by omega⟩
      have hl2 : (W.putObj (w.heap.size + 1) (.loop { rec .ready none with state := .busy })).heap[w.heap.size + 1]? = some (.loop { rec .ready none with state := .busy }) := World.putObj_heap_same hlt
      have hk2 : (W.putObj (w.heap.size + 1) (.loop { rec .ready none with state := .busy })).heap[w.heap.size]? = some (.deferred (some [])) := (World.putObj_heap_other (by omega)).trans hk
      refine wpIn_mono (hbody n1 i _ hx (hJ n1 i _ _ hj (Mod.putObj _ _ inI)) (by omega) (by simp; omega)) ?_
      have fin : ∀ (jump : Option Code) (W3 : World), Mod (BoP w.heap.size n1 I) (W.putObj (w.heap.size + 1) (.loop { rec .ready none with state := .busy })) W3 →
          (Instr.endRound (w.heap.size + 1) jump).run P W3 = .ok (.bool jump.isNone) (W3.putObj (w.heap.size + 1) (.loop (rec (if jump.isNone then .ready else .done) jump))) ∧
          Mod (BoP W1.heap.size n1 I) W (W3.putObj (w.heap.size + 1) (.loop (rec (if jump.isNone then .ready else .done) jump))) ∧
          (W3.putObj (w.heap.size + 1) (.loop (rec (if jump.isNone then .ready else .done) jump))).heap[w.heap.size + 1]? = some (.loop (rec (if jump.isNone then .ready else .done) jump)) ∧
          (W3.putObj (w.heap.size + 1) (.loop (rec (if jump.isNone then .ready else .done) jump))).heap[w.heap.size]? = some (.deferred (some [])) := fun jump W3 hm3 => by
        have hl3 := (hm3.block _ (Array.getElem?_eq_some_iff.1 hl2).1 (fun h => h.2 ⟨by omega, by omega⟩)).trans hl2
        have hk3 := (hm3.block _ (Array.getElem?_eq_some_iff.1 hk2).1 (fun h => h.2 ⟨by omega, by omega⟩)).trans hk2
        have := run_endRound (P := P) jump hl3
        rw [hrec] at this ⊢
        refine ⟨this, ?_, World.putObj_heap_same (Array.getElem?_eq_some_iff.1 hl3).1, (World.putObj_heap_other (by omega)).trans hk3⟩
        exact ((Mod.putObj W _ inB).trans (hm3.mono fun k _ h => ⟨h.1, fun h' => h.2 ⟨by omega, h'.2⟩⟩)).trans (Mod.putObj W3 _ inB)
      rintro e a3 W3 hp
      cases e with
      | normal =>
        obtain ⟨hj3, hm3⟩ := hp
        obtain ⟨hr, hmm, hl4, hk4⟩ := fin none W3 hm3
        exact ⟨_, _, hr, .inl ⟨rfl, hJ n1 (i + 1) _ _ hj3 (Mod.putObj W3 _ inI), hl4, hk4⟩, hmm⟩
      | ret =>
        obtain ⟨hj3, hm3⟩ := hp
        obtain ⟨hr, hmm, hl4, hk4⟩ := fin (some .ret) W3 hm3
        exact ⟨_, _, hr, .inr ⟨rfl, by omega, .ret, hJx n1 _ (i + 1) _ _ hj3 (Mod.putObj W3 _ inI), hl4, hk4⟩, hmm⟩
      | exit id =>
        obtain ⟨hj3, hm3⟩ := hp
        obtain ⟨hr, hmm, hl4, hk4⟩ := fin (some (.exit id)) W3 hm3
        exact ⟨_, _, hr, .inr ⟨rfl, by omega, .exit id, hJx n1 _ (i + 1) _ _ hj3 (Mod.putObj W3 _ inI), hl4, hk4⟩, hmm⟩
      | goto t =>
        obtain ⟨hj3, hm3⟩ := hp
        obtain ⟨hr, hmm, hl4, hk4⟩ := fin (some (.goto t)) W3 hm3
        exact ⟨_, _, hr, .inr ⟨rfl, by omega, .goto t, hJx n1 _ (i + 1) _ _ hj3 (Mod.putObj W3 _ inI), hl4, hk4⟩, hmm⟩
      | panic ch => exact hp.elim
      | outgrown => exact hp.elim
    · intro n1 hn1
      exact ⟨hJ n1 0 _ _ (h0 n1 (by omega)) (hM1 _), hL1, hK1⟩
    · rintro e W2 ⟨⟨v, rfl⟩, n1, hn1, hn2, (⟨hj, hl, hk⟩ | ⟨i, hi', hi, c, hj, hl, hk⟩)⟩
      · have inI : ItS w.heap.size n1 I (w.heap.size + 1) := .inr ⟨by omega, by omega⟩
        exact ⟨none, _, by have := run_endLoop (P := P) hl (by rw [hrec]; simp); rw [hrec] at this; exact this, hdone _ n1 _ (by omega) (by simp; omega) (hJ n1 _ _ _ hj (Mod.putObj W2 _ inI)) rfl ((World.putObj_heap_other (by omega)).trans hk)⟩
      · have inI : ItS w.heap.size n1 I (w.heap.size + 1) := .inr ⟨by omega, by omega⟩
        exact ⟨some c, _, by have := run_endLoop (P := P) hl (by rw [hrec]; simp); rw [hrec] at this; exact this, hstop _ n1 c i _ (by omega) (by simp; omega) hi (hJx n1 c i _ _ hj (Mod.putObj W2 _ inI)) rfl ((World.putObj_heap_other (by omega)).trans hk)⟩
end Go.Proofs.YtdapdadcninidaaGreatDoor
