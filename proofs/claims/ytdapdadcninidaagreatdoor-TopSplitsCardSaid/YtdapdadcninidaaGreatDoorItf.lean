/- Ranging over a function: an iterator's contract with frames: G is the set of blocks that the iterator leans on or writes; it may grow by blocks that the iterator makes between two rounds (an iterator that calls itself). No condition. -/
import Derived.Test.YtdapdadcninidaaGreatDoorItp
namespace Go.Proofs.YtdapdadcninidaaGreatDoor
open Go.RowKit

/-- THE ITERATOR's CONTRACT: it hands xs to yield, one after the other, as long as yield says yes. -/
def IterF {α : Type} (F : Fence) (n : Nat) (P : Program) (g : Nat) (lb : Array Value) (encs : α → Array Value) (xs : List α) (I : Nat → Prop) (Pr : World → Prop) (w : World) : Prop :=
  ∀ (l : Nat) (J Jx : (Nat → Prop) → Nat → World → Prop) (W : World), Below w.heap.size w W →
    (∀ G G' i A B, J G i A → Mod G A B → (∀ k, G' k → G k ∨ (A.heap.size ≤ k ∧ k < B.heap.size)) → J G' i B) → (∀ G G' i A B, Jx G i A → Mod G A B → (∀ k, G' k → G k ∨ (A.heap.size ≤ k ∧ k < B.heap.size)) → Jx G' i B) →
    (∀ G i A, J G i A → Pr A) →
    (∀ G i x W1, xs[i]? = some x → J G i W1 → (∀ k, I k → G k) → YieldAt F (n - 1) P l (encs x) W1 fun e W' =>
      ((e = .returned (.bool true) ∧ J G (i + 1) W') ∨ (e = .returned (.bool false) ∧ Jx G (i + 1) W')) ∧ Mod (fun k => ¬ G k) W1 W') →
    J I 0 W →
    CallsIn F n P g (#[.func (.yield l) #[] #[]] ++ lb) W fun e W' => (∃ v, e = .returned v) ∧ ∃ G, J G xs.length W' ∨ ∃ i, i ≤ xs.length ∧ Jx G i W'

variable {F : Fence} {n : Nat} {P : Program}
theorem wpIn_rangeFunc_itf {α : Type} {g : Operand} {ps : Array Tmp} {assign body : Code} {Q : Exit → Act → World → Prop} {a : Act} {w : World}
    (hro : F.round = none) (h1 : 1 ≤ n) {gf : Nat} {lb : Array Value} (hg : a.eval g = .func (.func gf) #[] lb) (hFg : F.fn gf) (eg : ∀ args w, (callFunc gf args).run P w = .ok (.enter gf args) w)
    {encs : α → Array Value} {xs : List α} {I : Nat → Prop} {Pr : World → Prop} (hseq : IterF F (n - 1) P gf lb encs xs I Pr w)
    (hI : ∀ k, I k → k < w.heap.size) (hps : ∀ x, (encs x).size = ps.size)
    (J : (Nat → Prop) → Nat → World → Prop) (Jx : (Nat → Prop) → Code → Nat → World → Prop)
    (hJ : ∀ G G' i A B, J G i A → Mod G A B → (∀ k, G' k → G k ∨ (A.heap.size ≤ k ∧ k < B.heap.size)) → J G' i B) (hJx : ∀ G G' c i A B, Jx G c i A → Mod G A B → (∀ k, G' k → G k ∨ (A.heap.size ≤ k ∧ k < B.heap.size)) → Jx G' c i B)
    (hP : ∀ G i A, J G i A → Pr A)
    (h0 : ∀ (G : Nat → Prop) (W : World), Below w.heap.size w W → (∀ k, G k → I k ∨ (w.heap.size ≤ k ∧ k < W.heap.size)) → J G 0 W)
    (hround : ∀ (l : Nat) (x : α) (W : World),
      assign.wpIn (F.inRound l) (n - 1 - 1) P (Exit.then (fun a₁ W₁ => W₁ = W ∧ ∀ (G : Nat → Prop) (i : Nat) (W' : World), xs[i]? = some x → J G i W' → (∀ k, I k ∨ k = w.heap.size ∨ k = w.heap.size + 1 → G k) → w.heap.size + 2 ≤ W'.heap.size →
        body.wpIn (F.inRound l) (n - 1 - 1) P (bodyPostI (J G) (Jx G) (fun k => ¬ G k) i W') a₁ W') (fun _ _ _ => False)) { tmps := (ps.zip (encs x)).foldl (fun t (p, v) => t.setIfInBounds p v) a.tmps, defers := [] } W)
    (hdone : ∀ (D : Nat) (G : Nat → Prop) (W : World), G D → J G xs.length W → D = w.heap.size → W.heap[D]? = some (.deferred (some [])) → Q .normal { a with defers := { target := .collected D, args := #[] } :: a.defers } W)
    (hstop : ∀ (D : Nat) (G : Nat → Prop) (c : Code) (i : Nat) (W : World), G D → i ≤ xs.length → Jx G c i W → D = w.heap.size → W.heap[D]? = some (.deferred (some [])) → c.wpIn F n P Q { a with defers := { target := .collected D, args := #[] } :: a.defers } W) :
    (Code.rangeFunc g ps assign body).wpIn F n P Q a w := by
  refine wpIn_rangeFunc ?_
  intro fn hfn
  rw [hro]
  obtain ⟨rec, hrec⟩ : ∃ rec : LoopState → Option Code → Loop, rec = fun st pe => { state := st, pending := pe, fn, tmps := a.tmps, params := ps, assign, body, defers := w.heap.size } := ⟨_, rfl⟩
  obtain ⟨W1, hW1⟩ : ∃ W1, (w.alloc (.deferred (some []))).alloc (.loop (rec .ready none)) = W1 := ⟨_, rfl⟩
  have hL1 : W1.heap[w.heap.size + 1]? = some (.loop (rec .ready none)) := by
    rw [← hW1]; have := World.alloc_heap_new (w.alloc (.deferred (some []))) (.loop (rec .ready none)); rwa [World.size_alloc] at this
  have hK1 : W1.heap[w.heap.size]? = some (.deferred (some [])) := by
    rw [← hW1]; exact (Below.heap_alloc _ _ _ (by simp)).trans (World.alloc_heap_new w _)
  have hs1 : W1.heap.size = w.heap.size + 2 := by rw [← hW1]; simp
  have hM1 : ∀ S, Mod S w W1 := fun S => by rw [← hW1]; exact (Mod.alloc S w _).trans (Mod.alloc S _ _)
  obtain ⟨pl, hpl⟩ : ∃ pl : (Nat → Prop) → Nat → Prop, ∀ G k, pl G k ↔ (G k ∨ k = w.heap.size ∨ k = w.heap.size + 1) := ⟨fun G k => G k ∨ k = w.heap.size ∨ k = w.heap.size + 1, fun _ _ => Iff.rfl⟩
  have nI : ∀ k, I k → k < w.heap.size := hI
  refine ⟨w.heap.size + 1, [{ target := .collected w.heap.size, args := #[] }], W1, { target := .fn (.func gf) lb, args := #[.func (.yield (w.heap.size + 1)) #[] #[]] }, W1, gf,
    #[.func (.yield (w.heap.size + 1)) #[] #[]] ++ lb, W1, ?_, ?_, ?_, ?_, fun _ => h1, ?_⟩
  · rw [← hW1, hrec]; exact run_enterLoop_outer _ _ _ _ _
  · simp only [resolve, hg]
    simp [go_sem]
  · intro f' hf'; simp [Target.leads] at hf'; subst hf'; exact hFg
  · simp [invoke, go_sem, eg]
  · have stepJ : ∀ {G G' : Nat → Prop} {i : Nat} {A B : World}, J (pl G) i A → Mod G A B → (∀ k, G' k → G k ∨ (A.heap.size ≤ k ∧ k < B.heap.size)) → J (pl G') i B := fun {G G' i A B} h hm hg =>
      hJ _ _ i A B h (hm.mono fun k _ hk => (hpl G k).2 (.inl hk)) fun k hk => by
        rcases (hpl G' k).1 hk with hk | hk
        · exact (hg k hk).imp (fun h => (hpl G k).2 (.inl h)) id
        · exact .inl ((hpl G k).2 (.inr hk))
    have stepX : ∀ {G G' : Nat → Prop} {c : Code} {i : Nat} {A B : World}, Jx (pl G) c i A → Mod G A B → (∀ k, G' k → G k ∨ (A.heap.size ≤ k ∧ k < B.heap.size)) → Jx (pl G') c i B := fun {G G' c i A B} h hm hg =>
      hJx _ _ c i A B h (hm.mono fun k _ hk => (hpl G k).2 (.inl hk)) fun k hk => by
        rcases (hpl G' k).1 hk with hk | hk
        · exact (hg k hk).imp (fun h => (hpl G k).2 (.inl h)) id
        · exact .inl ((hpl G k).2 (.inr hk))
    have putJ : ∀ {G : Nat → Prop} {i : Nat} {A : World} {o : Obj}, J (pl G) i A → J (pl G) i (A.putObj (w.heap.size + 1) o) := fun {G i A o} h =>
      hJ _ _ i A _ h (Mod.putObj _ _ ((hpl G _).2 (.inr (.inr rfl)))) fun k hk => .inl hk
    have putX : ∀ {G : Nat → Prop} {c : Code} {i : Nat} {A : World} {o : Obj}, Jx (pl G) c i A → Jx (pl G) c i (A.putObj (w.heap.size + 1) o) := fun {G c i A o} h =>
      hJx _ _ c i A _ h (Mod.putObj _ _ ((hpl G _).2 (.inr (.inr rfl)))) fun k hk => .inl hk
    refine (hseq (w.heap.size + 1)
      (fun G i W => J (pl G) i W ∧ ¬ G w.heap.size ∧ ¬ G (w.heap.size + 1) ∧ W.heap[w.heap.size + 1]? = some (.loop (rec .ready none)) ∧ W.heap[w.heap.size]? = some (.deferred (some [])))
      (fun G i W => i ≤ xs.length ∧ ∃ c, Jx (pl G) c i W ∧ ¬ G w.heap.size ∧ ¬ G (w.heap.size + 1) ∧ W.heap[w.heap.size + 1]? = some (.loop (rec .done (some c))) ∧ W.heap[w.heap.size]? = some (.deferred (some [])))
      W1 ((hM1 (fun _ => False)).below (Nat.le_refl _) (fun _ _ h => h)) ?_ ?_ (fun G i A h => hP _ i A h.1) ?_ ?_).mono ?_
    · rintro G G' i A B ⟨hj, g1, g2, hl, hk⟩ hm hg
      have l1 := (Array.getElem?_eq_some_iff.1 hl).1
      have l2 := (Array.getElem?_eq_some_iff.1 hk).1
      exact ⟨stepJ hj hm hg, fun h => (hg _ h).elim g1 (by omega), fun h => (hg _ h).elim g2 (by omega), (hm.block _ l1 g2).trans hl, (hm.block _ l2 g1).trans hk⟩
    · rintro G G' i A B ⟨hi, c, hj, g1, g2, hl, hk⟩ hm hg
      have l1 := (Array.getElem?_eq_some_iff.1 hl).1
      have l2 := (Array.getElem?_eq_some_iff.1 hk).1
      exact ⟨hi, c, stepX hj hm hg, fun h => (hg _ h).elim g1 (by omega), fun h => (hg _ h).elim g2 (by omega), (hm.block _ l1 g2).trans hl, (hm.block _ l2 g1).trans hk⟩
    · rintro G i x W hx ⟨hj, g1, g2, hl, hk⟩ hGI
      have hlt : w.heap.size + 1 < W.heap.size := (Array.getElem?_eq_some_iff.1 hl).1
      have hi : i < xs.length := (List.getElem?_eq_some_iff.1 hx).1
      have hy := run_yield (P := P) (args := encs x) hl (by rw [hrec]; exact hps x)
      rw [hrec] at hy
      refine ⟨fn, _, assign, body, hy, roundIn_of_wpIn hfn (wpIn_mono (hround _ x W) ?_)⟩
      rintro (_ | _ | _ | _ | _ | _) a₁ W₁ hW₁ <;> first | exact hW₁.elim | skip
      obtain ⟨hWe, hbody⟩ := hW₁
      have hWe' := hWe.symm
      subst hWe'
      refine ⟨_, run_beginRound hl (by rw [hrec]), ?_⟩
      have pD : pl G w.heap.size := (hpl G _).2 (.inr (.inl rfl))
      have pL : pl G (w.heap.size + 1) := (hpl G _).2 (.inr (.inr rfl))
      have hl2 : (W.putObj (w.heap.size + 1) (.loop { rec .ready none with state := .busy })).heap[w.heap.size + 1]? = some (.loop { rec .ready none with state := .busy }) := World.putObj_heap_same hlt
      have hk2 : (W.putObj (w.heap.size + 1) (.loop { rec .ready none with state := .busy })).heap[w.heap.size]? = some (.deferred (some [])) := (World.putObj_heap_other (by omega)).trans hk
      refine wpIn_mono (hbody (pl G) i _ hx (putJ hj) (fun k hk => (hpl G k).2 (hk.imp (hGI k) id)) (by simp; omega)) ?_
      have fin : ∀ (jump : Option Code) (W3 : World), Mod (fun k => ¬ pl G k) (W.putObj (w.heap.size + 1) (.loop { rec .ready none with state := .busy })) W3 →
          (Instr.endRound (w.heap.size + 1) jump).run P W3 = .ok (.bool jump.isNone) (W3.putObj (w.heap.size + 1) (.loop (rec (if jump.isNone then .ready else .done) jump))) ∧
          Mod (fun k => ¬ G k) W (W3.putObj (w.heap.size + 1) (.loop (rec (if jump.isNone then .ready else .done) jump))) ∧
          (W3.putObj (w.heap.size + 1) (.loop (rec (if jump.isNone then .ready else .done) jump))).heap[w.heap.size + 1]? = some (.loop (rec (if jump.isNone then .ready else .done) jump)) ∧
          (W3.putObj (w.heap.size + 1) (.loop (rec (if jump.isNone then .ready else .done) jump))).heap[w.heap.size]? = some (.deferred (some [])) := fun jump W3 hm3 => by
        have hl3 := (hm3.block _ (Array.getElem?_eq_some_iff.1 hl2).1 (fun h => h pL)).trans hl2
        have hk3 := (hm3.block _ (Array.getElem?_eq_some_iff.1 hk2).1 (fun h => h pD)).trans hk2
        have := run_endRound (P := P) jump hl3
        rw [hrec] at this ⊢
        refine ⟨this, ?_, World.putObj_heap_same (Array.getElem?_eq_some_iff.1 hl3).1, (World.putObj_heap_other (by omega)).trans hk3⟩
        exact ((Mod.putObj W _ g2).trans (hm3.mono fun k _ h h' => h ((hpl G k).2 (.inl h')))).trans (Mod.putObj W3 _ g2)
      rintro e a3 W3 hp
      cases e with
      | normal =>
        obtain ⟨hj3, hm3⟩ := hp
        obtain ⟨hr, hmm, hl4, hk4⟩ := fin none W3 hm3
        exact ⟨_, _, hr, .inl ⟨rfl, putJ hj3, g1, g2, hl4, hk4⟩, hmm⟩
      | ret =>
        obtain ⟨hj3, hm3⟩ := hp
        obtain ⟨hr, hmm, hl4, hk4⟩ := fin (some .ret) W3 hm3
        exact ⟨_, _, hr, .inr ⟨rfl, by omega, .ret, putX hj3, g1, g2, hl4, hk4⟩, hmm⟩
      | exit id =>
        obtain ⟨hj3, hm3⟩ := hp
        obtain ⟨hr, hmm, hl4, hk4⟩ := fin (some (.exit id)) W3 hm3
        exact ⟨_, _, hr, .inr ⟨rfl, by omega, .exit id, putX hj3, g1, g2, hl4, hk4⟩, hmm⟩
      | goto t =>
        obtain ⟨hj3, hm3⟩ := hp
        obtain ⟨hr, hmm, hl4, hk4⟩ := fin (some (.goto t)) W3 hm3
        exact ⟨_, _, hr, .inr ⟨rfl, by omega, .goto t, putX hj3, g1, g2, hl4, hk4⟩, hmm⟩
      | panic ch => exact hp.elim
      | outgrown => exact hp.elim
    · refine ⟨h0 (pl I) W1 ((hM1 (fun _ => False)).below (Nat.le_refl _) (fun _ _ h => h)) fun k hk => ?_, fun h => by have := nI _ h; omega, fun h => by have := nI _ h; omega, hL1, hK1⟩
      rcases (hpl I k).1 hk with h | rfl | rfl
      · exact .inl h
      · exact .inr ⟨Nat.le_refl _, by omega⟩
      · exact .inr ⟨by omega, by omega⟩
    · rintro e W2 ⟨⟨v, rfl⟩, G, (⟨hj, g1, g2, hl, hk⟩ | ⟨i, hi', hi, c, hj, g1, g2, hl, hk⟩)⟩
      · exact ⟨none, _, by have := run_endLoop (P := P) hl (by rw [hrec]; simp); rw [hrec] at this; exact this, hdone _ (pl G) _ ((hpl G _).2 (.inr (.inl rfl))) (putJ hj) rfl ((World.putObj_heap_other (by omega)).trans hk)⟩
      · exact ⟨some c, _, by have := run_endLoop (P := P) hl (by rw [hrec]; simp); rw [hrec] at this; exact this, hstop _ (pl G) c i _ ((hpl G _).2 (.inr (.inl rfl))) hi (putX hj) rfl ((World.putObj_heap_other (by omega)).trans hk)⟩
end Go.Proofs.YtdapdadcninidaaGreatDoor
