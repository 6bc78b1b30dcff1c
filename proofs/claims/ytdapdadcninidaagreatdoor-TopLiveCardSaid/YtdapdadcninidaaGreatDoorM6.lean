/- Ranging over a function: an iterator's contract with frames: G is the set of blocks that the iterator leans on or writes; it may grow by blocks that the iterator makes between two rounds (an iterator that calls itself). No condition. Package dom: next, nodes, below and visit. No condition but that the arena fits. Package dom: visit, and the iterator of below. No condition but that the tree below the node ends. Nodes that are linked well: a template's contents; the preorder below a node, each node once. Plain. Maps from numbers to numbers in memory: the look-up, the two halves of a store. No condition but the numbers' sizes. What the calls of layers 4 and 5 leave: sums of data, what a node keeps, the inert documents. Plain. The state of an arena with its inert documents: what inertOf does, and the measure that it does not raise. Plain. -/
import Derived.Test.YtdapdadcninidaaGreatDoorM4
import Derived.Test.YtdapdadcninidaaGreatDoorM3
import Derived.Test.YtdapdadcninidaaGreatDoorM5
import Derived.Test.YtdapdadcninidaaGreatDoorM1
import Derived.WideKeyEntry
import Derived.Maps.Keyed
set_option linter.unusedSimpArgs false
set_option linter.unusedVariables false
namespace Go.Proofs.YtdapdadcninidaaGreatDoor
open Go.RowKit

/-- THE ITERATOR's CONTRACT: it hands xs to yield, one after the other, as long as yield says yes. -/
def IterF {α : Type} (F : Fence) (n : Nat) (P : Program) (g : Nat) (lb : Array Value) (encs : α → Array Value) (xs : List α) (I : Nat → Prop) (Pr : World → Prop) (w : World) : Prop :=
  ∀ (l : Nat) (J Jx : (Nat → Prop) → Nat → World → Prop) (W : World), Below w.heap.size w W →
    (∀ G G' i A B, J G i A → Mod G A B → (∀ k, G' k → G k ∨ (A.heap.size ≤ k ∧ k < B.heap.size)) → J G' i B) → (∀ G G' i A B, Jx G i A → Mod G A B → (∀ k, G' k → G k ∨ (A.heap.size ≤ k ∧ k < B.heap.size)) → Jx G' i B) →
    (∀ G i A, J G i A → Pr A) →
    (∀ G i x W1, xs[i]? = some x → J G i W1 → (∀ k, I k → G k) → YieldAt F (n - 1) P l (encs x) W1 fun e W' =>
      ((e = .returned (.bool true) ∧ J G (i + 1) W') ∨ (e = .returned (.bool false) ∧ Jx G (i + 1) W')) ∧ Mod (fun k => ¬ G k) W1 W') →
    J I 0 W →
    CallsIn F n P g (#[.func (.yield l) #[] #[]] ++ lb) W fun e W' => (∃ v, e = .returned v) ∧ ∃ G, J G xs.length W' ∨ ∃ i, i ≤ xs.length ∧ Jx G i W'

variable {F : Fence} {n : Nat} {P : Program}
theorem wpIn_rangeFunc_itf {α : Type} {g : Operand} {ps : Array Tmp} {assign body : Code} {Q : Exit → Act → World → Prop} {a : Act} {w : World}
    (hro : F.round = none) (h1 : 1 ≤ n) {gf : Nat} {lb : Array Value} (hg : a.eval g = .func (.func gf) #[] lb) (hFg : F.fn gf) (eg : ∀ args w, (callFunc gf args).run P w = .ok (.enter gf args) w)
    {encs : α → Array Value} {xs : List α} {I : Nat → Prop} {Pr : World → Prop} (hseq : IterF F (n - 1) P gf lb encs xs I Pr w)
    (hI : ∀ k, I k → k < w.heap.size) (hps : ∀ x, (encs x).size = ps.size)
    (J : (Nat → Prop) → Nat → World → Prop) (Jx : (Nat → Prop) → Code → Nat → World → Prop)
    (hJ : ∀ G G' i A B, J G i A → Mod G A B → (∀ k, G' k → G k ∨ (A.heap.size ≤ k ∧ k < B.heap.size)) → J G' i B) (hJx : ∀ G G' c i A B, Jx G c i A → Mod G A B → (∀ k, G' k → G k ∨ (A.heap.size ≤ k ∧ k < B.heap.size)) → Jx G' c i B)
    (hP : ∀ G i A, J G i A → Pr A)
    (h0 : ∀ (G : Nat → Prop) (W : World), Below w.heap.size w W → (∀ k, G k → I k ∨ (w.heap.size ≤ k ∧ k < W.heap.size)) → J G 0 W)
    (hround : ∀ (l : Nat) (x : α) (W : World),
      assign.wpIn (F.inRound l) (n - 1 - 1) P (Exit.then (fun a₁ W₁ => W₁ = W ∧ ∀ (G : Nat → Prop) (i : Nat) (W' : World), xs[i]? = some x → J G i W' → (∀ k, I k ∨ k = w.heap.size ∨ k = w.heap.size + 1 → G k) → w.heap.size + 2 ≤ W'.heap.size →
        body.wpIn (F.inRound l) (n - 1 - 1) P (bodyPostI (J G) (Jx G) (fun k => ¬ G k) i W') a₁ W') (fun _ _ _ => False)) { tmps := (ps.zip (encs x)).foldl (fun t (p, v) => t.setIfInBounds p v) a.tmps, defers := [] } W)
    (hdone : ∀ (D : Nat) (G : Nat → Prop) (W : World), G D → J G xs.length W → D = w.heap.size → W.heap[D]? = some (.deferred (some [])) → Q .normal { a with defers := { target := .collected D, args := #[] } :: a.defers } W)
    (hstop : ∀ (D : Nat) (G : Nat → Prop) (c : Code) (i : Nat) (W : World), G D → i ≤ xs.length → Jx G c i W → D = w.heap.size → W.heap[D]? = some (.deferred (some [])) → c.wpIn F n P Q { a with defers := { target := .collected D, args := #[] } :: a.defers } W) :
    (Code.rangeFunc g ps assign body).wpIn F n P Q a w := by
  refine wpIn_rangeFunc ?_
  intro fn hfn
  rw [hro]
  obtain ⟨rec, hrec⟩ : ∃ rec : LoopState → Option Code → Loop, rec = fun st pe => { state := st, pending := pe, fn, tmps := a.tmps, params := ps, assign, body, defers := w.heap.size } := ⟨_, rfl⟩
  obtain ⟨W1, hW1⟩ : ∃ W1, (w.alloc (.deferred (some []))).alloc (.loop (rec .ready none)) = W1 := ⟨_, rfl⟩
  have hL1 : W1.heap[w.heap.size + 1]? = some (.loop (rec .ready none)) := by
    rw [← hW1]; have := World.alloc_heap_new (w.alloc (.deferred (some []))) (.loop (rec .ready none)); rwa [World.size_alloc] at this
  have hK1 : W1.heap[w.heap.size]? = some (.deferred (some [])) := by
    rw [← hW1]; exact (Below.heap_alloc _ _ _ (by simp)).trans (World.alloc_heap_new w _)
  have hs1 : W1.heap.size = w.heap.size + 2 := by rw [← hW1]; simp
  have hM1 : ∀ S, Mod S w W1 := fun S => by rw [← hW1]; exact (Mod.alloc S w _).trans (Mod.alloc S _ _)
  obtain ⟨pl, hpl⟩ : ∃ pl : (Nat → Prop) → Nat → Prop, ∀ G k, pl G k ↔ (G k ∨ k = w.heap.size ∨ k = w.heap.size + 1) := ⟨fun G k => G k ∨ k = w.heap.size ∨ k = w.heap.size + 1, fun _ _ => Iff.rfl⟩
  have nI : ∀ k, I k → k < w.heap.size := hI
  refine ⟨w.heap.size + 1, [{ target := .collected w.heap.size, args := #[] }], W1, { target := .fn (.func gf) lb, args := #[.func (.yield (w.heap.size + 1)) #[] #[]] }, W1, gf,
    #[.func (.yield (w.heap.size + 1)) #[] #[]] ++ lb, W1, ?_, ?_, ?_, ?_, fun _ => h1, ?_⟩
  · rw [← hW1, hrec]; exact run_enterLoop_outer _ _ _ _ _
  · simp only [resolve, hg]
    simp [go_sem]
  · intro f' hf'; simp [Target.leads] at hf'; subst hf'; exact hFg
  · simp [invoke, go_sem, eg]
  · have stepJ : ∀ {G G' : Nat → Prop} {i : Nat} {A B : World}, J (pl G) i A → Mod G A B → (∀ k, G' k → G k ∨ (A.heap.size ≤ k ∧ k < B.heap.size)) → J (pl G') i B := fun {G G' i A B} h hm hg =>
      hJ _ _ i A B h (hm.mono fun k _ hk => (hpl G k).2 (.inl hk)) fun k hk => by
        rcases (hpl G' k).1 hk with hk | hk
        · exact (hg k hk).imp (fun h => (hpl G k).2 (.inl h)) id
        · exact .inl ((hpl G k).2 (.inr hk))
    have stepX : ∀ {G G' : Nat → Prop} {c : Code} {i : Nat} {A B : World}, Jx (pl G) c i A → Mod G A B → (∀ k, G' k → G k ∨ (A.heap.size ≤ k ∧ k < B.heap.size)) → Jx (pl G') c i B := fun {G G' c i A B} h hm hg =>
      hJx _ _ c i A B h (hm.mono fun k _ hk => (hpl G k).2 (.inl hk)) fun k hk => by
        rcases (hpl G' k).1 hk with hk | hk
        · exact (hg k hk).imp (fun h => (hpl G k).2 (.inl h)) id
        · exact .inl ((hpl G k).2 (.inr hk))
    have putJ : ∀ {G : Nat → Prop} {i : Nat} {A : World} {o : Obj}, J (pl G) i A → J (pl G) i (A.putObj (w.heap.size + 1) o) := fun {G i A o} h =>
      hJ _ _ i A _ h (Mod.putObj _ _ ((hpl G _).2 (.inr (.inr rfl)))) fun k hk => .inl hk
    have putX : ∀ {G : Nat → Prop} {c : Code} {i : Nat} {A : World} {o : Obj}, Jx (pl G) c i A → Jx (pl G) c i (A.putObj (w.heap.size + 1) o) := fun {G c i A o} h =>
      hJx _ _ c i A _ h (Mod.putObj _ _ ((hpl G _).2 (.inr (.inr rfl)))) fun k hk => .inl hk
    refine (hseq (w.heap.size + 1)
      (fun G i W => J (pl G) i W ∧ ¬ G w.heap.size ∧ ¬ G (w.heap.size + 1) ∧ W.heap[w.heap.size + 1]? = some (.loop (rec .ready none)) ∧ W.heap[w.heap.size]? = some (.deferred (some [])))
      (fun G i W => i ≤ xs.length ∧ ∃ c, Jx (pl G) c i W ∧ ¬ G w.heap.size ∧ ¬ G (w.heap.size + 1) ∧ W.heap[w.heap.size + 1]? = some (.loop (rec .done (some c))) ∧ W.heap[w.heap.size]? = some (.deferred (some [])))
      W1 ((hM1 (fun _ => False)).below (Nat.le_refl _) (fun _ _ h => h)) ?_ ?_ (fun G i A h => hP _ i A h.1) ?_ ?_).mono ?_
    · rintro G G' i A B ⟨hj, g1, g2, hl, hk⟩ hm hg
      have l1 := (Array.getElem?_eq_some_iff.1 hl).1
      have l2 := (Array.getElem?_eq_some_iff.1 hk).1
      exact ⟨stepJ hj hm hg, fun h => (hg _ h).elim g1 (by omega), fun h => (hg _ h).elim g2 (by omega), (hm.block _ l1 g2).trans hl, (hm.block _ l2 g1).trans hk⟩
    · rintro G G' i A B ⟨hi, c, hj, g1, g2, hl, hk⟩ hm hg
      have l1 := (Array.getElem?_eq_some_iff.1 hl).1
      have l2 := (Array.getElem?_eq_some_iff.1 hk).1
      exact ⟨hi, c, stepX hj hm hg, fun h => (hg _ h).elim g1 (by omega), fun h => (hg _ h).elim g2 (by omega), (hm.block _ l1 g2).trans hl, (hm.block _ l2 g1).trans hk⟩
    · rintro G i x W hx ⟨hj, g1, g2, hl, hk⟩ hGI
      have hlt : w.heap.size + 1 < W.heap.size := (Array.getElem?_eq_some_iff.1 hl).1
      have hi : i < xs.length := (List.getElem?_eq_some_iff.1 hx).1
      have hy := run_yield (P := P) (args := encs x) hl (by rw [hrec]; exact hps x)
      rw [hrec] at hy
      refine ⟨fn, _, assign, body, hy, roundIn_of_wpIn hfn (wpIn_mono (hround _ x W) ?_)⟩
      rintro (_ | _ | _ | _ | _ | _) a₁ W₁ hW₁ <;> first | exact hW₁.elim | skip
      obtain ⟨hWe, hbody⟩ := hW₁
      have hWe' := hWe.symm
      subst hWe'
      refine ⟨_, run_beginRound hl (by rw [hrec]), ?_⟩
      have pD : pl G w.heap.size := (hpl G _).2 (.inr (.inl rfl))
      have pL : pl G (w.heap.size + 1) := (hpl G _).2 (.inr (.inr rfl))
      have hl2 : (W.putObj (w.heap.size + 1) (.loop { rec .ready none with state := .busy })).heap[w.heap.size + 1]? = some (.loop { rec .ready none with state := .busy }) := World.putObj_heap_same hlt
      have hk2 : (W.putObj (w.heap.size + 1) (.loop { rec .ready none with state := .busy })).heap[w.heap.size]? = some (.deferred (some [])) := (World.putObj_heap_other (by omega)).trans hk
      refine wpIn_mono (hbody (pl G) i _ hx (putJ hj) (fun k hk => (hpl G k).2 (hk.imp (hGI k) id)) (by simp; omega)) ?_
      have fin : ∀ (jump : Option Code) (W3 : World), Mod (fun k => ¬ pl G k) (W.putObj (w.heap.size + 1) (.loop { rec .ready none with state := .busy })) W3 →
          (Instr.endRound (w.heap.size + 1) jump).run P W3 = .ok (.bool jump.isNone) (W3.putObj (w.heap.size + 1) (.loop (rec (if jump.isNone then .ready else .done) jump))) ∧
          Mod (fun k => ¬ G k) W (W3.putObj (w.heap.size + 1) (.loop (rec (if jump.isNone then .ready else .done) jump))) ∧
          (W3.putObj (w.heap.size + 1) (.loop (rec (if jump.isNone then .ready else .done) jump))).heap[w.heap.size + 1]? = some (.loop (rec (if jump.isNone then .ready else .done) jump)) ∧
          (W3.putObj (w.heap.size + 1) (.loop (rec (if jump.isNone then .ready else .done) jump))).heap[w.heap.size]? = some (.deferred (some [])) := fun jump W3 hm3 => by
        have hl3 := (hm3.block _ (Array.getElem?_eq_some_iff.1 hl2).1 (fun h => h pL)).trans hl2
        have hk3 := (hm3.block _ (Array.getElem?_eq_some_iff.1 hk2).1 (fun h => h pD)).trans hk2
        have := run_endRound (P := P) jump hl3
        rw [hrec] at this ⊢
        refine ⟨this, ?_, World.putObj_heap_same (Array.getElem?_eq_some_iff.1 hl3).1, (World.putObj_heap_other (by omega)).trans hk3⟩
        exact ((Mod.putObj W _ g2).trans (hm3.mono fun k _ h h' => h ((hpl G k).2 (.inl h')))).trans (Mod.putObj W3 _ g2)
      rintro e a3 W3 hp
      cases e with
      | normal =>
        obtain ⟨hj3, hm3⟩ := hp
        obtain ⟨hr, hmm, hl4, hk4⟩ := fin none W3 hm3
        exact ⟨_, _, hr, .inl ⟨rfl, putJ hj3, g1, g2, hl4, hk4⟩, hmm⟩
      | ret =>
        obtain ⟨hj3, hm3⟩ := hp
        obtain ⟨hr, hmm, hl4, hk4⟩ := fin (some .ret) W3 hm3
        exact ⟨_, _, hr, .inr ⟨rfl, by omega, .ret, putX hj3, g1, g2, hl4, hk4⟩, hmm⟩
      | exit id =>
        obtain ⟨hj3, hm3⟩ := hp
        obtain ⟨hr, hmm, hl4, hk4⟩ := fin (some (.exit id)) W3 hm3
        exact ⟨_, _, hr, .inr ⟨rfl, by omega, .exit id, putX hj3, g1, g2, hl4, hk4⟩, hmm⟩
      | goto t =>
        obtain ⟨hj3, hm3⟩ := hp
        obtain ⟨hr, hmm, hl4, hk4⟩ := fin (some (.goto t)) W3 hm3
        exact ⟨_, _, hr, .inr ⟨rfl, by omega, .goto t, putX hj3, g1, g2, hl4, hk4⟩, hmm⟩
      | panic ch => exact hp.elim
      | outgrown => exact hp.elim
    · refine ⟨h0 (pl I) W1 ((hM1 (fun _ => False)).below (Nat.le_refl _) (fun _ _ h => h)) fun k hk => ?_, fun h => by have := nI _ h; omega, fun h => by have := nI _ h; omega, hL1, hK1⟩
      rcases (hpl I k).1 hk with h | rfl | rfl
      · exact .inl h
      · exact .inr ⟨Nat.le_refl _, by omega⟩
      · exact .inr ⟨by omega, by omega⟩
    · rintro e W2 ⟨⟨v, rfl⟩, G, (⟨hj, g1, g2, hl, hk⟩ | ⟨i, hi', hi, c, hj, g1, g2, hl, hk⟩)⟩
      · exact ⟨none, _, by have := run_endLoop (P := P) hl (by rw [hrec]; simp); rw [hrec] at this; exact this, hdone _ (pl G) _ ((hpl G _).2 (.inr (.inl rfl))) (putJ hj) rfl ((World.putObj_heap_other (by omega)).trans hk)⟩
      · exact ⟨some c, _, by have := run_endLoop (P := P) hl (by rw [hrec]; simp); rw [hrec] at this; exact this, hstop _ (pl G) c i _ ((hpl G _).2 (.inr (.inl rfl))) hi (putX hj) rfl ((World.putObj_heap_other (by omega)).trans hk)⟩
end Go.Proofs.YtdapdadcninidaaGreatDoor
namespace Go.Proofs.YtdapdadcninidaaGreatDoor
open Go.RowKit
attribute [local go_sem ↓] Go.wp_at_zero Go.wp_at_succ

theorem row_atA {w : World} {b n : Nat} {e : TypeId} {g cap : Nat} {xs : List Value} (h : w.ownsRow b e 1 (.slice (some ⟨g, 0, none⟩) n cap) n xs) (j : Nat) (v : Value) (hj : xs[j]? = some v) : w.cell? ⟨g, j, none⟩ = some v := row_at h j v hj
theorem row_someA {w : World} {b : Nat} {ka : Option Addr} {n kc : Nat} {xs : List Value} (h : w.ownsRow b 3 1 (.slice ka n kc) n xs) (hn : 0 < n) : ∃ gk, ka = some ⟨gk, 0, none⟩ := by
  rcases row_cells h with ⟨_, h0, _⟩ | ⟨gk, cap, cur, hv, _⟩
  · omega
  · cases hv; exact ⟨gk, rfl⟩
/-- The child that follows a node, or 0. -/
def nextL (ns : List Nd) (h : Int) : Nat :=
  if 0 < indexAt ns h + 1 then (kidsAt ns (if isH ns.length h then ((ndAt ns h).parent : Int) else 0)).getD (indexAt ns h + 1).toNat 0 else 0
set_option maxRecDepth 100000 in
set_option maxHeartbeats 1000000 in
theorem next_any (h : Int) (w : World) {B : AB} {O : List Nat} {ns : List Nd} (hA : ArW B O ns w) (hf : Fit ns) (hp : isH ns.length h = true → (ndAt ns h).parent ≤ ns.length) (hi : -1 ≤ indexAt ns h ∧ indexAt ns h ≤ 1000000) :
    Calls Tryz.prog 54 #[.pointer (some ⟨B, 0, none⟩), .int .i64 h] w (Ret w (.int .i64 (nextL ns h : Nat))) := by
  have H1 := Lib.hid (Parent_any h w hA hf.len)
  have H2 := Lib.hid (Kids_any (if isH ns.length h then ((ndAt ns h).parent : Int) else 0) w hA hf.len (hf.kids _))
  have H3 := Lib.hid (fun w' (hb : Below w.heap.size w w') => Index_any h w' (hA.later hb) hf.len hp)
  have hkl := hf.kids (if isH ns.length h then ((ndAt ns h).parent : Int) else 0)
  have HV : Hid (nextL ns h = if 0 < indexAt ns h + 1 then (kidsAt ns (if isH ns.length h then ((ndAt ns h).parent : Int) else 0)).getD (indexAt ns h + 1).toNat 0 else 0) := Lib.hid rfl
  generalize kidsAt ns (if isH ns.length h then ((ndAt ns h).parent : Int) else 0) = ks at *
  generalize indexAt ns h = ix at *
  generalize (if isH ns.length h then ((ndAt ns h).parent : Int) else 0) = p at *
  generalize nextL ns h = nx at *
  obtain ⟨hi1, hi2⟩ := hi
  clear hA hf hp
  go_enter Tryz.func54, Tryz.ntmps54
  go_wp2_with fail
  refine H1.out.mono ?_
  rintro e w1 ⟨rfl, rfl⟩
  go_wp2_with fail
  refine H2.out.mono ?_
  rintro e w1 ⟨v, rfl, hr, b1⟩
  have H4 := Lib.hid (H3.out w1 b1)
  obtain ⟨ka, kc, rfl⟩ := ownsRow_slice hr
  have HR := Lib.hid hr; have HB := Lib.hid b1
  clear hr b1 H3
  go_wp2_with fail
  refine H4.out.mono ?_
  rintro e w2 ⟨rfl, rfl⟩
  by_cases h0 : 0 < ix + 1
  · have HV2 := Lib.hid (HV.out.trans (if_pos h0))
    obtain ⟨j, hj⟩ : ∃ j : Nat, ix + 1 = (j : Int) := ⟨(ix + 1).toNat, by omega⟩
    rw [hj] at h0 HV2
    clear HV
    by_cases hl : j < ks.length
    · obtain ⟨gk, rfl⟩ := row_someA HR.out (by omega)
      have hcell := row_atA HR.out j (natV ks[j]) (by simp [kidCells, hl])
      have HV3 : Hid (nx = ks[j]) := Lib.hid (by rw [HV2.out]; simp [hl])
      have hji : (j : Int) < (ks.length : Int) := by omega
      simp only [natV] at hcell
      go_wp2
      go_ret
      exact Ret.mk (by rw [HV3.out]; rfl) HB.out
    · have HV3 : Hid (nx = 0) := Lib.hid (by rw [HV2.out, Int.toNat_natCast, List.getD_eq_getElem?_getD, List.getElem?_eq_none (by omega)]; rfl)
      have hji : ¬ ((j : Int) < (ks.length : Int)) := by omega
      go_wp2
      go_ret
      exact Ret.mk (by rw [HV3.out]; rfl) HB.out
  · have HV2 := Lib.hid (HV.out.trans (if_neg h0))
    go_wp2
    go_ret
    exact Ret.mk (by rw [HV2.out]; rfl) HB.out
end Go.Proofs.YtdapdadcninidaaGreatDoor
namespace Go.Proofs.YtdapdadcninidaaGreatDoor
open Go.RowKit
attribute [local go_sem] Oper.semAt_some

theorem YieldAt.any {n m : Nat} {P : Program} {l : Nat} {args : Array Value} {W : World} {R : Ending → World → Prop} (h : YieldAt Fence.wide n P l args W R) : YieldAt Fence.wide m P l args W R := by
  obtain ⟨fn, tmps, assign, body, hy, hR⟩ := h
  exact ⟨fn, tmps, assign, body, hy, hR.1, fun c cs _ => hR.2 c cs (room_wide _)⟩
/-- The preorder of a forest. -/
inductive Sub (kd : Int → List Nat) : List Nat → List Nat → Prop
  | nil : Sub kd [] []
  | cons {k : Nat} {ks xs ys : List Nat} : Sub kd (kd k) xs → Sub kd ks ys → Sub kd (k :: ks) (k :: (xs ++ ys))
/-- What the iterator leans on: an arena with these children. -/
def PrK (B : Nat) (kd : Int → List Nat) (A : World) : Prop := ∃ iv O' ns', ArW ⟨B, iv⟩ O' ns' A ∧ Fit ns' ∧ ∀ h, kidsAt ns' h = kd h
/-- The contract of visit at a node: what is yielded below it. -/
def VAt (B : Nat) (kd : Int → List Nat) (h : Int) (xs : List Nat) : Prop := ∀ (l : Nat) (zs : List Nat) (J Jx : (Nat → Prop) → Nat → World → Prop) (G : Nat → Prop) (i0 : Nat) (W : World),
  (∀ G G' i A B, J G i A → Mod G A B → (∀ k, G' k → G k ∨ (A.heap.size ≤ k ∧ k < B.heap.size)) → J G' i B) → (∀ G G' i A B, Jx G i A → Mod G A B → (∀ k, G' k → G k ∨ (A.heap.size ≤ k ∧ k < B.heap.size)) → Jx G' i B) →
  (∀ G i A, J G i A → PrK B kd A) →
  (∀ G' i x W1, zs[i]? = some x → J G' i W1 → (∀ k, G k → G' k) → YieldAt Fence.wide 0 Tryz.prog l #[.int .i64 (x : Nat)] W1 fun e W' =>
    ((e = .returned (.bool true) ∧ J G' (i + 1) W') ∨ (e = .returned (.bool false) ∧ Jx G' (i + 1) W')) ∧ Mod (fun k => ¬ G' k) W1 W') →
  (∀ j x, xs[j]? = some x → zs[i0 + j]? = some x) → i0 + xs.length ≤ zs.length → J G i0 W →
  Calls Tryz.prog 99 #[.pointer (some ⟨B, 0, none⟩), .int .i64 h, .func (.yield l) #[] #[]] W fun e W' =>
    (e = .returned (.bool true) ∧ J G (i0 + xs.length) W' ∧ Mod (fun k => ¬ G k) W W') ∨ (e = .returned (.bool false) ∧ ∃ i, i ≤ zs.length ∧ Jx G i W')
/-- What a child and its own give. -/
def items (ks : List Nat) (ps : List (List Nat)) : List (List Nat) := List.zipWith (fun k p => k :: p) ks ps
theorem items_take_succ {ks : List Nat} {ps : List (List Nat)} {j : Nat} (hk : j < ks.length) (hp : j < ps.length) : (items ks ps).take (j + 1) = (items ks ps).take j ++ [ks[j] :: ps[j]] := by
  have hl : j < (items ks ps).length := by simp [items]; omega
  rw [List.take_succ_eq_append_getElem hl]
  simp [items]
theorem roundIn_any {n m : Nat} {P : Program} {k : Nat} {f : FuncId} {tmps : Array Value} {assign body : Code} {w : World} {R R' : Ending → World → Prop} (h : RoundIn Fence.wide n P k f tmps assign body w R) (hr : ∀ e w', R e w' → R' e w') :
    RoundIn Fence.wide m P k f tmps assign body w R' :=
  RoundIn.mono (F := Fence.wide) ⟨h.1, fun c cs _ => h.2 c cs (room_wide _)⟩ hr
theorem items_at {ks : List Nat} {ps : List (List Nat)} {j : Nat} (hk : j < ks.length) (hp : j < ps.length) : (items ks ps).flatten[((items ks ps).take j).flatten.length]? = some ks[j] ∧
    (∀ q x, ps[j][q]? = some x → (items ks ps).flatten[((items ks ps).take j).flatten.length + 1 + q]? = some x) ∧ ((items ks ps).take j).flatten.length + 1 + ps[j].length ≤ (items ks ps).flatten.length := by
  have h : (items ks ps).flatten = ((items ks ps).take j).flatten ++ ((ks[j] :: ps[j]) ++ ((items ks ps).drop (j + 1)).flatten) := by
    have h1 : ((items ks ps).take (j + 1) ++ (items ks ps).drop (j + 1)).flatten = (items ks ps).flatten := by rw [List.take_append_drop]
    rw [← h1, items_take_succ hk hp]
    simp
  obtain ⟨A, hA⟩ : ∃ A, ((items ks ps).take j).flatten = A := ⟨_, rfl⟩
  rw [hA] at h ⊢
  rw [h]
  refine ⟨by simp, fun q x hq => ?_, by simp; omega⟩
  have hl := (List.getElem?_eq_some_iff.1 hq).1
  rw [List.getElem?_append_right (by omega), show A.length + 1 + q - A.length = q + 1 by omega, List.cons_append, List.getElem?_cons_succ, List.getElem?_append_left hl]
  exact hq
set_option maxRecDepth 100000 in
set_option maxHeartbeats 1000000 in
theorem visit_step {B : Nat} {kd : Int → List Nat} (h : Int) (ps : List (List Nat)) (hpl : ps.length = (kd h).length) (IH : ∀ (j c : Nat) (p : List Nat), (kd h)[j]? = some c → ps[j]? = some p → VAt B kd c p) :
    VAt B kd h (items (kd h) ps).flatten := by
  intro l zs J Jx G i0 W hJ hJx hP hY hz hzl h0
  obtain ⟨iv0, O0, ns0, hA0, hf0, hk0⟩ := hP _ _ _ h0
  have HK := Kids_any h W hA0 hf0.len (hf0.kids h)
  rw [hk0 h] at HK
  have HK := Lib.hid HK
  have HJ := Lib.hid hJ; have HJX := Lib.hid hJx; have HY := Lib.hid hY; have HP := Lib.hid hP; have HZ := Lib.hid hz; have H0 := Lib.hid h0; have HIH := Lib.hid IH; have HPL := Lib.hid hpl; have HZL := Lib.hid hzl
  have hkl : (kd h).length ≤ 1000000 := by rw [← hk0 h]; exact hf0.kids h
  clear hJ hJx hY hP hz h0 IH hpl hzl hA0 hf0 hk0
  generalize hks : kd h = ks at *
  clear hks
  obtain ⟨n, hn⟩ : ∃ n, 9 ≤ n := ⟨9, Nat.le_refl _⟩
  refine (callsIn_wide (n := n)).1 ?_
  refine callsIn_of_wp Tryz.func99 rfl trivial ?_ rfl
  simp only [Tryz.ntmps99, List.size_toArray, List.length_cons, List.length_nil, Nat.reduceAdd, Nat.reduceSub, Array.replicate_succ, Array.replicate_zero, List.push_toArray, List.append_toArray, List.nil_append, List.cons_append]
  gi_wp2_with fail
  refine call_wide HK.out ?_ (by omega)
  rintro e w1 ⟨v, rfl, hr, b1⟩
  obtain ⟨ka, kc, rfl⟩ := ownsRow_slice hr
  obtain ⟨G1, hG1⟩ : ∃ G1 : Nat → Prop, ∀ k, G1 k ↔ (G k ∨ (Value.slice ka ks.length kc).ownBlock = some k) := ⟨_, fun _ => Iff.rfl⟩
  have hr0 := hr
  have hJ1 : J G1 i0 w1 := HJ.out G G1 i0 W w1 H0.out (Mod.of_below b1) fun k hk => by
    rcases (hG1 k).1 hk with hk | hk
    · exact .inl hk
    · rcases hr.2 with ⟨e, _⟩ | ⟨g, cap, cur, e, hg, _⟩
      · rw [e] at hk; cases hk
      · have hlt := ownsRow_lt hr (g := g) (by rw [e]; rfl)
        rw [e] at hk; cases hk; exact .inr ⟨hg, hlt⟩
  have HJ1 := Lib.hid hJ1; have HR := Lib.hid hr; have HB1 := Lib.hid b1; have HG1 := Lib.hid hG1
  clear hr hr0 b1 hJ1 H0 HK hG1
  gi_wp2_with fail
  gi_loopw [13] (fun s13 wr => ∃ j : Nat, j ≤ ks.length ∧ s13 = .int .i64 (j : Nat) ∧ J G1 (i0 + ((items ks ps).take j).flatten.length) wr ∧ Mod (fun k => ¬ G1 k) w1 wr) (fun i _ => ks.length - (intOf i).toNat)
  case atStart => exact ⟨0, Nat.zero_le _, rfl, by simpa using HJ1.out, Mod.refl _ _⟩
  case round =>
    obtain ⟨j, hj, rfl, hjj, hm⟩ := hrel
    have HJJ := Lib.hid hjj; have HM := Lib.hid hm
    clear hjj hm HJ1
    by_cases hlt : j < ks.length
    · obtain ⟨gk, rfl⟩ := row_someA HR.out (by omega)
      have hcell := row_at (ownsRow_mod HR.out HM.out fun g hg h => h ((HG1.out g).2 (.inr hg))) j (natV ks[j]) (by simp [kidCells, hlt])
      have hpj : j < ps.length := by rw [HPL.out]; exact hlt
      have hfl := items_at (ks := ks) (ps := ps) hlt hpj
      have hnx : Hid (((items ks ps).take (j + 1)).flatten.length = ((items ks ps).take j).flatten.length + 1 + ps[j].length) := Lib.hid (by rw [items_take_succ hlt hpj]; simp; omega)
      have hzx := HZ.out _ _ hfl.1
      have hzr : ∀ q x, ps[j][q]? = some x → zs[i0 + ((items ks ps).take j).flatten.length + 1 + q]? = some x := fun q x hq => by
        have := HZ.out _ _ (hfl.2.1 q x hq)
        rwa [show i0 + (((items ks ps).take j).flatten.length + 1 + q) = i0 + ((items ks ps).take j).flatten.length + 1 + q by omega] at this
      have hle := hfl.2.2
      have hzl2 := HZL.out
      obtain ⟨P, hP2⟩ : ∃ P, i0 + ((items ks ps).take j).flatten.length = P := ⟨_, rfl⟩
      rw [hP2] at hzx hzr HJJ
      have HIHj := Lib.hid (HIH.out j _ ps[j] (List.getElem?_eq_getElem hlt) (List.getElem?_eq_getElem hpj))
      obtain ⟨c, hc⟩ : ∃ c, ks[j] = c := ⟨_, rfl⟩
      rw [hc] at hcell hzx HIHj
      have hji : (j : Int) < (ks.length : Int) := by omega
      obtain ⟨pj, hpj2⟩ : ∃ pj, ps[j] = pj := ⟨_, rfl⟩
      rw [hpj2] at hnx hzr HIHj hle
      have HL := Lib.hid (show P + 1 + pj.length ≤ zs.length by omega)
      have HZR := Lib.hid hzr; have HP2 := Lib.hid hP2
      obtain ⟨fn, tmps, assign, body, hy, hR⟩ := HY.out G1 P _ wr hzx HJJ.out (fun k hk => (HG1.out k).2 (.inl hk))
      have HRy := Lib.hid hR
      simp only [natV] at hcell
      clear hR hzx hzr hP2 hfl hle hzl2 hc hpj2 hpj
      gi_wp2_with fail
      refine ⟨fun _ => by omega, ?_⟩
      refine roundIn_any HRy.out ?_
      rintro e W3 ⟨(⟨rfl, hj3⟩ | ⟨rfl, hj3⟩), hm3⟩
      · have HV := Lib.hid (HIHj.out l zs J Jx G1 (P + 1) W3 HJ.out HJX.out HP.out (fun G' i x W1 h1 h2 h3 => HY.out G' i x W1 h1 h2 fun k hk => h3 k ((HG1.out k).2 (.inl hk))) HZR.out HL.out hj3)
        have HM3 := Lib.hid (HM.out.trans hm3)
        clear hj3 hm3 HM HRy HJJ HIHj hy hcell
        gi_wp2_with fail
        refine call_wide HV.out ?_ (by omega)
        rintro e W4 (⟨rfl, hj4, hm4⟩ | ⟨rfl, i, hi, hx4⟩)
        · have HJ4 := Lib.hid hj4; have HM4 := Lib.hid (HM3.out.trans hm4)
          clear hj4 hm4 HV HM3
          gi_wp2_with fail
          go_roundw
          case rel => exact ⟨j + 1, by omega, by go_num, by
            have h1 := hnx.out
            have h2 := HP2.out
            have : i0 + ((items ks ps).take (j + 1)).flatten.length = P + 1 + pj.length := by omega
            rw [this]; exact HJ4.out, HM4.out⟩
          case measure => simp [intOf]; omega
        · have HX4 := Lib.hid (HJX.out G1 G i W4 W4 hx4 (Mod.refl _ _) fun k hk => .inl ((HG1.out k).2 (.inl hk)))
          clear hx4 HV HM3
          gi_wp2_with fail
          go_ret
          exact .inr ⟨rfl, i, hi, HX4.out⟩
      · have HX3 := Lib.hid (HJX.out G1 G (P + 1) W3 W3 hj3 (Mod.refl _ _) fun k hk => .inl ((HG1.out k).2 (.inl hk)))
        clear hj3 hm3 HRy HJJ HIHj hy hcell
        gi_wp2_with fail
        refine ⟨trivial, ?_⟩
        gi_wp2_with fail
        go_ret
        exact .inr ⟨rfl, P + 1, by have := HL.out; omega, HX3.out⟩
    · have hje : j = ks.length := by omega
      subst hje
      have hfull : (items ks ps).take ks.length = items ks ps := List.take_of_length_le (by simp [items]; omega)
      rw [hfull] at HJJ
      have HF := Lib.hid (HJ.out G1 G _ wr wr HJJ.out (Mod.refl _ _) fun k hk => .inl ((HG1.out k).2 (.inl hk)))
      have HMF := Lib.hid (show Mod (fun k => ¬ G k) W wr from (Mod.of_below HB1.out).trans (HM.out.mono fun k _ h hg => h ((HG1.out k).2 (.inl hg))))
      clear hfull
      gi_wp2_with fail
      go_ret
      exact .inl ⟨rfl, HF.out, HMF.out⟩
theorem visit_all {B : Nat} {kd : Int → List Nat} {ks xs : List Nat} (h : Sub kd ks xs) : ∃ ps : List (List Nat), ps.length = ks.length ∧ xs = (items ks ps).flatten ∧ ∀ (j c : Nat) (p : List Nat), ks[j]? = some c → ps[j]? = some p → VAt B kd c p := by
  induction h with
  | nil => exact ⟨[], rfl, rfl, fun j c p h _ => by simp at h⟩
  | @cons k ks xs ys _ _ ih1 ih2 =>
    obtain ⟨ps1, e1, f1, g1⟩ := ih1
    obtain ⟨ps2, e2, f2, g2⟩ := ih2
    refine ⟨xs :: ps2, by simp [e2], by simp [items, f2], fun j c p h1 h2 => ?_⟩
    match j, h1, h2 with
    | 0, h1, h2 =>
      simp at h1 h2
      subst h1
      subst h2
      rw [f1]
      exact visit_step (k : Int) ps1 e1 g1
    | j + 1, h1, h2 => exact g2 j c p (by simpa using h1) (by simpa using h2)
theorem visit_any {B : Nat} {kd : Int → List Nat} {h : Int} {xs : List Nat} (hS : Sub kd (kd h) xs) : VAt B kd h xs := by
  obtain ⟨ps, e1, f1, g1⟩ := visit_all (B := B) hS
  rw [f1]
  exact visit_step h ps e1 g1
set_option maxRecDepth 100000 in
theorem below_any (h : Int) (w : World) (B : Nat) : Calls Tryz.prog 55 #[.pointer (some ⟨B, 0, none⟩), .int .i64 h] w fun e w' =>
    e = .returned (.func (.func 98) #[] #[.pointer (some ⟨w.heap.size, 0, none⟩), .pointer (some ⟨w.heap.size + 1, 0, none⟩)]) ∧ w' = (w.alloc (.cells #[.pointer (some ⟨B, 0, none⟩)] 23)).alloc (.cells #[.int .i64 h] 3) := by
  have hmf : ∀ (fn : Fn) (first cap : Array Value) (w : World), (Instr.makeFunc fn first cap).run Tryz.prog w = .ok (.func fn first cap) w := fun _ _ _ _ => rfl
  go_enter Tryz.func55, Tryz.ntmps55
  go_wp2
  go_ret
  exact ⟨rfl, rfl⟩
set_option maxRecDepth 100000 in
/-- The iterator of below. -/
theorem below_iter (h : Int) (xs : List Nat) (n : Nat) (hn : 3 ≤ n) (w : World) {B : Nat} {ab hb : Nat} {kd : Int → List Nat} (hS : Sub kd (kd h) xs)
    (c1 : w.cell? ⟨ab, 0, none⟩ = some (.pointer (some ⟨B, 0, none⟩))) (c2 : w.cell? ⟨hb, 0, none⟩ = some (.int .i64 h)) :
    IterF Fence.wide n Tryz.prog 98 #[.pointer (some ⟨ab, 0, none⟩), .pointer (some ⟨hb, 0, none⟩)] (fun x : Nat => #[.int .i64 (x : Nat)]) xs (fun _ => False) (PrK B kd) w := by
  intro lp J Jx W hb0 hJ hJx hP hY h0
  have k1 : W.cell? ⟨ab, 0, none⟩ = some (.pointer (some ⟨B, 0, none⟩)) := (hb0.cell (p := ⟨ab, 0, none⟩) (World.block_lt_of_cell? _ _ c1)).trans c1
  have k2 : W.cell? ⟨hb, 0, none⟩ = some (.int .i64 h) := (hb0.cell (p := ⟨hb, 0, none⟩) (World.block_lt_of_cell? _ _ c2)).trans c2
  have HV := Lib.hid (visit_any (B := B) hS lp xs J Jx (fun _ => False) 0 W hJ hJx hP (fun G' i x W1 h1 h2 h3 => by
    obtain ⟨fn, tmps, assign, body, hy, hR⟩ := hY G' i x W1 h1 h2 h3
    exact ⟨fn, tmps, assign, body, hy, hR.1, fun c cs _ => hR.2 c cs (room_wide _)⟩) (fun j x hj => by rw [Nat.zero_add]; exact hj) (by omega) h0)
  clear hJ hJx hP hY h0 c1 c2 hb0
  refine callsIn_of_wp Tryz.func98 rfl trivial ?_ rfl
  simp only [Tryz.ntmps98, List.size_toArray, List.length_cons, List.length_nil, Nat.reduceAdd, Nat.reduceSub, Array.replicate_succ, Array.replicate_zero, List.push_toArray, List.append_toArray, List.nil_append, List.cons_append]
  gi_wp2_with fail
  refine call_wide HV.out ?_ (by omega)
  rintro e W4 hr
  have HR := Lib.hid hr
  obtain ⟨v, rfl⟩ : ∃ v, e = .returned v := by rcases hr with ⟨h, _⟩ | ⟨h, _⟩ <;> exact ⟨_, h⟩
  clear hr HV
  gi_wp2_with fail
  go_end0
  refine ⟨⟨_, rfl⟩, ?_⟩
  rcases HR.out with ⟨_, h1, _⟩ | ⟨_, i, hi, h1⟩
  · exact ⟨_, .inl (by simpa using h1)⟩
  · exact ⟨_, .inr ⟨i, hi, h1⟩⟩
theorem enter_below1 (args : Array Value) (W : World) : (callFunc 98 args).run Tryz.prog W = .ok (.enter 98 args) W := by simp [go_sem]
end Go.Proofs.YtdapdadcninidaaGreatDoor
namespace Go.Proofs.YtdapdadcninidaaGreatDoor
open Go.RowKit

/-- A node is set, its links kept. -/
theorem Snd.set {ns : List Nd} {r : Nat → Nat} (h : Snd ns r) {x : Nat} {d : Nd} (hx : inR ns x) (hd : sk d = sk (nd ns x)) : Snd (setNd ns ((x : Nat) : Int) d) r := by
  refine h.same (setNd_len _ _ _) fun y hy => ?_
  rw [nd_set hx hy]
  split
  · rename_i e; rw [e]; exact hd
  · rfl
open Classical in
/-- The contents of a new template. -/
theorem Snd.link {ns : List Nd} {r : Nat → Nat} (h : Snd ns r) {x : Nat} {d : Nd} (hx : inR ns x) (hc : (nd ns x).contents = 0) (hp : d.parent = 0) (hk : d.kids = []) (hdc : d.contents = 0) (hh : d.host = x) (hkd : d.kind = 2) :
    Snd (setNd (ns ++ [d]) ((x : Nat) : Int) { nd ns x with contents := ns.length + 1 }) fun y => if y = ns.length + 1 then r x + 1 else r y := by
  have hdn := nd_app_new (ns := ns) (ms := [d]) (j := 0) rfl
  have hxl : x ≠ ns.length + 1 := by have := hx.2; omega
  have hl : (setNd (ns ++ [d]) ((x : Nat) : Int) { nd ns x with contents := ns.length + 1 }).length = ns.length + 1 := by rw [setNd_len]; simp
  have hnew : inR (setNd (ns ++ [d]) ((x : Nat) : Int) { nd ns x with contents := ns.length + 1 }) (ns.length + 1) := ⟨by omega, by rw [hl]; exact Nat.le_refl _⟩
  have ho : ∀ y, inR ns y → nd (setNd (ns ++ [d]) ((x : Nat) : Int) { nd ns x with contents := ns.length + 1 }) y = if y = x then { nd ns x with contents := ns.length + 1 } else nd ns y := fun y hy => by
    rw [nd_set (inR_app hx) (inR_app hy), nd_app hy]
  have hn : nd (setNd (ns ++ [d]) ((x : Nat) : Int) { nd ns x with contents := ns.length + 1 }) (ns.length + 1) = d := by
    rw [nd_set (inR_app hx) hdn.1, if_neg (Ne.symm hxl)]; exact hdn.2
  generalize setNd (ns ++ [d]) ((x : Nat) : Int) { nd ns x with contents := ns.length + 1 } = m at *
  have hi : ∀ y, inR m y → inR ns y ∨ y = ns.length + 1 := fun y hy => by
    obtain ⟨h1, h2⟩ := hy
    rw [hl] at h2
    by_cases e : y ≤ ns.length
    · exact .inl ⟨h1, e⟩
    · exact .inr (by omega)
  have hj : ∀ y, inR ns y → inR m y := fun y hy => ⟨hy.1, by rw [hl]; have := hy.2; omega⟩
  have hyl : ∀ y, inR ns y → y ≠ ns.length + 1 := fun y hy => by have := hy.2; omega
  have ek : ∀ y, inR ns y → (nd m y).kind = (nd ns y).kind := fun y hy => by rw [ho y hy]; split; (· rename_i e; rw [e]); (· rfl)
  have ep : ∀ y, inR ns y → (nd m y).parent = (nd ns y).parent := fun y hy => by rw [ho y hy]; split; (· rename_i e; rw [e]); (· rfl)
  have ed : ∀ y, inR ns y → (nd m y).kids = (nd ns y).kids := fun y hy => by rw [ho y hy]; split; (· rename_i e; rw [e]); (· rfl)
  have eh : ∀ y, inR ns y → (nd m y).host = (nd ns y).host := fun y hy => by rw [ho y hy]; split; (· rename_i e; rw [e]); (· rfl)
  have ec : ∀ y, inR ns y → (nd m y).contents = if y = x then ns.length + 1 else (nd ns y).contents := fun y hy => by rw [ho y hy]; split <;> rfl
  refine ⟨fun y k hy hkk => ?_, fun y hy hpp => ?_, fun y hy => ?_, fun y hy hcc => ?_, fun y hy hhh => ?_, fun y hy hkk => ?_, fun y hy hkk => ?_, fun y hy hpp => ?_, fun y hy hpp => ?_⟩
  all_goals rcases hi y hy with hy' | rfl
  · rw [ed y hy'] at hkk
    obtain ⟨h1, h2⟩ := h.kid y k hy' hkk
    exact ⟨hj k h1, by rw [ep k h1]; exact h2⟩
  · rw [hn, hk] at hkk; cases hkk
  · rw [ep y hy'] at hpp ⊢
    obtain ⟨h1, h2⟩ := h.par y hy' hpp
    exact ⟨hj _ h1, by rw [ed _ h1]; exact h2⟩
  · rw [hn, hp] at hpp; exact absurd rfl hpp
  · rw [ed y hy']; exact h.nod y hy'
  · rw [hn, hk]; exact List.nodup_nil
  · rw [ec y hy'] at hcc ⊢
    by_cases e : y = x
    · rw [if_pos e]
      exact ⟨hnew, by rw [hn, hh, e], by rw [hn]; exact hkd⟩
    · rw [if_neg e] at hcc ⊢
      obtain ⟨h1, h2, h3⟩ := h.cts y hy' hcc
      exact ⟨hj _ h1, by rw [eh _ h1]; exact h2, by rw [ek _ h1]; exact h3⟩
  · rw [hn, hdc] at hcc; exact absurd rfl hcc
  · rw [eh y hy'] at hhh ⊢
    obtain ⟨h1, h2, h3⟩ := h.hst y hy' hhh
    refine ⟨hj _ h1, ?_, by rw [ek y hy']; exact h3⟩
    rw [ec _ h1, if_neg (fun e => by rw [e, hc] at h2; have := hy'.1; omega)]
    exact h2
  · rw [hn, hh]
    exact ⟨hj x hx, by rw [ec x hx, if_pos rfl], hkd⟩
  · rw [ek y hy'] at hkk
    rw [ep y hy']; exact h.top y hy' hkk
  · rw [hn]; exact hp
  · rw [ed y hy'] at hkk
    rw [ek y hy']; exact h.may y hy' hkk
  · rw [hn] at hkk; exact absurd hk hkk
  · rw [ep y hy'] at hpp ⊢
    have h1 := (h.par y hy' hpp).1
    show (if _ then _ else _) < (if _ then _ else _)
    rw [if_neg (hyl _ h1), if_neg (hyl y hy')]; exact h.rp y hy' hpp
  · rw [hn, hp] at hpp; exact absurd rfl hpp
  · rw [eh y hy'] at hpp ⊢
    have h1 := (h.hst y hy' hpp).1
    show (if _ then _ else _) < (if _ then _ else _)
    rw [if_neg (hyl _ h1), if_neg (hyl y hy')]; exact h.rh y hy' hpp
  · rw [hn, hh]
    show (if _ then _ else _) < (if _ then _ else _)
    rw [if_neg hxl, if_pos rfl]; omega
theorem le_sumL {x : Nat} : ∀ {l : List Nat}, x ∈ l → x ≤ l.sum
  | a :: l, h => by
    rcases List.mem_cons.1 h with rfl | h
    · simp
    · have := le_sumL h
      simp; omega
/-- The rank has a bound. -/
theorem rank_bound (ns : List Nd) (r : Nat → Nat) : ∃ K, ∀ x, inR ns x → r x ≤ K := by
  refine ⟨((List.range (ns.length + 1)).map r).sum, fun x hx => ?_⟩
  exact le_sumL (List.mem_map.2 ⟨x, List.mem_range.2 (by have := hx.2; omega), rfl⟩)
/-- Whatever leads to nodes of a greater rank has a preorder. -/
theorem sub_ex {ns : List Nd} {r : Nat → Nat} {kd : Int → List Nat} (hkd : ∀ x, inR ns x → ∀ k ∈ kd ((x : Nat) : Int), inR ns k ∧ r x < r k) : ∀ ks, (∀ k ∈ ks, inR ns k) → ∃ xs, Sub kd ks xs := by
  obtain ⟨K, hK⟩ := rank_bound ns r
  have key : ∀ m x, inR ns x → K - r x ≤ m → ∃ xs, Sub kd (kd ((x : Nat) : Int)) xs := by
    intro m
    have many : ∀ ks, (∀ k ∈ ks, ∃ xs, Sub kd (kd ((k : Nat) : Int)) xs) → ∃ xs, Sub kd ks xs := by
      intro ks
      induction ks with
      | nil => exact fun _ => ⟨[], .nil⟩
      | cons k ks ih =>
        intro h
        obtain ⟨xs, h1⟩ := h k List.mem_cons_self
        obtain ⟨ys, h2⟩ := ih fun j hj => h j (List.mem_cons_of_mem _ hj)
        exact ⟨_, .cons h1 h2⟩
    induction m with
    | zero =>
      intro x hx hm
      refine many _ fun k hk => ?_
      obtain ⟨h1, h2⟩ := hkd x hx k hk
      have := hK k h1
      omega
    | succ m ih =>
      intro x hx hm
      refine many _ fun k hk => ?_
      obtain ⟨h1, h2⟩ := hkd x hx k hk
      exact ih k h1 (by have := hK k h1; omega)
  intro ks
  induction ks with
  | nil => exact fun _ => ⟨[], .nil⟩
  | cons k ks ih =>
    intro h
    obtain ⟨xs, h1⟩ := key _ k (h k List.mem_cons_self) (Nat.le_refl _)
    obtain ⟨ys, h2⟩ := ih fun j hj => h j (List.mem_cons_of_mem _ hj)
    exact ⟨_, .cons h1 h2⟩
theorem Anc.trans {ns : List Nd} {a b x : Nat} (h : Anc ns a b) (k : Anc ns b x) : Anc ns a x := by
  induction k with
  | here => exact h
  | up h1 _ ih => exact .up h1 ih
theorem Anc.linear {ns : List Nd} {a b x : Nat} (h : Anc ns a x) (k : Anc ns b x) : Anc ns a b ∨ Anc ns b a := by
  induction h with
  | here => exact .inr k
  | @up y h1 h2 ih =>
    cases k with
    | here => exact .inl (.up h1 h2)
    | up _ k2 => exact ih k2
theorem Anc.rank {ns : List Nd} {r : Nat → Nat} (h : Snd ns r) {a x : Nat} (hx : inR ns x) (ha : Anc ns a x) : a = x ∨ r a < r x := by
  induction ha with
  | here => exact .inl rfl
  | @up y h1 _ ih =>
    obtain ⟨h3, h4⟩ := h.upS_lt hx h1
    rcases ih h3 with e | e
    · rw [e]; exact .inr h4
    · exact .inr (by omega)
/-- Whatever leads from a node to those whose next on the way up it is. -/
structure DownOk (ns : List Nd) (kd : Int → List Nat) : Prop where
  dn : ∀ x, inR ns x → ∀ k ∈ kd ((x : Nat) : Int), inR ns k ∧ upS ns k = x
  no : ∀ x, inR ns x → (kd ((x : Nat) : Int)).Nodup
theorem DownOk.lt {ns : List Nd} {r : Nat → Nat} {kd : Int → List Nat} (h : Snd ns r) (hd : DownOk ns kd) : ∀ x, inR ns x → ∀ k ∈ kd ((x : Nat) : Int), inR ns k ∧ r x < r k := fun x hx k hk => by
  obtain ⟨h1, h2⟩ := hd.dn x hx k hk
  have := (h.upS_lt h1 (by rw [h2]; have := hx.1; omega)).2
  rw [h2] at this
  exact ⟨h1, this⟩
theorem sub_anc {ns : List Nd} {kd : Int → List Nat} (hd : DownOk ns kd) {ks xs : List Nat} (hS : Sub kd ks xs) (hk : ∀ k ∈ ks, inR ns k) : ∀ y ∈ xs, inR ns y ∧ ∃ k ∈ ks, Anc ns k y := by
  induction hS with
  | nil => exact fun y hy => by cases hy
  | @cons k ks xs ys _ _ ih1 ih2 =>
    have hkk := hk k List.mem_cons_self
    have i1 := ih1 fun j hj => (hd.dn k hkk j hj).1
    have i2 := ih2 fun j hj => hk j (List.mem_cons_of_mem _ hj)
    intro y hy
    rcases List.mem_cons.1 hy with rfl | hy
    · exact ⟨hkk, _, List.mem_cons_self, .here⟩
    · rcases List.mem_append.1 hy with hy | hy
      · obtain ⟨h1, j, hj, ha⟩ := i1 y hy
        obtain ⟨h2, h3⟩ := hd.dn k hkk j hj
        refine ⟨h1, k, List.mem_cons_self, Anc.trans (.up (by rw [h3]; have := hkk.1; omega) (by rw [h3]; exact .here)) ha⟩
      · obtain ⟨h1, j, hj, ha⟩ := i2 y hy
        exact ⟨h1, j, List.mem_cons_of_mem _ hj, ha⟩
/-- Each node comes once. -/
theorem sub_nodup {ns : List Nd} {r : Nat → Nat} {kd : Int → List Nat} (h : Snd ns r) (hd : DownOk ns kd) {ks xs : List Nat} (hS : Sub kd ks xs) (hk : ∀ k ∈ ks, inR ns k) (hn : ks.Nodup) (hp : ∀ a ∈ ks, ∀ b ∈ ks, a ≠ b → ¬ Anc ns a b) : xs.Nodup := by
  induction hS with
  | nil => exact List.nodup_nil
  | @cons k ks xs ys h1 h2 ih1 ih2 =>
    have hkk := hk k List.mem_cons_self
    have hkr : ∀ j ∈ ks, inR ns j := fun j hj => hk j (List.mem_cons_of_mem _ hj)
    have a1 := sub_anc hd h1 fun j hj => (hd.dn k hkk j hj).1
    have a2 := sub_anc hd h2 hkr
    have sib : ∀ a ∈ kd ((k : Nat) : Int), ∀ b ∈ kd ((k : Nat) : Int), a ≠ b → ¬ Anc ns a b := fun a ha b hb hne hab => by
      obtain ⟨b1, b2⟩ := hd.dn k hkk b hb
      have h3 := hab.step (Ne.symm hne)
      rw [b2] at h3
      obtain ⟨c1, c2⟩ := DownOk.lt h hd k hkk a ha
      rcases h3.rank h hkk with e | e
      · rw [e] at c2; omega
      · omega
    have n1 := ih1 (fun j hj => (hd.dn k hkk j hj).1) (hd.no k hkk) sib
    have n2 := ih2 hkr (List.nodup_cons.1 hn).2 fun a ha b hb => hp a (List.mem_cons_of_mem _ ha) b (List.mem_cons_of_mem _ hb)
    have up1 : ∀ y ∈ xs, inR ns y ∧ Anc ns k y ∧ r k < r y := fun y hy => by
      obtain ⟨b1, j, hj, ha⟩ := a1 y hy
      obtain ⟨b2, b3⟩ := hd.dn k hkk j hj
      obtain ⟨_, b4⟩ := DownOk.lt h hd k hkk j hj
      refine ⟨b1, Anc.trans (.up (by rw [b3]; have := hkk.1; omega) (by rw [b3]; exact .here)) ha, ?_⟩
      rcases ha.rank h b1 with e | e
      · rw [← e]; exact b4
      · omega
    have hkn : ∀ j ∈ ks, k ≠ j := fun j hj e => (List.nodup_cons.1 hn).1 (e ▸ hj)
    refine List.nodup_cons.2 ⟨fun hm => ?_, List.nodup_append.2 ⟨n1, n2, ?_⟩⟩
    · rcases List.mem_append.1 hm with hm | hm
      · have := (up1 k hm).2.2; omega
      · obtain ⟨_, j, hj, ha⟩ := a2 k hm
        exact hp j (List.mem_cons_of_mem _ hj) k List.mem_cons_self (Ne.symm (hkn j hj)) ha
    · rintro y hy z hz rfl
      obtain ⟨_, j, hj, ha⟩ := a2 y hz
      rcases (up1 y hy).2.1.linear ha with e | e
      · exact hp k List.mem_cons_self j (List.mem_cons_of_mem _ hj) (hkn j hj) e
      · exact hp j (List.mem_cons_of_mem _ hj) k List.mem_cons_self (Ne.symm (hkn j hj)) e
theorem Snd.downKids {ns : List Nd} {r : Nat → Nat} (h : Snd ns r) : DownOk ns (kidsAt ns) := by
  have e : ∀ x, inR ns x → kidsAt ns ((x : Nat) : Int) = (nd ns x).kids := fun x hx => by rw [kidsAt, if_pos (inR_isH.2 hx)]; rfl
  refine ⟨fun x hx k hk => ?_, fun x hx => by rw [e x hx]; exact h.nod x hx⟩
  rw [e x hx] at hk
  obtain ⟨h1, h2⟩ := h.kid x k hx hk
  refine ⟨h1, ?_⟩
  unfold upS
  rw [if_neg (by rw [h2]; have := hx.1; omega)]; exact h2
end Go.Proofs.YtdapdadcninidaaGreatDoor
namespace Go.Proofs.YtdapdadcninidaaGreatDoor
open Go.RowKit Go.ChangeMaps

/-- An entry: key, value, stamp. -/
def entV (x : Nat × Nat × Nat) : MapEntry := ⟨.int .i64 (x.1 : Nat), .int .i64 (x.2.1 : Nat), x.2.2⟩
def entA (l : List (Nat × Nat × Nat)) : Array MapEntry := (l.map entV).toArray
/-- A map block's contents. -/
structure EntOk (l : List (Nat × Nat × Nat)) (c : Nat) : Prop where
  bd : ∀ x ∈ l, x.2.2 < c
  nb : (l.map (·.2.2)).Nodup
  ks : ∀ x ∈ l, x.1 < 1000000000
  nk : (l.map (·.1)).Nodup
theorem key_wf {k : Nat} (h : k < 1000000000) : (Lit.int .i64 (k : Int)).wf = true := WalkArith.wf_i64 (by omega)
theorem keyedI : Go.Maps.Keyed Tryz.prog 3 := Go.Maps.int_keyed Tryz.underlying3
theorem key_of {k : Nat} (h : k < 1000000000) : keyOf Tryz.prog 3 (.int .i64 (k : Nat)) = some (.int .i64 (k : Nat)) := Go.Maps.keyOf_int_mk Tryz.underlying3 (key_wf h)
/-- The value of a key. -/
def mapL (l : List (Nat × Nat × Nat)) (k : Nat) : Option Nat := (l.find? fun x => x.1 == k).map (·.2.1)
theorem find_ent (w : World) {l : List (Nat × Nat × Nat)} {k : Nat} (hk : k < 1000000000) (hl : ∀ x ∈ l, x.1 < 1000000000) :
    ((Instr.findKey 3 (.int .i64 (k : Nat)) (entA l).toList).run Tryz.prog w = .ok none w ∧ ∀ x ∈ l, x.1 ≠ k) ∨ ∃ j x, (Instr.findKey 3 (.int .i64 (k : Nat)) (entA l).toList).run Tryz.prog w = .ok (some (j, .int .i64 (x.2.1 : Nat))) w ∧ l[j]? = some x ∧ x.1 = k := by
  rcases keyedI.find w (key_of hk) (entA l).toList (fun e he => by
    simp only [entA, List.mem_map] at he
    obtain ⟨x, hx, rfl⟩ := he
    exact ⟨_, key_of (hl x hx)⟩) with ⟨h1, h2⟩ | ⟨j, e, h1, h2, h3⟩
  · refine .inl ⟨h1, fun x hx e => h2 (entV x) (List.mem_map.2 ⟨x, hx, rfl⟩) ?_⟩
    rw [← e]; rfl
  · rw [show (entA l).toList = l.map entV from rfl, List.getElem?_map] at h2
    obtain ⟨x, hx, rfl⟩ := Option.map_eq_some_iff.1 h2
    refine .inr ⟨j, x, h1, hx, ?_⟩
    simp only [entV, Value.int.injEq, true_and] at h3
    omega
theorem check_int (w : World) (em : Bool) {k : Nat} (hk : k < 1000000000) : (Instr.checkKey em 10000 3 (.int .i64 (k : Nat))).run Tryz.prog w = .ok () w := keyedI.check w em (key_of hk)
theorem mapL_none {l : List (Nat × Nat × Nat)} {k : Nat} (h : ∀ x ∈ l, x.1 ≠ k) : mapL l k = none := by
  rw [mapL, List.find?_eq_none.2 (by simpa using h)]; rfl
theorem mapL_some {l : List (Nat × Nat × Nat)} {k j : Nat} {x : Nat × Nat × Nat} (hn : (l.map (·.1)).Nodup) (h : l[j]? = some x) (hk : x.1 = k) : mapL l k = some x.2.1 := by
  induction l generalizing j with
  | nil => simp at h
  | cons y l ih =>
    rw [mapL, List.find?_cons]
    cases hy : (y.1 == k) with
    | true =>
      cases j with
      | zero =>
        obtain rfl : y = x := by simpa using h
        rfl
      | succ j =>
        exfalso
        have hm := List.mem_of_getElem? (show l[j]? = some x by simpa using h)
        refine (List.nodup_cons.1 hn).1 (List.mem_map.2 ⟨x, hm, ?_⟩)
        rw [beq_iff_eq] at hy
        exact hk.trans hy.symm
    | false =>
      cases j with
      | zero =>
        obtain rfl : y = x := by simpa using h
        simp [hk] at hy
      | succ j => exact ih (List.nodup_cons.1 hn).2 (by simpa using h)
/-- A look-up. -/
theorem run_look {w : World} {M c k : Nat} {l : List (Nat × Nat × Nat)} (hb : w.heap[M]? = some (.map (entA l) c)) (ho : EntOk l c) (hk : k < 1000000000) :
    (Instr.lookup 91 (.map (some M)) (.int .i64 (k : Nat)) true).run Tryz.prog w = .ok (.tuple #[.int .i64 ((mapL l k).getD 0 : Nat), .bool (mapL l k).isSome]) w := by
  rcases find_ent w hk ho.ks with ⟨h1, h2⟩ | ⟨j, x, h1, h2, h3⟩
  · rw [mapL_none h2]
    simp [Instr.lookup, run_underlying Tryz.underlying91, MapKept.run_getObj_map hb, check_int w _ hk, h1, Result.andThen]
  · rw [mapL_some ho.nk h2 h3]
    simp [Instr.lookup, run_underlying Tryz.underlying91, MapKept.run_getObj_map hb, check_int w _ hk, h1, Result.andThen]
theorem run_look_nil {w : World} {k : Nat} (hk : k < 1000000000) :
    (Instr.lookup 91 (.map none) (.int .i64 (k : Nat)) true).run Tryz.prog w = .ok (.tuple #[.int .i64 0, .bool false]) w := by
  rcases find_ent w (l := []) hk (by simp) with ⟨h1, h2⟩ | ⟨j, x, h1, h2, h3⟩
  · have h1' : (Instr.findKey 3 (.int .i64 (k : Nat)) []).run Tryz.prog w = .ok none w := h1
    simp [Instr.lookup, run_underlying Tryz.underlying91, check_int w _ hk, h1', Result.andThen]
  · simp at h2
/-- A world whose block M is this map. -/
def mset (w : World) (M : Nat) (l : List (Nat × Nat × Nat)) (c : Nat) : World := setBlock w M (.map (entA l) c)
theorem mset_heap {w : World} {M : Nat} (h : M < w.heap.size) (l : List (Nat × Nat × Nat)) (c : Nat) : (mset w M l c).heap[M]? = some (.map (entA l) c) := by
  simp [mset, setBlock, h]
theorem mset_mset (w : World) (M : Nat) (l l' : List (Nat × Nat × Nat)) (c c' : Nat) : setBlock (mset w M l c) M (.map (entA l') c') = mset w M l' c' := by
  simp [mset, setBlock]
theorem mset_self {w : World} {M c : Nat} {l : List (Nat × Nat × Nat)} (h : w.heap[M]? = some (.map (entA l) c)) : mset w M l c = w := by
  have e : w.heap.setIfInBounds M (.map (entA l) c) = w.heap := by
    apply Array.ext_getElem?
    intro i
    by_cases hi : i = M
    · subst hi
      rw [h]
      have := (Array.getElem?_eq_some_iff.1 h).1
      simp [this]
    · rw [Array.getElem?_setIfInBounds_ne (Ne.symm hi)]
  unfold mset setBlock
  rw [e]
theorem mset_size (w : World) (M : Nat) (l : List (Nat × Nat × Nat)) (c : Nat) : (mset w M l c).heap.size = w.heap.size := by simp [mset, setBlock]
theorem mset_other (w : World) {M : Nat} (l : List (Nat × Nat × Nat)) (c : Nat) {i : Nat} (h : i ≠ M) : (mset w M l c).heap[i]? = w.heap[i]? := by
  simp [mset, setBlock, Array.getElem?_setIfInBounds_ne (Ne.symm h)]
theorem entA_push (l : List (Nat × Nat × Nat)) (x : Nat × Nat × Nat) : (entA l).push (entV x) = entA (l ++ [x]) := by simp [entA]
/-- The first half of a store: a new entry. -/
theorem run_entry {w : World} {M c k : Nat} {l : List (Nat × Nat × Nat)} (hM : M < w.heap.size) (hl : ∀ x ∈ l, x.1 < 1000000000) (hk : k < 1000000000) (hn : ∀ x ∈ l, x.1 ≠ k) :
    (Instr.mapEntry 91 (.map (some M)) (.int .i64 (k : Nat))).run Tryz.prog (mset w M l c) = .ok (.tuple #[.int .i64 0, .int .i64 (c : Nat)]) (mset w M (l ++ [(k, 0, c)]) (c + 1)) := by
  have hb := mset_heap hM l c
  rcases find_ent (mset w M l c) hk hl with ⟨h1, h2⟩ | ⟨j, x, h1, h2, h3⟩
  · have e : (entA l).push { key := .int .i64 (k : Nat), val := .int .i64 0, born := c } = entA (l ++ [(k, 0, c)]) := entA_push l (k, 0, c)
    have hs : (setObj M (.map (entA (l ++ [(k, 0, c)])) (c + 1))).run Tryz.prog (mset w M l c) = .ok () (mset w M (l ++ [(k, 0, c)]) (c + 1)) := (MapKept.run_setObj_map _ hb).trans (congrArg (Result.ok ()) (mset_mset w M l _ c _))
    simp [Instr.mapEntry, run_underlying Tryz.underlying91, MapKept.run_getObj_map hb, check_int _ _ hk, h1, Result.andThen, e, hs, goInt]
  · exact absurd h3 (hn x (List.mem_of_getElem? h2))
theorem modify_at {α : Type} (f : α → α) (a : α) (r : List α) : ∀ l : List α, (l ++ a :: r).modify l.length f = l ++ f a :: r
  | [] => rfl
  | b :: l => by
    rw [List.cons_append, List.length_cons, List.modify_succ_cons, modify_at f a r l]; rfl
/-- The second half: the entry's value. -/
theorem run_store_ent {w : World} {M c k v : Nat} {l r : List (Nat × Nat × Nat)} {b v0 : Nat} (hM : M < w.heap.size) (hb : ∀ x ∈ l, x.2.2 ≠ b) :
    (Instr.entryStore 91 (.map (some M)) (.int .i64 (b : Nat)) (.int .i64 (v : Nat))).run Tryz.prog (mset w M (l ++ (k, v0, b) :: r) c) = .ok () (mset w M (l ++ (k, v, b) :: r) c) := by
  have hh := mset_heap hM (l ++ (k, v0, b) :: r) c
  have hf : (entA (l ++ (k, v0, b) :: r)).findIdx? (fun e => ((e.born : Nat) : Int) == ((b : Nat) : Int)) = some l.length := by
    rw [WideElems.findIdx_arr]
    show ((l ++ (k, v0, b) :: r).map entV).findIdx? _ = _
    rw [List.findIdx?_map, List.findIdx?_append]
    rw [List.findIdx?_eq_none_iff.2 (by
      intro x hx
      have := hb x hx
      simp only [Function.comp, entV, beq_eq_false_iff_ne, ne_eq]
      omega)]
    simp [List.findIdx?_cons, entV]
  have hm : (entA (l ++ (k, v0, b) :: r)).modify l.length (fun e => { e with val := .int .i64 (v : Nat) }) = entA (l ++ (k, v, b) :: r) := by
    apply Array.ext'
    rw [Array.toList_modify]
    show ((l ++ (k, v0, b) :: r).map entV).modify l.length _ = (l ++ (k, v, b) :: r).map entV
    rw [List.map_append, List.map_append, List.map_cons, List.map_cons]
    have := modify_at (fun e : MapEntry => { e with val := .int .i64 (v : Nat) }) (entV (k, v0, b)) (r.map entV) (l.map entV)
    rw [List.length_map] at this
    exact this
  have hs : (setObj M (.map (entA (l ++ (k, v, b) :: r)) c)).run Tryz.prog (mset w M (l ++ (k, v0, b) :: r) c) = .ok () (mset w M (l ++ (k, v, b) :: r) c) := (MapKept.run_setObj_map _ hh).trans (congrArg (Result.ok ()) (mset_mset w M (l ++ (k, v0, b) :: r) _ c _))
  simp [Instr.entryStore, MapKept.run_getObj_map hh, asInt, asIntOf, hf, hm, hs, Result.andThen]
end Go.Proofs.YtdapdadcninidaaGreatDoor
namespace Go.Proofs.YtdapdadcninidaaGreatDoor
open Go.RowKit

/-- The data that hangs somewhere. -/
def att (d : Nd) : Nat := if d.parent = 0 then 0 else d.data.length
def attS (ns : List Nd) : Nat := (ns.map att).sum
theorem sum_set {α : Type} (f : α → Nat) (d : α) : ∀ (l : List α) (i : Nat) (d0 : α), l[i]? = some d0 → ((l.set i d).map f).sum + f d0 = (l.map f).sum + f d
  | [], _, _, h => by simp at h
  | a :: l, 0, d0, h => by
    obtain rfl : a = d0 := by simpa using h
    simp only [List.set_cons_zero, List.map_cons, List.sum_cons]; omega
  | a :: l, i + 1, d0, h => by
    have ih := sum_set f d l i d0 (by simpa using h)
    simp only [List.set_cons_succ, List.map_cons, List.sum_cons]; omega
theorem attS_set {ns : List Nd} {x : Nat} (hx : inR ns x) (d : Nd) : attS (setNd ns ((x : Nat) : Int) d) + att (nd ns x) = attS ns + att d := by
  have h := sum_set att d ns (x - 1) (nd ns x) (nd_get hx)
  unfold attS setNd
  rw [show (((x : Nat) : Int) - 1).toNat = x - 1 by have := hx.1; omega]
  exact h
theorem attS_app (ns ms : List Nd) : attS (ns ++ ms) = attS ns + attS ms := by simp [attS]
theorem att_le {ns : List Nd} {x : Nat} (hx : inR ns x) : att (nd ns x) ≤ attS ns := le_sumL (List.mem_map.2 ⟨_, nd_mem hx, rfl⟩)
/-- One node alone counts differently. -/
theorem attS_one {ns ms : List Nd} (hl : ms.length = ns.length) {x : Nat} (hx : inR ns x) (h : ∀ y, inR ns y → y ≠ x → att (nd ms y) = att (nd ns y)) : attS ms + att (nd ns x) = attS ns + att (nd ms x) := by
  have e : ms.map att = (ns.map att).set (x - 1) (att (nd ms x)) := by
    refine List.ext_getElem? fun i => ?_
    by_cases hi : i < ns.length
    · have hr : inR ns (i + 1) := ⟨by omega, by omega⟩
      have hr2 : inR ms (i + 1) := ⟨by omega, by omega⟩
      have g1 := nd_get hr
      have g2 := nd_get hr2
      rw [show i + 1 - 1 = i by omega] at g1 g2
      rw [List.getElem?_map, g2]
      by_cases e : i + 1 = x
      · rw [show x - 1 = i by omega, List.getElem?_set_self (by simpa using hi), e]; rfl
      · rw [List.getElem?_set_ne (by have := hx.1; omega), List.getElem?_map, g1]
        show some _ = some _
        rw [h _ hr e]
    · rw [List.getElem?_eq_none (by simp; omega), List.getElem?_eq_none (by simp; omega)]
  have h2 := sum_set id (att (nd ms x)) (ns.map att) (x - 1) (att (nd ns x)) (by rw [List.getElem?_map, nd_get hx]; rfl)
  rw [← e] at h2
  simpa [attS] using h2
theorem attS_cut {ns : List Nd} {r : Nat → Nat} (h : Snd ns r) {n : Nat} (hn : inR ns n) : attS (cutL ns ((n : Nat) : Int)) + att (nd ns n) = attS ns := by
  have h1 := attS_one (cutL_len ns ((n : Nat) : Int)) hn fun y hy hne => by
    rw [nd_cut h hn hy, if_neg hne]
    split <;> rfl
  have h2 : att (nd (cutL ns ((n : Nat) : Int)) n) = 0 := by rw [nd_cut h hn hn, if_pos rfl]; rfl
  omega
theorem attS_putC {c : List Nd} {p n : Nat} (b : Int) (hp : inR c p) (hn : inR c n) (hne : p ≠ n) (h0 : (nd c n).parent = 0) : attS (putC c ((p : Nat) : Int) ((n : Nat) : Int) b) = attS c + (nd c n).data.length := by
  have h1 := attS_one (putC_len c ((p : Nat) : Int) ((n : Nat) : Int) b) hn fun y hy hne2 => by
    rw [nd_put b hp hn hy hne, if_neg hne2]
    split
    · rename_i e; rw [e]; rfl
    · rfl
  have h2 : att (nd (putC c ((p : Nat) : Int) ((n : Nat) : Int) b) n) = (nd c n).data.length := by
    rw [nd_put b hp hn hn hne, if_pos rfl]
    unfold att
    rw [if_neg (by show p ≠ 0; have := hp.1; omega)]
  have h3 : att (nd c n) = 0 := by unfold att; rw [if_pos h0]
  omega
/-- What is not a matter of place. -/
def kp (d : Nd) : Nd := { d with parent := 0, kids := [], doc := 0 }
/-- A call that moves nodes, sets their documents, and makes documents: nothing else has turned. -/
structure Mv (ns ms : List Nd) : Prop where
  len : ns.length ≤ ms.length
  old : ∀ x, inR ns x → kp (nd ms x) = kp (nd ns x)
  new : ∀ x, inR ms x → ¬ inR ns x → kp (nd ms x) = { kind := 1 }
theorem Mv.refl (ns : List Nd) : Mv ns ns := ⟨Nat.le_refl _, fun _ _ => rfl, fun _ h h' => absurd h h'⟩
theorem Mv.inR {ns ms : List Nd} (h : Mv ns ms) {x : Nat} (hx : inR ns x) : inR ms x := ⟨hx.1, Nat.le_trans hx.2 h.len⟩
theorem Mv.trans {ns ms ls : List Nd} (h : Mv ns ms) (k : Mv ms ls) : Mv ns ls := by
  refine ⟨Nat.le_trans h.len k.len, fun x hx => (k.old x (h.inR hx)).trans (h.old x hx), fun x hx hn => ?_⟩
  by_cases hm : Proofs.YtdapdadcninidaaGreatDoor.inR ms x
  · exact (k.old x hm).trans (h.new x hm hn)
  · exact k.new x hx hm
theorem Mv.cut {ns : List Nd} {r : Nat → Nat} (h : Snd ns r) {n : Nat} (hn : Proofs.YtdapdadcninidaaGreatDoor.inR ns n) : Mv ns (cutL ns ((n : Nat) : Int)) := by
  refine ⟨Nat.le_of_eq (cutL_len _ _).symm, fun x hx => ?_, fun x hx hn => absurd (inR_cut.1 hx) hn⟩
  rw [nd_cut h hn hx]
  split
  · rename_i e; rw [e]; rfl
  · split <;> rfl
theorem Mv.putC {c : List Nd} {p n : Nat} (b : Int) (hp : Proofs.YtdapdadcninidaaGreatDoor.inR c p) (hn : Proofs.YtdapdadcninidaaGreatDoor.inR c n) (hne : p ≠ n) : Mv c (Proofs.YtdapdadcninidaaGreatDoor.putC c ((p : Nat) : Int) ((n : Nat) : Int) b) := by
  refine ⟨Nat.le_of_eq (putC_len _ _ _ _).symm, fun x hx => ?_, fun x hx hx2 => absurd ⟨hx.1, by have := hx.2; rw [putC_len] at this; exact this⟩ hx2⟩
  rw [nd_put b hp hn hx hne]
  split
  · rename_i e; rw [e]; rfl
  · split
    · rename_i e; rw [e]; rfl
    · rfl
/-- Put, in all: linked well, moved, the hanging data grows by what did not hang before. -/
theorem put_all {ns : List Nd} {r : Nat → Nat} (h : Snd ns r) (p n b : Int) (he : putE ns p n b = 0) : (∃ r', Snd (putL ns p n b) r') ∧ Mv ns (putL ns p n b) ∧
    ∃ x, n = ((x : Nat) : Int) ∧ inR ns x ∧ attS (putL ns p n b) + att (nd ns x) = attS ns + (nd ns x).data.length ∧ (putL ns p n b).length = ns.length ∧ ∀ y, inR ns y → y ≠ x → (nd (putL ns p n b) y).parent = (nd ns y).parent := by
  refine ⟨h.put p n b he, ?_⟩
  unfold putE at he
  split at he
  · cases he
  · rename_i h1
    split at he
    · cases he
    · split at he
      · cases he
      · rename_i h3
        have hpi : isH ns.length p = true := by
          cases hh : isH ns.length p
          · exact absurd (.inl hh) h1
          · rfl
        have hni : isH ns.length n = true := by
          cases hh : isH ns.length n
          · exact absurd (.inr hh) h1
          · rfl
        obtain ⟨p, rfl, hp⟩ := isH_nat hpi
        obtain ⟨n, rfl, hn⟩ := isH_nat hni
        have g4 : containsL ns ((n : Nat) : Int) ((p : Nat) : Int) = false := by
          cases hh : containsL ns ((n : Nat) : Int) ((p : Nat) : Int)
          · rfl
          · exact absurd (.inr (.inr (.inr hh))) h3
        have hne : p ≠ n := fun e => containsL_anc h hn hp g4 (e ▸ .here)
        have hcut := fun {x : Nat} (hx : inR ns x) => nd_cut (x := x) h hn hx
        have h0 : (nd (cutL ns ((n : Nat) : Int)) n).parent = 0 := by rw [hcut hn, if_pos rfl]
        have hd : (nd (cutL ns ((n : Nat) : Int)) n).data = (nd ns n).data := by rw [hcut hn, if_pos rfl]
        have hp' := (inR_cut (h := ((n : Nat) : Int))).2 hp
        have hn' := (inR_cut (h := ((n : Nat) : Int))).2 hn
        refine ⟨(Mv.cut h hn).trans (Mv.putC b hp' hn' hne), n, rfl, hn, ?_, ?_, fun y hy hyn => ?_⟩
        · have e1 := attS_cut h hn
          have e2 := attS_putC b hp' hn' hne h0
          rw [hd] at e2
          unfold putL
          omega
        · unfold putL
          rw [putC_len, cutL_len]
        · unfold putL
          rw [nd_put b hp' hn' (inR_cut.2 hy) hne, if_neg hyn]
          have e : ∀ z, inR ns z → z ≠ n → (nd (cutL ns ((n : Nat) : Int)) z).parent = (nd ns z).parent := fun z hz hzn => by
            rw [hcut hz, if_neg hzn]
            split <;> rfl
          split
          · rename_i e2
            rw [e2]; exact e p hp hne
          · exact e y hy hyn
end Go.Proofs.YtdapdadcninidaaGreatDoor
namespace Go.Proofs.YtdapdadcninidaaGreatDoor
open Go.RowKit

/-- An arena's nodes, and its map. -/
structure St where
  ns : List Nd
  mp : List (Nat × Nat × Nat)
/-- A document without an inert document. -/
def bare (mp : List (Nat × Nat × Nat)) (d : Nd) (x : Nat) : Bool := decide (d.kind = 1) && (mapL mp x).isNone
/-- How many, among these nodes, the first of which has number i + 1. -/
def bareN (mp : List (Nat × Nat × Nat)) : Nat → List Nd → Nat
  | _, [] => 0
  | i, d :: ds => (if bare mp d (i + 1) then 1 else 0) + bareN mp (i + 1) ds
/-- The measure: nodes, and inert documents still to come. -/
def phi (s : St) : Nat := s.ns.length + bareN s.mp 0 s.ns
theorem bareN_app (mp : List (Nat × Nat × Nat)) : ∀ (i : Nat) (ns ms : List Nd), bareN mp i (ns ++ ms) = bareN mp i ns + bareN mp (i + ns.length) ms
  | i, [], ms => by simp [bareN]
  | i, d :: ns, ms => by
    rw [List.cons_append, bareN, bareN, bareN_app mp (i + 1) ns ms, List.length_cons, show i + (ns.length + 1) = i + 1 + ns.length by omega]; omega
theorem bareN_kind (mp : List (Nat × Nat × Nat)) : ∀ (i : Nat) (ns ms : List Nd), ms.length = ns.length → (∀ (j : Nat) (d e : Nd), ns[j]? = some d → ms[j]? = some e → e.kind = d.kind) → bareN mp i ms = bareN mp i ns
  | _, [], [], _, _ => rfl
  | _, [], _ :: _, h, _ => by simp at h
  | _, _ :: _, [], h, _ => by simp at h
  | i, d :: ns, e :: ms, h, hk => by
    have h0 := hk 0 d e rfl rfl
    rw [bareN, bareN, bareN_kind mp (i + 1) ns ms (by simpa using h) fun j x y hx hy => hk (j + 1) x y (by simpa using hx) (by simpa using hy)]
    unfold bare
    rw [h0]
/-- The map is sound: its keys are numbers of nodes. -/
structure MapOk (s : St) : Prop where
  ent : ∃ c, EntOk s.mp c
  key : ∀ x ∈ s.mp, 1 ≤ x.1 ∧ x.1 ≤ s.ns.length
theorem mapL_app_none {l : List (Nat × Nat × Nat)} {k : Nat} (h : mapL l k = none) (m : List (Nat × Nat × Nat)) : mapL (l ++ m) k = mapL m k := by
  unfold mapL at h ⊢
  rw [List.find?_append]
  cases hf : l.find? fun x => x.1 == k with
  | none => rfl
  | some y => rw [hf] at h; cases h
theorem mapL_app_some {l : List (Nat × Nat × Nat)} {k v : Nat} (h : mapL l k = some v) (m : List (Nat × Nat × Nat)) : mapL (l ++ m) k = some v := by
  unfold mapL at h ⊢
  rw [List.find?_append]
  cases hf : l.find? fun x => x.1 == k with
  | none => rw [hf] at h; cases h
  | some y => rw [hf] at h; exact h
theorem bare_mono {mp m : List (Nat × Nat × Nat)} {d : Nd} {x : Nat} (h : bare (mp ++ m) d x = true) : bare mp d x = true := by
  unfold bare at h ⊢
  simp only [Bool.and_eq_true] at h ⊢
  refine ⟨h.1, ?_⟩
  cases hm : mapL mp x with
  | none => rfl
  | some v => rw [mapL_app_some hm] at h; exact h.2
theorem bareN_mono (mp m : List (Nat × Nat × Nat)) : ∀ (i : Nat) (ns : List Nd), bareN (mp ++ m) i ns ≤ bareN mp i ns
  | _, [] => Nat.le_refl _
  | i, d :: ns => by
    rw [bareN, bareN]
    have := bareN_mono mp m (i + 1) ns
    cases h : bare (mp ++ m) d (i + 1)
    · simp; omega
    · rw [bare_mono h]; omega
/-- One document less lacks its own. -/
theorem bareN_less (mp m : List (Nat × Nat × Nat)) : ∀ (ns : List Nd) (i j : Nat) (d : Nd), ns[j]? = some d → d.kind = 1 → mapL mp (i + j + 1) = none → (mapL m (i + j + 1)).isSome = true → bareN (mp ++ m) i ns + 1 ≤ bareN mp i ns
  | [], _, _, _, h, _, _, _ => by simp at h
  | e :: ns, i, 0, d, h, hk, h1, h2 => by
    obtain rfl : e = d := by simpa using h
    have hm := bareN_mono mp m (i + 1) ns
    rw [bareN, bareN]
    have b1 : bare mp e (i + 1) = true := by
      unfold bare
      rw [show mapL mp (i + 1) = none from h1, hk]; rfl
    have b2 : bare (mp ++ m) e (i + 1) = false := by
      unfold bare
      rw [mapL_app_none (show mapL mp (i + 1) = none from h1), hk]
      cases hh : mapL m (i + 1) with
      | none => rw [show mapL m (i + 0 + 1) = none from hh] at h2; cases h2
      | some v => rfl
    rw [b1, b2]; simp; omega
  | e :: ns, i, j + 1, d, h, hk, h1, h2 => by
    have ih := bareN_less mp m ns (i + 1) j d (by simpa using h) hk (by rw [show i + 1 + j + 1 = i + (j + 1) + 1 by omega]; exact h1) (by rw [show i + 1 + j + 1 = i + (j + 1) + 1 by omega]; exact h2)
    rw [bareN, bareN]
    cases hb : bare (mp ++ m) e (i + 1)
    · simp; omega
    · rw [bare_mono hb]; omega
/-- A new inert document: l: the entries it brings. -/
def inertS (s : St) (l : List (Nat × Nat × Nat)) : St := ⟨s.ns ++ [{ kind := 1, doc := s.ns.length + 1 }], s.mp ++ l⟩
theorem phi_inert {s : St} {doc c : Nat} (hd : inR s.ns doc) (hk : (nd s.ns doc).kind = 1) (hm : mapL s.mp doc = none) (hn : mapL s.mp (s.ns.length + 1) = none) :
    phi (inertS s [(doc, s.ns.length + 1, c), (s.ns.length + 1, s.ns.length + 1, c + 1)]) ≤ phi s := by
  unfold phi inertS
  dsimp only
  rw [bareN_app, List.length_append]
  have h1 := bareN_less s.mp [(doc, s.ns.length + 1, c), (s.ns.length + 1, s.ns.length + 1, c + 1)] s.ns 0 (doc - 1) (nd s.ns doc) (nd_get hd) hk
    (by rw [show 0 + (doc - 1) + 1 = doc by have := hd.1; omega]; exact hm) (by rw [show 0 + (doc - 1) + 1 = doc by have := hd.1; omega]; simp [mapL])
  have h2 : bareN (s.mp ++ [(doc, s.ns.length + 1, c), (s.ns.length + 1, s.ns.length + 1, c + 1)]) (0 + s.ns.length) [{ kind := 1, doc := s.ns.length + 1 }] = 0 := by
    have hne : doc ≠ s.ns.length + 1 := by have := hd.2; omega
    have e : mapL [(doc, s.ns.length + 1, c), (s.ns.length + 1, s.ns.length + 1, c + 1)] (s.ns.length + 1) = some (s.ns.length + 1) := by
      unfold mapL
      rw [List.find?_cons, show (doc == s.ns.length + 1) = false by simpa using hne, List.find?_cons]
      simp
    rw [bareN, bareN]
    unfold bare
    rw [Nat.zero_add, mapL_app_none hn, e]
    rfl
  rw [h2]
  simp only [List.length_cons, List.length_nil]
  omega
theorem ent_two {mp : List (Nat × Nat × Nat)} {c doc n : Nat} (hc : EntOk mp c) (hnk : ∀ x ∈ mp, x.1 ≠ doc) (hkey : ∀ x ∈ mp, x.1 ≤ n) (hd : doc ≤ n) (hl : n ≤ 1000000) : EntOk (mp ++ [(doc, n + 1, c), (n + 1, n + 1, c + 1)]) (c + 2) := by
  refine ⟨fun x hx => ?_, ?_, fun x hx => ?_, ?_⟩
  · rcases List.mem_append.1 hx with hx | hx
    · have := hc.bd x hx; omega
    · simp at hx; rcases hx with rfl | rfl <;> simp
  · rw [List.map_append, List.nodup_append]
    refine ⟨hc.nb, by simp, ?_⟩
    intro a ha b hb e
    obtain ⟨x, hx, rfl⟩ := List.mem_map.1 ha
    have := hc.bd x hx
    simp at hb
    omega
  · rcases List.mem_append.1 hx with hx | hx
    · exact hc.ks x hx
    · simp at hx; rcases hx with rfl | rfl <;> simp <;> omega
  · rw [List.map_append, List.nodup_append]
    refine ⟨hc.nk, by simp; omega, ?_⟩
    intro a ha b hb e
    obtain ⟨x, hx, rfl⟩ := List.mem_map.1 ha
    have h1 := hnk x hx
    have h2 := hkey x hx
    simp at hb
    omega
theorem mapOk_inert {s : St} {doc c : Nat} (h : MapOk s) (hc : EntOk s.mp c) (hd : inR s.ns doc) (hm : mapL s.mp doc = none) (hl : s.ns.length ≤ 1000000) :
    MapOk (inertS s [(doc, s.ns.length + 1, c), (s.ns.length + 1, s.ns.length + 1, c + 1)]) ∧ EntOk (s.mp ++ [(doc, s.ns.length + 1, c), (s.ns.length + 1, s.ns.length + 1, c + 1)]) (c + 2) := by
  have hnk : ∀ x ∈ s.mp, x.1 ≠ doc := fun x hx e => by
    unfold mapL at hm
    cases hf : s.mp.find? fun x => x.1 == doc with
    | none =>
      have := List.find?_eq_none.1 hf x hx
      simp [e] at this
    | some y => rw [hf] at hm; cases hm
  have he : EntOk (s.mp ++ [(doc, s.ns.length + 1, c), (s.ns.length + 1, s.ns.length + 1, c + 1)]) (c + 2) := ent_two hc hnk (fun x hx => (h.key x hx).2) hd.2 hl
  refine ⟨⟨⟨_, he⟩, fun x hx => ?_⟩, he⟩
  unfold inertS at hx ⊢
  dsimp only at hx ⊢
  simp only [List.length_append, List.length_cons, List.length_nil]
  rcases List.mem_append.1 hx with hx | hx
  · have := h.key x hx; omega
  · have := hd.1; have := hd.2
    simp at hx; rcases hx with rfl | rfl <;> simp <;> omega
end Go.Proofs.YtdapdadcninidaaGreatDoor
