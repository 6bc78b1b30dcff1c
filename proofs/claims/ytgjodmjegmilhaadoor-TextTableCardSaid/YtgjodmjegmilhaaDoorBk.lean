/- thicketlaw01.back. -/
import Derived.Test.YtgjodmjegmilhaaDoorRf
import Derived.Test.YtgjodmjegmilhaaDoorOwn
import Derived.Deep.QuietTactic
import Derived.BigQuiet
namespace Go.Proofs.YtgjodmjegmilhaaDoor
open Go.RowKit
attribute [local go_sem] sgetr
attribute [local go_sem] sext
attribute [local go_sem] sapp

def bkT : List (List UInt8 × List UInt8) := [([38, 97, 109, 112, 59], [38]), ([38, 110, 98, 115, 112, 59], [194, 160]), ([38, 108, 116, 59], [60]), ([38, 103, 116, 59], [62]), ([38, 113, 117, 111, 116, 59], [34])]
def bkX (ps : List (List UInt8 × List UInt8)) (s : List UInt8) : Nat × List UInt8 := ps.foldl (fun st p => if p.1.isPrefixOf s then (p.1.length, p.2) else st) (1, s.take 1)
def bkF : Nat → List UInt8 → List UInt8
  | 0, _ => []
  | n + 1, s => if s.isEmpty then [] else (bkX bkT s).2 ++ bkF n (s.drop (bkX bkT s).1)
theorem bkX_next {ps : List (List UInt8 × List UInt8)} {s : List UInt8} {k : Nat} (hk : k < ps.length) : bkX (ps.take (k + 1)) s = if ps[k].1.isPrefixOf s then (ps[k].1.length, ps[k].2) else bkX (ps.take k) s := by
  unfold bkX
  rw [List.take_succ_eq_append_getElem hk, List.foldl_append]
  rfl
theorem bkX_bd {ps : List (List UInt8 × List UInt8)} (hp : ∀ p ∈ ps, 1 ≤ p.1.length ∧ p.2.length ≤ 2) {s : List UInt8} (hs : 0 < s.length) : 1 ≤ (bkX ps s).1 ∧ (bkX ps s).1 ≤ s.length ∧ (bkX ps s).2.length ≤ 2 := by
  have key : ∀ (ps : List (List UInt8 × List UInt8)) (st : Nat × List UInt8), (∀ p ∈ ps, 1 ≤ p.1.length ∧ p.2.length ≤ 2) → (1 ≤ st.1 ∧ st.1 ≤ s.length ∧ st.2.length ≤ 2) →
      (1 ≤ (ps.foldl (fun st p => if p.1.isPrefixOf s then (p.1.length, p.2) else st) st).1 ∧ (ps.foldl (fun st p => if p.1.isPrefixOf s then (p.1.length, p.2) else st) st).1 ≤ s.length ∧ (ps.foldl (fun st p => if p.1.isPrefixOf s then (p.1.length, p.2) else st) st).2.length ≤ 2) := by
    intro ps
    induction ps with
    | nil => intro st _ h; exact h
    | cons p ps ih =>
      intro st hp h
      rw [List.foldl_cons]
      refine ih _ (fun q hq => hp q (List.mem_cons_of_mem _ hq)) ?_
      split
      · rename_i hpre
        have h1 := hp p (List.mem_cons_self ..)
        have := (List.isPrefixOf_iff_prefix.1 hpre).length_le
        exact ⟨h1.1, this, h1.2⟩
      · exact h
  exact key ps _ hp ⟨Nat.le_refl _, hs, by simp; omega⟩
theorem bkF_fuel : ∀ (n m : Nat) (s : List UInt8), s.length ≤ n → s.length ≤ m → bkF n s = bkF m s
  | 0, m, s, h, _ => by
    obtain rfl : s = [] := List.eq_nil_of_length_eq_zero (by omega)
    cases m <;> simp [bkF]
  | n + 1, 0, s, _, h => by
    obtain rfl : s = [] := List.eq_nil_of_length_eq_zero (by omega)
    simp [bkF]
  | n + 1, m + 1, s, h1, h2 => by
    rw [bkF, bkF]
    by_cases hs : s = []
    · simp [hs]
    · have hb := bkX_bd (ps := bkT) (by decide) (List.length_pos_iff.2 hs)
      rw [bkF_fuel n m _ (by simp; omega) (by simp; omega)]
def bkL (s : List UInt8) : List UInt8 := bkF s.length s
theorem bkL_nil : bkL [] = [] := rfl
theorem bkL_cons {s : List UInt8} (hs : s ≠ []) : bkL s = (bkX bkT s).2 ++ bkL (s.drop (bkX bkT s).1) := by
  have hl := List.length_pos_iff.2 hs
  have hb := bkX_bd (ps := bkT) (by decide) hl
  obtain ⟨n, hn⟩ : ∃ n, s.length = n + 1 := ⟨s.length - 1, by omega⟩
  unfold bkL
  rw [hn, bkF, if_neg (by simpa using hs), bkF_fuel n _ _ (by simp; omega) (Nat.le_refl _)]
/-- A call that leaves the world alone, within a quiet region. -/
theorem quiet_left {P : Program} {f : FuncId} {args : Array Value} {w : World} {n : Nat} {v : Value} (h : Calls P f args (w.drewN n) (Same (w.drewN n) v)) :
    Calls P f args (w.drewN n) fun e w'' => e = .returned v ∧ ∃ m, w'' = w.drewN m := h.mono fun _ _ ⟨he, hm⟩ => ⟨he, n, hm.symm⟩
theorem strs_of_heap {W : World} {b : Nat} {vs : Array Value} {t : TypeId} {ts : List (List UInt8)} (h : W.heap[b]? = some (.cells vs t (0, 0))) (hv : vs = (ts.map fun x => Value.string ⟨x.toArray⟩).toArray) : ∀ i (h : i < ts.length), W.cell? ⟨b, i, none⟩ = some (.string ⟨ts[i].toArray⟩) := by
  intro i hi
  subst hv
  rw [Lib.cell_of_heap h]
  simp [hi]
end Go.Proofs.YtgjodmjegmilhaaDoor
