/- ref.escape, EscapeText, EscapeValue. -/
import Derived.Test.YtgjodmjegmilhaaDoorRc
import Derived.Test.YtgjodmjegmilhaaDoorEsc
import Derived.Deep.QuietTactic
import Derived.BigQuiet
namespace Go.Proofs.YtgjodmjegmilhaaDoor
open Go.RowKit
attribute [local go_sem] sgetr
attribute [local go_sem] sext
attribute [local go_sem] sapp

/-- The slice value v holds these strings. -/
def IsStrs (w : World) (v : Value) (ts : List (List UInt8)) : Prop := ∃ b cap, v = .slice (some ⟨b, 0, none⟩) ts.length cap ∧ ∀ i (h : i < ts.length), w.cell? ⟨b, i, none⟩ = some (.string ⟨ts[i].toArray⟩)
/-- What one byte becomes: the last pair that meets it, else the byte, else the ampersand's reference. -/
def escX0 (c : UInt8) : List UInt8 := if c = 38 then [38, 97, 109, 112, 59] else [c]
def escXk (ps : List (UInt8 × List UInt8)) (c : UInt8) : List UInt8 := ps.foldl (fun x p => if c = p.1 then p.2 else x) (escX0 c)
def rEsc (X : UInt8 → List UInt8) : List UInt8 → List UInt8
  | [] => []
  | [c] => X c
  | c :: d :: u => if c = 194 ∧ d = 160 then [38, 110, 98, 115, 112, 59] ++ rEsc X u else X c ++ rEsc X (d :: u)
theorem rEsc_nb {X : UInt8 → List UInt8} {l : List UInt8} {k : Nat} (h : k + 1 < l.length) (h1 : l[k] = 194) (h2 : l[k + 1] = 160) : rEsc X (l.drop k) = [38, 110, 98, 115, 112, 59] ++ rEsc X (l.drop (k + 2)) := by
  rw [List.drop_eq_getElem_cons (show k < l.length by omega), List.drop_eq_getElem_cons h, rEsc, if_pos ⟨h1, h2⟩]
theorem rEsc_one {X : UInt8 → List UInt8} {l : List UInt8} {k : Nat} (h : k < l.length) (hn : ∀ h : k + 1 < l.length, ¬ (l[k] = 194 ∧ l[k + 1] = 160)) : rEsc X (l.drop k) = X l[k] ++ rEsc X (l.drop (k + 1)) := by
  rw [List.drop_eq_getElem_cons h]
  by_cases h1 : k + 1 < l.length
  · rw [List.drop_eq_getElem_cons h1, rEsc, if_neg (hn h1)]
  · rw [List.drop_of_length_le (show l.length ≤ k + 1 by omega), rEsc, rEsc, List.append_nil]
theorem escXk_len {ps : List (UInt8 × List UInt8)} (hp : ∀ p ∈ ps, p.2.length ≤ 6) (c : UInt8) : (escXk ps c).length ≤ 6 := by
  have key : ∀ (ps : List (UInt8 × List UInt8)) (x : List UInt8), (∀ p ∈ ps, p.2.length ≤ 6) → x.length ≤ 6 → (ps.foldl (fun x p => if c = p.1 then p.2 else x) x).length ≤ 6 := by
    intro ps
    induction ps with
    | nil => intro x _ h; exact h
    | cons p ps ih =>
      intro x hp h
      rw [List.foldl_cons]
      refine ih _ (fun q hq => hp q (List.mem_cons_of_mem _ hq)) ?_
      split
      · exact hp p (List.mem_cons_self ..)
      · exact h
  refine key ps _ hp ?_
  unfold escX0
  split <;> simp
theorem escXk_next {ps : List (UInt8 × List UInt8)} {c : UInt8} {k : Nat} (hk : k < ps.length) : escXk (ps.take (k + 1)) c = if c = ps[k].1 then ps[k].2 else escXk (ps.take k) c := by
  unfold escXk
  rw [List.take_succ_eq_append_getElem hk, List.foldl_append]
  rfl

def ltGtP : List (UInt8 × List UInt8) := [(60, [38, 108, 116, 59]), (62, [38, 103, 116, 59])]
def quotP : List (UInt8 × List UInt8) := [(34, [38, 113, 117, 111, 116, 59])]
end Go.Proofs.YtgjodmjegmilhaaDoor
