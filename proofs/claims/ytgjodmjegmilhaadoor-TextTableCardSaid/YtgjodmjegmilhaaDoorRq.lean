/- ref.Named, HasPrefix, Longest. -/
import Derived.Test.YtgjodmjegmilhaaDoorRo
namespace Go.Proofs.YtgjodmjegmilhaaDoor
open Go.RowKit
attribute [local go_sem] sgetr
attribute [local go_sem] sext

/-- Where a walk through the table stands: at offset a, ahead of entry i. -/
structure TabAt (es : List Ent) (ns : List UInt8) (a i : Nat) : Prop where
  le : a ≤ ns.length + 1
  en : es.drop i = ents (ns.drop a)
  ck : ∃ m, chkF m (ns.drop a) = true
theorem TabAt.done {es : List Ent} {ns : List UInt8} {a i : Nat} (h : TabAt es ns a i) (ha : ns.length ≤ a) : es.length ≤ i := by
  have h1 := congrArg List.length h.en
  rw [List.drop_of_length_le ha, ents_nil, List.length_drop, List.length_nil] at h1
  omega
theorem TabAt.step {es : List Ent} {ns : List UInt8} {a i : Nat} (h : TabAt es ns a i) (ha : a < ns.length) : ∃ e x1 x2, (upTo 32 (ns.drop a)).1 = e ∧ upTo 61 e = (x1, x2) ∧ chkE e = true ∧ es[i]? = some (x1, x2) ∧ TabAt es ns (a + e.length + 1) (i + 1) ∧ a + e.length ≤ ns.length ∧ x1.length ≤ e.length := by
  obtain ⟨h1, h2, m, h3⟩ := h
  have hne : ns.drop a ≠ [] := by intro h; have := congrArg List.length h; simp at this; omega
  have hcons := ents_cons (ns.drop a) hne
  have hdrop := upTo_drop 32 (ns.drop a)
  rw [List.drop_drop] at hdrop
  obtain ⟨e, he⟩ : ∃ e, (upTo 32 (ns.drop a)).1 = e := ⟨_, rfl⟩
  have hel := upTo_len1 32 (ns.drop a)
  rw [he, List.length_drop] at hel
  rw [he] at hcons hdrop
  obtain ⟨⟨x1, x2⟩, hx⟩ : ∃ x, upTo 61 e = x := ⟨_, rfl⟩
  have hxl := upTo_len1 61 e
  rw [hx] at hxl hcons
  rw [hcons] at h2
  have hck : chkE e = true ∧ ∃ m', chkF m' (upTo 32 (ns.drop a)).2 = true := by
    cases m with
    | zero => rw [chkF] at h3; simp at h3; omega
    | succ m =>
      rw [chkF, if_neg (by simpa using hne), he, Bool.and_eq_true] at h3
      exact ⟨h3.1, m, h3.2⟩
  refine ⟨e, x1, x2, he, hx, hck.1, ?_, ⟨by omega, ?_, ?_⟩, by omega, hxl⟩
  · have h4 : (es.drop i)[0]? = some (x1, x2) := by rw [h2]; rfl
    simpa using h4
  · rw [← List.drop_drop, h2, hdrop, Nat.add_assoc]; rfl
  · rw [hdrop] at hck; rw [Nat.add_assoc]; exact hck.2
theorem tab_of (ns : List UInt8) (m : Nat) (h : chkF m ns = true) : TabAt (ents ns) ns 0 0 := ⟨Nat.zero_le _, by rw [List.drop_zero, List.drop_zero], m, by rw [List.drop_zero]; exact h⟩
theorem tab_start : TabAt entL namesL 0 0 := by
  unfold entL
  exact tab_of namesL 2231 chk_table
/-- Where an entry's name and codes lie in the table. -/
theorem ent_slices {ns e x1 x2 : List UInt8} {a : Nat} (he : (upTo 32 (ns.drop a)).1 = e) (hx : upTo 61 e = (x1, x2)) (hc : chkE e = true) :
    (ns.take (a + e.length)).drop a = e ∧ (ns.drop a).take (a + x1.length - a) = x1 ∧ (ns.drop (a + x1.length + 1)).take (a + e.length - (a + x1.length + 1)) = x2 ∧ x1.length < e.length := by
  have het := upTo_take 32 (ns.drop a)
  rw [he] at het
  simp only [chkE, hx, Bool.and_eq_true] at hc
  have hx1 := upTo_take 61 e
  have hx2 := upTo_drop 61 e
  have hx3 := upTo_has 61 e hc.1
  rw [hx] at hx1 hx2 hx3
  dsimp only at hx1 hx2 hx3
  refine ⟨by rw [List.drop_take, Nat.add_sub_cancel_left]; exact het.symm, ?_, ?_, hx3⟩
  · rw [Nat.add_sub_cancel_left]
    have h1 : (ns.drop a).take x1.length = ((ns.drop a).take e.length).take x1.length := by rw [List.take_take, Nat.min_eq_left (by omega)]
    exact (h1.trans (congrArg (List.take x1.length) het.symm)).trans hx1.symm
  · rw [hx2]
    conv => rhs; rw [het]
    rw [List.drop_take, List.drop_drop, show a + e.length - (a + x1.length + 1) = e.length - (x1.length + 1) by omega, Nat.add_assoc]
end Go.Proofs.YtgjodmjegmilhaaDoor
