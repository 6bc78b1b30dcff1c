/- Plain facts on the table of names: its order, that a name stands once, and what the longest name of a name with something behind it is. -/
import Derived.Test.YtgjodmjegmilhaaDoorLon
namespace Go.Proofs.YtgjodmjegmilhaaDoor
open Go.RowKit

def ltL : List UInt8 → List UInt8 → Bool
  | [], [] => false
  | [], _ :: _ => true
  | _ :: _, [] => false
  | a :: s, b :: t => decide (a < b) || (a == b && ltL s t)
theorem ltL_irr : ∀ s : List UInt8, ltL s s = false
  | [] => rfl
  | a :: s => by
    have := ltL_irr s
    simp [ltL, this]
theorem ltL_trans : ∀ a b c : List UInt8, ltL a b = true → ltL b c = true → ltL a c = true
  | [], [], _, h, _ => by simp [ltL] at h
  | [], _ :: _, [], _, h => by simp [ltL] at h
  | [], _ :: _, _ :: _, _, _ => by simp [ltL]
  | _ :: _, [], _, h, _ => by simp [ltL] at h
  | _ :: _, _ :: _, [], _, h => by simp [ltL] at h
  | a :: s, b :: t, c :: u, h1, h2 => by
    have ih := ltL_trans s t u
    simp only [ltL, Bool.or_eq_true, decide_eq_true_eq, Bool.and_eq_true, beq_iff_eq, UInt8.lt_iff_toNat_lt] at h1 h2 ⊢
    rcases h1 with h1 | ⟨rfl, h1⟩
    · rcases h2 with h2 | ⟨rfl, h2⟩
      · exact .inl (by omega)
      · exact .inl h1
    · rcases h2 with h2 | ⟨rfl, h2⟩
      · exact .inl h2
      · exact .inr ⟨rfl, ih h1 h2⟩
def ascE : List Ent → Bool
  | [] => true
  | [_] => true
  | x :: y :: t => ltL x.1 y.1 && ascE (y :: t)
theorem ascE_head : ∀ (t : List Ent) (x : Ent), ascE (x :: t) = true → ∀ y ∈ t, ltL x.1 y.1 = true
  | [], _, _ => fun y hy => by cases hy
  | z :: t, x, h => fun y hy => by
    simp only [ascE, Bool.and_eq_true] at h
    rcases List.mem_cons.1 hy with rfl | hy
    · exact h.1
    · exact ltL_trans _ _ _ h.1 (ascE_head t z h.2 y hy)
theorem ascE_tail {x : Ent} {t : List Ent} (h : ascE (x :: t) = true) : ascE t = true := by
  cases t with
  | nil => rfl
  | cons y t => simp only [ascE, Bool.and_eq_true] at h; exact h.2
theorem ascE_uniq : ∀ es : List Ent, ascE es = true → ∀ x ∈ es, ∀ y ∈ es, x.1 = y.1 → x = y
  | [], _ => fun x hx => by cases hx
  | z :: t, h => fun x hx y hy e => by
    have hh := ascE_head t z h
    rcases List.mem_cons.1 hx with hx' | hx' <;> rcases List.mem_cons.1 hy with hy' | hy'
    · exact hx'.trans hy'.symm
    · have := hh y hy'; rw [← hx', e, ltL_irr] at this; cases this
    · have := hh x hx'; rw [← hy', ← e, ltL_irr] at this; cases this
    · exact ascE_uniq t (ascE_tail h) x hx' y hy' e
theorem ascE_at {es : List Ent} (h : ascE es = true) {i j : Nat} {x y : Ent} (hij : i < j) (hx : es[i]? = some x) (hy : es[j]? = some y) : ltL x.1 y.1 = true := by
  induction es generalizing i j with
  | nil => simp at hx
  | cons z t ih =>
    obtain ⟨j, rfl⟩ : ∃ k, j = k + 1 := ⟨j - 1, by omega⟩
    rw [List.getElem?_cons_succ] at hy
    cases i with
    | zero => obtain rfl : z = x := by simpa using hx
              exact ascE_head t _ h y (List.mem_of_getElem? hy)
    | succ i => rw [List.getElem?_cons_succ] at hx; exact ih (ascE_tail h) (by omega) hx hy
theorem ent_asc : ascE entL = true := by decide +kernel
theorem ent_ne : ∀ x ∈ entL, x.1 ≠ [] := by
  have h : (entL.all fun x => !x.1.isEmpty) = true := by decide +kernel
  intro x hx
  have := List.all_eq_true.1 h x hx
  simpa using this

theorem longF_key (s : List UInt8) : ∀ (es : List Ent) (st : LSt), st.1 ≤ (es.foldl (longStep s) st).1 ∧
    (es.foldl (longStep s) st = st ∨ ∃ x ∈ es, x.1.isPrefixOf s = true ∧ es.foldl (longStep s) st = (x.1.length, x.2)) ∧ ∀ x ∈ es, x.1.isPrefixOf s = true → x.1.length ≤ (es.foldl (longStep s) st).1
  | [], st => ⟨Nat.le_refl _, .inl rfl, fun x hx => by cases hx⟩
  | z :: t, st => by
    obtain ⟨h1, h2, h3⟩ := longF_key s t (longStep s st z)
    rw [List.foldl_cons]
    have hz : st.1 ≤ (longStep s st z).1 ∧ (z.1.isPrefixOf s = true → z.1.length ≤ (longStep s st z).1) ∧ (longStep s st z = st ∨ (z.1.isPrefixOf s = true ∧ longStep s st z = (z.1.length, z.2))) := by
      unfold longStep
      split
      · rename_i h; exact ⟨by dsimp only; omega, fun _ => Nat.le_refl _, .inr ⟨h.2, rfl⟩⟩
      · rename_i h; exact ⟨Nat.le_refl _, fun hp => by by_cases hl : st.1 < z.1.length; (· exact absurd ⟨hl, hp⟩ h); (· omega), .inl rfl⟩
    refine ⟨by omega, ?_, ?_⟩
    · rcases h2 with h2 | ⟨x, hx, hp, h2⟩
      · rcases hz.2.2 with h | ⟨hp, h⟩
        · exact .inl (h2.trans h)
        · exact .inr ⟨z, List.mem_cons_self .., hp, h2.trans h⟩
      · exact .inr ⟨x, List.mem_cons_of_mem _ hx, hp, h2⟩
    · intro x hx hp
      rcases List.mem_cons.1 hx with rfl | hx
      · have := hz.2.1 hp; omega
      · exact h3 x hx hp
theorem named_of_mem {es : List Ent} (hu : ascE es = true) {x : Ent} (hx : x ∈ es) : namedE es x.1 = (valL x.2, 0) := by
  obtain ⟨i, hi, rfl⟩ := List.getElem_of_mem hx
  refine namedE_hit (List.getElem?_eq_getElem hi) (by simp) fun j y hj hy => ?_
  have := ascE_at hu hj hy (List.getElem?_eq_getElem hi)
  rw [beq_eq_false_iff_ne]
  intro e
  rw [e, ltL_irr] at this
  cases this
/-- The longest name of a name with anything behind it. -/
theorem long_behind {es : List Ent} (hu : ascE es = true) (hne : ∀ x ∈ es, x.1 ≠ []) {x : Ent} (hx : x ∈ es) (s : List UInt8) :
    ∃ y ∈ es, longE es (x.1 ++ s) = (y.1.length, valL y.2) ∧ x.1.length ≤ y.1.length ∧ y.1.length ≤ x.1.length + s.length ∧ (y.1.length = x.1.length → y = x) ∧ (x.1 ++ s).take y.1.length = y.1 ∧ namedE es ((x.1 ++ s).take y.1.length) = (valL y.2, 0) := by
  obtain ⟨-, h2, h3⟩ := longF_key (x.1 ++ s) es (0, [])
  have hpx : x.1.isPrefixOf (x.1 ++ s) = true := List.isPrefixOf_iff_prefix.2 (List.prefix_append _ _)
  have h4 := h3 x hx hpx
  have hl : 0 < x.1.length := List.length_pos_iff.2 (hne x hx)
  rcases h2 with h2 | ⟨y, hy, hp, h2⟩
  · rw [h2] at h4; dsimp only at h4; omega
  · rw [h2] at h4
    dsimp only at h4
    have hpre := List.isPrefixOf_iff_prefix.1 hp
    have htk : (x.1 ++ s).take y.1.length = y.1 := (List.prefix_iff_eq_take.1 hpre).symm
    have hyl := hpre.length_le
    rw [List.length_append] at hyl
    refine ⟨y, hy, ?_, h4, hyl, fun e => ?_, htk, ?_⟩
    · unfold longE longF
      rw [h2, longV, if_neg (by dsimp only; omega)]
    · refine ascE_uniq es hu y hy x hx ?_
      rw [← htk, e]; simp
    · rw [htk]; exact named_of_mem hu hy
/-- Every prefix of a name is a prefix of a name; a name's longest name is the name itself. -/
theorem has_take {es : List Ent} {x : Ent} (hx : x ∈ es) (j : Nat) : hasE es (x.1.take j) = true :=
  List.any_eq_true.2 ⟨x, hx, List.isPrefixOf_iff_prefix.2 (List.take_prefix _ _)⟩
theorem long_self {es : List Ent} (hu : ascE es = true) (hne : ∀ x ∈ es, x.1 ≠ []) {x : Ent} (hx : x ∈ es) : longE es x.1 = (x.1.length, valL x.2) := by
  obtain ⟨y, -, h1, h2, h3, h4, -⟩ := long_behind hu hne hx []
  rw [List.append_nil, List.length_nil] at *
  obtain rfl := h4 (by omega)
  exact h1
end Go.Proofs.YtgjodmjegmilhaaDoor
