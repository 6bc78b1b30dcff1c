/- Package arena: a node's description, its children, its parent, its index; its data is set. -/
import Derived.Test.YtdapdadcninidaaGreatDoorKid
namespace Go.Proofs.YtdapdadcninidaaGreatDoor
open Go.RowKit
attribute [local go_sem ↓] Go.wp_at_zero Go.wp_at_succ

theorem atW_any (h : Int) (w : World) {B : Nat} {O : List Nat} {ns : List Nd} (hA : ArW B O ns w) (hh : isH ns.length h = true) (hl : ns.length ≤ 1000000) :
    ∃ g cap kv av i, h = ((i + 1 : Nat) : Int) ∧ ns[i]? = some (ndAt ns h) ∧ w.cell? ⟨B, 0, none⟩ = some (.slice (some ⟨g, 0, none⟩) ns.length cap) ∧ NdIs w g (i * 13) (ndAt ns h) kv av ∧
      w.ownsRow 0 3 1 kv (ndAt ns h).kids.length (kidCells (ndAt ns h).kids) ∧ w.ownsRow 0 121 3 av (ndAt ns h).attrs.length (attCells (ndAt ns h).attrs) ∧
      ∀ w', w'.cell? ⟨B, 0, none⟩ = w.cell? ⟨B, 0, none⟩ → Calls Tryz.prog 37 #[.pointer (some ⟨B, 0, none⟩), .int .i64 h] w' fun e w'' => e = .returned (.pointer (some ⟨g, i * 13, none⟩)) ∧ w' = w'' := by
  obtain ⟨i, hi, rfl⟩ := isH_iff.1 hh
  have hx := List.getElem?_eq_getElem hi
  rw [ndAt_at hx]
  obtain ⟨g, cap, kv, av, c0, hn, hk, ha⟩ := hA.node hx
  exact ⟨g, cap, kv, av, i, rfl, hx, c0, hn, hk, ha, fun w' hw => at_any i w' (hw.trans c0) hi (by omega)⟩
set_option maxRecDepth 100000 in
/-- Parent. -/
theorem Parent_any (h : Int) (w : World) {B : Nat} {O : List Nat} {ns : List Nd} (hA : ArW B O ns w) (hl : ns.length ≤ 1000000) :
    Calls Tryz.prog 15 #[.pointer (some ⟨B, 0, none⟩), .int .i64 h] w fun e w' => e = .returned (.int .i64 (if isH ns.length h then ((ndAt ns h).parent : Int) else 0)) ∧ w = w' := by
  have H1 := isH_any h w hA
  cases hh : isH ns.length h
  · rw [hh] at H1
    have H1 := Lib.hid H1
    clear hh
    go_enter Tryz.func15, Tryz.ntmps15
    go_wp2_with (go_at_call 45; refine H1.out.mono ?_; rintro e w1 ⟨rfl, rfl⟩)
    go_ret
    exact ⟨rfl, rfl⟩
  · obtain ⟨g, cap, kv, av, i, -, -, c0, hn, -, -, hat⟩ := atW_any h w hA hh hl
    have c1 := hn.c1
    rw [hh] at H1
    have H1 := Lib.hid H1
    have H2 := Lib.hid (hat w rfl)
    clear hh hn c0 hat
    go_enter Tryz.func15, Tryz.ntmps15
    go_wp2_with (first | (go_at_call 45; refine H1.out.mono ?_; rintro e w1 ⟨rfl, rfl⟩) | (go_at_call 37; refine H2.out.mono ?_; rintro e w1 ⟨rfl, rfl⟩))
    go_ret
    exact ⟨rfl, rfl⟩
/-- The call returns a slice of its own with these children. -/
def KidsRet (w : World) (ks : List Nat) (e : Ending) (w' : World) : Prop := ∃ v, e = .returned v ∧ w'.ownsRow w.heap.size 3 1 v ks.length (kidCells ks) ∧ Below w.heap.size w w'
def kidsAt (ns : List Nd) (h : Int) : List Nat := if isH ns.length h then (ndAt ns h).kids else []
set_option maxRecDepth 100000 in
theorem Kids_any (h : Int) (w : World) {B : Nat} {O : List Nat} {ns : List Nd} (hA : ArW B O ns w) (hl : ns.length ≤ 1000000) (hk : (kidsAt ns h).length ≤ 1000000) :
    Calls Tryz.prog 96 #[.pointer (some ⟨B, 0, none⟩), .int .i64 h] w (KidsRet w (kidsAt ns h)) := by
  have H1 := isH_any h w hA
  cases hh : isH ns.length h
  · rw [hh] at H1
    have H1 := Lib.hid H1
    rw [show kidsAt ns h = [] by simp [kidsAt, hh]]
    clear hh hk
    go_enter Tryz.func96, Tryz.ntmps96
    go_wp2_with (go_at_call 45; refine H1.out.mono ?_; rintro e w1 ⟨rfl, rfl⟩)
    go_ret
    exact ⟨_, rfl, ⟨rfl, .inl ⟨rfl, rfl⟩⟩, Below.refl _ _⟩
  · have hke : kidsAt ns h = (ndAt ns h).kids := by simp [kidsAt, hh]
    rw [hke] at hk ⊢
    obtain ⟨g, cap, kv, av, i, -, -, c0, hn, hkr, -, hat⟩ := atW_any h w hA hh hl
    have c2 := hn.c2
    rw [hh] at H1
    have H1 := Lib.hid H1
    have H2 := Lib.hid (hat w rfl)
    have H3 := Lib.hid (kidClone_any _ kv w hkr (by omega))
    clear hh hn c0 hat hkr hke
    go_enter Tryz.func96, Tryz.ntmps96
    go_wp2_with (first | (go_at_call 45; refine H1.out.mono ?_; rintro e w1 ⟨rfl, rfl⟩) | (go_at_call 37; refine H2.out.mono ?_; rintro e w1 ⟨rfl, rfl⟩) | (go_at_call 111; refine H3.out.mono ?_; rintro e w1 ⟨v', rfl, hr1, b1⟩))
    go_ret
    exact ⟨_, rfl, hr1, b1⟩
/-- Index. -/
def indexAt (ns : List Nd) (h : Int) : Int := if isH ns.length h = true ∧ (ndAt ns h).parent ≠ 0 then kidIdx (ndAt ns (ndAt ns h).parent).kids h else -1
set_option maxRecDepth 100000 in
theorem Index_any (h : Int) (w : World) {B : Nat} {O : List Nat} {ns : List Nd} (hA : ArW B O ns w) (hl : ns.length ≤ 1000000) (hp : isH ns.length h = true → (ndAt ns h).parent ≤ ns.length) :
    Calls Tryz.prog 97 #[.pointer (some ⟨B, 0, none⟩), .int .i64 h] w fun e w' => e = .returned (.int .i64 (indexAt ns h)) ∧ w = w' := by
  have H1 := Parent_any h w hA hl
  by_cases hq : isH ns.length h = true ∧ (ndAt ns h).parent ≠ 0
  · have hi : indexAt ns h = kidIdx (ndAt ns (ndAt ns h).parent).kids h := by rw [indexAt, if_pos hq]
    obtain ⟨hh, hne⟩ := hq
    rw [hi]
    rw [if_pos hh] at H1
    have hpl := hp hh
    obtain ⟨p, hpe⟩ : ∃ p, (ndAt ns h).parent = p := ⟨_, rfl⟩
    rw [hpe] at H1 hne hpl ⊢
    obtain ⟨g, cap, kv, av, i, -, -, c0, hn, hkr, -, hat⟩ := atW_any (p : Int) w hA (by simp [isH]; omega) hl
    have c2 := hn.c2
    have H1 := Lib.hid H1
    have H2 := Lib.hid (hat w rfl)
    have H3 := Lib.hid (kidIndex_any _ h kv w hkr)
    have hpz : ((p : Int) == 0) = false := by simpa using hne
    clear hn c0 hat hkr hpe hi hh hp
    go_enter Tryz.func97, Tryz.ntmps97
    go_wp2_with (first | (go_at_call 15; refine H1.out.mono ?_; rintro e w1 ⟨rfl, rfl⟩) | (go_at_call 37; refine H2.out.mono ?_; rintro e w1 ⟨rfl, rfl⟩) | (go_at_call 48; refine H3.out.mono ?_; rintro e w1 ⟨rfl, rfl⟩))
    go_ret
    exact ⟨rfl, rfl⟩
  · have hi : indexAt ns h = -1 := by rw [indexAt, if_neg hq]
    rw [hi]
    have hz : (if isH ns.length h then ((ndAt ns h).parent : Int) else 0) = 0 := by
      split
      · rename_i h1
        have : (ndAt ns h).parent = 0 := by
          by_cases e : (ndAt ns h).parent = 0
          · exact e
          · exact absurd ⟨h1, e⟩ hq
        simp [this]
      · rfl
    rw [hz] at H1
    have H1 := Lib.hid H1
    clear hi hz hq hp
    go_enter Tryz.func97, Tryz.ntmps97
    go_wp2_with (go_at_call 15; refine H1.out.mono ?_; rintro e w1 ⟨rfl, rfl⟩)
    go_ret
    exact ⟨rfl, rfl⟩
end Go.Proofs.YtdapdadcninidaaGreatDoor
