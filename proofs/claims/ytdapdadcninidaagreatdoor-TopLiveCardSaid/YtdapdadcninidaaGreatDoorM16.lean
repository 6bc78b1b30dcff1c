/- law04.Do: one call. No condition but the invariant and that the call is short. law05.Do: one call. No condition but the invariant and that the call is short. Package arena: Nodes; what the descriptions in a slice show. No condition but that the arena fits. -/
import Derived.Test.YtdapdadcninidaaGreatDoorM10
import Derived.Test.YtdapdadcninidaaGreatDoorM14
import Derived.Test.YtdapdadcninidaaGreatDoorM15
import Derived.Test.YtdapdadcninidaaGreatDoorM13
set_option linter.unusedSimpArgs false
set_option linter.unusedVariables false
namespace Go.Proofs.YtdapdadcninidaaGreatDoor
open Go.RowKit
attribute [local go_sem ↓] Go.wp_at_zero Go.wp_at_succ

def Lim.le (M N : Lim) : Prop := M.x ≤ N.x ∧ M.y ≤ N.y ∧ M.f ≤ N.f ∧ M.a ≤ N.a
theorem Act.toP {T : Nat} {O : List Nat} {w W0 w1 : World} {s : St} {M N : Lim} {e : Ending} (hb : Below w.heap.size w W0) (h : Act T O W0 (FwP M s) e w1) (hl : M.le N) : ∃ v er : Int, e = .returned (.tuple #[.int .i64 v, .int .i64 er]) ∧ Act T O w (FwP N s) (.returned (.tuple #[.int .i64 v, .int .i64 er])) w1 := by
  obtain ⟨s', O', h1, h2, ⟨v, er, rfl⟩, h3⟩ := h
  exact ⟨v, er, rfl, s', O', h1, astep_pre hb h2, ⟨v, er, rfl⟩, h3.weak hl.1 hl.2.1 hl.2.2.1 hl.2.2.2⟩
theorem Act.toE {T : Nat} {O : List Nat} {w W0 w1 : World} {s : St} {M N : Lim} {e : Ending} (hb : Below w.heap.size w W0) (h : Act T O W0 (FwE M s) e w1) (hl : M.le N) : ∃ er : Int, e = .returned (.int .i64 er) ∧ Act T O w (FwP N s) (.returned (.tuple #[.int .i64 0, .int .i64 er])) w1 := by
  obtain ⟨s', O', h1, h2, ⟨er, rfl⟩, h3⟩ := h
  exact ⟨er, rfl, s', O', h1, astep_pre hb h2, ⟨0, er, rfl⟩, h3.weak hl.1 hl.2.1 hl.2.2.1 hl.2.2.2⟩
theorem Act.toB {T : Nat} {O : List Nat} {w W0 w1 : World} {s : St} {M N : Lim} {e : Ending} (hb : Below w.heap.size w W0) (h : Act T O W0 (FwB M s) e w1) (hl : M.le N) : ∃ (b : Bool) (er : Int), e = .returned (.tuple #[.bool b, .int .i64 er]) ∧ ∀ v w2, Below w1.heap.size w1 w2 → Act T O w (FwP N s) (.returned (.tuple #[.int .i64 v, .int .i64 er])) w2 := by
  obtain ⟨s', O', h1, h2, ⟨b, er, rfl⟩, h3⟩ := h
  exact ⟨b, er, rfl, fun v w2 hb2 => ⟨s', O', h1.later hb2, (astep_pre hb h2).trans (astep_below hb2), ⟨v, er, rfl⟩, h3.weak hl.1 hl.2.1 hl.2.2.1 hl.2.2.2⟩⟩
/-- What is asked of a call: it is short. -/
structure ShortO (x : Opn) : Prop where
  n : x.name.length ≤ 400
  s : x.s.length ≤ 400
  t : x.t.length ≤ 400
  a : x.attrs.length ≤ 20
theorem smallO_short {x : Opn} (h : smallO x = true) : ShortO x := by
  unfold smallO smallA at h
  simp only [Bool.and_eq_true, decide_eq_true_eq] at h
  exact ⟨h.1.1.1, h.1.1.2, h.1.2, h.2.2⟩
set_option maxRecDepth 100000 in
set_option maxHeartbeats 20000000 in
theorem Do4_fw (x : Opn) (w : World) {T : Nat} {O : List Nat} {s : St} {L : Lim} {aa : Option Addr} {ac : Nat} (hA : ArM T O s w) (hg : Gd L s) (hso : ShortO x) (hat : AttsAt w aa x.attrs) (hy : 400 ≤ L.y) (h20 : 20 ≤ L.a) (hf : L.f ≤ 400000) (ha : L.a ≤ 10000) :
    Calls Tryz.prog 78 #[.pointer (some ⟨T, 0, none⟩), .agg (opArr x aa ac)] w (Act T O w (FwP L.up s)) := by
  obtain ⟨k, a, b, c, fl, sp, nm, st, tt, ats⟩ := x
  obtain ⟨hn, hs, htt, hal⟩ := hso
  unfold opArr
  dsimp only at *
  by_cases hkk : k = 1
  · have hk : k = 1 := hkk
    have H := Lib.hid (fun W0 (hb : Below w.heap.size w W0) => (Document_fw fl W0 (hA.later hb) hg (by omega)).mono fun e w1 hh => show ∃ v : Int, e = .returned (.int .i64 v) ∧ Act T O w (FwP (L.up) s) (.returned (.tuple #[.int .i64 v, .int .i64 0])) w1 from by
        obtain ⟨s', O', h1, h2, h3, h4, h5⟩ := hh
        exact ⟨_, h3, s', O', h1, astep_pre hb h2, ⟨_, _, rfl⟩, h5.weak (Nat.le_add_right _ _) (Nat.le_refl _) (Nat.add_le_add_left (by decide) _) (Nat.le_add_right _ _)⟩)
    clear hA hg hat hy h20 hf ha
    have hq1 : (k == 1) = true := by rw [hk]; rfl
    clear hk hkk
    go_enter Tryz.func78, Tryz.ntmps78
    go_wp2_with fail
    generalize hW0 : w.alloc _ = W0
    have hb0 : Below w.heap.size w W0 := by rw [← hW0]; exact balloc w _
    refine (H.out W0 hb0).mono ?_
    rintro e w1 ⟨v, rfl, hz⟩
    have HZ := Lib.hid hz
    clear hz H hW0 hb0
    go_wp2_with fail
    go_ret2
    exact HZ.out
  by_cases hkk : k = 2
  · have hk : k = 2 := hkk
    have H := Lib.hid (fun W0 (hb : Below w.heap.size w W0) => (Doctype_fw a nm st tt W0 (hA.later hb) hg (by omega)).mono fun e w1 hh => hh.toP hb (N := L.up) (by unfold Lim.le Lim.up; dsimp only; omega))
    clear hA hg hat hy h20 hf ha
    have hq1 : (k == 1) = false := by rw [hk]; rfl
    have hq2 : (k == 2) = true := by rw [hk]; rfl
    clear hk hkk
    go_enter Tryz.func78, Tryz.ntmps78
    go_wp2_with fail
    generalize hW0 : w.alloc _ = W0
    have hb0 : Below w.heap.size w W0 := by rw [← hW0]; exact balloc w _
    refine (H.out W0 hb0).mono ?_
    rintro e w1 ⟨v, er, rfl, hz⟩
    have HZ := Lib.hid hz
    clear hz H hW0 hb0
    go_wp2_with fail
    go_ret2
    exact HZ.out
  by_cases hkk : k = 3
  · have hk : k = 3 := hkk
    have H := Lib.hid (fun W0 (hb : Below w.heap.size w W0) => (Element_fw a sp nm ats W0 (c := ac) (hA.later hb) hg (by omega) (by omega) (hat.later hb)).mono fun e w1 hh => hh.toP hb (N := L.up) (by unfold Lim.le Lim.up; dsimp only; omega))
    clear hA hg hat hy h20 hf ha
    have hq1 : (k == 1) = false := by rw [hk]; rfl
    have hq2 : (k == 2) = false := by rw [hk]; rfl
    have hq3 : (k == 3) = true := by rw [hk]; rfl
    clear hk hkk
    go_enter Tryz.func78, Tryz.ntmps78
    go_wp2_with fail
    generalize hW0 : w.alloc _ = W0
    have hb0 : Below w.heap.size w W0 := by rw [← hW0]; exact balloc w _
    refine (H.out W0 hb0).mono ?_
    rintro e w1 ⟨v, er, rfl, hz⟩
    have HZ := Lib.hid hz
    clear hz H hW0 hb0
    go_wp2_with fail
    go_ret2
    exact HZ.out
  by_cases hkk : k = 4
  · have hk : k = 4 := hkk
    have H := Lib.hid (fun W0 (hb : Below w.heap.size w W0) => (Text_fw a st W0 (hA.later hb) hg (by omega)).mono fun e w1 hh => hh.toP hb (N := L.up) (by unfold Lim.le Lim.up; dsimp only; omega))
    clear hA hg hat hy h20 hf ha
    have hq1 : (k == 1) = false := by rw [hk]; rfl
    have hq2 : (k == 2) = false := by rw [hk]; rfl
    have hq3 : (k == 3) = false := by rw [hk]; rfl
    have hq4 : (k == 4) = true := by rw [hk]; rfl
    clear hk hkk
    go_enter Tryz.func78, Tryz.ntmps78
    go_wp2_with fail
    generalize hW0 : w.alloc _ = W0
    have hb0 : Below w.heap.size w W0 := by rw [← hW0]; exact balloc w _
    refine (H.out W0 hb0).mono ?_
    rintro e w1 ⟨v, er, rfl, hz⟩
    have HZ := Lib.hid hz
    clear hz H hW0 hb0
    go_wp2_with fail
    go_ret2
    exact HZ.out
  by_cases hkk : k = 5
  · have hk : k = 5 := hkk
    have H := Lib.hid (fun W0 (hb : Below w.heap.size w W0) => (Comment_fw a st W0 (hA.later hb) hg (by omega)).mono fun e w1 hh => hh.toP hb (N := L.up) (by unfold Lim.le Lim.up; dsimp only; omega))
    clear hA hg hat hy h20 hf ha
    have hq1 : (k == 1) = false := by rw [hk]; rfl
    have hq2 : (k == 2) = false := by rw [hk]; rfl
    have hq3 : (k == 3) = false := by rw [hk]; rfl
    have hq4 : (k == 4) = false := by rw [hk]; rfl
    have hq5 : (k == 5) = true := by rw [hk]; rfl
    clear hk hkk
    go_enter Tryz.func78, Tryz.ntmps78
    go_wp2_with fail
    generalize hW0 : w.alloc _ = W0
    have hb0 : Below w.heap.size w W0 := by rw [← hW0]; exact balloc w _
    refine (H.out W0 hb0).mono ?_
    rintro e w1 ⟨v, er, rfl, hz⟩
    have HZ := Lib.hid hz
    clear hz H hW0 hb0
    go_wp2_with fail
    go_ret2
    exact HZ.out
  by_cases hkk : k = 6
  · have hk : k = 6 := hkk
    have H := Lib.hid (fun W0 (hb : Below w.heap.size w W0) => (Fragment_fw a W0 (hA.later hb) hg (by omega)).mono fun e w1 hh => hh.toP hb (N := L.up) (by unfold Lim.le Lim.up; dsimp only; omega))
    clear hA hg hat hy h20 hf ha
    have hq1 : (k == 1) = false := by rw [hk]; rfl
    have hq2 : (k == 2) = false := by rw [hk]; rfl
    have hq3 : (k == 3) = false := by rw [hk]; rfl
    have hq4 : (k == 4) = false := by rw [hk]; rfl
    have hq5 : (k == 5) = false := by rw [hk]; rfl
    have hq6 : (k == 6) = true := by rw [hk]; rfl
    clear hk hkk
    go_enter Tryz.func78, Tryz.ntmps78
    go_wp2_with fail
    generalize hW0 : w.alloc _ = W0
    have hb0 : Below w.heap.size w W0 := by rw [← hW0]; exact balloc w _
    refine (H.out W0 hb0).mono ?_
    rintro e w1 ⟨v, er, rfl, hz⟩
    have HZ := Lib.hid hz
    clear hz H hW0 hb0
    go_wp2_with fail
    go_ret2
    exact HZ.out
  by_cases hkk : k = 7
  · have hk : k = 7 := hkk
    have H := Lib.hid (fun W0 (hb : Below w.heap.size w W0) => (Inert_fw a W0 (hA.later hb) hg (by omega)).mono fun e w1 hh => hh.toP hb (N := L.up) (by unfold Lim.le Lim.up; dsimp only; omega))
    clear hA hg hat hy h20 hf ha
    have hq1 : (k == 1) = false := by rw [hk]; rfl
    have hq2 : (k == 2) = false := by rw [hk]; rfl
    have hq3 : (k == 3) = false := by rw [hk]; rfl
    have hq4 : (k == 4) = false := by rw [hk]; rfl
    have hq5 : (k == 5) = false := by rw [hk]; rfl
    have hq6 : (k == 6) = false := by rw [hk]; rfl
    have hq7 : (k == 7) = true := by rw [hk]; rfl
    clear hk hkk
    go_enter Tryz.func78, Tryz.ntmps78
    go_wp2_with fail
    generalize hW0 : w.alloc _ = W0
    have hb0 : Below w.heap.size w W0 := by rw [← hW0]; exact balloc w _
    refine (H.out W0 hb0).mono ?_
    rintro e w1 ⟨v, er, rfl, hz⟩
    have HZ := Lib.hid hz
    clear hz H hW0 hb0
    go_wp2_with fail
    go_ret2
    exact HZ.out
  by_cases hkk : k = 8
  · have hk : k = 8 := hkk
    have H := Lib.hid (fun W0 (hb : Below w.heap.size w W0) => (Put_fw a b c W0 (hA.later hb) hg (by omega) (by omega)).mono fun e w1 hh => hh.toE hb (N := L.up) (by unfold Lim.le Lim.up; dsimp only; omega))
    clear hA hg hat hy h20 hf ha
    have hq1 : (k == 1) = false := by rw [hk]; rfl
    have hq2 : (k == 2) = false := by rw [hk]; rfl
    have hq3 : (k == 3) = false := by rw [hk]; rfl
    have hq4 : (k == 4) = false := by rw [hk]; rfl
    have hq5 : (k == 5) = false := by rw [hk]; rfl
    have hq6 : (k == 6) = false := by rw [hk]; rfl
    have hq7 : (k == 7) = false := by rw [hk]; rfl
    have hq8 : (k == 8) = true := by rw [hk]; rfl
    clear hk hkk
    go_enter Tryz.func78, Tryz.ntmps78
    go_wp2_with fail
    generalize hW0 : w.alloc _ = W0
    have hb0 : Below w.heap.size w W0 := by rw [← hW0]; exact balloc w _
    refine (H.out W0 hb0).mono ?_
    rintro e w1 ⟨er, rfl, hz⟩
    have HZ := Lib.hid hz
    clear hz H hW0 hb0
    go_wp2_with fail
    go_ret2
    exact HZ.out
  by_cases hkk : k = 9
  · have hk : k = 9 := hkk
    have H := Lib.hid (fun W0 (hb : Below w.heap.size w W0) => (Cut_fw a W0 (hA.later hb) hg (by omega) (by omega)).mono fun e w1 hh => hh.toE hb (N := L.up) (by unfold Lim.le Lim.up; dsimp only; omega))
    clear hA hg hat hy h20 hf ha
    have hq1 : (k == 1) = false := by rw [hk]; rfl
    have hq2 : (k == 2) = false := by rw [hk]; rfl
    have hq3 : (k == 3) = false := by rw [hk]; rfl
    have hq4 : (k == 4) = false := by rw [hk]; rfl
    have hq5 : (k == 5) = false := by rw [hk]; rfl
    have hq6 : (k == 6) = false := by rw [hk]; rfl
    have hq7 : (k == 7) = false := by rw [hk]; rfl
    have hq8 : (k == 8) = false := by rw [hk]; rfl
    have hq9 : (k == 9) = true := by rw [hk]; rfl
    clear hk hkk
    go_enter Tryz.func78, Tryz.ntmps78
    go_wp2_with fail
    generalize hW0 : w.alloc _ = W0
    have hb0 : Below w.heap.size w W0 := by rw [← hW0]; exact balloc w _
    refine (H.out W0 hb0).mono ?_
    rintro e w1 ⟨er, rfl, hz⟩
    have HZ := Lib.hid hz
    clear hz H hW0 hb0
    go_wp2_with fail
    go_ret2
    exact HZ.out
  by_cases hkk : k = 10
  · have hk : k = 10 := hkk
    have H := Lib.hid (fun W0 (hb : Below w.heap.size w W0) => (SetData_fw a st W0 (hA.later hb) hg (by omega)).mono fun e w1 hh => hh.toE hb (N := L.up) (by unfold Lim.le Lim.up; dsimp only; omega))
    clear hA hg hat hy h20 hf ha
    have hq1 : (k == 1) = false := by rw [hk]; rfl
    have hq2 : (k == 2) = false := by rw [hk]; rfl
    have hq3 : (k == 3) = false := by rw [hk]; rfl
    have hq4 : (k == 4) = false := by rw [hk]; rfl
    have hq5 : (k == 5) = false := by rw [hk]; rfl
    have hq6 : (k == 6) = false := by rw [hk]; rfl
    have hq7 : (k == 7) = false := by rw [hk]; rfl
    have hq8 : (k == 8) = false := by rw [hk]; rfl
    have hq9 : (k == 9) = false := by rw [hk]; rfl
    have hq10 : (k == 10) = true := by rw [hk]; rfl
    clear hk hkk
    go_enter Tryz.func78, Tryz.ntmps78
    go_wp2_with fail
    generalize hW0 : w.alloc _ = W0
    have hb0 : Below w.heap.size w W0 := by rw [← hW0]; exact balloc w _
    refine (H.out W0 hb0).mono ?_
    rintro e w1 ⟨er, rfl, hz⟩
    have HZ := Lib.hid hz
    clear hz H hW0 hb0
    go_wp2_with fail
    go_ret2
    exact HZ.out
  by_cases hkk : k = 11
  · have hk : k = 11 := hkk
    have H := Lib.hid (fun W0 (hb : Below w.heap.size w W0) => (SetAttrs_fw a ats W0 (c := ac) (hA.later hb) hg (by omega) (by omega) (hat.later hb)).mono fun e w1 hh => hh.toE hb (N := L.up) (by unfold Lim.le Lim.up; dsimp only; omega))
    clear hA hg hat hy h20 hf ha
    have hq1 : (k == 1) = false := by rw [hk]; rfl
    have hq2 : (k == 2) = false := by rw [hk]; rfl
    have hq3 : (k == 3) = false := by rw [hk]; rfl
    have hq4 : (k == 4) = false := by rw [hk]; rfl
    have hq5 : (k == 5) = false := by rw [hk]; rfl
    have hq6 : (k == 6) = false := by rw [hk]; rfl
    have hq7 : (k == 7) = false := by rw [hk]; rfl
    have hq8 : (k == 8) = false := by rw [hk]; rfl
    have hq9 : (k == 9) = false := by rw [hk]; rfl
    have hq10 : (k == 10) = false := by rw [hk]; rfl
    have hq11 : (k == 11) = true := by rw [hk]; rfl
    clear hk hkk
    go_enter Tryz.func78, Tryz.ntmps78
    go_wp2_with fail
    generalize hW0 : w.alloc _ = W0
    have hb0 : Below w.heap.size w W0 := by rw [← hW0]; exact balloc w _
    refine (H.out W0 hb0).mono ?_
    rintro e w1 ⟨er, rfl, hz⟩
    have HZ := Lib.hid hz
    clear hz H hW0 hb0
    go_wp2_with fail
    go_ret2
    exact HZ.out
  by_cases hkk : k = 12
  · have hk : k = 12 := hkk
    have H := Lib.hid (fun W0 (hb : Below w.heap.size w W0) => (SetQuirks_fw a fl W0 (hA.later hb) hg (by omega)).mono fun e w1 hh => hh.toE hb (N := L.up) (by unfold Lim.le Lim.up; dsimp only; omega))
    clear hA hg hat hy h20 hf ha
    have hq1 : (k == 1) = false := by rw [hk]; rfl
    have hq2 : (k == 2) = false := by rw [hk]; rfl
    have hq3 : (k == 3) = false := by rw [hk]; rfl
    have hq4 : (k == 4) = false := by rw [hk]; rfl
    have hq5 : (k == 5) = false := by rw [hk]; rfl
    have hq6 : (k == 6) = false := by rw [hk]; rfl
    have hq7 : (k == 7) = false := by rw [hk]; rfl
    have hq8 : (k == 8) = false := by rw [hk]; rfl
    have hq9 : (k == 9) = false := by rw [hk]; rfl
    have hq10 : (k == 10) = false := by rw [hk]; rfl
    have hq11 : (k == 11) = false := by rw [hk]; rfl
    have hq12 : (k == 12) = true := by rw [hk]; rfl
    clear hk hkk
    go_enter Tryz.func78, Tryz.ntmps78
    go_wp2_with fail
    generalize hW0 : w.alloc _ = W0
    have hb0 : Below w.heap.size w W0 := by rw [← hW0]; exact balloc w _
    refine (H.out W0 hb0).mono ?_
    rintro e w1 ⟨er, rfl, hz⟩
    have HZ := Lib.hid hz
    clear hz H hW0 hb0
    go_wp2_with fail
    go_ret2
    exact HZ.out
  by_cases hkk : k = 13
  · have hk : k = 13 := hkk
    have H := Lib.hid (fun W0 (hb : Below w.heap.size w W0) => (SetDoc_fw a b W0 (hA.later hb) hg (by omega)).mono fun e w1 hh => hh.toE hb (N := L.up) (by unfold Lim.le Lim.up; dsimp only; omega))
    clear hA hg hat hy h20 hf ha
    have hq1 : (k == 1) = false := by rw [hk]; rfl
    have hq2 : (k == 2) = false := by rw [hk]; rfl
    have hq3 : (k == 3) = false := by rw [hk]; rfl
    have hq4 : (k == 4) = false := by rw [hk]; rfl
    have hq5 : (k == 5) = false := by rw [hk]; rfl
    have hq6 : (k == 6) = false := by rw [hk]; rfl
    have hq7 : (k == 7) = false := by rw [hk]; rfl
    have hq8 : (k == 8) = false := by rw [hk]; rfl
    have hq9 : (k == 9) = false := by rw [hk]; rfl
    have hq10 : (k == 10) = false := by rw [hk]; rfl
    have hq11 : (k == 11) = false := by rw [hk]; rfl
    have hq12 : (k == 12) = false := by rw [hk]; rfl
    have hq13 : (k == 13) = true := by rw [hk]; rfl
    clear hk hkk
    go_enter Tryz.func78, Tryz.ntmps78
    go_wp2_with fail
    generalize hW0 : w.alloc _ = W0
    have hb0 : Below w.heap.size w W0 := by rw [← hW0]; exact balloc w _
    refine (H.out W0 hb0).mono ?_
    rintro e w1 ⟨er, rfl, hz⟩
    have HZ := Lib.hid hz
    clear hz H hW0 hb0
    go_wp2_with fail
    go_ret2
    exact HZ.out
  · have hz := Lib.hid (fun w' (hb : Below w.heap.size w w') => show Act T O w (FwP L.up s) (.returned (.tuple #[.int .i64 0, .int .i64 0])) w' from Act.still hA hb ⟨⟨_, _, rfl⟩, hg.still.weak (Nat.le_add_right _ _) (Nat.le_refl _) (Nat.le_add_right _ _) (Nat.le_add_right _ _)⟩)
    have hq1 : (k == 1) = false := by rw [beq_eq_false_iff_ne]; assumption
    have hq2 : (k == 2) = false := by rw [beq_eq_false_iff_ne]; assumption
    have hq3 : (k == 3) = false := by rw [beq_eq_false_iff_ne]; assumption
    have hq4 : (k == 4) = false := by rw [beq_eq_false_iff_ne]; assumption
    have hq5 : (k == 5) = false := by rw [beq_eq_false_iff_ne]; assumption
    have hq6 : (k == 6) = false := by rw [beq_eq_false_iff_ne]; assumption
    have hq7 : (k == 7) = false := by rw [beq_eq_false_iff_ne]; assumption
    have hq8 : (k == 8) = false := by rw [beq_eq_false_iff_ne]; assumption
    have hq9 : (k == 9) = false := by rw [beq_eq_false_iff_ne]; assumption
    have hq10 : (k == 10) = false := by rw [beq_eq_false_iff_ne]; assumption
    have hq11 : (k == 11) = false := by rw [beq_eq_false_iff_ne]; assumption
    have hq12 : (k == 12) = false := by rw [beq_eq_false_iff_ne]; assumption
    have hq13 : (k == 13) = false := by rw [beq_eq_false_iff_ne]; assumption
    clear hA hg hat hy h20 hf ha
    have HB0 := Lib.hid (fun o => balloc w o)
    go_enter Tryz.func78, Tryz.ntmps78
    go_wp2_with fail
    go_ret2
    exact hz.out _ (HB0.out _)
end Go.Proofs.YtdapdadcninidaaGreatDoor
namespace Go.Proofs.YtdapdadcninidaaGreatDoor
open Go.RowKit
attribute [local go_sem ↓] Go.wp_at_zero Go.wp_at_succ

set_option maxRecDepth 100000 in
theorem one_any (b : Bool) (w : World) : Calls Tryz.prog 75 #[.bool b] w (Ret w (.int .i64 (if b then 1 else 0))) := by
  cases b
  all_goals
    go_enter Tryz.func75, Tryz.ntmps75
    go_wp2
    go_ret
    exact Ret.mk rfl (Below.refl _ _)
def doLim (k : Int) (L : Lim) : Lim := if k = 31 ∨ k = 32 then ⟨2 * L.x, L.y, 2 * L.f + 2, L.a⟩ else if k = 34 then ⟨L.x, max L.x L.y, L.f, L.a⟩ else L.up
set_option maxRecDepth 100000 in
set_option maxHeartbeats 8000000 in
theorem Do5_21 (x : Opn) (hk0 : x.kind = 21) (w : World) {T : Nat} {O : List Nat} {s : St} {L : Lim} {aa : Option Addr} {ac : Nat} (hA : ArM T O s w) (hg : Gd L s) (hso : ShortO x) (hat : AttsAt w aa x.attrs) (hy : 400 ≤ L.y) (h20 : 20 ≤ L.a) (hf : L.f ≤ 400000) (ha : L.a ≤ 10000) (ht : Tm s.ns) (hx : (L.x : Int) ≤ 4611686018427387904) (hyy : (L.y : Int) ≤ 4611686018427387904) :
    Calls Tryz.prog 29 #[.pointer (some ⟨T, 0, none⟩), .agg (opArr x aa ac)] w (Act T O w (FwP (L.up) s)) := by
  obtain ⟨k, a, b, c, fl, sp, nm, st, tt, ats⟩ := x
  obtain ⟨hn, hs, htt, hal⟩ := hso
  have hkk : k = 21 := hk0
  clear hk0
  unfold opArr
  dsimp only at *
  have hk : k = 21 := hkk
  have H := Lib.hid (fun W0 (hb : Below w.heap.size w W0) => (Insert_fw a b c W0 (hA.later hb) hg (by omega) (by omega)).mono fun e w1 hh => hh.toE hb (N := L.up) (by unfold Lim.le Lim.up; dsimp only; omega))
  clear hA hg hat hy h20 hf ha ht hx hyy
  have hq21 : (k == 21) = true := by rw [hk]; rfl
  clear hk hkk
  go_enter Tryz.func29, Tryz.ntmps29
  go_wp2_with fail
  generalize hW0 : w.alloc _ = W0
  have hb0 : Below w.heap.size w W0 := by rw [← hW0]; exact balloc w _
  refine (H.out W0 hb0).mono ?_
  rintro e w1 ⟨er, rfl, hz⟩
  have HZ := Lib.hid hz
  clear hz H hW0 hb0
  go_wp2_with fail
  go_ret2
  exact HZ.out
set_option maxRecDepth 100000 in
set_option maxHeartbeats 8000000 in
theorem Do5_22 (x : Opn) (hk0 : x.kind = 22) (w : World) {T : Nat} {O : List Nat} {s : St} {L : Lim} {aa : Option Addr} {ac : Nat} (hA : ArM T O s w) (hg : Gd L s) (hso : ShortO x) (hat : AttsAt w aa x.attrs) (hy : 400 ≤ L.y) (h20 : 20 ≤ L.a) (hf : L.f ≤ 400000) (ha : L.a ≤ 10000) (ht : Tm s.ns) (hx : (L.x : Int) ≤ 4611686018427387904) (hyy : (L.y : Int) ≤ 4611686018427387904) :
    Calls Tryz.prog 29 #[.pointer (some ⟨T, 0, none⟩), .agg (opArr x aa ac)] w (Act T O w (FwP (L.up) s)) := by
  obtain ⟨k, a, b, c, fl, sp, nm, st, tt, ats⟩ := x
  obtain ⟨hn, hs, htt, hal⟩ := hso
  have hkk : k = 22 := hk0
  clear hk0
  unfold opArr
  dsimp only at *
  have hk : k = 22 := hkk
  have H := Lib.hid (fun W0 (hb : Below w.heap.size w W0) => (Append_fw a b W0 (hA.later hb) hg (by omega) (by omega)).mono fun e w1 hh => hh.toE hb (N := L.up) (by unfold Lim.le Lim.up; dsimp only; omega))
  clear hA hg hat hy h20 hf ha ht hx hyy
  have hq21 : (k == 21) = false := by rw [hk]; rfl
  have hq22 : (k == 22) = true := by rw [hk]; rfl
  clear hk hkk
  go_enter Tryz.func29, Tryz.ntmps29
  go_wp2_with fail
  generalize hW0 : w.alloc _ = W0
  have hb0 : Below w.heap.size w W0 := by rw [← hW0]; exact balloc w _
  refine (H.out W0 hb0).mono ?_
  rintro e w1 ⟨er, rfl, hz⟩
  have HZ := Lib.hid hz
  clear hz H hW0 hb0
  go_wp2_with fail
  go_ret2
  exact HZ.out
set_option maxRecDepth 100000 in
set_option maxHeartbeats 8000000 in
theorem Do5_23 (x : Opn) (hk0 : x.kind = 23) (w : World) {T : Nat} {O : List Nat} {s : St} {L : Lim} {aa : Option Addr} {ac : Nat} (hA : ArM T O s w) (hg : Gd L s) (hso : ShortO x) (hat : AttsAt w aa x.attrs) (hy : 400 ≤ L.y) (h20 : 20 ≤ L.a) (hf : L.f ≤ 400000) (ha : L.a ≤ 10000) (ht : Tm s.ns) (hx : (L.x : Int) ≤ 4611686018427387904) (hyy : (L.y : Int) ≤ 4611686018427387904) :
    Calls Tryz.prog 29 #[.pointer (some ⟨T, 0, none⟩), .agg (opArr x aa ac)] w (Act T O w (FwP (L.up) s)) := by
  obtain ⟨k, a, b, c, fl, sp, nm, st, tt, ats⟩ := x
  obtain ⟨hn, hs, htt, hal⟩ := hso
  have hkk : k = 23 := hk0
  clear hk0
  unfold opArr
  dsimp only at *
  have hk : k = 23 := hkk
  have H := Lib.hid (fun W0 (hb : Below w.heap.size w W0) => (Replace_fw a b c W0 (hA.later hb) hg (by omega) (by omega)).mono fun e w1 hh => hh.toE hb (N := L.up) (by unfold Lim.le Lim.up; dsimp only; omega))
  clear hA hg hat hy h20 hf ha ht hx hyy
  have hq21 : (k == 21) = false := by rw [hk]; rfl
  have hq22 : (k == 22) = false := by rw [hk]; rfl
  have hq23 : (k == 23) = true := by rw [hk]; rfl
  clear hk hkk
  go_enter Tryz.func29, Tryz.ntmps29
  go_wp2_with fail
  generalize hW0 : w.alloc _ = W0
  have hb0 : Below w.heap.size w W0 := by rw [← hW0]; exact balloc w _
  refine (H.out W0 hb0).mono ?_
  rintro e w1 ⟨er, rfl, hz⟩
  have HZ := Lib.hid hz
  clear hz H hW0 hb0
  go_wp2_with fail
  go_ret2
  exact HZ.out
set_option maxRecDepth 100000 in
set_option maxHeartbeats 8000000 in
theorem Do5_24 (x : Opn) (hk0 : x.kind = 24) (w : World) {T : Nat} {O : List Nat} {s : St} {L : Lim} {aa : Option Addr} {ac : Nat} (hA : ArM T O s w) (hg : Gd L s) (hso : ShortO x) (hat : AttsAt w aa x.attrs) (hy : 400 ≤ L.y) (h20 : 20 ≤ L.a) (hf : L.f ≤ 400000) (ha : L.a ≤ 10000) (ht : Tm s.ns) (hx : (L.x : Int) ≤ 4611686018427387904) (hyy : (L.y : Int) ≤ 4611686018427387904) :
    Calls Tryz.prog 29 #[.pointer (some ⟨T, 0, none⟩), .agg (opArr x aa ac)] w (Act T O w (FwP (L.up) s)) := by
  obtain ⟨k, a, b, c, fl, sp, nm, st, tt, ats⟩ := x
  obtain ⟨hn, hs, htt, hal⟩ := hso
  have hkk : k = 24 := hk0
  clear hk0
  unfold opArr
  dsimp only at *
  have hk : k = 24 := hkk
  have H := Lib.hid (fun W0 (hb : Below w.heap.size w W0) => (Remove_fw a b W0 (hA.later hb) hg (by omega) (by omega)).mono fun e w1 hh => hh.toE hb (N := L.up) (by unfold Lim.le Lim.up; dsimp only; omega))
  clear hA hg hat hy h20 hf ha ht hx hyy
  have hq21 : (k == 21) = false := by rw [hk]; rfl
  have hq22 : (k == 22) = false := by rw [hk]; rfl
  have hq23 : (k == 23) = false := by rw [hk]; rfl
  have hq24 : (k == 24) = true := by rw [hk]; rfl
  clear hk hkk
  go_enter Tryz.func29, Tryz.ntmps29
  go_wp2_with fail
  generalize hW0 : w.alloc _ = W0
  have hb0 : Below w.heap.size w W0 := by rw [← hW0]; exact balloc w _
  refine (H.out W0 hb0).mono ?_
  rintro e w1 ⟨er, rfl, hz⟩
  have HZ := Lib.hid hz
  clear hz H hW0 hb0
  go_wp2_with fail
  go_ret2
  exact HZ.out
set_option maxRecDepth 100000 in
set_option maxHeartbeats 8000000 in
theorem Do5_25 (x : Opn) (hk0 : x.kind = 25) (w : World) {T : Nat} {O : List Nat} {s : St} {L : Lim} {aa : Option Addr} {ac : Nat} (hA : ArM T O s w) (hg : Gd L s) (hso : ShortO x) (hat : AttsAt w aa x.attrs) (hy : 400 ≤ L.y) (h20 : 20 ≤ L.a) (hf : L.f ≤ 400000) (ha : L.a ≤ 10000) (ht : Tm s.ns) (hx : (L.x : Int) ≤ 4611686018427387904) (hyy : (L.y : Int) ≤ 4611686018427387904) :
    Calls Tryz.prog 29 #[.pointer (some ⟨T, 0, none⟩), .agg (opArr x aa ac)] w (Act T O w (FwP (L.up) s)) := by
  obtain ⟨k, a, b, c, fl, sp, nm, st, tt, ats⟩ := x
  obtain ⟨hn, hs, htt, hal⟩ := hso
  have hkk : k = 25 := hk0
  clear hk0
  unfold opArr
  dsimp only at *
  have hk : k = 25 := hkk
  have H := Lib.hid (fun W0 (hb : Below w.heap.size w W0) => (Detach_fw a W0 (hA.later hb) hg (by omega) (by omega)).mono fun e w1 hh => hh.toE hb (N := L.up) (by unfold Lim.le Lim.up; dsimp only; omega))
  clear hA hg hat hy h20 hf ha ht hx hyy
  have hq21 : (k == 21) = false := by rw [hk]; rfl
  have hq22 : (k == 22) = false := by rw [hk]; rfl
  have hq23 : (k == 23) = false := by rw [hk]; rfl
  have hq24 : (k == 24) = false := by rw [hk]; rfl
  have hq25 : (k == 25) = true := by rw [hk]; rfl
  clear hk hkk
  go_enter Tryz.func29, Tryz.ntmps29
  go_wp2_with fail
  generalize hW0 : w.alloc _ = W0
  have hb0 : Below w.heap.size w W0 := by rw [← hW0]; exact balloc w _
  refine (H.out W0 hb0).mono ?_
  rintro e w1 ⟨er, rfl, hz⟩
  have HZ := Lib.hid hz
  clear hz H hW0 hb0
  go_wp2_with fail
  go_ret2
  exact HZ.out
set_option maxRecDepth 100000 in
set_option maxHeartbeats 8000000 in
theorem Do5_26 (x : Opn) (hk0 : x.kind = 26) (w : World) {T : Nat} {O : List Nat} {s : St} {L : Lim} {aa : Option Addr} {ac : Nat} (hA : ArM T O s w) (hg : Gd L s) (hso : ShortO x) (hat : AttsAt w aa x.attrs) (hy : 400 ≤ L.y) (h20 : 20 ≤ L.a) (hf : L.f ≤ 400000) (ha : L.a ≤ 10000) (ht : Tm s.ns) (hx : (L.x : Int) ≤ 4611686018427387904) (hyy : (L.y : Int) ≤ 4611686018427387904) :
    Calls Tryz.prog 29 #[.pointer (some ⟨T, 0, none⟩), .agg (opArr x aa ac)] w (Act T O w (FwP (L.up) s)) := by
  obtain ⟨k, a, b, c, fl, sp, nm, st, tt, ats⟩ := x
  obtain ⟨hn, hs, htt, hal⟩ := hso
  have hkk : k = 26 := hk0
  clear hk0
  unfold opArr
  dsimp only at *
  have hk : k = 26 := hkk
  have H := Lib.hid (fun W0 (hb : Below w.heap.size w W0) => (ReplaceAll_fw a b W0 (hA.later hb) hg (by omega) (by omega)).mono fun e w1 hh => hh.toE hb (N := L.up) (by unfold Lim.le Lim.up; dsimp only; omega))
  clear hA hg hat hy h20 hf ha ht hx hyy
  have hq21 : (k == 21) = false := by rw [hk]; rfl
  have hq22 : (k == 22) = false := by rw [hk]; rfl
  have hq23 : (k == 23) = false := by rw [hk]; rfl
  have hq24 : (k == 24) = false := by rw [hk]; rfl
  have hq25 : (k == 25) = false := by rw [hk]; rfl
  have hq26 : (k == 26) = true := by rw [hk]; rfl
  clear hk hkk
  go_enter Tryz.func29, Tryz.ntmps29
  go_wp2_with fail
  generalize hW0 : w.alloc _ = W0
  have hb0 : Below w.heap.size w W0 := by rw [← hW0]; exact balloc w _
  refine (H.out W0 hb0).mono ?_
  rintro e w1 ⟨er, rfl, hz⟩
  have HZ := Lib.hid hz
  clear hz H hW0 hb0
  go_wp2_with fail
  go_ret2
  exact HZ.out
set_option maxRecDepth 100000 in
set_option maxHeartbeats 8000000 in
theorem Do5_27 (x : Opn) (hk0 : x.kind = 27) (w : World) {T : Nat} {O : List Nat} {s : St} {L : Lim} {aa : Option Addr} {ac : Nat} (hA : ArM T O s w) (hg : Gd L s) (hso : ShortO x) (hat : AttsAt w aa x.attrs) (hy : 400 ≤ L.y) (h20 : 20 ≤ L.a) (hf : L.f ≤ 400000) (ha : L.a ≤ 10000) (ht : Tm s.ns) (hx : (L.x : Int) ≤ 4611686018427387904) (hyy : (L.y : Int) ≤ 4611686018427387904) :
    Calls Tryz.prog 29 #[.pointer (some ⟨T, 0, none⟩), .agg (opArr x aa ac)] w (Act T O w (FwP (L.up) s)) := by
  obtain ⟨k, a, b, c, fl, sp, nm, st, tt, ats⟩ := x
  obtain ⟨hn, hs, htt, hal⟩ := hso
  have hkk : k = 27 := hk0
  clear hk0
  unfold opArr
  dsimp only at *
  have hk : k = 27 := hkk
  have H := Lib.hid (fun W0 (hb : Below w.heap.size w W0) => (Adopt_fw a b W0 (hA.later hb) hg (by omega) (by omega)).mono fun e w1 hh => hh.toE hb (N := L.up) (by unfold Lim.le Lim.up; dsimp only; omega))
  clear hA hg hat hy h20 hf ha ht hx hyy
  have hq21 : (k == 21) = false := by rw [hk]; rfl
  have hq22 : (k == 22) = false := by rw [hk]; rfl
  have hq23 : (k == 23) = false := by rw [hk]; rfl
  have hq24 : (k == 24) = false := by rw [hk]; rfl
  have hq25 : (k == 25) = false := by rw [hk]; rfl
  have hq26 : (k == 26) = false := by rw [hk]; rfl
  have hq27 : (k == 27) = true := by rw [hk]; rfl
  clear hk hkk
  go_enter Tryz.func29, Tryz.ntmps29
  go_wp2_with fail
  generalize hW0 : w.alloc _ = W0
  have hb0 : Below w.heap.size w W0 := by rw [← hW0]; exact balloc w _
  refine (H.out W0 hb0).mono ?_
  rintro e w1 ⟨er, rfl, hz⟩
  have HZ := Lib.hid hz
  clear hz H hW0 hb0
  go_wp2_with fail
  go_ret2
  exact HZ.out
set_option maxRecDepth 100000 in
set_option maxHeartbeats 8000000 in
theorem Do5_28 (x : Opn) (hk0 : x.kind = 28) (w : World) {T : Nat} {O : List Nat} {s : St} {L : Lim} {aa : Option Addr} {ac : Nat} (hA : ArM T O s w) (hg : Gd L s) (hso : ShortO x) (hat : AttsAt w aa x.attrs) (hy : 400 ≤ L.y) (h20 : 20 ≤ L.a) (hf : L.f ≤ 400000) (ha : L.a ≤ 10000) (ht : Tm s.ns) (hx : (L.x : Int) ≤ 4611686018427387904) (hyy : (L.y : Int) ≤ 4611686018427387904) :
    Calls Tryz.prog 29 #[.pointer (some ⟨T, 0, none⟩), .agg (opArr x aa ac)] w (Act T O w (FwP (L.up) s)) := by
  obtain ⟨k, a, b, c, fl, sp, nm, st, tt, ats⟩ := x
  obtain ⟨hn, hs, htt, hal⟩ := hso
  have hkk : k = 28 := hk0
  clear hk0
  unfold opArr
  dsimp only at *
  have hk : k = 28 := hkk
  have H := Lib.hid (fun W0 (hb : Below w.heap.size w W0) => (CreateElement_fw a nm W0 (hA.later hb) hg (by omega) (by omega) (by omega)).mono fun e w1 hh => hh.toP hb (N := L.up) (by unfold Lim.le Lim.up; dsimp only; omega))
  clear hA hg hat hy h20 hf ha ht hx hyy
  have hq21 : (k == 21) = false := by rw [hk]; rfl
  have hq22 : (k == 22) = false := by rw [hk]; rfl
  have hq23 : (k == 23) = false := by rw [hk]; rfl
  have hq24 : (k == 24) = false := by rw [hk]; rfl
  have hq25 : (k == 25) = false := by rw [hk]; rfl
  have hq26 : (k == 26) = false := by rw [hk]; rfl
  have hq27 : (k == 27) = false := by rw [hk]; rfl
  have hq28 : (k == 28) = true := by rw [hk]; rfl
  clear hk hkk
  go_enter Tryz.func29, Tryz.ntmps29
  go_wp2_with fail
  generalize hW0 : w.alloc _ = W0
  have hb0 : Below w.heap.size w W0 := by rw [← hW0]; exact balloc w _
  refine (H.out W0 hb0).mono ?_
  rintro e w1 ⟨v, er, rfl, hz⟩
  have HZ := Lib.hid hz
  clear hz H hW0 hb0
  go_wp2_with fail
  go_ret2
  exact HZ.out
set_option maxRecDepth 100000 in
set_option maxHeartbeats 8000000 in
theorem Do5_29 (x : Opn) (hk0 : x.kind = 29) (w : World) {T : Nat} {O : List Nat} {s : St} {L : Lim} {aa : Option Addr} {ac : Nat} (hA : ArM T O s w) (hg : Gd L s) (hso : ShortO x) (hat : AttsAt w aa x.attrs) (hy : 400 ≤ L.y) (h20 : 20 ≤ L.a) (hf : L.f ≤ 400000) (ha : L.a ≤ 10000) (ht : Tm s.ns) (hx : (L.x : Int) ≤ 4611686018427387904) (hyy : (L.y : Int) ≤ 4611686018427387904) :
    Calls Tryz.prog 29 #[.pointer (some ⟨T, 0, none⟩), .agg (opArr x aa ac)] w (Act T O w (FwP (L.up) s)) := by
  obtain ⟨k, a, b, c, fl, sp, nm, st, tt, ats⟩ := x
  obtain ⟨hn, hs, htt, hal⟩ := hso
  have hkk : k = 29 := hk0
  clear hk0
  unfold opArr
  dsimp only at *
  have hk : k = 29 := hkk
  have H := Lib.hid (fun W0 (hb : Below w.heap.size w W0) => (SetAttribute_fw a sp nm st W0 (hA.later hb) hg (by omega) (by omega) (by omega)).mono fun e w1 hh => hh.toE hb (N := L.up) (by unfold Lim.le Lim.up; dsimp only; omega))
  clear hA hg hat hy h20 hf ha ht hx hyy
  have hq21 : (k == 21) = false := by rw [hk]; rfl
  have hq22 : (k == 22) = false := by rw [hk]; rfl
  have hq23 : (k == 23) = false := by rw [hk]; rfl
  have hq24 : (k == 24) = false := by rw [hk]; rfl
  have hq25 : (k == 25) = false := by rw [hk]; rfl
  have hq26 : (k == 26) = false := by rw [hk]; rfl
  have hq27 : (k == 27) = false := by rw [hk]; rfl
  have hq28 : (k == 28) = false := by rw [hk]; rfl
  have hq29 : (k == 29) = true := by rw [hk]; rfl
  clear hk hkk
  go_enter Tryz.func29, Tryz.ntmps29
  go_wp2_with fail
  generalize hW0 : w.alloc _ = W0
  have hb0 : Below w.heap.size w W0 := by rw [← hW0]; exact balloc w _
  refine (H.out W0 hb0).mono ?_
  rintro e w1 ⟨er, rfl, hz⟩
  have HZ := Lib.hid hz
  clear hz H hW0 hb0
  go_wp2_with fail
  go_ret2
  exact HZ.out
set_option maxRecDepth 100000 in
set_option maxHeartbeats 8000000 in
theorem Do5_30 (x : Opn) (hk0 : x.kind = 30) (w : World) {T : Nat} {O : List Nat} {s : St} {L : Lim} {aa : Option Addr} {ac : Nat} (hA : ArM T O s w) (hg : Gd L s) (hso : ShortO x) (hat : AttsAt w aa x.attrs) (hy : 400 ≤ L.y) (h20 : 20 ≤ L.a) (hf : L.f ≤ 400000) (ha : L.a ≤ 10000) (ht : Tm s.ns) (hx : (L.x : Int) ≤ 4611686018427387904) (hyy : (L.y : Int) ≤ 4611686018427387904) :
    Calls Tryz.prog 29 #[.pointer (some ⟨T, 0, none⟩), .agg (opArr x aa ac)] w (Act T O w (FwP (L.up) s)) := by
  obtain ⟨k, a, b, c, fl, sp, nm, st, tt, ats⟩ := x
  obtain ⟨hn, hs, htt, hal⟩ := hso
  have hkk : k = 30 := hk0
  clear hk0
  unfold opArr
  dsimp only at *
  have hk : k = 30 := hkk
  have H := Lib.hid (fun W0 (hb : Below w.heap.size w W0) => (RemoveAttribute_fw a sp nm W0 (hA.later hb) hg (by omega) (by omega) (by omega)).mono fun e w1 hh => hh.toB hb (N := L.up) (by unfold Lim.le Lim.up; dsimp only; omega))
  clear hA hg hat hy h20 hf ha ht hx hyy
  have hq21 : (k == 21) = false := by rw [hk]; rfl
  have hq22 : (k == 22) = false := by rw [hk]; rfl
  have hq23 : (k == 23) = false := by rw [hk]; rfl
  have hq24 : (k == 24) = false := by rw [hk]; rfl
  have hq25 : (k == 25) = false := by rw [hk]; rfl
  have hq26 : (k == 26) = false := by rw [hk]; rfl
  have hq27 : (k == 27) = false := by rw [hk]; rfl
  have hq28 : (k == 28) = false := by rw [hk]; rfl
  have hq29 : (k == 29) = false := by rw [hk]; rfl
  have hq30 : (k == 30) = true := by rw [hk]; rfl
  clear hk hkk
  go_enter Tryz.func29, Tryz.ntmps29
  go_wp2_with fail
  generalize hW0 : w.alloc _ = W0
  have hb0 : Below w.heap.size w W0 := by rw [← hW0]; exact balloc w _
  refine (H.out W0 hb0).mono ?_
  rintro e w1 ⟨b, er, rfl, hz⟩
  have HZ := Lib.hid hz
  clear hz H hW0 hb0
  cases b
  all_goals
    go_wp2_with fail
    refine (one_any _ w1).mono ?_
    rintro e w2 ⟨rfl, b2⟩
    have HB2 := Lib.hid b2
    clear b2
    go_wp2_with fail
    go_ret2
    exact HZ.out _ _ HB2.out
set_option maxRecDepth 100000 in
set_option maxHeartbeats 8000000 in
theorem Do5_31 (x : Opn) (hk0 : x.kind = 31) (w : World) {T : Nat} {O : List Nat} {s : St} {L : Lim} {aa : Option Addr} {ac : Nat} (hA : ArM T O s w) (hg : Gd L s) (hso : ShortO x) (hat : AttsAt w aa x.attrs) (hy : 400 ≤ L.y) (h20 : 20 ≤ L.a) (hf : L.f ≤ 400000) (ha : L.a ≤ 10000) (ht : Tm s.ns) (hx : (L.x : Int) ≤ 4611686018427387904) (hyy : (L.y : Int) ≤ 4611686018427387904) :
    Calls Tryz.prog 29 #[.pointer (some ⟨T, 0, none⟩), .agg (opArr x aa ac)] w (Act T O w (FwP (⟨2 * L.x, L.y, 2 * L.f + 2, L.a⟩) s)) := by
  obtain ⟨k, a, b, c, fl, sp, nm, st, tt, ats⟩ := x
  obtain ⟨hn, hs, htt, hal⟩ := hso
  have hkk : k = 31 := hk0
  clear hk0
  unfold opArr
  dsimp only at *
  have hk : k = 31 := hkk
  have H := Lib.hid (fun W0 (hb : Below w.heap.size w W0) => (Clone_fw a fl W0 (hA.later hb) hg ht (by omega) (by omega)).mono fun e w1 hh => hh.toP hb (N := ⟨2 * L.x, L.y, 2 * L.f + 2, L.a⟩) (⟨Nat.le_refl _, Nat.le_refl _, Nat.le_refl _, Nat.le_refl _⟩))
  clear hA hg hat hy h20 hf ha ht hx hyy
  have hq21 : (k == 21) = false := by rw [hk]; rfl
  have hq22 : (k == 22) = false := by rw [hk]; rfl
  have hq23 : (k == 23) = false := by rw [hk]; rfl
  have hq24 : (k == 24) = false := by rw [hk]; rfl
  have hq25 : (k == 25) = false := by rw [hk]; rfl
  have hq26 : (k == 26) = false := by rw [hk]; rfl
  have hq27 : (k == 27) = false := by rw [hk]; rfl
  have hq28 : (k == 28) = false := by rw [hk]; rfl
  have hq29 : (k == 29) = false := by rw [hk]; rfl
  have hq30 : (k == 30) = false := by rw [hk]; rfl
  have hq31 : (k == 31) = true := by rw [hk]; rfl
  clear hk hkk
  go_enter Tryz.func29, Tryz.ntmps29
  go_wp2_with fail
  generalize hW0 : w.alloc _ = W0
  have hb0 : Below w.heap.size w W0 := by rw [← hW0]; exact balloc w _
  refine (H.out W0 hb0).mono ?_
  rintro e w1 ⟨v, er, rfl, hz⟩
  have HZ := Lib.hid hz
  clear hz H hW0 hb0
  go_wp2_with fail
  go_ret2
  exact HZ.out
set_option maxRecDepth 100000 in
set_option maxHeartbeats 8000000 in
theorem Do5_32 (x : Opn) (hk0 : x.kind = 32) (w : World) {T : Nat} {O : List Nat} {s : St} {L : Lim} {aa : Option Addr} {ac : Nat} (hA : ArM T O s w) (hg : Gd L s) (hso : ShortO x) (hat : AttsAt w aa x.attrs) (hy : 400 ≤ L.y) (h20 : 20 ≤ L.a) (hf : L.f ≤ 400000) (ha : L.a ≤ 10000) (ht : Tm s.ns) (hx : (L.x : Int) ≤ 4611686018427387904) (hyy : (L.y : Int) ≤ 4611686018427387904) :
    Calls Tryz.prog 29 #[.pointer (some ⟨T, 0, none⟩), .agg (opArr x aa ac)] w (Act T O w (FwP (⟨2 * L.x, L.y, 2 * L.f + 2, L.a⟩) s)) := by
  obtain ⟨k, a, b, c, fl, sp, nm, st, tt, ats⟩ := x
  obtain ⟨hn, hs, htt, hal⟩ := hso
  have hkk : k = 32 := hk0
  clear hk0
  unfold opArr
  dsimp only at *
  have hk : k = 32 := hkk
  have H := Lib.hid (fun W0 (hb : Below w.heap.size w W0) => (Import_fw a b W0 (hA.later hb) hg ht (by omega) (by omega)).mono fun e w1 hh => hh.toP hb (N := ⟨2 * L.x, L.y, 2 * L.f + 2, L.a⟩) (⟨Nat.le_refl _, Nat.le_refl _, Nat.le_refl _, Nat.le_refl _⟩))
  clear hA hg hat hy h20 hf ha ht hx hyy
  have hq21 : (k == 21) = false := by rw [hk]; rfl
  have hq22 : (k == 22) = false := by rw [hk]; rfl
  have hq23 : (k == 23) = false := by rw [hk]; rfl
  have hq24 : (k == 24) = false := by rw [hk]; rfl
  have hq25 : (k == 25) = false := by rw [hk]; rfl
  have hq26 : (k == 26) = false := by rw [hk]; rfl
  have hq27 : (k == 27) = false := by rw [hk]; rfl
  have hq28 : (k == 28) = false := by rw [hk]; rfl
  have hq29 : (k == 29) = false := by rw [hk]; rfl
  have hq30 : (k == 30) = false := by rw [hk]; rfl
  have hq31 : (k == 31) = false := by rw [hk]; rfl
  have hq32 : (k == 32) = true := by rw [hk]; rfl
  clear hk hkk
  go_enter Tryz.func29, Tryz.ntmps29
  go_wp2_with fail
  generalize hW0 : w.alloc _ = W0
  have hb0 : Below w.heap.size w W0 := by rw [← hW0]; exact balloc w _
  refine (H.out W0 hb0).mono ?_
  rintro e w1 ⟨v, er, rfl, hz⟩
  have HZ := Lib.hid hz
  clear hz H hW0 hb0
  go_wp2_with fail
  go_ret2
  exact HZ.out
set_option maxRecDepth 100000 in
set_option maxHeartbeats 8000000 in
theorem Do5_33 (x : Opn) (hk0 : x.kind = 33) (w : World) {T : Nat} {O : List Nat} {s : St} {L : Lim} {aa : Option Addr} {ac : Nat} (hA : ArM T O s w) (hg : Gd L s) (hso : ShortO x) (hat : AttsAt w aa x.attrs) (hy : 400 ≤ L.y) (h20 : 20 ≤ L.a) (hf : L.f ≤ 400000) (ha : L.a ≤ 10000) (ht : Tm s.ns) (hx : (L.x : Int) ≤ 4611686018427387904) (hyy : (L.y : Int) ≤ 4611686018427387904) :
    Calls Tryz.prog 29 #[.pointer (some ⟨T, 0, none⟩), .agg (opArr x aa ac)] w (Act T O w (FwP (L.up) s)) := by
  obtain ⟨k, a, b, c, fl, sp, nm, st, tt, ats⟩ := x
  obtain ⟨hn, hs, htt, hal⟩ := hso
  have hkk : k = 33 := hk0
  clear hk0
  unfold opArr
  dsimp only at *
  have hk : k = 33 := hkk
  have H := Lib.hid (fun W0 (hb : Below w.heap.size w W0) => (SetTextContent_fw a st W0 (hA.later hb) hg (by omega) (by omega) (by omega)).mono fun e w1 hh => hh.toE hb (N := L.up) (by unfold Lim.le Lim.up; dsimp only; omega))
  clear hA hg hat hy h20 hf ha ht hx hyy
  have hq21 : (k == 21) = false := by rw [hk]; rfl
  have hq22 : (k == 22) = false := by rw [hk]; rfl
  have hq23 : (k == 23) = false := by rw [hk]; rfl
  have hq24 : (k == 24) = false := by rw [hk]; rfl
  have hq25 : (k == 25) = false := by rw [hk]; rfl
  have hq26 : (k == 26) = false := by rw [hk]; rfl
  have hq27 : (k == 27) = false := by rw [hk]; rfl
  have hq28 : (k == 28) = false := by rw [hk]; rfl
  have hq29 : (k == 29) = false := by rw [hk]; rfl
  have hq30 : (k == 30) = false := by rw [hk]; rfl
  have hq31 : (k == 31) = false := by rw [hk]; rfl
  have hq32 : (k == 32) = false := by rw [hk]; rfl
  have hq33 : (k == 33) = true := by rw [hk]; rfl
  clear hk hkk
  go_enter Tryz.func29, Tryz.ntmps29
  go_wp2_with fail
  generalize hW0 : w.alloc _ = W0
  have hb0 : Below w.heap.size w W0 := by rw [← hW0]; exact balloc w _
  refine (H.out W0 hb0).mono ?_
  rintro e w1 ⟨er, rfl, hz⟩
  have HZ := Lib.hid hz
  clear hz H hW0 hb0
  go_wp2_with fail
  go_ret2
  exact HZ.out
set_option maxRecDepth 100000 in
set_option maxHeartbeats 8000000 in
theorem Do5_34 (x : Opn) (hk0 : x.kind = 34) (w : World) {T : Nat} {O : List Nat} {s : St} {L : Lim} {aa : Option Addr} {ac : Nat} (hA : ArM T O s w) (hg : Gd L s) (hso : ShortO x) (hat : AttsAt w aa x.attrs) (hy : 400 ≤ L.y) (h20 : 20 ≤ L.a) (hf : L.f ≤ 400000) (ha : L.a ≤ 10000) (ht : Tm s.ns) (hx : (L.x : Int) ≤ 4611686018427387904) (hyy : (L.y : Int) ≤ 4611686018427387904) :
    Calls Tryz.prog 29 #[.pointer (some ⟨T, 0, none⟩), .agg (opArr x aa ac)] w (Act T O w (FwP (⟨L.x, max L.x L.y, L.f, L.a⟩) s)) := by
  obtain ⟨k, a, b, c, fl, sp, nm, st, tt, ats⟩ := x
  obtain ⟨hn, hs, htt, hal⟩ := hso
  have hkk : k = 34 := hk0
  clear hk0
  unfold opArr
  dsimp only at *
  have hk : k = 34 := hkk
  have H := Lib.hid (fun W0 (hb : Below w.heap.size w W0) => (Normalize_fw a W0 (hA.later hb) hg (by omega) (by omega) hx).mono fun e w1 hh => hh.toE hb (N := ⟨L.x, max L.x L.y, L.f, L.a⟩) (⟨Nat.le_refl _, Nat.le_refl _, Nat.le_refl _, Nat.le_refl _⟩))
  clear hA hg hat hy h20 hf ha ht hx hyy
  have hq21 : (k == 21) = false := by rw [hk]; rfl
  have hq22 : (k == 22) = false := by rw [hk]; rfl
  have hq23 : (k == 23) = false := by rw [hk]; rfl
  have hq24 : (k == 24) = false := by rw [hk]; rfl
  have hq25 : (k == 25) = false := by rw [hk]; rfl
  have hq26 : (k == 26) = false := by rw [hk]; rfl
  have hq27 : (k == 27) = false := by rw [hk]; rfl
  have hq28 : (k == 28) = false := by rw [hk]; rfl
  have hq29 : (k == 29) = false := by rw [hk]; rfl
  have hq30 : (k == 30) = false := by rw [hk]; rfl
  have hq31 : (k == 31) = false := by rw [hk]; rfl
  have hq32 : (k == 32) = false := by rw [hk]; rfl
  have hq33 : (k == 33) = false := by rw [hk]; rfl
  have hq34 : (k == 34) = true := by rw [hk]; rfl
  clear hk hkk
  go_enter Tryz.func29, Tryz.ntmps29
  go_wp2_with fail
  generalize hW0 : w.alloc _ = W0
  have hb0 : Below w.heap.size w W0 := by rw [← hW0]; exact balloc w _
  refine (H.out W0 hb0).mono ?_
  rintro e w1 ⟨er, rfl, hz⟩
  have HZ := Lib.hid hz
  clear hz H hW0 hb0
  go_wp2_with fail
  go_ret2
  exact HZ.out
set_option maxRecDepth 100000 in
set_option maxHeartbeats 8000000 in
theorem Do5_35 (x : Opn) (hk0 : x.kind = 35) (w : World) {T : Nat} {O : List Nat} {s : St} {L : Lim} {aa : Option Addr} {ac : Nat} (hA : ArM T O s w) (hg : Gd L s) (hso : ShortO x) (hat : AttsAt w aa x.attrs) (hy : 400 ≤ L.y) (h20 : 20 ≤ L.a) (hf : L.f ≤ 400000) (ha : L.a ≤ 10000) (ht : Tm s.ns) (hx : (L.x : Int) ≤ 4611686018427387904) (hyy : (L.y : Int) ≤ 4611686018427387904) :
    Calls Tryz.prog 29 #[.pointer (some ⟨T, 0, none⟩), .agg (opArr x aa ac)] w (Act T O w (FwP (L.up) s)) := by
  obtain ⟨k, a, b, c, fl, sp, nm, st, tt, ats⟩ := x
  obtain ⟨hn, hs, htt, hal⟩ := hso
  have hkk : k = 35 := hk0
  clear hk0
  unfold opArr
  dsimp only at *
  have hk : k = 35 := hkk
  have H := Lib.hid (fun W0 (hb : Below w.heap.size w W0) => (Split_fw a b W0 (hA.later hb) hg (by omega) (by omega) hyy).mono fun e w1 hh => hh.toP hb (N := L.up) (by unfold Lim.le Lim.up; dsimp only; omega))
  clear hA hg hat hy h20 hf ha ht hx hyy
  have hq21 : (k == 21) = false := by rw [hk]; rfl
  have hq22 : (k == 22) = false := by rw [hk]; rfl
  have hq23 : (k == 23) = false := by rw [hk]; rfl
  have hq24 : (k == 24) = false := by rw [hk]; rfl
  have hq25 : (k == 25) = false := by rw [hk]; rfl
  have hq26 : (k == 26) = false := by rw [hk]; rfl
  have hq27 : (k == 27) = false := by rw [hk]; rfl
  have hq28 : (k == 28) = false := by rw [hk]; rfl
  have hq29 : (k == 29) = false := by rw [hk]; rfl
  have hq30 : (k == 30) = false := by rw [hk]; rfl
  have hq31 : (k == 31) = false := by rw [hk]; rfl
  have hq32 : (k == 32) = false := by rw [hk]; rfl
  have hq33 : (k == 33) = false := by rw [hk]; rfl
  have hq34 : (k == 34) = false := by rw [hk]; rfl
  have hq35 : (k == 35) = true := by rw [hk]; rfl
  clear hk hkk
  go_enter Tryz.func29, Tryz.ntmps29
  go_wp2_with fail
  generalize hW0 : w.alloc _ = W0
  have hb0 : Below w.heap.size w W0 := by rw [← hW0]; exact balloc w _
  refine (H.out W0 hb0).mono ?_
  rintro e w1 ⟨v, er, rfl, hz⟩
  have HZ := Lib.hid hz
  clear hz H hW0 hb0
  go_wp2_with fail
  go_ret2
  exact HZ.out
set_option maxRecDepth 100000 in
set_option maxHeartbeats 8000000 in
theorem Do5_else (x : Opn) (hn21 : x.kind ≠ 21) (hn22 : x.kind ≠ 22) (hn23 : x.kind ≠ 23) (hn24 : x.kind ≠ 24) (hn25 : x.kind ≠ 25) (hn26 : x.kind ≠ 26) (hn27 : x.kind ≠ 27) (hn28 : x.kind ≠ 28) (hn29 : x.kind ≠ 29) (hn30 : x.kind ≠ 30) (hn31 : x.kind ≠ 31) (hn32 : x.kind ≠ 32) (hn33 : x.kind ≠ 33) (hn34 : x.kind ≠ 34) (hn35 : x.kind ≠ 35) (w : World) {T : Nat} {O : List Nat} {s : St} {L : Lim} {aa : Option Addr} {ac : Nat} (hA : ArM T O s w) (hg : Gd L s) (hso : ShortO x) (hat : AttsAt w aa x.attrs) (hy : 400 ≤ L.y) (h20 : 20 ≤ L.a) (hf : L.f ≤ 400000) (ha : L.a ≤ 10000) (ht : Tm s.ns) (hx : (L.x : Int) ≤ 4611686018427387904) (hyy : (L.y : Int) ≤ 4611686018427387904) :
    Calls Tryz.prog 29 #[.pointer (some ⟨T, 0, none⟩), .agg (opArr x aa ac)] w (Act T O w (FwP L.up s)) := by
  have H := Lib.hid (fun W0 (hb : Below w.heap.size w W0) => (Do4_fw x W0 (ac := ac) (hA.later hb) hg hso (hat.later hb) hy h20 hf ha).mono fun e w1 hh => hh.toP hb (N := L.up) ⟨Nat.le_refl _, Nat.le_refl _, Nat.le_refl _, Nat.le_refl _⟩)
  obtain ⟨k, a, b, c, fl, sp, nm, st, tt, ats⟩ := x
  clear hA hg hat hso hy h20 hf ha ht hx hyy
  unfold opArr at *
  dsimp only at *
  have hq21 : (k == 21) = false := by rw [beq_eq_false_iff_ne]; exact hn21
  have hq22 : (k == 22) = false := by rw [beq_eq_false_iff_ne]; exact hn22
  have hq23 : (k == 23) = false := by rw [beq_eq_false_iff_ne]; exact hn23
  have hq24 : (k == 24) = false := by rw [beq_eq_false_iff_ne]; exact hn24
  have hq25 : (k == 25) = false := by rw [beq_eq_false_iff_ne]; exact hn25
  have hq26 : (k == 26) = false := by rw [beq_eq_false_iff_ne]; exact hn26
  have hq27 : (k == 27) = false := by rw [beq_eq_false_iff_ne]; exact hn27
  have hq28 : (k == 28) = false := by rw [beq_eq_false_iff_ne]; exact hn28
  have hq29 : (k == 29) = false := by rw [beq_eq_false_iff_ne]; exact hn29
  have hq30 : (k == 30) = false := by rw [beq_eq_false_iff_ne]; exact hn30
  have hq31 : (k == 31) = false := by rw [beq_eq_false_iff_ne]; exact hn31
  have hq32 : (k == 32) = false := by rw [beq_eq_false_iff_ne]; exact hn32
  have hq33 : (k == 33) = false := by rw [beq_eq_false_iff_ne]; exact hn33
  have hq34 : (k == 34) = false := by rw [beq_eq_false_iff_ne]; exact hn34
  have hq35 : (k == 35) = false := by rw [beq_eq_false_iff_ne]; exact hn35
  clear hn21 hn22 hn23 hn24 hn25 hn26 hn27 hn28 hn29 hn30 hn31 hn32 hn33 hn34 hn35
  go_enter Tryz.func29, Tryz.ntmps29
  go_wp2_with fail
  generalize hW0 : w.alloc _ = W0
  have hb0 : Below w.heap.size w W0 := by rw [← hW0]; exact balloc w _
  refine (H.out W0 hb0).mono ?_
  rintro e w1 ⟨v, er, rfl, hz⟩
  have HZ := Lib.hid hz
  clear hz H hW0 hb0
  go_wp2_with fail
  go_ret2
  exact HZ.out
theorem Do5_fw (x : Opn) (w : World) {T : Nat} {O : List Nat} {s : St} {L : Lim} {aa : Option Addr} {ac : Nat} (hA : ArM T O s w) (hg : Gd L s) (hso : ShortO x) (hat : AttsAt w aa x.attrs) (hy : 400 ≤ L.y) (h20 : 20 ≤ L.a) (hf : L.f ≤ 400000) (ha : L.a ≤ 10000) (ht : Tm s.ns) (hx : (L.x : Int) ≤ 4611686018427387904) (hyy : (L.y : Int) ≤ 4611686018427387904) :
    Calls Tryz.prog 29 #[.pointer (some ⟨T, 0, none⟩), .agg (opArr x aa ac)] w (Act T O w (FwP (doLim x.kind L) s)) := by
  by_cases h21 : x.kind = 21
  · have he : doLim x.kind L = L.up := by unfold doLim; rw [if_neg (by rw [h21]; decide), if_neg (by rw [h21]; decide)]
    rw [he]
    exact Do5_21 x h21 w hA hg hso hat hy h20 hf ha ht hx hyy
  by_cases h22 : x.kind = 22
  · have he : doLim x.kind L = L.up := by unfold doLim; rw [if_neg (by rw [h22]; decide), if_neg (by rw [h22]; decide)]
    rw [he]
    exact Do5_22 x h22 w hA hg hso hat hy h20 hf ha ht hx hyy
  by_cases h23 : x.kind = 23
  · have he : doLim x.kind L = L.up := by unfold doLim; rw [if_neg (by rw [h23]; decide), if_neg (by rw [h23]; decide)]
    rw [he]
    exact Do5_23 x h23 w hA hg hso hat hy h20 hf ha ht hx hyy
  by_cases h24 : x.kind = 24
  · have he : doLim x.kind L = L.up := by unfold doLim; rw [if_neg (by rw [h24]; decide), if_neg (by rw [h24]; decide)]
    rw [he]
    exact Do5_24 x h24 w hA hg hso hat hy h20 hf ha ht hx hyy
  by_cases h25 : x.kind = 25
  · have he : doLim x.kind L = L.up := by unfold doLim; rw [if_neg (by rw [h25]; decide), if_neg (by rw [h25]; decide)]
    rw [he]
    exact Do5_25 x h25 w hA hg hso hat hy h20 hf ha ht hx hyy
  by_cases h26 : x.kind = 26
  · have he : doLim x.kind L = L.up := by unfold doLim; rw [if_neg (by rw [h26]; decide), if_neg (by rw [h26]; decide)]
    rw [he]
    exact Do5_26 x h26 w hA hg hso hat hy h20 hf ha ht hx hyy
  by_cases h27 : x.kind = 27
  · have he : doLim x.kind L = L.up := by unfold doLim; rw [if_neg (by rw [h27]; decide), if_neg (by rw [h27]; decide)]
    rw [he]
    exact Do5_27 x h27 w hA hg hso hat hy h20 hf ha ht hx hyy
  by_cases h28 : x.kind = 28
  · have he : doLim x.kind L = L.up := by unfold doLim; rw [if_neg (by rw [h28]; decide), if_neg (by rw [h28]; decide)]
    rw [he]
    exact Do5_28 x h28 w hA hg hso hat hy h20 hf ha ht hx hyy
  by_cases h29 : x.kind = 29
  · have he : doLim x.kind L = L.up := by unfold doLim; rw [if_neg (by rw [h29]; decide), if_neg (by rw [h29]; decide)]
    rw [he]
    exact Do5_29 x h29 w hA hg hso hat hy h20 hf ha ht hx hyy
  by_cases h30 : x.kind = 30
  · have he : doLim x.kind L = L.up := by unfold doLim; rw [if_neg (by rw [h30]; decide), if_neg (by rw [h30]; decide)]
    rw [he]
    exact Do5_30 x h30 w hA hg hso hat hy h20 hf ha ht hx hyy
  by_cases h31 : x.kind = 31
  · have he : doLim x.kind L = ⟨2 * L.x, L.y, 2 * L.f + 2, L.a⟩ := by unfold doLim; rw [if_pos (by rw [h31]; decide)]
    rw [he]
    exact Do5_31 x h31 w hA hg hso hat hy h20 hf ha ht hx hyy
  by_cases h32 : x.kind = 32
  · have he : doLim x.kind L = ⟨2 * L.x, L.y, 2 * L.f + 2, L.a⟩ := by unfold doLim; rw [if_pos (by rw [h32]; decide)]
    rw [he]
    exact Do5_32 x h32 w hA hg hso hat hy h20 hf ha ht hx hyy
  by_cases h33 : x.kind = 33
  · have he : doLim x.kind L = L.up := by unfold doLim; rw [if_neg (by rw [h33]; decide), if_neg (by rw [h33]; decide)]
    rw [he]
    exact Do5_33 x h33 w hA hg hso hat hy h20 hf ha ht hx hyy
  by_cases h34 : x.kind = 34
  · have he : doLim x.kind L = ⟨L.x, max L.x L.y, L.f, L.a⟩ := by unfold doLim; rw [if_neg (by rw [h34]; decide), if_pos h34]
    rw [he]
    exact Do5_34 x h34 w hA hg hso hat hy h20 hf ha ht hx hyy
  by_cases h35 : x.kind = 35
  · have he : doLim x.kind L = L.up := by unfold doLim; rw [if_neg (by rw [h35]; decide), if_neg (by rw [h35]; decide)]
    rw [he]
    exact Do5_35 x h35 w hA hg hso hat hy h20 hf ha ht hx hyy
  have he : doLim x.kind L = L.up := by unfold doLim; rw [if_neg (fun h => h.elim h31 h32), if_neg h34]
  rw [he]
  exact Do5_else x h21 h22 h23 h24 h25 h26 h27 h28 h29 h30 h31 h32 h33 h34 h35 w hA hg hso hat hy h20 hf ha ht hx hyy
end Go.Proofs.YtdapdadcninidaaGreatDoor
namespace Go.Proofs.YtdapdadcninidaaGreatDoor
open Go.RowKit
attribute [local go_sem ↓] Go.wp_at_zero Go.wp_at_succ

theorem infoNd : (Tryz.prog.info? 55).map (fun i => (i.zero, i.size, i.bytes)) = some (some zeroN, 13, 168) := by kernel_rfl
theorem append_nd {ops : Array Oper} {rest : List Oper} {o : Oper} {a : Go.Act} {Q : Exit → Go.Act → World → Prop} {W : World} (hgd : o.guard = none) (s x : Operand)
    (ho : o.op = .call { callee := .builtin .append, args := #[s, x], argTypes := #[77, 77] })
    (R : Nat) (v : Value) (L : List Nv) (hs : a.eval s = v) (hown : W.ownsRow R 55 13 v L.length (rowCells L)) (y : Nv) (hk1 : y.kv.oneCell' = true) (ha1 : y.av.oneCell' = true) (cs : Array Value) (hcs : cs = y.cells.toArray) (hx : a.eval x = .slice (some ⟨W.heap.size, 0, none⟩) 1 1)
    (hlen : L.length + 1 ≤ 1000000) (hR : R ≤ W.heap.size)
    (h : ∀ v' w', w'.ownsRow R 55 13 v' (L.length + 1) (rowCells (L ++ [y])) → Below R W w' → wpList Tryz.prog ops Q rest (a.put o.dst v') w') :
    wpList Tryz.prog ops Q (o :: rest) a (W.alloc (.cells cs 55)) := by
  subst hcs
  obtain ⟨i0, hi, hz0, hz1, hz2⟩ := info_parts infoNd
  refine wpList_append_own _ hgd s x 77 ho R 55 i0 _ 13 168 Tryz.underlying77 hi hz0 hz1 hz2 rfl (by decide) v L.length (rowCells L) hs (ownsRow_below hown (balloc W _)) ⟨W.heap.size, 0, none⟩ 1 1 y.cells hx rfl ?_ ?_ ?_ ?_ ?_ ?_
  · exact news_new (H := W.heap.size) (cs := y.cells) rfl
  · intro u hu
    obtain ⟨d, kv, av⟩ := y
    simp [Nv.cells, ndCells] at hu
    rcases hu with rfl | rfl | rfl | rfl | rfl | rfl | rfl | rfl | rfl | rfl | rfl | rfl | rfl <;> first | rfl | exact hk1 | exact ha1
  · unfold maxLen; omega
  · omega
  · simp; omega
  · intro v' w' hown' hg _
    refine h v' w' (by rw [rowCells_app]; simpa [rowCells] using hown') ?_
    have hb := (balloc W (.cells y.cells.toArray 55))
    refine ⟨hg.os.trans hb.os, hg.tape.trans hb.tape, hg.output.trans hb.output, Nat.le_trans hb.size hg.size, fun k hk => ?_⟩
    refine (hg.block k (by simp; omega) (fun e => ?_)).trans (hb.block k (by omega))
    have := ownsRow_ge hown e.symm
    omega
/-- Descriptions of these nodes lie there. -/
def NdsQ (ns : List Nd) (w : World) (e : Ending) (w' : World) : Prop := ∃ (L : List Nv) (va : Option Addr) (vc : Nat), e = .returned (.slice va L.length vc) ∧ L.map (·.nd) = ns ∧ w'.ownsRow w.heap.size 55 13 (.slice va L.length vc) L.length (rowCells L) ∧ Below w.heap.size w w'
set_option maxRecDepth 100000 in
set_option maxHeartbeats 4000000 in
theorem Nodes_any (w : World) {B : AB} {O : List Nat} {ns : List Nd} (hA : ArW B O ns w) (hf : Fit ns) (hl : ns.length ≤ 900000) :
    Calls Tryz.prog 30 #[.pointer (some ⟨B, 0, none⟩)] w (NdsQ ns w) := by
  obtain ⟨ad, cp, c0⟩ := hA.inlen
  have HA := Lib.hid hA; have HF := Lib.hid hf
  clear hA hf
  go_enter Tryz.func30, Tryz.ntmps30
  go_wp2_with fail
  go_loopw [3, 12] (fun out i wr => ∃ (j : Nat) (L : List Nv) (va : Option Addr) (vc : Nat), j ≤ ns.length ∧ i = .int .i64 (j : Nat) ∧ out = .slice va L.length vc ∧ L.map (·.nd) = ns.take j ∧ wr.ownsRow w.heap.size 55 13 (.slice va L.length vc) L.length (rowCells L) ∧ Below w.heap.size w wr) (fun _ i _ => ns.length - (intOf i).toNat)
  case atStart => exact ⟨0, [], none, 0, Nat.zero_le _, rfl, rfl, rfl, ⟨rfl, .inl ⟨rfl, rfl⟩⟩, Below.refl _ _⟩
  case round =>
    obtain ⟨j, L, va, vc, hj, rfl, rfl, hL, hown, hb⟩ := hrel
    have HL := Lib.hid hL; have HO := Lib.hid hown; have HB := Lib.hid hb
    clear hown
    by_cases hlt : j < ns.length
    · have hx := List.getElem?_eq_getElem hlt
      obtain ⟨g, cap, kv, av, d0, hn, hkr, har⟩ := (HA.out.later hb).node hx
      have hji : (j : Int) < (ns.length : Int) := by omega
      have hLl : L.length ≤ j := by
        have := congrArg List.length hL
        simp at this; omega
      have hm := List.mem_of_getElem? hx
      have H1 := describe_any _ kv av wr hn (World.block_lt_of_cell? _ _ hn.c0) hkr har (HF.out.kid _ hm) (HF.out.att _ hm)
      have HN : Hid (∀ y : Nv, y.nd = ns[j] → (L ++ [y]).map (·.nd) = ns.take (j + 1)) := Lib.hid (fun y hy => by
        rw [List.map_append, hL, List.take_succ_eq_append_getElem hlt, ← hy]; rfl)
      obtain ⟨d, hd⟩ : ∃ d, ns[j] = d := ⟨_, rfl⟩
      rw [hd] at H1 HN
      have H1 := Lib.hid H1
      clear hL hb hx hn hkr har hm hd
      go_wp2_with fail
      refine H1.out.mono ?_
      rintro e w2 ⟨v, rfl, kv', av', rfl, r1, r2, b2⟩
      obtain ⟨kx, ky, rfl⟩ := ownsRow_slice r1
      obtain ⟨ax, ay, rfl⟩ := ownsRow_slice r2
      have HB2 := Lib.hid (bthen HB.out HB.out.size b2)
      have HO2 := Lib.hid (ownsRow_below HO.out b2)
      clear r1 r2 b2 H1 d0
      simp only [ndCells, natV, strV]
      go_wp2_with (at_builtin; refine append_nd rfl _ _ rfl w.heap.size _ L rfl (by exact HO2.out) ⟨d, .slice kx d.kids.length ky, .slice ax d.attrs.length ay⟩ rfl rfl _ rfl rfl (by omega) (by exact HB2.out.size) ?_; intro v' w5 hown5 hb5; obtain ⟨va5, vc5, rfl⟩ := ownsRow_slice hown5; have HO5 := Lib.hid hown5; have HB5 := Lib.hid (HB2.out.trans hb5); clear hown5 hb5)
      go_roundw
      case rel => exact ⟨j + 1, L ++ [⟨d, .slice kx d.kids.length ky, .slice ax d.attrs.length ay⟩], va5, vc5, by omega, by go_num, by simp, HN.out _ rfl, by simpa using HO5.out, HB5.out⟩
      case measure => simp [intOf]; omega
    · have hje : j = ns.length := by omega
      subst hje
      rw [List.take_length] at HL
      clear hL hb
      go_wp2_with fail
      go_ret
      exact ⟨L, va, vc, rfl, HL.out, HO.out, HB.out⟩
/-- What a slice of descriptions shows of a node. -/
theorem nds_at {w : World} {R : Nat} {L : List Nv} {ns : List Nd} {va : Option Addr} {vc : Nat} (h : w.ownsRow R 55 13 (.slice va L.length vc) L.length (rowCells L)) (hL : L.map (·.nd) = ns) {j : Nat} (hj : j < ns.length) : ∃ g kv av, va = some ⟨g, 0, none⟩ ∧ NdIs w g (j * 13) (nd ns (j + 1)) kv av := by
  have hLl : L.length = ns.length := by rw [← hL]; simp
  have hm : ∀ y, L[j]? = some y → ns[j]? = some y.nd := fun y hy => by
    rw [← hL, List.getElem?_map, hy]; rfl
  have hx : L[j]? = some L[j] := List.getElem?_eq_getElem (by omega)
  have hnd : nd ns (j + 1) = L[j].nd := by
    have h2 : ns[j]? = some L[j].nd := hm _ hx
    exact (nd_of h2).2
  rw [hnd]
  generalize L[j] = x at *
  obtain ⟨h1, ⟨h2, h3⟩ | ⟨g, cap, cur, h2, h3, h4, h5, h6, h7, h8⟩⟩ := h
  · omega
  · cases h2
    have hc : ∀ i v, i < 13 → x.cells[i]? = some v → w.cell? ⟨g, j * 13 + i, none⟩ = some v := fun i v hi hv => by
      have h9 := rowCells_at L j x hx i hi
      rw [hv, ← h8, List.getElem?_take] at h9
      rw [cell_of_row w g _ cur _ _ h4, ← Array.getElem?_toList]
      split at h9
      · exact h9
      · cases h9
    refine ⟨g, x.kv, x.av, rfl, hc 0 _ (by omega) rfl, hc 1 _ (by omega) rfl, hc 2 _ (by omega) rfl, hc 3 _ (by omega) rfl, hc 4 _ (by omega) rfl, hc 5 _ (by omega) rfl, hc 6 _ (by omega) rfl, hc 7 _ (by omega) rfl, hc 8 _ (by omega) rfl, hc 9 _ (by omega) rfl, hc 10 _ (by omega) rfl, hc 11 _ (by omega) rfl, hc 12 _ (by omega) rfl, fun i _ => Lib.frozen_of_heap h4 _⟩
end Go.Proofs.YtdapdadcninidaaGreatDoor
