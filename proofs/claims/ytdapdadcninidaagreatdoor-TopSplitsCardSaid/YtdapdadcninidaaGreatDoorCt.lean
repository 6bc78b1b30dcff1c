/- Package arena: Contains. No condition but that the way up ends. -/
import Derived.Test.YtdapdadcninidaaGreatDoorUp
namespace Go.Proofs.YtdapdadcninidaaGreatDoor
open Go.RowKit
attribute [local go_sem] Oper.semAt_some

theorem below_putA {n D : Nat} {w W : World} {o : Obj} (h : Below n w W) (hD : n ≤ D) : Below n w (W.putObj D o) :=
  ⟨h.os, h.tape, h.output, by simpa using h.size, fun k hk => (World.putObj_heap_other (by omega)).trans (h.block k hk)⟩
theorem putObj_cellA {W : World} {D b o : Nat} {x : Obj} {v : Value} (h : W.cell? ⟨b, o, none⟩ = some v) (hne : b ≠ D) : (W.putObj D x).cell? ⟨b, o, none⟩ = some v :=
  (World.cell?_of_block (w := W) (World.putObj_heap_other hne)).trans h
open Classical in
/-- The way up from a node. -/
noncomputable def upOf (ns : List Nd) (ho : Bool) (h : Int) : List Int := if e : ∃ ys, Up ns ho h ys then e.choose else []
theorem upOf_of {ns : List Nd} {ho : Bool} {h : Int} {xs : List Int} (hU : Up ns ho h xs) : upOf ns ho h = xs := by
  have e : ∃ ys, Up ns ho h ys := ⟨xs, hU⟩
  rw [upOf, dif_pos e, hU.one e.choose_spec]
noncomputable def containsL (ns : List Nd) (up h : Int) : Bool := isH ns.length up && (isH ns.length h && (upOf ns true h).contains up)
/-- The iterator's boxes. -/
def upBoxes (w : World) (B : Nat) (h : Int) (ho : Bool) : World := ((w.alloc (.cells #[.pointer (some ⟨B, 0, none⟩)] 23)).alloc (.cells #[.int .i64 h] 3)).alloc (.cells #[.bool ho] 4)
set_option maxRecDepth 100000 in
theorem up_any (h : Int) (ho : Bool) (w : World) (B : Nat) : Calls Tryz.prog 88 #[.pointer (some ⟨B, 0, none⟩), .int .i64 h, .bool ho] w fun e w' =>
    e = .returned (.func (.func 138) #[] #[.pointer (some ⟨w.heap.size + 1, 0, none⟩), .pointer (some ⟨w.heap.size, 0, none⟩), .pointer (some ⟨w.heap.size + 2, 0, none⟩)]) ∧ w' = upBoxes w B h ho := by
  unfold upBoxes
  have hmf : ∀ (fn : Fn) (first cap : Array Value) (w : World), (Instr.makeFunc fn first cap).run Tryz.prog w = .ok (.func fn first cap) w := fun _ _ _ _ => rfl
  go_enter Tryz.func88, Tryz.ntmps88
  go_wp2
  go_ret
  exact ⟨rfl, rfl⟩
theorem three_newA {w W0 : World} {o0 o1 o2 : Obj} (h : ((w.alloc o0).alloc o1).alloc o2 = W0) :
    W0.heap[w.heap.size]? = some o0 ∧ W0.heap[w.heap.size + 1]? = some o1 ∧ W0.heap[w.heap.size + 2]? = some o2 ∧ W0.heap.size = w.heap.size + 3 ∧ Below w.heap.size w W0 := by
  subst h
  have e0 := World.alloc_heap_new w o0
  have e1 := World.alloc_heap_new (w.alloc o0) o1
  have e2 := World.alloc_heap_new ((w.alloc o0).alloc o1) o2
  rw [World.size_alloc] at e1
  rw [World.size_alloc, World.size_alloc] at e2
  refine ⟨?_, ?_, e2, by simp, ((balloc w _).alloc (by simp) _).alloc (by simp; omega) _⟩
  · rw [Below.heap_alloc _ _ _ (by simp; omega), Below.heap_alloc _ _ _ (by simp)]; exact e0
  · rw [Below.heap_alloc _ _ _ (by simp)]; exact e1
structure CtJ (B : Nat) (O : List Nat) (ns : List Nd) (xs : List Int) (up : Int) (w : World) (i : Nat) (W : World) : Prop where
  no : ∀ j y, j < i → xs[j]? = some y → y ≠ up
  c0 : W.cell? ⟨w.heap.size, 0, none⟩ = some (.int .i64 up)
  c1 : W.cell? ⟨w.heap.size + 1, 0, none⟩ = some (.bool false)
  f1 : W.frozen? ⟨w.heap.size + 1, 0, none⟩ = false
  ar : ArW B O ns W
  ab : W.cell? ⟨w.heap.size + 2, 0, none⟩ = some (.pointer (some ⟨B, 0, none⟩))
  sb : W.cell? ⟨w.heap.size + 4, 0, none⟩ = some (.bool true)
  bl : Below w.heap.size w W
structure CtX (xs : List Int) (up : Int) (w : World) (c : Code) (W : World) : Prop where
  rt : c = .ret
  c1 : W.cell? ⟨w.heap.size + 1, 0, none⟩ = some (.bool true)
  hv : up ∈ xs
  bl : Below w.heap.size w W
theorem CtJ.kept {B : Nat} {O : List Nat} {ns : List Nd} {xs : List Int} {up : Int} {w A C : World} {i : Nat} (hO : ∀ k ∈ O, k < w.heap.size) (h : CtJ B O ns xs up w i A) (hm : Mod (fun k => k = w.heap.size + 3 ∨ w.heap.size + 5 ≤ k) A C) : CtJ B O ns xs up w i C := by
  obtain ⟨h0, h1, h2, h3, h4, h5, h6, h7⟩ := h
  have l1 := World.block_lt_of_cell? _ _ h1
  have l2 := World.block_lt_of_cell? _ _ h2
  have l5 := World.block_lt_of_cell? _ _ h5
  have l6 := World.block_lt_of_cell? _ _ h6
  exact ⟨h0, (hm.cell (p := ⟨_, 0, none⟩) l1 (by dsimp only; omega)).trans h1, (hm.cell (p := ⟨_, 0, none⟩) l2 (by dsimp only; omega)).trans h2, (hm.frozen (p := ⟨_, 0, none⟩) l2 (by dsimp only; omega)).trans h3,
    h4.kept hm fun k hk => by have := hO k hk; omega, (hm.cell (p := ⟨_, 0, none⟩) l5 (by dsimp only; omega)).trans h5, (hm.cell (p := ⟨_, 0, none⟩) l6 (by dsimp only; omega)).trans h6, h7.trans (hm.below h7.size fun k hk => by omega)⟩
theorem CtX.kept {xs : List Int} {up : Int} {w A C : World} {c : Code} (h : CtX xs up w c A) (hm : Mod (fun k => k = w.heap.size + 3 ∨ w.heap.size + 5 ≤ k) A C) : CtX xs up w c C := by
  obtain ⟨h0, h2, h3, h6⟩ := h
  have l2 := World.block_lt_of_cell? _ _ h2
  exact ⟨h0, (hm.cell (p := ⟨_, 0, none⟩) l2 (by dsimp only; omega)).trans h2, h3, h6.trans (hm.below h6.size fun k hk => by omega)⟩
theorem CtJ.next {B : Nat} {O : List Nat} {ns : List Nd} {xs : List Int} {up x : Int} {w A : World} {i : Nat} (h : CtJ B O ns xs up w i A) (hx : xs[i]? = some x) (hne : x ≠ up) : CtJ B O ns xs up w (i + 1) A := by
  obtain ⟨h0, h1, h2, h3, h4, h5, h6, h7⟩ := h
  refine ⟨fun j y hj hy => ?_, h1, h2, h3, h4, h5, h6, h7⟩
  by_cases e : j = i
  · subst e
    rw [hx] at hy
    cases hy
    exact hne
  · exact h0 j y (by omega) hy
theorem enter_up1 (args : Array Value) (W : World) : (callFunc 138 args).run Tryz.prog W = .ok (.enter 138 args) W := by simp [go_sem]

set_option maxRecDepth 100000 in
set_option maxHeartbeats 1000000 in
theorem Contains_any (up h : Int) (w : World) {B : Nat} {O : List Nat} {ns : List Nd} (hA : ArW B O ns w) (hl : ns.length ≤ 1000000) (hup : isH ns.length h = true → ∃ xs, Up ns true h xs) :
    Calls Tryz.prog 46 #[.pointer (some ⟨B, 0, none⟩), .int .i64 up, .int .i64 h] w (Ret w (.bool (containsL ns up h))) := by
  obtain ⟨W0, hW0⟩ : ∃ W0, (w.alloc (.cells #[.int .i64 up] 3)).alloc (.cells #[.bool false] 4) = W0 := ⟨_, rfl⟩
  obtain ⟨hb0, hbx, hs0, b0⟩ := two_new hW0
  have hA0 := hA.later b0
  have H1 := isH_any up W0 hA0
  have H2 := isH_any h W0 hA0
  have z0 : W0.cell? ⟨w.heap.size, 0, none⟩ = some (.int .i64 up) := by rw [cell_of_row _ _ _ _ _ _ hb0]; rfl
  have z1 : W0.cell? ⟨w.heap.size + 1, 0, none⟩ = some (.bool false) := by rw [cell_of_row _ _ _ _ _ _ hbx]; rfl
  have y1 : W0.frozen? ⟨w.heap.size + 1, 0, none⟩ = false := Lib.frozen_of_heap hbx _
  have HW := Lib.hid hW0
  have no : isH ns.length up = false ∨ isH ns.length h = false → Ret w (.bool (containsL ns up h)) (.returned (.bool false)) (W0.setCell ⟨w.heap.size + 1, 0, none⟩ (.bool false)) := fun e => Ret.mk (by
    rcases e with e | e <;> simp [containsL, e]) (b0.setCell (by simp) _)
  have NO := Lib.hid no
  clear no
  cases hu : isH ns.length up
  · rw [hu] at H1
    have H1 := Lib.hid H1
    have HF := Lib.hid (NO.out (.inl hu))
    have hr1 : (W0.setCell ⟨w.heap.size + 1, 0, none⟩ (.bool false)).cell? ⟨w.heap.size + 1, 0, none⟩ = some (.bool false) := World.cell?_setCell_same' _ _ _ (by rw [z1]; rfl)
    clear hA0 hA hW0 hup H2 hu NO hb0 hbx b0
    go_enter Tryz.func46, Tryz.ntmps46
    go_wp2_with fail
    rw [HW.out]
    go_wp2_with (refine H1.out.mono ?_; rintro e w1 ⟨rfl, rfl⟩)
    exact bodyPost_ret (v := .bool false) (by simp [results, Tryz.results46, go_sem, hr1]) rfl HF.out
  · rw [hu] at H1
    have H1 := Lib.hid H1
    cases hh : isH ns.length h
    · rw [hh] at H2
      have H2 := Lib.hid H2
      have HF := Lib.hid (NO.out (.inr hh))
      have hr1 : (W0.setCell ⟨w.heap.size + 1, 0, none⟩ (.bool false)).cell? ⟨w.heap.size + 1, 0, none⟩ = some (.bool false) := World.cell?_setCell_same' _ _ _ (by rw [z1]; rfl)
      clear hA0 hA hW0 hup hh NO hb0 hbx b0 hu
      go_enter Tryz.func46, Tryz.ntmps46
      go_wp2_with fail
      rw [HW.out]
      go_wp2_with fail
      refine H1.out.mono ?_
      rintro e w1 ⟨rfl, rfl⟩
      go_wp2_with fail
      refine H2.out.mono ?_
      rintro e w1 ⟨rfl, rfl⟩
      go_wp2_with fail
      exact bodyPost_ret (v := .bool false) (by simp [results, Tryz.results46, go_sem, hr1]) rfl HF.out
    · rw [hh] at H2
      have H2 := Lib.hid H2
      obtain ⟨xs, hU⟩ := hup hh
      have hcv : containsL ns up h = xs.contains up := by simp [containsL, hu, hh, upOf_of hU]
      rw [hcv]
      have hO : ∀ k ∈ O, k < w.heap.size := fun k hk => hA.lt hk
      have hBw : B < w.heap.size := hO B hA.hasB
      -- the boxes of the iterator
      have H3 := Lib.hid (up_any h true W0 B)
      obtain ⟨W1, hW1⟩ : ∃ W1, upBoxes W0 B h true = W1 := ⟨_, rfl⟩
      obtain ⟨x0, x1, x2, hs1, b1⟩ := three_newA (w := W0) (W0 := W1) hW1
      have hA1 := hA0.later b1
      have hsz : W0.heap.size = w.heap.size + 2 := hs0
      have b01 : Below w.heap.size w W1 := bthen b0 b0.size b1
      have hit := fun n hn => up_iter true h xs n hn W1 (hb := W0.heap.size + 1) (ab := W0.heap.size) (sb := W0.heap.size + 2) hA1 hl hU x1 (by rw [cell_of_row _ _ _ _ _ _ x0]; rfl) (by rw [cell_of_row _ _ _ _ _ _ x2]; rfl) (fun hk => by have := hO _ hk; omega) (by omega) (by omega)
      rw [hsz] at hit x0 x1 x2
      have hJ0 : CtJ B O ns xs up w 0 W1 := ⟨fun _ _ h => absurd h (Nat.not_lt_zero _), (b1.cell (p := ⟨w.heap.size, 0, none⟩) (by dsimp only; omega)).trans z0, (b1.cell (p := ⟨w.heap.size + 1, 0, none⟩) (by dsimp only; omega)).trans z1,
        (b1.frozen (p := ⟨w.heap.size + 1, 0, none⟩) (by dsimp only; omega)).trans y1, hA1, by rw [cell_of_row _ _ _ _ _ _ x0]; rfl, by rw [cell_of_row _ _ _ _ _ _ x2]; rfl, b01⟩
      have hs1' : W1.heap.size = w.heap.size + 5 := by omega
      have HIT := Lib.hid hit; have HJ0 := Lib.hid hJ0; have HO := Lib.hid hO; have HW1 := Lib.hid hW1
      clear hA0 hA hW0 hup hh NO hb0 hbx b0 hu hcv x0 x1 x2 hs1 b1 hA1 b01 hit hJ0 hO hW1
      rw [hsz] at H3
      obtain ⟨n, hn⟩ : ∃ n, 9 ≤ n := ⟨9, Nat.le_refl _⟩
      refine (callsIn_wide (n := n)).1 ?_
      refine callsIn_of_wp_marks Tryz.func46 rfl trivial ?_ rfl
      simp only [Tryz.ntmps46, List.size_toArray, List.length_cons, List.length_nil, Nat.reduceAdd, Nat.reduceSub, Array.replicate_succ, Array.replicate_zero, List.push_toArray, List.append_toArray, List.nil_append, List.cons_append]
      gi_wp2_with fail
      rw [HW.out]
      refine call_wide H1.out ?_ (by omega)
      rintro e w1 ⟨rfl, rfl⟩
      gi_wp2_with fail
      refine call_wide H2.out ?_ (by omega)
      rintro e w1 ⟨rfl, rfl⟩
      gi_wp2_with fail
      refine call_wide H3.out ?_ (by omega)
      rintro e w1 ⟨rfl, rfl⟩
      rw [HW1.out]
      clear H1 H2 H3
      gi_wp2_with fail
      have HS := Lib.hid (HIT.out (n - 1) (by omega))
      refine wpIn_rangeFunc_itp rfl (by omega) (gf := 138) rfl trivial enter_up1 HS.out (fun k h => by subst h; omega) (fun x => rfl)
        (fun _ i W => CtJ B O ns xs up w i W) (fun _ c _ W => CtX xs up w c W) ?keep ?keepx ?pr ?start ?round ?done ?stop
      case keep => exact fun n1 i A C h hm => h.kept HO.out (hm.mono fun k _ h => h.elim (fun h => .inl h) fun h => .inr (by omega))
      case keepx => exact fun n1 c i A C h hm => h.kept (hm.mono fun k _ h => h.elim (fun h => .inl h) fun h => .inr (by omega))
      case pr => exact fun n1 i A h => ⟨h.ar, h.ab, h.sb⟩
      case start => exact fun _ _ => HJ0.out
      case round =>
        rintro lp x W
        gi_wp2_with fail
        refine ⟨trivial, ?_⟩
        rintro n1 i W' hx hj hn1 hn1'
        have hc0 := hj.c0
        have hc1 := hj.c1
        have hf1 := hj.f1
        have HJ := Lib.hid hj; have HX := Lib.hid hx
        clear hj hx HJ0 HS HIT HW HW1
        cases he : x == up
        · have HE := Lib.hid he
          gi_wp2_with fail
          exact ⟨HJ.out.next HX.out (by simpa using HE.out), Mod.refl _ _⟩
        · have HE := Lib.hid he
          gi_wp2_with fail
          refine ⟨⟨rfl, ?_, ?_, HJ.out.bl.setCell (by simp) _⟩, Mod.setCell _ _ ⟨by dsimp only; omega, by dsimp only; omega⟩⟩
          · exact World.cell?_setCell_same' _ _ _ (by rw [hc1]; rfl)
          · have e : x = up := by simpa using HE.out
            exact e ▸ List.mem_of_getElem? HX.out
      case done =>
        rintro D n1 W hn1 hn2 hj hD hK
        have HV := Lib.hid (show xs.contains up = false by
          rw [← Bool.not_eq_true, List.contains_iff_mem]
          intro hm
          obtain ⟨j, hj1, hj2⟩ := List.getElem_of_mem hm
          exact hj.no j up hj1 (by rw [List.getElem?_eq_getElem hj1, hj2]) rfl)
        obtain ⟨-, h0, h1, h2, -, -, -, h4⟩ := hj
        have hr1 : (W.setCell ⟨w.heap.size + 1, 0, none⟩ (.bool false)).cell? ⟨w.heap.size + 1, 0, none⟩ = some (.bool false) := World.cell?_setCell_same' _ _ _ (by rw [h1]; rfl)
        have hbl : Below w.heap.size w (W.setCell ⟨w.heap.size + 1, 0, none⟩ (.bool false)) := h4.setCell (by simp) _
        have hK' := (Below.heap_setCell W ⟨w.heap.size + 1, 0, none⟩ (.bool false) D (by dsimp only; omega)).trans hK
        have HB := Lib.hid hbl; have HK := Lib.hid hK'
        clear h0 h4 hbl hK' hK HJ0 HS HIT HW HW1
        gi_wp2_with fail
        refine ⟨by simp, .inl ⟨_, _, rfl, run_takeDeferred HK.out, ?_⟩⟩
        have hq1 := putObj_cellA (D := D) (x := .deferred none) hr1 (by omega)
        rw [HV.out]
        exact ⟨.bool false, by simp [results, Tryz.results46, go_sem, hq1], Ret.mk rfl (below_putA HB.out (by omega))⟩
      case stop =>
        rintro D n1 c i W hn1 hn2 hi ⟨rfl, h1, h2, h3⟩ hD hK
        have HV := Lib.hid (show xs.contains up = true by rw [List.contains_iff_mem]; exact h2)
        have HB := Lib.hid h3; have HK := Lib.hid hK
        clear h2 h3 hK HJ0 HS HIT HW HW1
        gi_wp2_with fail
        refine ⟨by simp, .inl ⟨_, _, rfl, run_takeDeferred HK.out, ?_⟩⟩
        have hr1 := putObj_cellA (D := D) (x := .deferred none) h1 (by omega)
        rw [HV.out]
        exact ⟨.bool true, by simp [results, Tryz.results46, go_sem, hr1], Ret.mk rfl (below_putA HB.out (by omega))⟩
end Go.Proofs.YtdapdadcninidaaGreatDoor
