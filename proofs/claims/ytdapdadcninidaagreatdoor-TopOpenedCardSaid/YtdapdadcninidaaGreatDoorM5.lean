/- Package arena: Contains. No condition but that the way up ends. Package arena: Put. No condition but that the nodes are linked well at the parent and the node. A function over an arena with local blocks: what it has done so far. Packages stack, builder: the open elements looked at; a builder in memory. No condition but lengths. -/
import Derived.Test.YtdapdadcninidaaGreatDoorM4
import Derived.Test.YtdapdadcninidaaGreatDoorM3
set_option linter.unusedSimpArgs false
set_option linter.unusedVariables false
namespace Go.Proofs.YtdapdadcninidaaGreatDoor
open Go.RowKit
attribute [local go_sem] Oper.semAt_some

theorem below_putA {n D : Nat} {w W : World} {o : Obj} (h : Below n w W) (hD : n ≤ D) : Below n w (W.putObj D o) :=
  ⟨h.os, h.tape, h.output, by simpa using h.size, fun k hk => (World.putObj_heap_other (by omega)).trans (h.block k hk)⟩
theorem putObj_cellA {W : World} {D b o : Nat} {x : Obj} {v : Value} (h : W.cell? ⟨b, o, none⟩ = some v) (hne : b ≠ D) : (W.putObj D x).cell? ⟨b, o, none⟩ = some v :=
  (World.cell?_of_block (w := W) (World.putObj_heap_other hne)).trans h
open Classical in
/-- The way up from a node. -/
noncomputable def upOf (ns : List Nd) (ho : Bool) (h : Int) : List Int := if e : ∃ ys, Up ns ho h ys then e.choose else []
theorem upOf_of {ns : List Nd} {ho : Bool} {h : Int} {xs : List Int} (hU : Up ns ho h xs) : upOf ns ho h = xs := by
  have e : ∃ ys, Up ns ho h ys := ⟨xs, hU⟩
  rw [upOf, dif_pos e, hU.one e.choose_spec]
noncomputable def containsL (ns : List Nd) (up h : Int) : Bool := isH ns.length up && (isH ns.length h && (upOf ns true h).contains up)
/-- The iterator's boxes. -/
def upBoxes (w : World) (B : Nat) (h : Int) (ho : Bool) : World := ((w.alloc (.cells #[.pointer (some ⟨B, 0, none⟩)] 23)).alloc (.cells #[.int .i64 h] 3)).alloc (.cells #[.bool ho] 4)
set_option maxRecDepth 100000 in
theorem up_any (h : Int) (ho : Bool) (w : World) (B : Nat) : Calls Tryz.prog 88 #[.pointer (some ⟨B, 0, none⟩), .int .i64 h, .bool ho] w fun e w' =>
    e = .returned (.func (.func 138) #[] #[.pointer (some ⟨w.heap.size + 1, 0, none⟩), .pointer (some ⟨w.heap.size, 0, none⟩), .pointer (some ⟨w.heap.size + 2, 0, none⟩)]) ∧ w' = upBoxes w B h ho := by
  unfold upBoxes
  have hmf : ∀ (fn : Fn) (first cap : Array Value) (w : World), (Instr.makeFunc fn first cap).run Tryz.prog w = .ok (.func fn first cap) w := fun _ _ _ _ => rfl
  go_enter Tryz.func88, Tryz.ntmps88
  go_wp2
  go_ret
  exact ⟨rfl, rfl⟩
theorem three_newA {w W0 : World} {o0 o1 o2 : Obj} (h : ((w.alloc o0).alloc o1).alloc o2 = W0) :
    W0.heap[w.heap.size]? = some o0 ∧ W0.heap[w.heap.size + 1]? = some o1 ∧ W0.heap[w.heap.size + 2]? = some o2 ∧ W0.heap.size = w.heap.size + 3 ∧ Below w.heap.size w W0 := by
  subst h
  have e0 := World.alloc_heap_new w o0
  have e1 := World.alloc_heap_new (w.alloc o0) o1
  have e2 := World.alloc_heap_new ((w.alloc o0).alloc o1) o2
  rw [World.size_alloc] at e1
  rw [World.size_alloc, World.size_alloc] at e2
  refine ⟨?_, ?_, e2, by simp, ((balloc w _).alloc (by simp) _).alloc (by simp; omega) _⟩
  · rw [Below.heap_alloc _ _ _ (by simp; omega), Below.heap_alloc _ _ _ (by simp)]; exact e0
  · rw [Below.heap_alloc _ _ _ (by simp)]; exact e1
structure CtJ (B : AB) (O : List Nat) (ns : List Nd) (xs : List Int) (up : Int) (w : World) (i : Nat) (W : World) : Prop where
  no : ∀ j y, j < i → xs[j]? = some y → y ≠ up
  c0 : W.cell? ⟨w.heap.size, 0, none⟩ = some (.int .i64 up)
  c1 : W.cell? ⟨w.heap.size + 1, 0, none⟩ = some (.bool false)
  f1 : W.frozen? ⟨w.heap.size + 1, 0, none⟩ = false
  ar : ArW B O ns W
  ab : W.cell? ⟨w.heap.size + 2, 0, none⟩ = some (.pointer (some ⟨B, 0, none⟩))
  sb : W.cell? ⟨w.heap.size + 4, 0, none⟩ = some (.bool true)
  bl : Below w.heap.size w W
structure CtX (xs : List Int) (up : Int) (w : World) (c : Code) (W : World) : Prop where
  rt : c = .ret
  c1 : W.cell? ⟨w.heap.size + 1, 0, none⟩ = some (.bool true)
  hv : up ∈ xs
  bl : Below w.heap.size w W
theorem CtJ.kept {B : AB} {O : List Nat} {ns : List Nd} {xs : List Int} {up : Int} {w A C : World} {i : Nat} (hO : ∀ k ∈ O, k < w.heap.size) (h : CtJ B O ns xs up w i A) (hm : Mod (fun k => k = w.heap.size + 3 ∨ w.heap.size + 5 ≤ k) A C) : CtJ B O ns xs up w i C := by
  obtain ⟨h0, h1, h2, h3, h4, h5, h6, h7⟩ := h
  have l1 := World.block_lt_of_cell? _ _ h1
  have l2 := World.block_lt_of_cell? _ _ h2
  have l5 := World.block_lt_of_cell? _ _ h5
  have l6 := World.block_lt_of_cell? _ _ h6
  exact ⟨h0, (hm.cell (p := ⟨_, 0, none⟩) l1 (by dsimp only; omega)).trans h1, (hm.cell (p := ⟨_, 0, none⟩) l2 (by dsimp only; omega)).trans h2, (hm.frozen (p := ⟨_, 0, none⟩) l2 (by dsimp only; omega)).trans h3,
    h4.kept hm fun k hk => by have := hO k hk; omega, (hm.cell (p := ⟨_, 0, none⟩) l5 (by dsimp only; omega)).trans h5, (hm.cell (p := ⟨_, 0, none⟩) l6 (by dsimp only; omega)).trans h6, h7.trans (hm.below h7.size fun k hk => by omega)⟩
theorem CtX.kept {xs : List Int} {up : Int} {w A C : World} {c : Code} (h : CtX xs up w c A) (hm : Mod (fun k => k = w.heap.size + 3 ∨ w.heap.size + 5 ≤ k) A C) : CtX xs up w c C := by
  obtain ⟨h0, h2, h3, h6⟩ := h
  have l2 := World.block_lt_of_cell? _ _ h2
  exact ⟨h0, (hm.cell (p := ⟨_, 0, none⟩) l2 (by dsimp only; omega)).trans h2, h3, h6.trans (hm.below h6.size fun k hk => by omega)⟩
theorem CtJ.next {B : AB} {O : List Nat} {ns : List Nd} {xs : List Int} {up x : Int} {w A : World} {i : Nat} (h : CtJ B O ns xs up w i A) (hx : xs[i]? = some x) (hne : x ≠ up) : CtJ B O ns xs up w (i + 1) A := by
  obtain ⟨h0, h1, h2, h3, h4, h5, h6, h7⟩ := h
  refine ⟨fun j y hj hy => ?_, h1, h2, h3, h4, h5, h6, h7⟩
  by_cases e : j = i
  · subst e
    rw [hx] at hy
    cases hy
    exact hne
  · exact h0 j y (by omega) hy
theorem enter_up1 (args : Array Value) (W : World) : (callFunc 138 args).run Tryz.prog W = .ok (.enter 138 args) W := by simp [go_sem]

set_option maxRecDepth 100000 in
set_option maxHeartbeats 1000000 in
theorem Contains_any (up h : Int) (w : World) {B : AB} {O : List Nat} {ns : List Nd} (hA : ArW B O ns w) (hl : ns.length ≤ 1000000) (hup : isH ns.length h = true → ∃ xs, Up ns true h xs) :
    Calls Tryz.prog 46 #[.pointer (some ⟨B, 0, none⟩), .int .i64 up, .int .i64 h] w (Ret w (.bool (containsL ns up h))) := by
  obtain ⟨W0, hW0⟩ : ∃ W0, (w.alloc (.cells #[.int .i64 up] 3)).alloc (.cells #[.bool false] 4) = W0 := ⟨_, rfl⟩
  obtain ⟨hb0, hbx, hs0, b0⟩ := two_new hW0
  have hA0 := hA.later b0
  have H1 := isH_any up W0 hA0
  have H2 := isH_any h W0 hA0
  have z0 : W0.cell? ⟨w.heap.size, 0, none⟩ = some (.int .i64 up) := by rw [cell_of_row _ _ _ _ _ _ hb0]; rfl
  have z1 : W0.cell? ⟨w.heap.size + 1, 0, none⟩ = some (.bool false) := by rw [cell_of_row _ _ _ _ _ _ hbx]; rfl
  have y1 : W0.frozen? ⟨w.heap.size + 1, 0, none⟩ = false := Lib.frozen_of_heap hbx _
  have HW := Lib.hid hW0
  have no : isH ns.length up = false ∨ isH ns.length h = false → Ret w (.bool (containsL ns up h)) (.returned (.bool false)) (W0.setCell ⟨w.heap.size + 1, 0, none⟩ (.bool false)) := fun e => Ret.mk (by
    rcases e with e | e <;> simp [containsL, e]) (b0.setCell (by simp) _)
  have NO := Lib.hid no
  clear no
  cases hu : isH ns.length up
  · rw [hu] at H1
    have H1 := Lib.hid H1
    have HF := Lib.hid (NO.out (.inl hu))
    have hr1 : (W0.setCell ⟨w.heap.size + 1, 0, none⟩ (.bool false)).cell? ⟨w.heap.size + 1, 0, none⟩ = some (.bool false) := World.cell?_setCell_same' _ _ _ (by rw [z1]; rfl)
    clear hA0 hA hW0 hup H2 hu NO hb0 hbx b0
    go_enter Tryz.func46, Tryz.ntmps46
    go_wp2_with fail
    rw [HW.out]
    go_wp2_with (refine H1.out.mono ?_; rintro e w1 ⟨rfl, rfl⟩)
    exact bodyPost_ret (v := .bool false) (by simp [results, Tryz.results46, go_sem, hr1]) rfl HF.out
  · rw [hu] at H1
    have H1 := Lib.hid H1
    cases hh : isH ns.length h
    · rw [hh] at H2
      have H2 := Lib.hid H2
      have HF := Lib.hid (NO.out (.inr hh))
      have hr1 : (W0.setCell ⟨w.heap.size + 1, 0, none⟩ (.bool false)).cell? ⟨w.heap.size + 1, 0, none⟩ = some (.bool false) := World.cell?_setCell_same' _ _ _ (by rw [z1]; rfl)
      clear hA0 hA hW0 hup hh NO hb0 hbx b0 hu
      go_enter Tryz.func46, Tryz.ntmps46
      go_wp2_with fail
      rw [HW.out]
      go_wp2_with fail
      refine H1.out.mono ?_
      rintro e w1 ⟨rfl, rfl⟩
      go_wp2_with fail
      refine H2.out.mono ?_
      rintro e w1 ⟨rfl, rfl⟩
      go_wp2_with fail
      exact bodyPost_ret (v := .bool false) (by simp [results, Tryz.results46, go_sem, hr1]) rfl HF.out
    · rw [hh] at H2
      have H2 := Lib.hid H2
      obtain ⟨xs, hU⟩ := hup hh
      have hcv : containsL ns up h = xs.contains up := by simp [containsL, hu, hh, upOf_of hU]
      rw [hcv]
      have hO : ∀ k ∈ O, k < w.heap.size := fun k hk => hA.lt hk
      have hBw : B < w.heap.size := hO B hA.hasB
      -- the boxes of the iterator
      have H3 := Lib.hid (up_any h true W0 B)
      obtain ⟨W1, hW1⟩ : ∃ W1, upBoxes W0 B h true = W1 := ⟨_, rfl⟩
      obtain ⟨x0, x1, x2, hs1, b1⟩ := three_newA (w := W0) (W0 := W1) hW1
      have hA1 := hA0.later b1
      have hsz : W0.heap.size = w.heap.size + 2 := hs0
      have b01 : Below w.heap.size w W1 := bthen b0 b0.size b1
      have hit := fun n hn => up_iter true h xs n hn W1 (hb := W0.heap.size + 1) (ab := W0.heap.size) (sb := W0.heap.size + 2) hA1 hl hU x1 (by rw [cell_of_row _ _ _ _ _ _ x0]; rfl) (by rw [cell_of_row _ _ _ _ _ _ x2]; rfl) (fun hk => by have := hO _ hk; omega) (by omega) (by omega)
      rw [hsz] at hit x0 x1 x2
      have hJ0 : CtJ B O ns xs up w 0 W1 := ⟨fun _ _ h => absurd h (Nat.not_lt_zero _), (b1.cell (p := ⟨w.heap.size, 0, none⟩) (by dsimp only; omega)).trans z0, (b1.cell (p := ⟨w.heap.size + 1, 0, none⟩) (by dsimp only; omega)).trans z1,
        (b1.frozen (p := ⟨w.heap.size + 1, 0, none⟩) (by dsimp only; omega)).trans y1, hA1, by rw [cell_of_row _ _ _ _ _ _ x0]; rfl, by rw [cell_of_row _ _ _ _ _ _ x2]; rfl, b01⟩
      have hs1' : W1.heap.size = w.heap.size + 5 := by omega
      have HIT := Lib.hid hit; have HJ0 := Lib.hid hJ0; have HO := Lib.hid hO; have HW1 := Lib.hid hW1
      clear hA0 hA hW0 hup hh NO hb0 hbx b0 hu hcv x0 x1 x2 hs1 b1 hA1 b01 hit hJ0 hO hW1
      rw [hsz] at H3
      obtain ⟨n, hn⟩ : ∃ n, 9 ≤ n := ⟨9, Nat.le_refl _⟩
      refine (callsIn_wide (n := n)).1 ?_
      refine callsIn_of_wp_marks Tryz.func46 rfl trivial ?_ rfl
      simp only [Tryz.ntmps46, List.size_toArray, List.length_cons, List.length_nil, Nat.reduceAdd, Nat.reduceSub, Array.replicate_succ, Array.replicate_zero, List.push_toArray, List.append_toArray, List.nil_append, List.cons_append]
      gi_wp2_with fail
      rw [HW.out]
      refine call_wide H1.out ?_ (by omega)
      rintro e w1 ⟨rfl, rfl⟩
      gi_wp2_with fail
      refine call_wide H2.out ?_ (by omega)
      rintro e w1 ⟨rfl, rfl⟩
      gi_wp2_with fail
      refine call_wide H3.out ?_ (by omega)
      rintro e w1 ⟨rfl, rfl⟩
      rw [HW1.out]
      clear H1 H2 H3
      gi_wp2_with fail
      have HS := Lib.hid (HIT.out (n - 1) (by omega))
      refine wpIn_rangeFunc_itp rfl (by omega) (gf := 138) rfl trivial enter_up1 HS.out (fun k h => by subst h; omega) (fun x => rfl)
        (fun _ i W => CtJ B O ns xs up w i W) (fun _ c _ W => CtX xs up w c W) ?keep ?keepx ?pr ?start ?round ?done ?stop
      case keep => exact fun n1 i A C h hm => h.kept HO.out (hm.mono fun k _ h => h.elim (fun h => .inl h) fun h => .inr (by omega))
      case keepx => exact fun n1 c i A C h hm => h.kept (hm.mono fun k _ h => h.elim (fun h => .inl h) fun h => .inr (by omega))
      case pr => exact fun n1 i A h => ⟨h.ar, h.ab, h.sb⟩
      case start => exact fun _ _ => HJ0.out
      case round =>
        rintro lp x W
        gi_wp2_with fail
        refine ⟨trivial, ?_⟩
        rintro n1 i W' hx hj hn1 hn1'
        have hc0 := hj.c0
        have hc1 := hj.c1
        have hf1 := hj.f1
        have HJ := Lib.hid hj; have HX := Lib.hid hx
        clear hj hx HJ0 HS HIT HW HW1
        cases he : x == up
        · have HE := Lib.hid he
          gi_wp2_with fail
          exact ⟨HJ.out.next HX.out (by simpa using HE.out), Mod.refl _ _⟩
        · have HE := Lib.hid he
          gi_wp2_with fail
          refine ⟨⟨rfl, ?_, ?_, HJ.out.bl.setCell (by simp) _⟩, Mod.setCell _ _ ⟨by dsimp only; omega, by dsimp only; omega⟩⟩
          · exact World.cell?_setCell_same' _ _ _ (by rw [hc1]; rfl)
          · have e : x = up := by simpa using HE.out
            exact e ▸ List.mem_of_getElem? HX.out
      case done =>
        rintro D n1 W hn1 hn2 hj hD hK
        have HV := Lib.hid (show xs.contains up = false by
          rw [← Bool.not_eq_true, List.contains_iff_mem]
          intro hm
          obtain ⟨j, hj1, hj2⟩ := List.getElem_of_mem hm
          exact hj.no j up hj1 (by rw [List.getElem?_eq_getElem hj1, hj2]) rfl)
        obtain ⟨-, h0, h1, h2, -, -, -, h4⟩ := hj
        have hr1 : (W.setCell ⟨w.heap.size + 1, 0, none⟩ (.bool false)).cell? ⟨w.heap.size + 1, 0, none⟩ = some (.bool false) := World.cell?_setCell_same' _ _ _ (by rw [h1]; rfl)
        have hbl : Below w.heap.size w (W.setCell ⟨w.heap.size + 1, 0, none⟩ (.bool false)) := h4.setCell (by simp) _
        have hK' := (Below.heap_setCell W ⟨w.heap.size + 1, 0, none⟩ (.bool false) D (by dsimp only; omega)).trans hK
        have HB := Lib.hid hbl; have HK := Lib.hid hK'
        clear h0 h4 hbl hK' hK HJ0 HS HIT HW HW1
        gi_wp2_with fail
        refine ⟨by simp, .inl ⟨_, _, rfl, run_takeDeferred HK.out, ?_⟩⟩
        have hq1 := putObj_cellA (D := D) (x := .deferred none) hr1 (by omega)
        rw [HV.out]
        exact ⟨.bool false, by simp [results, Tryz.results46, go_sem, hq1], Ret.mk rfl (below_putA HB.out (by omega))⟩
      case stop =>
        rintro D n1 c i W hn1 hn2 hi ⟨rfl, h1, h2, h3⟩ hD hK
        have HV := Lib.hid (show xs.contains up = true by rw [List.contains_iff_mem]; exact h2)
        have HB := Lib.hid h3; have HK := Lib.hid hK
        clear h2 h3 hK HJ0 HS HIT HW HW1
        gi_wp2_with fail
        refine ⟨by simp, .inl ⟨_, _, rfl, run_takeDeferred HK.out, ?_⟩⟩
        have hr1 := putObj_cellA (D := D) (x := .deferred none) h1 (by omega)
        rw [HV.out]
        exact ⟨.bool true, by simp [results, Tryz.results46, go_sem, hr1], Ret.mk rfl (below_putA HB.out (by omega))⟩
end Go.Proofs.YtdapdadcninidaaGreatDoor
namespace Go.Proofs.YtdapdadcninidaaGreatDoor
open Go.RowKit
attribute [local go_sem ↓] Go.wp_at_zero Go.wp_at_succ

def mayParent (k : Int) : Prop := k = 1 ∨ k = 2 ∨ k = 4
instance (k : Int) : Decidable (mayParent k) := by unfold mayParent; infer_instance
/-- The error of Put. -/
noncomputable def putE (ns : List Nd) (p n b : Int) : Int :=
  if isH ns.length p = false ∨ isH ns.length n = false then 3 else
  if b ≠ 0 ∧ isH ns.length b = false then 3 else
  if ¬ mayParent (ndAt ns p).kind ∨ (ndAt ns n).kind = 1 ∨ (ndAt ns n).kind = 2 ∨ containsL ns n p = true then 4 else
  if b ≠ 0 ∧ (b = n ∨ ((ndAt ns b).parent : Int) ≠ p) then 5 else 0
def insAt (ks : List Nat) (b : Int) : Nat := if b = 0 then ks.length else ks.idxOf b.toNat
/-- The nodes with n put into p ahead of b; c: with n cut. -/
def putC (c : List Nd) (p n b : Int) : List Nd :=
  setNd (setNd c p { ndAt c p with kids := insK (ndAt c p).kids (insAt (ndAt c p).kids b) n.toNat }) n
    { ndAt (setNd c p { ndAt c p with kids := insK (ndAt c p).kids (insAt (ndAt c p).kids b) n.toNat }) n with parent := p.toNat }
def putL (ns : List Nd) (p n b : Int) : List Nd := putC (cutL ns n) p n b
theorem setNd_len (ns : List Nd) (h : Int) (d : Nd) : (setNd ns h d).length = ns.length := by simp [setNd]
theorem ndAt_setNd_self {ns : List Nd} {h : Int} {d : Nd} (hh : isH ns.length h = true) : ndAt (setNd ns h d) h = d := by
  obtain ⟨i, hi, rfl⟩ := isH_iff.1 hh
  rw [setNd, show (((i + 1 : Nat) : Int) - 1).toNat = i by omega, ndAt_at (List.getElem?_set_self hi)]
theorem ndAt_setNd_ne {ns : List Nd} {h k : Int} {d : Nd} (hh : isH ns.length h = true) (hk : isH ns.length k = true) (hne : h ≠ k) : ndAt (setNd ns h d) k = ndAt ns k := by
  obtain ⟨i, hi, rfl⟩ := isH_iff.1 hh
  obtain ⟨j, hj, rfl⟩ := isH_iff.1 hk
  unfold ndAt setNd
  rw [show (((i + 1 : Nat) : Int) - 1).toNat = i by omega, show (((j + 1 : Nat) : Int) - 1).toNat = j by omega, List.getD_eq_getElem?_getD, List.getElem?_set_ne (by omega), ← List.getD_eq_getElem?_getD]
theorem cutL_len (ns : List Nd) (h : Int) : (cutL ns h).length = ns.length := by
  unfold cutL
  split
  · rfl
  · rw [setNd_len, setNd_len]
/-- What a cut does to a node's children. -/
theorem cutL_kids {ns : List Nd} {n p : Int} (hc : CutOk ns n) (hp : isH ns.length p = true) (hne : p ≠ n) :
    (ndAt (cutL ns n) p).kids = if (ndAt ns n).parent ≠ 0 ∧ ((ndAt ns n).parent : Int) = p then (ndAt ns p).kids.erase n.toNat else (ndAt ns p).kids := by
  unfold cutL
  obtain ⟨h1, h2⟩ := hc
  split
  · rename_i h0
    rw [if_neg (fun h => h.1 h0)]
  · rename_i h0
    obtain ⟨h3, h4, h5, h6⟩ := h2 h0
    rw [ndAt_setNd_ne (by rw [setNd_len]; exact h1) (by rw [setNd_len]; exact hp) (Ne.symm hne)]
    by_cases e : ((ndAt ns n).parent : Int) = p
    · rw [if_pos ⟨h0, e⟩, e, ndAt_setNd_self hp]
    · rw [if_neg (fun h => e h.2), ndAt_setNd_ne h3 hp e]
/-- What Put leans on. -/
structure PutOk (ns : List Nd) (p n b : Int) : Prop where
  up : isH ns.length p = true → ∃ xs, Up ns true p xs
  cut : isH ns.length n = true → CutOk ns n
  bef : b ≠ 0 → isH ns.length b = true → ((ndAt ns b).parent : Int) = p → b.toNat ∈ (ndAt ns p).kids
theorem insAt_ok {ks : List Nat} {b : Int} (hb : b ≠ 0 → b.toNat ∈ ks) : insAt ks b ≤ ks.length := by
  unfold insAt
  split
  · exact Nat.le_refl _
  · exact List.idxOf_le_length
/-- The end of Put, as one step of the arena. -/
theorem put_end {w w1 w2 : World} {B : AB} {g cap m ip jn : Nat} {O : List Nat} {c : List Nd} {p n b : Int} {kv v' : Value} (hA : ArW B O c w) (hp : isH c.length p = true) (hn : isH c.length n = true) (hip : p = ((ip + 1 : Nat) : Int)) (hjn : n = ((jn + 1 : Nat) : Int))
    (hc : w.cell? ⟨B, 0, none⟩ = some (.slice (some ⟨g, 0, none⟩) m cap)) (hk : w.cell? ⟨g, ip * 13 + 2, none⟩ = some kv)
    (hm1 : Below w.heap.size w w1) (hm : Mod (fun k => kv.ownBlock = some k) w1 w2) (hr : w2.ownsRow 0 3 1 v' (insK (ndAt c p).kids (insAt (ndAt c p).kids b) n.toNat).length (kidCells (insK (ndAt c p).kids (insAt (ndAt c p).kids b) n.toNat)))
    (hb : v'.ownBlock = kv.ownBlock ∨ ∃ k, v'.ownBlock = some k ∧ w1.heap.size ≤ k) :
    ∃ O', ArW B O' (putC c p n b) ((w2.setCell ⟨g, ip * 13 + 2, none⟩ v').setCell ⟨g, jn * 13 + 1, none⟩ (.int .i64 p)) ∧ AStep O w O' ((w2.setCell ⟨g, ip * 13 + 2, none⟩ v').setCell ⟨g, jn * 13 + 1, none⟩ (.int .i64 p)) := by
  have hA1 := hA.later hm1
  have hipl : ip < c.length := by obtain ⟨i, hi, e⟩ := isH_iff.1 hp; omega
  have hjnl : jn < c.length := by obtain ⟨i, hi, e⟩ := isH_iff.1 hn; omega
  have hBw : B < w.heap.size := World.block_lt_of_cell? _ _ hc
  have hgw : g < w.heap.size := World.block_lt_of_cell? _ _ hk
  have hc1 : w1.cell? ⟨B, 0, none⟩ = some (.slice (some ⟨g, 0, none⟩) m cap) := (hm1.cell (p := ⟨B, 0, none⟩) hBw).trans hc
  have hk1 : w1.cell? ⟨g, ip * 13 + 2, none⟩ = some kv := (hm1.cell (p := ⟨g, _, none⟩) hgw).trans hk
  have hxp : c[ip]? = some (ndAt c p) := by rw [List.getElem?_eq_getElem hipl, hip, ndAt_at (List.getElem?_eq_getElem hipl)]
  obtain ⟨far1, far2, far3⟩ := hA1.far hipl hc1 hk1
  obtain ⟨O2, hA2, hS2⟩ := hA1.kids hxp hc1 hk1 hm hr hb
  have hs1 : c.set ip { ndAt c p with kids := insK (ndAt c p).kids (insAt (ndAt c p).kids b) n.toNat } = setNd c p { ndAt c p with kids := insK (ndAt c p).kids (insAt (ndAt c p).kids b) n.toNat } := by rw [setNd, hip]; congr 1; omega
  rw [hs1] at hA2
  unfold putC
  generalize hN : setNd c p { ndAt c p with kids := insK (ndAt c p).kids (insAt (ndAt c p).kids b) n.toNat } = N at *
  have hNl : jn < N.length := by rw [← hN, setNd_len]; exact hjnl
  have hxn : N[jn]? = some (ndAt N n) := by rw [List.getElem?_eq_getElem hNl, hjn, ndAt_at (List.getElem?_eq_getElem hNl)]
  have hc2 : (w2.setCell ⟨g, ip * 13 + 2, none⟩ v').cell? ⟨B, 0, none⟩ = some (.slice (some ⟨g, 0, none⟩) m cap) := by
    rw [World.cell?_setCell_far _ _ _ _ far3]
    exact (hm.cell (p := ⟨B, 0, none⟩) (Nat.lt_of_lt_of_le hBw hm1.size) far2).trans hc1
  have hq := hA2.put (j := 1) (d' := { ndAt N n with parent := p.toNat }) (v := .int .i64 p) hxn hc2 (by omega) (fun _ _ => by simp only [ndCells, List.set_cons_succ, List.set_cons_zero]; rw [natV, hip]; rfl) rfl rfl
  have hs2 : N.set jn { ndAt N n with parent := p.toNat } = setNd N n { ndAt N n with parent := p.toNat } := by rw [setNd, hjn]; congr 1; omega
  rw [hs2] at hq
  exact ⟨O2, hq.1, astep_pre (hm1.mono (Nat.le_refl _)) (hS2.trans hq.2)⟩
/-- What the walk meets behind the cut. -/
structure PutMid (w : World) (B : AB) (O : List Nat) (c : List Nd) (p n b : Int) (g ip jn : Nat) (ka : Option Addr) (kc : Nat) : Prop where
  c2 : w.cell? ⟨g, ip * 13 + 2, none⟩ = some (.slice ka (ndAt c p).kids.length kc)
  ix : b ≠ 0 → Calls Tryz.prog 48 #[.slice ka (ndAt c p).kids.length kc, .int .i64 b] w fun e w' => e = .returned (.int .i64 (insAt (ndAt c p).kids b : Nat)) ∧ w = w'
  ins : Calls Tryz.prog 49 #[.slice ka (ndAt c p).kids.length kc, .int .i64 (insAt (ndAt c p).kids b : Nat), .slice (some ⟨w.heap.size, 0, none⟩) 1 1] (w.alloc (.cells #[.int .i64 n] 3)) fun e w' =>
    ∃ v1 v2 v3 pa, e = .returned (.slice v1 v2 v3) ∧ w'.cell? ⟨g, ip * 13 + 2, none⟩ = some (.slice ka (ndAt c p).kids.length kc) ∧ w'.frozen? ⟨g, ip * 13 + 2, none⟩ = false ∧ w'.cell? ⟨g, jn * 13 + 1, none⟩ = some (.int .i64 pa) ∧ w'.frozen? ⟨g, jn * 13 + 1, none⟩ = false ∧
      ∃ O', ArW B O' (putC c p n b) ((w'.setCell ⟨g, ip * 13 + 2, none⟩ (.slice v1 v2 v3)).setCell ⟨g, jn * 13 + 1, none⟩ (.int .i64 p)) ∧ AStep O w O' ((w'.setCell ⟨g, ip * 13 + 2, none⟩ (.slice v1 v2 v3)).setCell ⟨g, jn * 13 + 1, none⟩ (.int .i64 p))
theorem put_mid {w : World} {B : AB} {g cap m ip jn : Nat} {O : List Nat} {c : List Nd} {p n b : Int} (hA : ArW B O c w) (hp : isH c.length p = true) (hn : isH c.length n = true) (hip : p = ((ip + 1 : Nat) : Int)) (hjn : n = ((jn + 1 : Nat) : Int))
    (hc : w.cell? ⟨B, 0, none⟩ = some (.slice (some ⟨g, 0, none⟩) m cap)) (hkl : (ndAt c p).kids.length ≤ 1000000) (hb : b ≠ 0 → 0 ≤ b ∧ b.toNat ∈ (ndAt c p).kids) : ∃ ka kc, PutMid w B O c p n b g ip jn ka kc := by
  have hipl : ip < c.length := by obtain ⟨i, hi, e⟩ := isH_iff.1 hp; omega
  have hjnl : jn < c.length := by obtain ⟨i, hi, e⟩ := isH_iff.1 hn; omega
  have hxp : c[ip]? = some (ndAt c p) := by rw [List.getElem?_eq_getElem hipl, hip, ndAt_at (List.getElem?_eq_getElem hipl)]
  have hxn : c[jn]? = some (ndAt c n) := by rw [List.getElem?_eq_getElem hjnl, hjn, ndAt_at (List.getElem?_eq_getElem hjnl)]
  obtain ⟨g', cap', kv, av, c0', hnp, hkr, -⟩ := hA.node hxp
  obtain ⟨g'', cap'', kvn, avn, c0'', hnn, -, -⟩ := hA.node hxn
  have e1 : g' = g := by rw [c0'] at hc; injection hc with hc; injection hc with e1 e2 e3; injection e1 with e1; injection e1 with e1
  have e2 : g'' = g := by rw [c0''] at hc; injection hc with hc; injection hc with e1 e2 e3; injection e1 with e1; injection e1 with e1
  subst e1
  subst e2
  obtain ⟨far1, far2, far3⟩ := hA.far hipl c0' hnp.c2
  obtain ⟨ka, kc, rfl⟩ := ownsRow_slice hkr
  have hgw : g'' < w.heap.size := World.block_lt_of_cell? _ _ hnp.c2
  refine ⟨ka, kc, hnp.c2, fun h0 => ?_, ?_⟩
  · obtain ⟨h1, h2⟩ := hb h0
    obtain ⟨q, hq1, hq2, hq3⟩ := kidIdx_mem h2
    have := kidIndex_any _ b _ w hkr
    have hbt : ((b.toNat : Nat) : Int) = b := by omega
    rw [hbt] at hq2
    refine this.mono fun e w' ⟨h3, h4⟩ => ⟨?_, h4⟩
    rw [h3, insAt, if_neg h0]
    have hq : kidIdx (ndAt c p).kids b = (((ndAt c p).kids.idxOf b.toNat : Nat) : Int) := by
      have hl := List.idxOf_lt_length_of_mem h2
      have := Lib.idxFrom_hit ((b.toNat : Nat) : Int) (kInts (ndAt c p).kids) ((ndAt c p).kids.idxOf b.toNat) 0 (by rw [kInts_len]; exact hl) (by simp [kInts, hl]) (fun j hj => ?_)
      · rw [Nat.zero_add, hbt] at this
        exact this
      · have hjl : j < (ndAt c p).kids.length := by omega
        have hne : ((ndAt c p).kids[j] == b.toNat) = false := by
          have := List.not_of_lt_findIdx (p := (· == b.toNat)) (xs := (ndAt c p).kids) hj
          simpa using this
        have hne : (ndAt c p).kids[j] ≠ b.toNat := by simpa using hne
        simp [kInts, hjl]
        omega
    rw [hq]
  · have hnt : ((n.toNat : Nat) : Int) = n := by omega
    have hvb : (w.alloc (.cells #[.int .i64 n] 3)).heap[w.heap.size]? = some (.cells #[natV n.toNat] 3 (0, 0)) := by
      rw [natV, hnt]; exact World.alloc_heap_new w _
    have hne : (Value.slice ka (ndAt c p).kids.length kc).ownBlock ≠ some w.heap.size := fun e => by have := ownsRow_lt hkr e; omega
    have hba : Below w.heap.size w (w.alloc (.cells #[.int .i64 n] 3)) := balloc w _
    have := kidInsert_any (ndAt c p).kids (insAt (ndAt c p).kids b) n.toNat _ w.heap.size _ (ownsRow_below hkr hba) hvb hne (insAt_ok fun h => (hb h).2) (by omega)
    refine this.mono fun e w' ⟨v', h1, h2, h3, h4⟩ => ?_
    obtain ⟨v1, v3, rfl⟩ := ownsRow_slice h2
    have hga : g'' < (w.alloc (.cells #[.int .i64 n] 3)).heap.size := Nat.lt_of_lt_of_le hgw hba.size
    have fp2 := hnp.fz 2 (by omega)
    have fi1 := hnn.fz 1 (by omega)
    refine ⟨v1, _, v3, ((ndAt c n).parent : Nat), h1, ?_, ?_, ?_, ?_, put_end hA hp hn hip hjn c0' hnp.c2 hba h4 h2 h3⟩
    · exact (h4.cell (p := ⟨g'', _, none⟩) hga far1).trans ((hba.cell (p := ⟨g'', _, none⟩) hgw).trans hnp.c2)
    · exact (h4.frozen (p := ⟨g'', _, none⟩) hga far1).trans ((hba.frozen (p := ⟨g'', _, none⟩) hgw).trans fp2)
    · exact (h4.cell (p := ⟨g'', _, none⟩) hga far1).trans ((hba.cell (p := ⟨g'', _, none⟩) hgw).trans hnn.c1)
    · exact (h4.frozen (p := ⟨g'', _, none⟩) hga far1).trans ((hba.frozen (p := ⟨g'', _, none⟩) hgw).trans fi1)
set_option maxRecDepth 100000 in
set_option maxHeartbeats 4000000 in
theorem Put_any (p n b : Int) (w : World) {B : AB} {O : List Nat} {ns : List Nd} (hA : ArW B O ns w) (hf : Fit ns) (hok : PutOk ns p n b) :
    Calls Tryz.prog 12 #[.pointer (some ⟨B, 0, none⟩), .int .i64 p, .int .i64 n, .int .i64 b] w (Did B O w (putE ns p n b) (putL ns p n b)) := by
  obtain ⟨W0, hW0⟩ : ∃ W0, w.alloc (.cells #[.int .i64 p, .int .i64 n] 3) = W0 := ⟨_, rfl⟩
  have b0 : Below w.heap.size w W0 := by rw [← hW0]; exact balloc w _
  have hbx : W0.heap[w.heap.size]? = some (.cells #[.int .i64 p, .int .i64 n] 3) := by rw [← hW0]; exact World.alloc_heap_new w _
  have hA0 := hA.later b0
  have H1 := check_any (B := B) (H := w.heap.size) (c := 2) [p, n] W0 hA0 (by intro j v hj; match j, hj with | 0, hj => simp at hj; subst hj; rw [cell_of_row _ _ _ _ _ _ hbx]; rfl | 1, hj => simp at hj; subst hj; rw [cell_of_row _ _ _ _ _ _ hbx]; rfl) (by simp)
  have HW := Lib.hid hW0
  by_cases hpn : isH ns.length p = true ∧ isH ns.length n = true
  · obtain ⟨hp, hn⟩ := hpn
    rw [show chkH ns.length [p, n] = 0 by simp [chkH, hp, hn]] at H1
    have H1 := Lib.hid H1
    have PE : putE ns p n b = if b ≠ 0 ∧ isH ns.length b = false then 3 else if ¬ mayParent (ndAt ns p).kind ∨ (ndAt ns n).kind = 1 ∨ (ndAt ns n).kind = 2 ∨ containsL ns n p = true then 4 else if b ≠ 0 ∧ (b = n ∨ ((ndAt ns b).parent : Int) ≠ p) then 5 else 0 := by
      rw [putE, if_neg (by simp [hp, hn])]
    by_cases hbb : b ≠ 0 ∧ isH ns.length b = false
    · rw [if_pos hbb] at PE
      have H2 := isH_any b W0 hA0
      rw [hbb.2] at H2
      have H2 := Lib.hid H2
      have hbz : (b != 0) = true := by simpa using hbb.1
      have HF := Lib.hid (show Did B O w (putE ns p n b) (putL ns p n b) (.returned (.int .i64 3)) W0 from ⟨by rw [PE], .inl ⟨by rw [PE]; decide, b0⟩⟩)
      clear hp hn PE hbb hA hA0 hf hok hbx b0 hW0
      go_enter Tryz.func12, Tryz.ntmps12
      go_wp2_with fail
      rw [HW.out]
      go_wp2_with (first | (go_at_call 44; refine H1.out.mono ?_; rintro e w1 ⟨rfl, rfl⟩) | (go_at_call 45; refine H2.out.mono ?_; rintro e w1 ⟨rfl, rfl⟩))
      go_ret
      exact HF.out
    · rw [if_neg hbb] at PE
      obtain ⟨g, cap, kvp, avp, ip, hip, hxp, c0, hnp, -, -, hatp⟩ := atW_any p W0 hA0 hp hf.len
      obtain ⟨g', cap', kvn, avn, jn, hjn, hxn, c0', hnn, -, -, hatn⟩ := atW_any n W0 hA0 hn hf.len
      have hgg : g' = g ∧ cap' = cap := by
        rw [c0] at c0'
        injection c0' with c0'
        injection c0' with e1 e2 e3
        injection e1 with e1
        injection e1 with e1
        exact ⟨e1.symm, e3.symm⟩
      obtain ⟨rfl, rfl⟩ := hgg
      have kp := hnp.c0
      have kn := hnn.c0
      obtain ⟨pk, hpk⟩ : ∃ k, (ndAt ns p).kind = k := ⟨_, rfl⟩
      obtain ⟨nk, hnk⟩ : ∃ k, (ndAt ns n).kind = k := ⟨_, rfl⟩
      rw [hpk] at kp PE
      rw [hnk] at kn PE
      have H3 := Lib.hid (hatp W0 rfl)
      have H4 := Lib.hid (hatn W0 rfl)
      have H5 := Lib.hid (Contains_any n p W0 hA0 hf.len hok.up)
      -- a refusal
      have HNo := Lib.hid (fun (er : Int) (w1 : World) (he : putE ns p n b = er) (hne : er ≠ 0) (hb : Below W0.heap.size W0 w1) => show Did B O w (putE ns p n b) (putL ns p n b) (.returned (.int .i64 er)) w1 from
        ⟨by rw [he], .inl ⟨by rw [he]; exact hne, bthen b0 b0.size hb⟩⟩)
      -- the end
      have hpn2 : containsL ns n p = false → p ≠ n := by
        rintro hc rfl
        obtain ⟨xs, hU⟩ := hok.up hp
        have hz : p ≠ 0 := by rintro rfl; simp [isH] at hp
        obtain ⟨_, ys, rfl, _⟩ := hU.step hz
        rw [containsL, hp, upOf_of hU] at hc
        simp at hc
      have HEnd := Lib.hid (fun (w1 : World) (hb : Below W0.heap.size W0 w1) (hc : containsL ns n p = false) (h5 : ¬ (b ≠ 0 ∧ (b = n ∨ ((ndAt ns b).parent : Int) ≠ p))) (he : putE ns p n b = 0) =>
        show Calls Tryz.prog 47 #[.pointer (some ⟨B, 0, none⟩), .int .i64 n] w1 fun e w2 => e = .returned (.tuple #[]) ∧ ∃ O' ka kc, PutMid w2 B O' (cutL ns n) p n b g' ip jn ka kc ∧
          ∀ w3, (∃ O'', ArW B O'' (putL ns p n b) w3 ∧ AStep O' w2 O'' w3) → Did B O w (putE ns p n b) (putL ns p n b) (.returned (.int .i64 0)) w3 from by
        refine (cut_any n w1 (hA0.later hb) hf.len (hok.cut hn)).mono ?_
        rintro e w2 ⟨rfl, hc0, O', hA2, hS2⟩
        have hcl := cutL_len ns n
        have hk2 := cutL_kids (hok.cut hn) hp (hpn2 hc)
        obtain ⟨ka, kc, hpm⟩ := put_mid (b := b) hA2 (by rw [hcl]; exact hp) (by rw [hcl]; exact hn) hip hjn (hc0.trans ((hb.cell (p := ⟨B, 0, none⟩) (World.block_lt_of_cell? _ _ c0)).trans c0)) (by
            rw [hk2]
            have := hf.kid1 p
            split
            · have := List.length_erase_le (a := n.toNat) (l := (ndAt ns p).kids); omega
            · exact this) (by
            intro h0
            have hb1 : isH ns.length b = true := by
              cases e : isH ns.length b
              · exact absurd ⟨h0, e⟩ hbb
              · rfl
            obtain ⟨q, hq, hq2⟩ := isH_iff.1 hb1
            obtain ⟨qn, hqn, hqn2⟩ := isH_iff.1 hn
            refine ⟨by omega, ?_⟩
            have hpar : ((ndAt ns b).parent : Int) = p := Classical.not_not.1 fun h => h5 ⟨h0, .inr h⟩
            have hbn : b ≠ n := fun h => h5 ⟨h0, .inl h⟩
            have hmem := hok.bef h0 hb1 hpar
            rw [hk2]
            split
            · exact (List.mem_erase_of_ne (by omega)).2 hmem
            · exact hmem)
        exact ⟨rfl, O', ka, kc, hpm, fun w3 ⟨O'', h1, h2⟩ => ⟨by rw [he], .inr ⟨he, O'', h1, astep_pre b0 ((astep_pre hb hS2).trans h2)⟩⟩⟩)
      have hBW : B < W0.heap.size := World.block_lt_of_cell? _ _ c0
      have HP := Lib.hid PE
      clear PE
      have H2 : Hid (b ≠ 0 → Calls Tryz.prog 45 #[.pointer (some ⟨B, 0, none⟩), .int .i64 b] W0 fun e w' => e = .returned (.bool true) ∧ W0 = w') := Lib.hid (fun h0 => by
        have := isH_any b W0 hA0
        cases e : isH ns.length b
        · exact absurd ⟨h0, e⟩ hbb
        · rw [e] at this; exact this)
      have H6 : Hid (b ≠ 0 → ∃ o pb, (ndAt ns b).parent = pb ∧ W0.cell? ⟨g', o * 13 + 1, none⟩ = some (.int .i64 (pb : Nat)) ∧ ∀ w', w'.cell? ⟨B, 0, none⟩ = W0.cell? ⟨B, 0, none⟩ → Calls Tryz.prog 37 #[.pointer (some ⟨B, 0, none⟩), .int .i64 b] w' fun e w'' => e = .returned (.pointer (some ⟨g', o * 13, none⟩)) ∧ w' = w'') := Lib.hid (fun h0 => by
        have hb1 : isH ns.length b = true := by
          cases e : isH ns.length b
          · exact absurd ⟨h0, e⟩ hbb
          · rfl
        obtain ⟨g'', cap'', kvb, avb, ob, -, -, c0'', hnb, -, -, hatb⟩ := atW_any b W0 hA0 hb1 hf.len
        have hg : g'' = g' := by rw [c0] at c0''; injection c0'' with c0''; injection c0'' with e1 e2 e3; injection e1 with e1; injection e1 with e1; exact e1.symm
        subst hg
        exact ⟨ob, _, rfl, hnb.c1, hatb⟩)
      have hgW : g' < W0.heap.size := World.block_lt_of_cell? _ _ hnp.c0
      clear hp hn hA hA0 hf hok hbx b0 hW0 hatp hatn hnp hnn c0 c0' hxp hxn hpk hnk hpn2 hip hjn hbb
      have HM : Hid (¬ mayParent pk ∨ ((pk != 1) = false ∨ ((pk != 1) = true ∧ (pk != 2) = false) ∨ ((pk != 1) = true ∧ (pk != 2) = true ∧ (pk != 4) = false))) := Lib.hid (by
        by_cases hm : mayParent pk
        · rcases hm with rfl | rfl | rfl
          · exact .inr (.inl rfl)
          · exact .inr (.inr (.inl ⟨rfl, rfl⟩))
          · exact .inr (.inr (.inr ⟨rfl, rfl, rfl⟩))
        · exact .inl hm)
      have HB : Hid ((b != 0) = false ∨ (b != 0) = true) := Lib.hid (by cases (b != 0) <;> simp)
      have HN : Hid ((nk == 1) = true ∨ ((nk == 1) = false ∧ (nk == 2) = true) ∨ ((nk == 1) = false ∧ (nk == 2) = false)) := Lib.hid (by cases (nk == 1) <;> cases (nk == 2) <;> simp)
      rcases HB.out with hb0 | hb0
      · clear HB
        rcases HM.out with hm | hm
        · have hm1 : (pk != 1) = true := by simp only [mayParent] at hm; simp; omega
          have hm2 : (pk != 2) = true := by simp only [mayParent] at hm; simp; omega
          have hm3 : (pk != 4) = true := by simp only [mayParent] at hm; simp; omega
          have HF := Lib.hid (HNo.out 4 W0 (HP.out.trans (if_pos (.inl hm))) (by decide) (Below.refl _ _))
          clear hm HM HN HP HEnd H5 H6 HNo
          go_enter Tryz.func12, Tryz.ntmps12
          go_wp2_with fail
          rw [HW.out]
          refine H1.out.mono ?_
          rintro e w1 ⟨rfl, rfl⟩
          go_wp2_with fail
          refine H3.out.mono ?_
          rintro e w1 ⟨rfl, rfl⟩
          go_wp2_with fail
          refine H4.out.mono ?_
          rintro e w1 ⟨rfl, rfl⟩
          go_wp2_with fail
          go_ret
          exact HF.out
        · clear HM
          rcases HN.out with h1 | ⟨h1, h2⟩ | ⟨h1, h2⟩
          · have HF := Lib.hid (HNo.out 4 W0 (HP.out.trans (if_pos (.inr (.inl (by simpa using h1))))) (by decide) (Below.refl _ _))
            clear HN HP HEnd H5 H6 HNo
            rcases hm with hm1 | ⟨hm1, hm2⟩ | ⟨hm1, hm2, hm3⟩
            all_goals
              go_enter Tryz.func12, Tryz.ntmps12
              go_wp2_with fail
              rw [HW.out]
              refine H1.out.mono ?_
              rintro e w1 ⟨rfl, rfl⟩
              go_wp2_with fail
              refine H3.out.mono ?_
              rintro e w1 ⟨rfl, rfl⟩
              go_wp2_with fail
              refine H4.out.mono ?_
              rintro e w1 ⟨rfl, rfl⟩
              go_wp2_with fail
              go_ret
              exact HF.out
          · have HF := Lib.hid (HNo.out 4 W0 (HP.out.trans (if_pos (.inr (.inr (.inl (by simpa using h2)))))) (by decide) (Below.refl _ _))
            clear HN HP HEnd H5 H6 HNo
            rcases hm with hm1 | ⟨hm1, hm2⟩ | ⟨hm1, hm2, hm3⟩
            all_goals
              go_enter Tryz.func12, Tryz.ntmps12
              go_wp2_with fail
              rw [HW.out]
              refine H1.out.mono ?_
              rintro e w1 ⟨rfl, rfl⟩
              go_wp2_with fail
              refine H3.out.mono ?_
              rintro e w1 ⟨rfl, rfl⟩
              go_wp2_with fail
              refine H4.out.mono ?_
              rintro e w1 ⟨rfl, rfl⟩
              go_wp2_with fail
              go_ret
              exact HF.out
          · have hm0 : mayParent pk := by
              rcases hm with hm1 | ⟨hm1, hm2⟩ | ⟨hm1, hm2, hm3⟩
              · exact .inl (by simpa using hm1)
              · exact .inr (.inl (by simpa using hm2))
              · exact .inr (.inr (by simpa using hm3))
            have HM := Lib.hid hm0
            clear HN hm0
            cases hc : containsL ns n p
            · rw [hc] at H5
              obtain rfl : b = 0 := by simpa using hb0
              have he : putE ns p n 0 = 0 := (HP.out.trans ((if_neg (by simp only [not_or]; exact ⟨fun h => h HM.out, by simpa using h1, by simpa using h2, by rw [hc]; decide⟩)).trans (if_neg (by simp))))
              have HE := Lib.hid (fun w1 hb => HEnd.out w1 hb hc (by simp) he)
              clear he hc HM HP HEnd H6 HNo H2 hb0
              rcases hm with hm1 | ⟨hm1, hm2⟩ | ⟨hm1, hm2, hm3⟩
              all_goals
                go_enter Tryz.func12, Tryz.ntmps12
                go_wp2_with fail
                rw [HW.out]
                refine H1.out.mono ?_
                rintro e w1 ⟨rfl, rfl⟩
                go_wp2_with fail
                refine H3.out.mono ?_
                rintro e w1 ⟨rfl, rfl⟩
                go_wp2_with fail
                refine H4.out.mono ?_
                rintro e w1 ⟨rfl, rfl⟩
                go_wp2_with fail
                refine H5.out.mono ?_
                rintro e w1 ⟨rfl, b1⟩
                go_wp2_with fail
                refine (HE.out w1 b1).mono ?_
                rintro e w2 ⟨rfl, O', ka, kc, hpm, hfin⟩
                have c2 := hpm.c2
                have hin := hpm.ins
                rw [show insAt (ndAt (cutL ns n) p).kids 0 = (ndAt (cutL ns n) p).kids.length from rfl] at hin
                have HIN := Lib.hid hin; have HFI := Lib.hid hfin
                clear hpm hin hfin b1
                go_wp2_with fail
                refine HIN.out.mono ?_
                rintro e w3 ⟨v1, v2, v3, pa, rfl, k1, k2, k3, k4, k5⟩
                have HF := Lib.hid (HFI.out _ k5)
                clear k5 HIN HFI
                have hslot : ¬ (jn * 13 + 1 = ip * 13 + 2) := by omega
                go_wp2_with fail
                go_ret
                exact HF.out
            · rw [hc] at H5
              have HF := Lib.hid (fun w1 hb => HNo.out 4 w1 (HP.out.trans (if_pos (.inr (.inr (.inr hc))))) (by decide) hb)
              clear hc HM HP HEnd H6 HNo
              rcases hm with hm1 | ⟨hm1, hm2⟩ | ⟨hm1, hm2, hm3⟩
              all_goals
                go_enter Tryz.func12, Tryz.ntmps12
                go_wp2_with fail
                rw [HW.out]
                refine H1.out.mono ?_
                rintro e w1 ⟨rfl, rfl⟩
                go_wp2_with fail
                refine H3.out.mono ?_
                rintro e w1 ⟨rfl, rfl⟩
                go_wp2_with fail
                refine H4.out.mono ?_
                rintro e w1 ⟨rfl, rfl⟩
                go_wp2_with fail
                refine H5.out.mono ?_
                rintro e w1 ⟨rfl, b1⟩
                go_wp2_with fail
                go_ret
                exact HF.out w1 b1
      · clear HB
        replace H2 := Lib.hid (H2.out (by simpa using hb0))
        rcases HM.out with hm | hm
        · have hm1 : (pk != 1) = true := by simp only [mayParent] at hm; simp; omega
          have hm2 : (pk != 2) = true := by simp only [mayParent] at hm; simp; omega
          have hm3 : (pk != 4) = true := by simp only [mayParent] at hm; simp; omega
          have HF := Lib.hid (HNo.out 4 W0 (HP.out.trans (if_pos (.inl hm))) (by decide) (Below.refl _ _))
          clear hm HM HN HP HEnd H5 H6 HNo
          go_enter Tryz.func12, Tryz.ntmps12
          go_wp2_with fail
          rw [HW.out]
          refine H1.out.mono ?_
          rintro e w1 ⟨rfl, rfl⟩
          go_wp2_with fail
          refine H2.out.mono ?_
          rintro e w1 ⟨rfl, rfl⟩
          go_wp2_with fail
          refine H3.out.mono ?_
          rintro e w1 ⟨rfl, rfl⟩
          go_wp2_with fail
          refine H4.out.mono ?_
          rintro e w1 ⟨rfl, rfl⟩
          go_wp2_with fail
          go_ret
          exact HF.out
        · clear HM
          rcases HN.out with h1 | ⟨h1, h2⟩ | ⟨h1, h2⟩
          · have HF := Lib.hid (HNo.out 4 W0 (HP.out.trans (if_pos (.inr (.inl (by simpa using h1))))) (by decide) (Below.refl _ _))
            clear HN HP HEnd H5 H6 HNo
            rcases hm with hm1 | ⟨hm1, hm2⟩ | ⟨hm1, hm2, hm3⟩
            all_goals
              go_enter Tryz.func12, Tryz.ntmps12
              go_wp2_with fail
              rw [HW.out]
              refine H1.out.mono ?_
              rintro e w1 ⟨rfl, rfl⟩
              go_wp2_with fail
              refine H2.out.mono ?_
              rintro e w1 ⟨rfl, rfl⟩
              go_wp2_with fail
              refine H3.out.mono ?_
              rintro e w1 ⟨rfl, rfl⟩
              go_wp2_with fail
              refine H4.out.mono ?_
              rintro e w1 ⟨rfl, rfl⟩
              go_wp2_with fail
              go_ret
              exact HF.out
          · have HF := Lib.hid (HNo.out 4 W0 (HP.out.trans (if_pos (.inr (.inr (.inl (by simpa using h2)))))) (by decide) (Below.refl _ _))
            clear HN HP HEnd H5 H6 HNo
            rcases hm with hm1 | ⟨hm1, hm2⟩ | ⟨hm1, hm2, hm3⟩
            all_goals
              go_enter Tryz.func12, Tryz.ntmps12
              go_wp2_with fail
              rw [HW.out]
              refine H1.out.mono ?_
              rintro e w1 ⟨rfl, rfl⟩
              go_wp2_with fail
              refine H2.out.mono ?_
              rintro e w1 ⟨rfl, rfl⟩
              go_wp2_with fail
              refine H3.out.mono ?_
              rintro e w1 ⟨rfl, rfl⟩
              go_wp2_with fail
              refine H4.out.mono ?_
              rintro e w1 ⟨rfl, rfl⟩
              go_wp2_with fail
              go_ret
              exact HF.out
          · have hm0 : mayParent pk := by
              rcases hm with hm1 | ⟨hm1, hm2⟩ | ⟨hm1, hm2, hm3⟩
              · exact .inl (by simpa using hm1)
              · exact .inr (.inl (by simpa using hm2))
              · exact .inr (.inr (by simpa using hm3))
            have HM := Lib.hid hm0
            clear HN hm0
            cases hc : containsL ns n p
            · rw [hc] at H5
              obtain ⟨ob, pb, hpb, kb, hatb⟩ := H6.out (by simpa using hb0)
              have HPB := Lib.hid hpb; have HAB := Lib.hid hatb
              clear hpb hatb H6
              cases hbn : (b == n)
              · cases hpp : ((pb : Int) != p)
                · have h5 : ¬ (b ≠ 0 ∧ (b = n ∨ ((ndAt ns b).parent : Int) ≠ p)) := by
                    rintro ⟨_, h | h⟩
                    · simp [h] at hbn
                    · rw [HPB.out] at h; simp at hpp; exact h hpp
                  have he : putE ns p n b = 0 := (HP.out.trans ((if_neg (by simp only [not_or]; exact ⟨fun h => h HM.out, by simpa using h1, by simpa using h2, by rw [hc]; decide⟩)).trans (if_neg h5)))
                  have HE := Lib.hid (fun w1 hb => HEnd.out w1 hb hc h5 he)
                  have hbz : b ≠ 0 := by simpa using hb0
                  clear he h5 hc HM HP HEnd HNo HPB
                  rcases hm with hm1 | ⟨hm1, hm2⟩ | ⟨hm1, hm2, hm3⟩
                  all_goals
                    go_enter Tryz.func12, Tryz.ntmps12
                    go_wp2_with fail
                    rw [HW.out]
                    refine H1.out.mono ?_
                    rintro e w1 ⟨rfl, rfl⟩
                    go_wp2_with fail
                    refine H2.out.mono ?_
                    rintro e w1 ⟨rfl, rfl⟩
                    go_wp2_with fail
                    refine H3.out.mono ?_
                    rintro e w1 ⟨rfl, rfl⟩
                    go_wp2_with fail
                    refine H4.out.mono ?_
                    rintro e w1 ⟨rfl, rfl⟩
                    go_wp2_with fail
                    refine H5.out.mono ?_
                    rintro e w1 ⟨rfl, b1⟩
                    have kb1 := (b1.cell (p := ⟨g', _, none⟩) hgW).trans kb
                    have HA1 := Lib.hid (HAB.out w1 (b1.cell (p := ⟨B, 0, none⟩) hBW))
                    go_wp2_with fail
                    refine HA1.out.mono ?_
                    rintro e w2 ⟨rfl, rfl⟩
                    go_wp2_with fail
                    refine (HE.out w1 b1).mono ?_
                    rintro e w2 ⟨rfl, O', ka, kc, hpm, hfin⟩
                    have c2 := hpm.c2
                    have HIX := Lib.hid (hpm.ix hbz)
                    have HIN := Lib.hid hpm.ins; have HFI := Lib.hid hfin
                    clear hpm hfin b1 HA1 hbz
                    go_wp2_with fail
                    refine HIX.out.mono ?_
                    rintro e w3 ⟨rfl, rfl⟩
                    go_wp2_with fail
                    refine HIN.out.mono ?_
                    rintro e w3 ⟨v1, v2, v3, pa, rfl, k1, k2, k3, k4, k5⟩
                    have HF := Lib.hid (HFI.out _ k5)
                    clear k5 HIN HFI
                    have hslot : ¬ (jn * 13 + 1 = ip * 13 + 2) := by omega
                    go_wp2_with fail
                    go_ret
                    exact HF.out
                · have HF := Lib.hid (fun w1 hb => HNo.out 5 w1 (HP.out.trans ((if_neg (by simp only [not_or]; exact ⟨fun h => h HM.out, by simpa using h1, by simpa using h2, by rw [hc]; decide⟩)).trans (if_pos ⟨by simpa using hb0, .inr (by rw [HPB.out]; simpa using hpp)⟩))) (by decide) hb)
                  clear hc HM HP HEnd HNo HPB
                  rcases hm with hm1 | ⟨hm1, hm2⟩ | ⟨hm1, hm2, hm3⟩
                  all_goals
                    go_enter Tryz.func12, Tryz.ntmps12
                    go_wp2_with fail
                    rw [HW.out]
                    refine H1.out.mono ?_
                    rintro e w1 ⟨rfl, rfl⟩
                    go_wp2_with fail
                    refine H2.out.mono ?_
                    rintro e w1 ⟨rfl, rfl⟩
                    go_wp2_with fail
                    refine H3.out.mono ?_
                    rintro e w1 ⟨rfl, rfl⟩
                    go_wp2_with fail
                    refine H4.out.mono ?_
                    rintro e w1 ⟨rfl, rfl⟩
                    go_wp2_with fail
                    refine H5.out.mono ?_
                    rintro e w1 ⟨rfl, b1⟩
                    have kb1 := (b1.cell (p := ⟨g', _, none⟩) hgW).trans kb
                    have HA1 := Lib.hid (HAB.out w1 (b1.cell (p := ⟨B, 0, none⟩) hBW))
                    go_wp2_with fail
                    refine HA1.out.mono ?_
                    rintro e w2 ⟨rfl, rfl⟩
                    go_wp2_with fail
                    go_ret
                    exact HF.out w1 b1
              · have HF := Lib.hid (fun w1 hb => HNo.out 5 w1 (HP.out.trans ((if_neg (by simp only [not_or]; exact ⟨fun h => h HM.out, by simpa using h1, by simpa using h2, by rw [hc]; decide⟩)).trans (if_pos ⟨by simpa using hb0, .inl (by simpa using hbn)⟩))) (by decide) hb)
                clear hc HM HP HEnd HNo HPB HAB kb
                rcases hm with hm1 | ⟨hm1, hm2⟩ | ⟨hm1, hm2, hm3⟩
                all_goals
                  go_enter Tryz.func12, Tryz.ntmps12
                  go_wp2_with fail
                  rw [HW.out]
                  refine H1.out.mono ?_
                  rintro e w1 ⟨rfl, rfl⟩
                  go_wp2_with fail
                  refine H2.out.mono ?_
                  rintro e w1 ⟨rfl, rfl⟩
                  go_wp2_with fail
                  refine H3.out.mono ?_
                  rintro e w1 ⟨rfl, rfl⟩
                  go_wp2_with fail
                  refine H4.out.mono ?_
                  rintro e w1 ⟨rfl, rfl⟩
                  go_wp2_with fail
                  refine H5.out.mono ?_
                  rintro e w1 ⟨rfl, b1⟩
                  go_wp2_with fail
                  go_ret
                  exact HF.out w1 b1
            · rw [hc] at H5
              have HF := Lib.hid (fun w1 hb => HNo.out 4 w1 (HP.out.trans (if_pos (.inr (.inr (.inr hc))))) (by decide) hb)
              clear hc HM HP HEnd H6 HNo
              rcases hm with hm1 | ⟨hm1, hm2⟩ | ⟨hm1, hm2, hm3⟩
              all_goals
                go_enter Tryz.func12, Tryz.ntmps12
                go_wp2_with fail
                rw [HW.out]
                refine H1.out.mono ?_
                rintro e w1 ⟨rfl, rfl⟩
                go_wp2_with fail
                refine H2.out.mono ?_
                rintro e w1 ⟨rfl, rfl⟩
                go_wp2_with fail
                refine H3.out.mono ?_
                rintro e w1 ⟨rfl, rfl⟩
                go_wp2_with fail
                refine H4.out.mono ?_
                rintro e w1 ⟨rfl, rfl⟩
                go_wp2_with fail
                refine H5.out.mono ?_
                rintro e w1 ⟨rfl, b1⟩
                go_wp2_with fail
                go_ret
                exact HF.out w1 b1
  · rw [show chkH ns.length [p, n] = 3 by cases h1 : isH ns.length p <;> cases h2 : isH ns.length n <;> first | (simp [chkH, h1, h2]; done) | exact absurd ⟨h1, h2⟩ hpn] at H1
    have PE : putE ns p n b = 3 := by
      rw [putE, if_pos]
      cases h1 : isH ns.length p
      · exact .inl rfl
      · cases h2 : isH ns.length n
        · exact .inr rfl
        · exact absurd ⟨h1, h2⟩ hpn
    have HF := Lib.hid (show Did B O w (putE ns p n b) (putL ns p n b) (.returned (.int .i64 3)) W0 from ⟨by rw [PE], .inl ⟨by rw [PE]; decide, b0⟩⟩)
    have H1 := Lib.hid H1
    clear PE hpn hA hA0 hf hok hbx b0 hW0
    go_enter Tryz.func12, Tryz.ntmps12
    go_wp2_with fail
    rw [HW.out]
    go_wp2_with (refine H1.out.mono ?_; rintro e w1 ⟨rfl, rfl⟩)
    go_ret
    exact HF.out
end Go.Proofs.YtdapdadcninidaaGreatDoor
namespace Go.Proofs.YtdapdadcninidaaGreatDoor
open Go.RowKit

/-- From w on: the arena's own blocks were O, are O1 now; n local blocks lie behind w. -/
structure Loc (B : AB) (n : Nat) (O : List Nat) (w : World) (O1 : List Nat) (ns1 : List Nd) (w1 : World) : Prop where
  ar : ArW B O1 ns1 w1
  md : Mod (· ∈ O) w w1
  ow : ∀ k ∈ O1, k ∈ O ∨ w.heap.size + n ≤ k
  sz : w.heap.size + n ≤ w1.heap.size
  lo : ∀ k ∈ O, k < w.heap.size
theorem Loc.start {B : AB} {n : Nat} {O : List Nat} {ns : List Nd} {w w1 : World} (hA : ArW B O ns w) (hb : Below w.heap.size w w1) (hs : w1.heap.size = w.heap.size + n) : Loc B n O w O ns w1 :=
  ⟨hA.later hb, Mod.of_below hb, fun _ h => .inl h, by omega, fun _ hk => hA.lt hk⟩
theorem Loc.call {B : AB} {n : Nat} {O O1 O2 : List Nat} {ns1 ns2 : List Nd} {w w1 w2 : World} (h : Loc B n O w O1 ns1 w1) (hA : ArW B O2 ns2 w2) (hs : AStep O1 w1 O2 w2) : Loc B n O w O2 ns2 w2 := by
  obtain ⟨h1, h2, h3, h4, h5⟩ := h
  refine ⟨hA, ⟨hs.mod.os.trans h2.os, hs.mod.tape.trans h2.tape, hs.mod.output.trans h2.output, Nat.le_trans h2.size hs.mod.size, fun k hk hO => ?_⟩, fun k hk => ?_, Nat.le_trans h4 hs.mod.size, h5⟩
  · refine (hs.mod.block k (by omega) fun hk1 => ?_).trans (h2.block k hk hO)
    rcases h3 k hk1 with h | h
    · exact hO h
    · omega
  · rcases hs.own k hk with h | h
    · exact h3 k h
    · exact .inr (by omega)
/-- A call keeps the local blocks. -/
theorem Loc.keep {B : AB} {n : Nat} {O O1 O2 : List Nat} {ns1 : List Nd} {w w1 w2 : World} (h : Loc B n O w O1 ns1 w1) (hs : AStep O1 w1 O2 w2) {b : Nat} (hb : w.heap.size ≤ b ∧ b < w.heap.size + n) : w2.heap[b]? = w1.heap[b]? :=
  hs.mod.block b (by have := h.sz; omega) fun hk => by
    rcases h.ow b hk with h1 | h1
    · have := h.lo b h1; omega
    · omega
theorem Loc.below {B : AB} {n : Nat} {O O1 : List Nat} {ns1 : List Nd} {w w1 w2 : World} (h : Loc B n O w O1 ns1 w1) (hb : Below w1.heap.size w1 w2) : Loc B n O w O1 ns1 w2 :=
  h.call (h.ar.later hb) ⟨Mod.of_below hb, fun _ hk => .inl hk⟩
theorem Loc.set {B : AB} {n : Nat} {O O1 : List Nat} {ns1 : List Nd} {w w1 : World} (h : Loc B n O w O1 ns1 w1) {b o : Nat} (v : Value) (hb : w.heap.size ≤ b ∧ b < w.heap.size + n) : Loc B n O w O1 ns1 (w1.setCell ⟨b, o, none⟩ v) := by
  obtain ⟨h1, h2, h3, h4, h5⟩ := h
  have hm : Mod (fun k => k = b) w1 (w1.setCell ⟨b, o, none⟩ v) := Mod.setCell _ _ rfl
  refine ⟨h1.kept hm fun k hk e => ?_, ⟨hm.os.trans h2.os, hm.tape.trans h2.tape, hm.output.trans h2.output, Nat.le_trans h2.size hm.size, fun k hk hO => (hm.block k (by omega) (by omega)).trans (h2.block k hk hO)⟩, h3, Nat.le_trans h4 hm.size, h5⟩
  subst e
  rcases h3 k hk with h | h
  · have := h5 k h; omega
  · omega
theorem Loc.drew {B : AB} {n : Nat} {O O1 : List Nat} {ns1 : List Nd} {w w1 : World} (h : Loc B n O w O1 ns1 w1) : Loc B n O w O1 ns1 w1.drew := h.below ⟨rfl, rfl, rfl, Nat.le_refl _, fun _ _ => rfl⟩
theorem Loc.step {B : AB} {n : Nat} {O O1 : List Nat} {ns1 : List Nd} {w w1 : World} (h : Loc B n O w O1 ns1 w1) : AStep O w O1 w1 :=
  ⟨h.md, fun k hk => (h.ow k hk).imp id fun h => by omega⟩
/-- A call that sets something, as one step. -/
theorem Did.step {B : AB} {O : List Nat} {ns ns' : List Nd} {w w' : World} {er : Int} {e : Ending} (hA : ArW B O ns w) (h : Did B O w er ns' e w') : ∃ O', ArW B O' (if er = 0 then ns' else ns) w' ∧ AStep O w O' w' := by
  rcases h.2 with ⟨h1, h2⟩ | ⟨h1, O', h2, h3⟩
  · rw [if_neg h1]
    exact ⟨O, hA.later h2, Mod.of_below h2, fun _ hk => .inl hk⟩
  · rw [if_pos h1]
    exact ⟨O', h2, h3⟩
theorem heap_cell {w w' : World} {b : Nat} (h : w'.heap[b]? = w.heap[b]?) (o : Nat) : w'.cell? ⟨b, o, none⟩ = w.cell? ⟨b, o, none⟩ := World.cell?_of_block (w := w) h
theorem heap_frozen {w w' : World} {b : Nat} (h : w'.heap[b]? = w.heap[b]?) (o : Nat) : w'.frozen? ⟨b, o, none⟩ = w.frozen? ⟨b, o, none⟩ := World.frozen?_of_block (w := w) h
end Go.Proofs.YtdapdadcninidaaGreatDoor
namespace Go.Proofs.YtdapdadcninidaaGreatDoor
open Go.RowKit
attribute [local go_sem ↓] Go.wp_at_zero Go.wp_at_succ

/-- An item of the stack of open elements. -/
structure It where
  node : Nat := 0
  space : Int := 0
  name : List UInt8 := []
  point : Bool := false
def itV (x : It) : Value := .agg #[.int .i64 (x.node : Nat), .int .i64 x.space, .string ⟨x.name.toArray⟩, .bool x.point]
def itCells (l : List It) : List Value := l.flatMap fun x => [.int .i64 (x.node : Nat), .int .i64 x.space, .string ⟨x.name.toArray⟩, .bool x.point]
theorem itCells_len (l : List It) : (itCells l).length = l.length * 4 := by
  induction l with
  | nil => rfl
  | cons x l ih => simp only [itCells, List.flatMap_cons, List.length_append, List.length_cons] at ih ⊢; rw [ih]; simp; omega
theorem itCells_app (l m : List It) : itCells (l ++ m) = itCells l ++ itCells m := by simp [itCells]
theorem itCells_at : ∀ (l : List It) (j : Nat) (y : It), l[j]? = some y → (itCells l)[j * 4]? = some (.int .i64 (y.node : Nat)) ∧ (itCells l)[j * 4 + 1]? = some (.int .i64 y.space) ∧ (itCells l)[j * 4 + 2]? = some (.string ⟨y.name.toArray⟩) ∧ (itCells l)[j * 4 + 3]? = some (.bool y.point)
  | [], _, _, h => by simp at h
  | x :: l, 0, y, h => by
    obtain rfl : x = y := by simpa using h
    exact ⟨rfl, rfl, rfl, rfl⟩
  | x :: l, j + 1, y, h => by
    have ih := itCells_at l j y (by simpa using h)
    rw [show (j + 1) * 4 = j * 4 + 4 by omega]
    exact ih
/-- The items that a slice shows. -/
def ItsAt (w : World) (a : Option Addr) (l : List It) : Prop := ∀ j y, l[j]? = some y → ∃ g, a = some ⟨g, 0, none⟩ ∧ w.cell? ⟨g, j * 4, none⟩ = some (.int .i64 (y.node : Nat)) ∧ w.cell? ⟨g, j * 4 + 1, none⟩ = some (.int .i64 y.space) ∧ w.cell? ⟨g, j * 4 + 2, none⟩ = some (.string ⟨y.name.toArray⟩) ∧ w.cell? ⟨g, j * 4 + 3, none⟩ = some (.bool y.point)
theorem ItsAt.own {w : World} {b c : Nat} {a : Option Addr} {l : List It} (h : w.ownsRow b 66 4 (.slice a l.length c) l.length (itCells l)) : ItsAt w a l := by
  intro j y hj
  have hl := (List.getElem?_eq_some_iff.1 hj).1
  obtain ⟨h1, ⟨h2, h3⟩ | ⟨g, cap, cur, h2, h3, h4, h5, h6, h7, h8⟩⟩ := h
  · omega
  · cases h2
    obtain ⟨c0, c1, c2, c3⟩ := itCells_at l j y hj
    have hn := itCells_len l
    have get : ∀ i v, (itCells l)[i]? = some v → i < l.length * 4 → w.cell? ⟨g, i, none⟩ = some v := fun i v hv hi => by
      rw [cell_of_row w g _ cur _ _ h4, ← Array.getElem?_toList]
      rw [← h8, List.getElem?_take] at hv
      by_cases hi2 : i < l.length * 4
      · rw [if_pos (by omega)] at hv; exact hv
      · exact absurd hi hi2
    exact ⟨g, rfl, get _ _ c0 (by omega), get _ _ c1 (by omega), get _ _ c2 (by omega), get _ _ c3 (by omega)⟩
theorem ItsAt.later {w w' : World} {a : Option Addr} {l : List It} (h : ItsAt w a l) (hb : Below w.heap.size w w') : ItsAt w' a l := by
  intro j y hj
  obtain ⟨g, e, c0, c1, c2, c3⟩ := h j y hj
  have hg := World.block_lt_of_cell? _ _ c0
  exact ⟨g, e, (hb.cell (p := ⟨g, j * 4, none⟩) hg).trans c0, (hb.cell (p := ⟨g, j * 4 + 1, none⟩) hg).trans c1, (hb.cell (p := ⟨g, j * 4 + 2, none⟩) hg).trans c2, (hb.cell (p := ⟨g, j * 4 + 3, none⟩) hg).trans c3⟩
set_option maxRecDepth 100000 in
theorem sLen_any (w : World) {b o n c : Nat} {a : Option Addr} (h : w.cell? ⟨b, o, none⟩ = some (.slice a n c)) :
    Calls Tryz.prog 24 #[.pointer (some ⟨b, o, none⟩)] w fun e w' => e = .returned (.int .i64 (n : Nat)) ∧ w = w' := by
  go_enter Tryz.func24, Tryz.ntmps24
  go_wp2
  go_ret
  exact ⟨rfl, rfl⟩
theorem ret_it {P : Program} {f : Func} {w W : World} {a : Act} {x : It} (hr : (results f a.tmps).run P W = .ok (itV x) W) (hd : a.defers = []) (hb : Below w.heap.size w W) : bodyPost P f (Ret w (itV x)) .ret a W :=
  bodyPost_ret hr hd (Ret.mk rfl hb)
def itAt (l : List It) (i : Int) : It := if 0 ≤ i then l.getD i.toNat {} else {}
set_option maxRecDepth 100000 in
set_option maxHeartbeats 1000000 in
theorem sAt_any (i : Int) (l : List It) (w : World) {b o c : Nat} {a : Option Addr} (hl : l.length ≤ 1000000) (h : w.cell? ⟨b, o, none⟩ = some (.slice a l.length c)) (hc : ItsAt w a l) :
    Calls Tryz.prog 113 #[.pointer (some ⟨b, o, none⟩), .int .i64 i] w (Ret w (itV (itAt l i))) := by
  have hblt := World.block_lt_of_cell? _ _ h
  have H1 := Lib.hid (fun w' (hb : Below w.heap.size w w') => sLen_any w' ((hb.cell (p := ⟨b, o, none⟩) hblt).trans h))
  have HC := Lib.hid hc
  have HB0 := Lib.hid (fun o => balloc w o)
  clear hc
  by_cases h0 : i < 0
  · have hv : itAt l i = {} := by rw [itAt, if_neg (by omega)]
    rw [hv]
    clear hv
    go_enter Tryz.func113, Tryz.ntmps113
    go_wp2_with fail
    exact ret_it (x := {}) (results_cell_row rfl _ _ w.heap.size _ _ (0, 0) _ rfl (World.alloc_heap_new w _) Tryz.underlying66 rfl (by kernel_rfl)) rfl (HB0.out _)
  · obtain ⟨j, rfl⟩ : ∃ j : Nat, i = (j : Int) := ⟨i.toNat, by omega⟩
    by_cases h1 : j < l.length
    · have hv : itAt l (j : Int) = l[j] := by rw [itAt, if_pos (by omega), Int.toNat_natCast, List.getD_eq_getElem?_getD, List.getElem?_eq_getElem h1]; rfl
      obtain ⟨g, rfl, c0, c1, c2, c3⟩ := HC.out j l[j] (List.getElem?_eq_getElem h1)
      rw [hv]
      obtain ⟨z, hz⟩ : ∃ z, l[j] = z := ⟨_, rfl⟩
      rw [hz] at c0 c1 c2 c3 ⊢
      clear hv hz
      have hg := World.block_lt_of_cell? _ _ c0
      dsimp only at hg
      obtain ⟨z0, z1, z2, z3⟩ := z
      dsimp only at c0 c1 c2 c3
      unfold itV
      dsimp only
      have hji : (j : Int) < (l.length : Int) := by omega
      have hjg : ¬ ((l.length : Int) ≤ (j : Int)) := by omega
      go_enter Tryz.func113, Tryz.ntmps113
      go_wp2_with fail
      refine (H1.out _ (HB0.out _)).mono ?_
      rintro e w1 ⟨rfl, rfl⟩
      go_wp2_with fail
      exact ret_it (x := ⟨z0, z1, z2, z3⟩) (results_cell_row rfl _ _ w.heap.size _ _ (0, 0) _ rfl (World.alloc_heap_new w _) Tryz.underlying66 rfl (by kernel_rfl)) rfl (HB0.out _)
    · have hv : itAt l (j : Int) = {} := by rw [itAt, if_pos (by omega), Int.toNat_natCast, List.getD_eq_getElem?_getD, List.getElem?_eq_none (by omega)]; rfl
      rw [hv]
      have hjg : (l.length : Int) ≤ (j : Int) := by omega
      clear hv
      go_enter Tryz.func113, Tryz.ntmps113
      go_wp2_with fail
      refine (H1.out _ (HB0.out _)).mono ?_
      rintro e w1 ⟨rfl, rfl⟩
      go_wp2_with fail
      exact ret_it (x := {}) (results_cell_row rfl _ _ w.heap.size _ _ (0, 0) _ rfl (World.alloc_heap_new w _) Tryz.underlying66 rfl (by kernel_rfl)) rfl (HB0.out _)
/-- An item is stored into a result's cells. -/
theorem it_stored (x : It) {w2 : World} {b : Nat} {T : TypeId} {v0 v1 v2 v3 : Value} (h : w2.heap[b]? = some (.cells #[v0, v1, v2, v3] T (0, 0))) :
    ((((w2.setCell ⟨b, 0, none⟩ (.int .i64 (x.node : Nat))).setCell ⟨b, 1, none⟩ (.int .i64 x.space)).setCell ⟨b, 2, none⟩ (.string ⟨x.name.toArray⟩)).setCell ⟨b, 3, none⟩ (.bool x.point)).heap[b]? =
      some (.cells #[.int .i64 (x.node : Nat), .int .i64 x.space, .string ⟨x.name.toArray⟩, .bool x.point] T (0, 0)) := by
  have h0 := Joins.block_setCell (i := 0) h (.int .i64 (x.node : Nat))
  have h1 := Joins.block_setCell (i := 1) h0 (.int .i64 x.space)
  have h2 := Joins.block_setCell (i := 2) h1 (.string ⟨x.name.toArray⟩)
  have h3 := Joins.block_setCell (i := 3) h2 (.bool x.point)
  rw [h3]; rfl
theorem it_stored_below (x : It) {n : Nat} {w w2 : World} {b : Nat} (hb : Below n w w2) (hn : n ≤ b) :
    Below n w ((((w2.setCell ⟨b, 0, none⟩ (.int .i64 (x.node : Nat))).setCell ⟨b, 1, none⟩ (.int .i64 x.space)).setCell ⟨b, 2, none⟩ (.string ⟨x.name.toArray⟩)).setCell ⟨b, 3, none⟩ (.bool x.point)) :=
  (((hb.setCell hn _).setCell hn _).setCell hn _).setCell hn _
set_option maxRecDepth 100000 in
theorem sTop_any (l : List It) (w : World) {b o c : Nat} {a : Option Addr} (hl : l.length ≤ 1000000) (h : w.cell? ⟨b, o, none⟩ = some (.slice a l.length c)) (hc : ItsAt w a l) :
    Calls Tryz.prog 63 #[.pointer (some ⟨b, o, none⟩)] w (Ret w (itV (itAt l (l.length - 1)))) := by
  have hblt := World.block_lt_of_cell? _ _ h
  have H1 := Lib.hid (fun w' (hb : Below w.heap.size w w') => sLen_any w' ((hb.cell (p := ⟨b, o, none⟩) hblt).trans h))
  have H2 := Lib.hid (fun w' (hb : Below w.heap.size w w') => sAt_any ((l.length : Int) - 1) l w' hl ((hb.cell (p := ⟨b, o, none⟩) hblt).trans h) (hc.later hb))
  have HB0 := Lib.hid (fun o => balloc w o)
  generalize itAt l ((l.length : Int) - 1) = z at *
  clear hc
  unfold itV at *
  go_enter Tryz.func63, Tryz.ntmps63
  go_wp2_with fail
  refine (H1.out _ (HB0.out _)).mono ?_
  rintro e w1 ⟨rfl, rfl⟩
  go_wp2_with fail
  generalize hW : w.alloc _ = W0
  have hx : W0.heap[w.heap.size]? = some (.cells #[.int .i64 0, .int .i64 0, .string ⟨#[]⟩, .bool false] 66 (0, 0)) := by rw [← hW]; exact World.alloc_heap_new w _
  have hb0 : Below w.heap.size w W0 := by rw [← hW]; exact balloc w _
  refine (H2.out _ hb0).mono ?_
  rintro e w1 ⟨rfl, b1⟩
  have hxl := (Array.getElem?_eq_some_iff.1 hx).1
  have hx1 := (b1.block _ hxl).trans hx
  have hb1 := bthen hb0 hb0.size b1
  have d0 : w1.cell? ⟨w.heap.size, 0, none⟩ = some (.int .i64 0) := by rw [cell_of_row _ _ _ _ _ _ hx1]; rfl
  have d1 : w1.cell? ⟨w.heap.size, 1, none⟩ = some (.int .i64 0) := by rw [cell_of_row _ _ _ _ _ _ hx1]; rfl
  have d2 : w1.cell? ⟨w.heap.size, 2, none⟩ = some (.string ⟨#[]⟩) := by rw [cell_of_row _ _ _ _ _ _ hx1]; rfl
  have d3 : w1.cell? ⟨w.heap.size, 3, none⟩ = some (.bool false) := by rw [cell_of_row _ _ _ _ _ _ hx1]; rfl
  have df : ∀ j, w1.frozen? ⟨w.heap.size, j, none⟩ = false := fun j => Lib.frozen_of_heap hx1 j
  have HS := Lib.hid (it_stored z hx1); have HB := Lib.hid (it_stored_below z hb1 (Nat.le_refl _))
  clear hW hx hb0 b1 hxl hx1 hb1 H1 H2
  go_wp2_with fail
  exact ret_it (x := z) (results_cell_row rfl _ _ w.heap.size _ _ (0, 0) _ rfl HS.out Tryz.underlying66 rfl (by kernel_rfl)) rfl HB.out
end Go.Proofs.YtdapdadcninidaaGreatDoor
