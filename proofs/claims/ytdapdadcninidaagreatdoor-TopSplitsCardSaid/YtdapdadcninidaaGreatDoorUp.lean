/- Package arena: the way up from a node, and Contains. -/
import Derived.Test.YtdapdadcninidaaGreatDoorAra
import Derived.Test.YtdapdadcninidaaGreatDoorItp
namespace Go.Proofs.YtdapdadcninidaaGreatDoor
open Go.RowKit
attribute [local go_sem] Oper.semAt_some

/-- The next node on the way up. -/
def upN (ns : List Nd) (ho : Bool) (h : Int) : Int := if (ndAt ns h).parent = 0 ∧ ho = true then (ndAt ns h).host else (ndAt ns h).parent
/-- The way up from a node, which ends. -/
inductive Up (ns : List Nd) (ho : Bool) : Int → List Int → Prop
  | done : Up ns ho 0 []
  | more {h : Int} {xs : List Int} : isH ns.length h = true → Up ns ho (upN ns ho h) xs → Up ns ho h (h :: xs)
theorem Up.zero {ns : List Nd} {ho : Bool} {xs : List Int} (h : Up ns ho 0 xs) : xs = [] := by
  cases h with
  | done => rfl
  | more h1 _ => simp [isH] at h1
theorem Up.step {ns : List Nd} {ho : Bool} {h : Int} {xs : List Int} (hU : Up ns ho h xs) (hz : h ≠ 0) : isH ns.length h = true ∧ ∃ ys, xs = h :: ys ∧ Up ns ho (upN ns ho h) ys := by
  cases hU with
  | done => exact absurd rfl hz
  | more h1 h2 => exact ⟨h1, _, rfl, h2⟩
theorem Up.one {ns : List Nd} {ho : Bool} {h : Int} {xs ys : List Int} (hU : Up ns ho h xs) (hV : Up ns ho h ys) : xs = ys := by
  induction hU generalizing ys with
  | done => exact hV.zero.symm
  | more h1 _ ih => cases hV with
    | done => simp [isH] at h1
    | more _ h2 => rw [ih h2]
open Classical in
/-- The length of the way up. -/
noncomputable def upLen (ns : List Nd) (ho : Bool) (h : Int) : Nat := if e : ∃ ys, Up ns ho h ys then e.choose.length else 0
theorem upLen_of {ns : List Nd} {ho : Bool} {h : Int} {xs : List Int} (hU : Up ns ho h xs) : upLen ns ho h = xs.length := by
  have e : ∃ ys, Up ns ho h ys := ⟨xs, hU⟩
  rw [upLen, dif_pos e, hU.one e.choose_spec]
/-- Only its own blocks count. -/
theorem ArW.same {B : Nat} {O : List Nat} {ns : List Nd} {w W : World} (h : ArW B O ns w) (hs : w.heap.size ≤ W.heap.size) (hb : ∀ k ∈ O, W.heap[k]? = w.heap[k]?) : ArW B O ns W := by
  have hm : Mod (fun k => k ∉ O) w { w with heap := W.heap } := ⟨rfl, rfl, rfl, hs, fun k _ hk => hb k (Classical.not_not.1 hk)⟩
  obtain ⟨tab, inv, L, h1, h2, h3⟩ := h.kept hm fun k hk hn => hn hk
  exact ⟨tab, inv, L, ⟨h1.hd, h1.row, h1.kid, h1.att, h1.nd⟩, h2, h3⟩
set_option maxRecDepth 100000 in
set_option maxHeartbeats 400000 in
theorem up_iter (ho : Bool) (h : Int) (xs : List Int) (n : Nat) (hn : 3 ≤ n) (w : World) {B hb ab sb : Nat} {O : List Nat} {ns : List Nd} (hA : ArW B O ns w) (hl : ns.length ≤ 1000000) (hU : Up ns ho h xs)
    (c1 : w.heap[hb]? = some (.cells #[.int .i64 h] 3 (0, 0))) (c2 : w.cell? ⟨ab, 0, none⟩ = some (.pointer (some ⟨B, 0, none⟩))) (c3 : w.cell? ⟨sb, 0, none⟩ = some (.bool ho)) (hbO : hb ∉ O) (hba : hb ≠ ab) (hbs : hb ≠ sb) :
    IterP Fence.wide n Tryz.prog 138 #[.pointer (some ⟨hb, 0, none⟩), .pointer (some ⟨ab, 0, none⟩), .pointer (some ⟨sb, 0, none⟩)] (fun x : Int => #[.int .i64 x]) xs (fun k => k = hb)
      (fun W => ArW B O ns W ∧ W.cell? ⟨ab, 0, none⟩ = some (.pointer (some ⟨B, 0, none⟩)) ∧ W.cell? ⟨sb, 0, none⟩ = some (.bool ho)) w := by
  intro lp J Jx W hsz hJ hJx hP hY h0
  have hbl : hb < w.heap.size := (Array.getElem?_eq_some_iff.1 c1).1
  have e1 : W.heap[hb]? = some (.cells #[.int .i64 h] 3 (0, 0)) := (hsz.block hb hbl).trans c1
  have hs0 := hsz.size
  have HJ := Lib.hid hJ; have HJX := Lib.hid hJx; have HY := Lib.hid hY; have H0 := Lib.hid (h0 W.heap.size (Nat.le_refl _)); have HP := Lib.hid hP
  clear hJ hJx hY h0 hA c1 c2 c3 hP hsz
  obtain ⟨n1, hn1⟩ : ∃ n1, n1 = W.heap.size := ⟨_, rfl⟩
  rw [← hn1] at H0
  refine callsIn_of_wp Tryz.func138 rfl trivial ?_ rfl
  simp only [Tryz.ntmps138, List.size_toArray, List.length_cons, List.length_nil, Nat.reduceAdd, Nat.reduceSub, Array.replicate_succ, Array.replicate_zero, List.push_toArray, List.append_toArray, List.nil_append, List.cons_append]
  gi_wp2_with fail
  gi_loopw [5] (fun _ wr => ∃ (i : Nat) (hc : Int), i ≤ xs.length ∧ Up ns ho hc (xs.drop i) ∧ n1 ≤ wr.heap.size ∧ wr.heap[hb]? = some (.cells #[.int .i64 hc] 3 (0, 0)) ∧ J n1 i wr)
    (fun _ wr => match wr.cell? ⟨hb, 0, none⟩ with | some (.int .i64 z) => upLen ns ho z | _ => 0)
  case atStart => exact ⟨0, h, Nat.zero_le _, hU, by omega, e1, H0.out⟩
  case round =>
    obtain ⟨i, hc, hi, hu, hs1, e4, hj⟩ := hrel
    obtain ⟨hA1, e5, e6⟩ := HP.out _ _ _ hj
    have e7 : wr.cell? ⟨hb, 0, none⟩ = some (.int .i64 hc) := by rw [cell_of_row _ _ _ _ _ _ e4]; rfl
    have e7x := e7
    by_cases hz : hc = 0
    · subst hz
      have hie : i = xs.length := by
        have := congrArg List.length hu.zero
        simp at this
        omega
      have HF := Lib.hid (hie ▸ hj)
      clear hu hA1 hj H0 e1 hie
      gi_wp2_with fail
      refine ⟨by simp, ?_⟩
      gi_wp2_with fail
      go_end0
      exact ⟨⟨_, rfl⟩, n1, by omega, hs1, .inl HF.out⟩
    · have HN : (hc != 0) = true := by simpa using hz
      obtain ⟨hh, ys, hxe, hu2⟩ := hu.step hz
      have hxi : xs[i]? = some hc := by
        have h1 : (List.drop i xs)[0]? = some hc := by rw [hxe]; rfl
        simpa using h1
      have hil : i < xs.length := (List.getElem?_eq_some_iff.1 hxi).1
      have hdi : xs.drop (i + 1) = ys := by rw [← List.drop_drop, hxe]; rfl
      obtain ⟨fn, tmps, assign, body, hy, hR⟩ := HY.out n1 i _ wr hxi hj (by omega) (by omega)
      have HR := Lib.hid hR
      rw [← hdi] at hu2
      have hm1 : upLen ns ho (upN ns ho hc) < upLen ns ho hc := by
        rw [upLen_of hu2, upLen_of hu, hxe, hdi]; simp
      have HU2 := Lib.hid hu2; have HM1 := Lib.hid hm1
      clear hR e1 H0 hj hxi hxe hu hu2 hdi hm1
      have hbl2 : hb < wr.heap.size := (Array.getElem?_eq_some_iff.1 e4).1
      gi_wp2_with fail
      refine ⟨fun _ => by omega, ?_⟩
      refine HR.out.mono ?_
      rintro e W3 ⟨(⟨rfl, hj3⟩ | ⟨rfl, hj3⟩), hm3⟩
      · obtain ⟨hA3, k5, k6⟩ := HP.out _ _ _ hj3
        have k4 : W3.heap[hb]? = some (.cells #[.int .i64 hc] 3 (0, 0)) := (hm3.block hb hbl2 (fun h => h.1 rfl)).trans e4
        have k7 : W3.cell? ⟨hb, 0, none⟩ = some (.int .i64 hc) := by rw [cell_of_row _ _ _ _ _ _ k4]; rfl
        have hs3 := hm3.size
        obtain ⟨g, cap, kv, av, ix, -, hx, c0, hn, -, -, hat⟩ := atW_any hc W3 hA3 hh hl
        have n1c := hn.c1
        have n12 := hn.c12
        have hgO : g ∈ O := by
          obtain ⟨tab, inv, L, h1, h2, h3⟩ := hA3
          rw [← h2]
          rw [h1.c0] at c0
          cases c0
          exact mem_blocks.2 (.inr (.inl rfl))
        have hgb : ¬ (g = hb) := fun e => hbO (e ▸ hgO)
        have f7 : W3.frozen? ⟨hb, 0, none⟩ = false := Lib.frozen_of_heap k4 0
        have H2 := Lib.hid (hat W3 rfl)
        have HJ3 := Lib.hid hj3; have K4 := Lib.hid k4
        have HD : Hid (∀ p q, (ndAt ns hc).parent = p → (ndAt ns hc).host = q → upN ns ho hc = if p = 0 ∧ ho = true then (q : Int) else p) := Lib.hid (by rintro p q rfl rfl; rfl)
        obtain ⟨p, hp⟩ : ∃ p, (ndAt ns hc).parent = p := ⟨_, rfl⟩
        obtain ⟨q, hq⟩ : ∃ q, (ndAt ns hc).host = q := ⟨_, rfl⟩
        have HE := Lib.hid (HD.out p q hp hq)
        rw [hp] at n1c
        rw [hq] at n12
        clear hj3 hm3 hy HR hA1 hA3 hat hx hn e7 e6 e5 k4 c0 hp hq HD
        have HMU : Hid (∀ u, wr.cell? ⟨hb, 0, none⟩ = some (.int .i64 u) → (match wr.cell? ⟨hb, 0, none⟩ with | some (.int .i64 z) => upLen ns ho z | _ => 0) = upLen ns ho u) := Lib.hid (fun u e => by rw [e])
        have HME := Lib.hid (HMU.out hc (e7x))
        have HREL : Hid (∀ (z : Int) (W4 : World), W4.heap[hb]? = some (.cells #[.int .i64 z] 3 (0, 0)) → z = upN ns ho hc → Mod (fun k => k = hb) W3 W4 →
            (∃ (i : Nat) (hc : Int), i ≤ xs.length ∧ Up ns ho hc (xs.drop i) ∧ n1 ≤ W4.heap.size ∧ W4.heap[hb]? = some (.cells #[.int .i64 hc] 3 (0, 0)) ∧ J n1 i W4) ∧
            (match W4.cell? ⟨hb, 0, none⟩ with | some (.int .i64 z) => upLen ns ho z | _ => 0) < (match wr.cell? ⟨hb, 0, none⟩ with | some (.int .i64 z) => upLen ns ho z | _ => 0)) := Lib.hid (by
          rintro z W4 h4 rfl hm
          refine ⟨⟨i + 1, _, by omega, HU2.out, by have := hm.size; omega, h4, HJ.out _ _ _ _ HJ3.out (hm.mono fun k _ h => .inl h)⟩, ?_⟩
          have h5 : W4.cell? ⟨hb, 0, none⟩ = some (.int .i64 (upN ns ho hc)) := by rw [cell_of_row _ _ _ _ _ _ h4]; rfl
          rw [HME.out, h5]
          exact HM1.out)
        clear HMU HME e7x
        have hset : ∀ z, (W3.setCell ⟨hb, 0, none⟩ (.int .i64 z)).heap[hb]? = some (.cells #[.int .i64 z] 3 (0, 0)) := fun z => by rw [Joins.block_setCell (i := 0) K4.out]; rfl
        have hset2 : ∀ z y, ((W3.setCell ⟨hb, 0, none⟩ (.int .i64 z)).setCell ⟨hb, 0, none⟩ (.int .i64 y)).heap[hb]? = some (.cells #[.int .i64 y] 3 (0, 0)) := fun z y => by rw [Joins.block_setCell (i := 0) (hset z)]; rfl
        have HS := Lib.hid hset; have HS2 := Lib.hid hset2
        clear hset hset2 HJ3 HJ HU2 HM1
        by_cases hp0 : p = 0
        · subst hp0
          cases ho
          · have HV : Hid (upN ns false hc = 0) := Lib.hid (by rw [HE.out]; rfl)
            gi_wp2_with (refine call_wide H2.out ?_ (by omega); rintro e w4 ⟨rfl, rfl⟩)
            go_roundw
            case rel => exact (HREL.out 0 _ (HS.out _) HV.out.symm (Mod.setCell _ _ rfl)).1
            case measure => exact (HREL.out 0 _ (HS.out _) HV.out.symm (Mod.setCell _ _ rfl)).2
          · have HV : Hid (upN ns true hc = (q : Int)) := Lib.hid (by rw [HE.out]; rfl)
            gi_wp2_with (refine call_wide H2.out ?_ (by omega); rintro e w4 ⟨rfl, rfl⟩)
            go_roundw
            case rel => exact (HREL.out q _ (HS2.out _ _) HV.out.symm (Mod.trans (S := fun k => k = hb) (Mod.setCell _ _ rfl) (Mod.setCell _ _ rfl))).1
            case measure => exact (HREL.out q _ (HS2.out _ _) HV.out.symm (Mod.trans (S := fun k => k = hb) (Mod.setCell _ _ rfl) (Mod.setCell _ _ rfl))).2
        · have HV : Hid (upN ns ho hc = (p : Int)) := Lib.hid (by rw [HE.out, if_neg (fun h => hp0 h.1)])
          have hpz : ((p : Int) == 0) = false := by simpa using hp0
          gi_wp2_with (refine call_wide H2.out ?_ (by omega); rintro e w4 ⟨rfl, rfl⟩)
          go_roundw
          case rel => exact (HREL.out p _ (HS.out _) HV.out.symm (Mod.setCell _ _ rfl)).1
          case measure => exact (HREL.out p _ (HS.out _) HV.out.symm (Mod.setCell _ _ rfl)).2
      · have HJ3 := Lib.hid hj3
        have hs3 := hm3.size
        clear hj3 hm3 hy
        gi_wp2_with fail
        go_end0
        exact ⟨⟨_, rfl⟩, n1, by omega, by omega, .inr ⟨i + 1, by omega, HJ3.out⟩⟩
end Go.Proofs.YtdapdadcninidaaGreatDoor
