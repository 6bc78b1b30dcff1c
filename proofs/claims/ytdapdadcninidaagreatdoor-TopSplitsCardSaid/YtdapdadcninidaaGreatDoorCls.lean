/- The classes of characters of package text: closures that were made by 'from', 'either', 'none', and the functions built on them. -/
import Derived.Test.YtdapdadcninidaaGreatDoorBase
import Derived.Test.YtdapdadcninidaaGreatDoorShelf
namespace Go.Proofs.YtdapdadcninidaaGreatDoor
open Go.RowKit

/-- The function f, with what it has captured, answers p at every rune, in every later memory. -/
def IsCls (w : World) (f : Nat) (cap : Array Value) (p : Int → Bool) : Prop :=
  (∀ args W, (callFunc f args).run Tryz.prog W = .ok (.enter f args) W) ∧
    ∀ W, Below w.heap.size w W → ∀ r : Int, Calls Tryz.prog f (#[.int .i32 r] ++ cap) W (Ret W (.bool (p r)))
theorem IsCls.later {w W : World} {f : Nat} {cap : Array Value} {p : Int → Bool} (h : IsCls w f cap p) (hb : Below w.heap.size w W) : IsCls W f cap p :=
  ⟨h.1, fun W' hb' r => h.2 W' (hb.trans (hb'.mono hb.size)) r⟩
def IsClass (w : World) (v : Value) (p : Int → Bool) : Prop := ∃ (f : Nat) (cap : Array Value), v = .func (.func f) #[] cap ∧ IsCls w f cap p
theorem IsClass.later {w W : World} {v : Value} {p : Int → Bool} (h : IsClass w v p) (hb : Below w.heap.size w W) : IsClass W v p := by
  obtain ⟨f, cap, rfl, hc⟩ := h
  exact ⟨f, cap, rfl, hc.later hb⟩
/-- The call returns a class. -/
def RetC (w : World) (p : Int → Bool) (e : Ending) (w' : World) : Prop := ∃ (f : Nat) (cap : Array Value), e = .returned (.func (.func f) #[] cap) ∧ IsCls w' f cap p ∧ Below w.heap.size w w'

def inR (lo hi r : Int) : Bool := decide (lo ≤ r) && decide (r ≤ hi)
theorem inR_t {lo hi r : Int} (h1 : lo ≤ r) (h2 : r ≤ hi) : inR lo hi r = true := by simp [inR, h1, h2]
theorem inR_f1 {lo hi r : Int} (h1 : r < lo) : inR lo hi r = false := by simp [inR]; omega

theorem from1 (w : World) (p q : Nat) (lo hi r : Int) (h1 : w.cell? ⟨p, 0, none⟩ = some (.int .i32 lo)) (h2 : w.cell? ⟨q, 0, none⟩ = some (.int .i32 hi)) :
    Calls Tryz.prog 167 #[.int .i32 r, .pointer (some ⟨p, 0, none⟩), .pointer (some ⟨q, 0, none⟩)] w (Ret w (.bool (inR lo hi r))) := by
  go_enter Tryz.func167, Tryz.ntmps167
  go_wp2
  · go_ret
    refine Ret.mk ?_ (Below.refl _ _)
    simp [inR, *]
  · go_ret
    refine Ret.mk ?_ (Below.refl _ _)
    rw [inR_f1 (by assumption)]; rfl
theorem enter_from1 (args : Array Value) (W : World) : (callFunc 167 args).run Tryz.prog W = .ok (.enter 167 args) W := by
  simp [go_sem]
theorem from_any (lo hi : Int) (w : World) : Calls Tryz.prog 133 #[.int .i32 lo, .int .i32 hi] w (RetC w (inR lo hi)) := by
  go_enter Tryz.func133, Tryz.ntmps133
  go_wp2
  go_ret
  refine ⟨_, _, rfl, ⟨enter_from1, fun W hb r => ?_⟩, by go_grown⟩
  refine from1 W _ _ lo hi r ((hb.cell (p := ⟨_, 0, none⟩) (by simp; omega)).trans ?_) ((hb.cell (p := ⟨_, 0, none⟩) (by simp)).trans ?_)
  · go_cell
  · go_cell

/-- The slice value v holds the classes ps. -/
def IsClasses (w : World) (v : Value) (ps : List (Int → Bool)) : Prop :=
  ∃ b cap, v = .slice (some ⟨b, 0, none⟩) ps.length cap ∧ ∀ i (h : i < ps.length), ∃ u, w.cell? ⟨b, i, none⟩ = some u ∧ IsClass w u ps[i]
theorem IsClasses.later {w W : World} {v : Value} {ps : List (Int → Bool)} (h : IsClasses w v ps) (hb : Below w.heap.size w W) : IsClasses W v ps := by
  obtain ⟨b, cap, rfl, hc⟩ := h
  refine ⟨b, cap, rfl, fun i hi => ?_⟩
  obtain ⟨u, hu, hp⟩ := hc i hi
  exact ⟨u, (hb.cell (p := ⟨b, i, none⟩) (World.block_lt_of_cell? w _ hu)).trans hu, hp.later hb⟩
def anyC (ps : List (Int → Bool)) (r : Int) : Bool := ps.any fun p => p r
theorem anyC_false {ps : List (Int → Bool)} {r : Int} (h : ∀ j (hj : j < ps.length), ps[j] r = false) : anyC ps r = false := by
  unfold anyC
  rw [List.any_eq_false]
  intro p hp
  obtain ⟨j, hj, rfl⟩ := List.getElem_of_mem hp
  simp [h j hj]
theorem anyC_true {ps : List (Int → Bool)} {r : Int} (j : Nat) (hj : j < ps.length) (h : ps[j] r = true) : anyC ps r = true := by
  unfold anyC
  rw [List.any_eq_true]
  exact ⟨ps[j], List.getElem_mem hj, h⟩

theorem either1 (w : World) (q : Nat) (v : Value) (ps : List (Int → Bool)) (r : Int) (hn : ps.length ≤ 1000) (hq : w.cell? ⟨q, 0, none⟩ = some v) (hv : IsClasses w v ps) :
    Calls Tryz.prog 168 #[.int .i32 r, .pointer (some ⟨q, 0, none⟩)] w (Ret w (.bool (anyC ps r))) := by
  obtain ⟨b, cap, rfl, hc⟩ := hv
  have HC := Lib.hid hc; clear hc
  go_enter Tryz.func168, Tryz.ntmps168
  go_wp2
  go_loopw [8] (fun i wr => ∃ k : Nat, k ≤ ps.length ∧ i = .int .i64 k ∧ Below w.heap.size w wr ∧ ∀ j (hj : j < ps.length), j < k → ps[j] r = false) (fun i _ => ps.length - (intOf i).toNat)
  case atStart => exact ⟨0, Nat.zero_le _, rfl, Below.refl _ _, fun j _ h => absurd h (Nat.not_lt_zero _)⟩
  case round =>
    obtain ⟨k, hk, rfl, hb, hno⟩ := hrel
    have HNO := Lib.hid hno; clear hno
    by_cases hlt : k < ps.length
    · obtain ⟨u, hu, hp⟩ := HC.out k hlt
      have hu' : wr.cell? ⟨b, k, none⟩ = some u := (hb.cell (p := ⟨b, k, none⟩) (World.block_lt_of_cell? w _ hu)).trans hu
      obtain ⟨f, cap', rfl, he, hcall⟩ := hp.later hb
      clear hu hp
      obtain ⟨p, hp⟩ : ∃ p, p = ps[k] := ⟨_, rfl⟩
      rw [← hp] at hcall
      have HP := Lib.hid hp; clear hp
      have h1 := hcall wr (Below.refl _ _) r
      clear hcall
      cases hpr : p r
      · rw [hpr] at h1
        have H1 := Lib.hid h1; clear h1
        have HR := Lib.hid hpr; clear hpr
        go_wp2_with (refine H1.out.mono ?_; rintro e w1 ⟨rfl, hb1⟩)
        go_roundw
        case rel =>
          refine ⟨k + 1, by omega, by go_num, bthen hb hb.size hb1, fun j hj hlt' => ?_⟩
          by_cases e : j = k
          · subst e; rw [← HP.out]; exact HR.out
          · exact HNO.out j hj (by omega)
        case measure => simp [intOf]; omega
      · rw [hpr] at h1
        have H1 := Lib.hid h1; clear h1
        have HR := Lib.hid hpr; clear hpr
        go_wp2_with (refine H1.out.mono ?_; rintro e w1 ⟨rfl, hb1⟩)
        go_ret
        refine Ret.mk ?_ (bthen hb hb.size hb1)
        rw [anyC_true k hlt (by rw [← HP.out]; exact HR.out)]; rfl
    · go_wp2
      go_ret
      refine Ret.mk ?_ hb
      rw [anyC_false fun j hj => HNO.out j hj (by omega)]; rfl
theorem enter_either1 (args : Array Value) (W : World) : (callFunc 168 args).run Tryz.prog W = .ok (.enter 168 args) W := by
  simp [go_sem]
theorem either_any (v : Value) (ps : List (Int → Bool)) (w : World) (hn : ps.length ≤ 1000) (hv : IsClasses w v ps) : Calls Tryz.prog 134 #[v] w (RetC w (anyC ps)) := by
  have HV := Lib.hid hv; clear hv
  obtain ⟨b, cap, rfl, -⟩ := HV.out
  go_enter Tryz.func134, Tryz.ntmps134
  go_wp2
  go_ret
  refine ⟨_, _, rfl, ⟨enter_either1, fun W hb r => ?_⟩, by go_grown⟩
  refine either1 W _ _ ps r hn ((hb.cell (p := ⟨_, 0, none⟩) (by simp)).trans ?_) (HV.out.later (bthen ((Below.refl _ _).alloc (Nat.le_refl _) _) (by simp) hb))
  go_cell

/-- Three, two, five classes laid side by side. -/
theorem IsClasses.row {w : World} {vs : Array Value} {ps : List (Int → Bool)} {b cap : Nat} {t : TypeId} {fz : Nat × Nat} (hb : w.heap[b]? = some (.cells vs t fz)) (hn : vs.size = ps.length)
    (h : ∀ i (h1 : i < vs.size) (h2 : i < ps.length), IsClass w vs[i] ps[i]) : IsClasses w (.slice (some ⟨b, 0, none⟩) ps.length cap) ps := by
  refine ⟨b, cap, rfl, fun i hi => ⟨vs[i], ?_, h i _ hi⟩⟩
  simp [World.cell?, hb, hn, hi]
end Go.Proofs.YtdapdadcninidaaGreatDoor
