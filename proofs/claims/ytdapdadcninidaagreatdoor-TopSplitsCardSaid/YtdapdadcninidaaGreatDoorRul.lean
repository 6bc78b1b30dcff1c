/- Package dom: the rules of a move, and the first one that refuses it. No condition but that the arena fits and the way up ends. -/
import Derived.Test.YtdapdadcninidaaGreatDoorCt
import Derived.Test.YtdapdadcninidaaGreatDoorDm1
import Derived.Deep.QuietTactic
import Derived.BigQuiet
namespace Go.Proofs.YtdapdadcninidaaGreatDoor
open Go.RowKit
attribute [local go_sem ↓] Go.wp_at_zero Go.wp_at_succ

def mvV (B : Nat) (p n c : Int) (r : Bool) : Value := .agg #[.pointer (some ⟨B, 0, none⟩), .int .i64 p, .int .i64 n, .int .i64 c, .bool r]
def kdA (ns : List Nd) (h : Int) : Int := (descAt ns h).kind
/-- May a node of this kind have children? -/
def parK (k : Int) : Bool := k == 1 || (k == 2 || k == 4)
def parOf (ns : List Nd) (h : Int) : Int := if isH ns.length h then ((ndAt ns h).parent : Int) else 0
theorem bneA {a b : Int} (h : (a == b) = false) : (a != b) = true := by simpa using h
set_option maxRecDepth 100000 in
theorem rule1_any (p n c : Int) (r : Bool) (w : World) {B : Nat} {O : List Nat} {ns : List Nd} (hA : ArW B O ns w) (hf : Fit ns) :
    Calls Tryz.prog 190 #[mvV B p n c r] w (Ret w (.bool (!parK (kdA ns p)))) := by
  have H1 := Lib.hid (fun w' (hb : Below w.heap.size w w') => kind_any p w' (hA.later hb) hf)
  rw [show (descAt ns p).kind = kdA ns p from rfl] at H1
  have HB0 := Lib.hid (fun o => balloc w o)
  generalize kdA ns p = k at *
  unfold mvV
  clear hA hf
  have hk : k = 1 ∨ ((k == 1) = false ∧ k = 2) ∨ ((k == 1) = false ∧ (k == 2) = false ∧ k = 4) ∨ ((k == 1) = false ∧ (k == 2) = false ∧ (k == 4) = false) := by simp only [beq_eq_false_iff_ne]; omega
  rcases hk with rfl | ⟨h1, rfl⟩ | ⟨h1, h2, rfl⟩ | ⟨h1, h2, h3⟩
  all_goals
    try have g1 := bneA h1
    try have g2 := bneA h2
    try have g3 := bneA h3
    go_enter Tryz.func190, Tryz.ntmps190
    go_wp2_with (go_at_call 81; refine (H1.out _ (HB0.out _)).mono ?_; rintro e w1 ⟨rfl, b1⟩)
    go_ret
    exact Ret.mk (by simp [parK, *]) (bthen (HB0.out _) (HB0.out _).size b1)
set_option maxRecDepth 100000 in
theorem rule2_any (p n c : Int) (r : Bool) (w : World) {B : Nat} {O : List Nat} {ns : List Nd} (hA : ArW B O ns w) (hf : Fit ns) (hup : isH ns.length p = true → ∃ xs, Up ns true p xs) :
    Calls Tryz.prog 191 #[mvV B p n c r] w (Ret w (.bool (containsL ns n p))) := by
  have H1 := Lib.hid (fun w' (hb : Below w.heap.size w w') => Contains_any n p w' (hA.later hb) hf.len hup)
  have HB0 := Lib.hid (fun o => balloc w o)
  unfold mvV
  clear hA hf hup
  go_enter Tryz.func191, Tryz.ntmps191
  go_wp2_with (go_at_call 46; refine (H1.out _ (HB0.out _)).mono ?_; rintro e w1 ⟨rfl, b1⟩)
  go_ret
  exact Ret.mk rfl (bthen (HB0.out _) (HB0.out _).size b1)
theorem quiet_leftA {P : Program} {f : FuncId} {args : Array Value} {w : World} {n : Nat} {v : Value} (h : Calls P f args (w.drewN n) fun e w' => e = .returned v ∧ w.drewN n = w') :
    Calls P f args (w.drewN n) fun e w'' => e = .returned v ∧ ∃ m, w'' = w.drewN m := h.mono fun _ _ ⟨he, hm⟩ => ⟨he, n, hm.symm⟩
theorem bdrewA {n : Nat} {w w' : World} (h : Below n w w') : Below n w w'.drew := ⟨h.os, h.tape, h.output, h.size, h.block⟩
theorem bdrewsA {n : Nat} {w w' : World} (h : Below n w w') (k : Nat) : Below n w (w'.drewN k) := ⟨h.os, h.tape, h.output, h.size, h.block⟩
/-- A move's box in a later world. -/
structure MvAt (B : Nat) (p n c : Int) (r : Bool) (w w1 : World) : Prop where
  box : w1.heap[w.heap.size]? = some (.cells #[.pointer (some ⟨B, 0, none⟩), .int .i64 p, .int .i64 n, .int .i64 c, .bool r] 173 (0, 0))
  bl : Below w.heap.size w w1
theorem MvAt.start {B : Nat} {p n c : Int} {r : Bool} {w W0 : World} (h : w.alloc (.cells #[.pointer (some ⟨B, 0, none⟩), .int .i64 p, .int .i64 n, .int .i64 c, .bool r] 173) = W0) : MvAt B p n c r w W0 := by
  subst h
  exact ⟨World.alloc_heap_new w _, balloc w _⟩
theorem MvAt.step {B : Nat} {p n c : Int} {r : Bool} {w w1 w2 : World} (h : MvAt B p n c r w w1) (hb : Below w1.heap.size w1 w2) : MvAt B p n c r w w2 :=
  ⟨(hb.block _ (Array.getElem?_eq_some_iff.1 h.box).1).trans h.box, bthen h.bl h.bl.size hb⟩
theorem MvAt.drew {B : Nat} {p n c : Int} {r : Bool} {w w1 : World} (h : MvAt B p n c r w w1) : MvAt B p n c r w w1.drew := ⟨h.box, bdrewA h.bl⟩
theorem MvAt.cells {B : Nat} {p n c : Int} {r : Bool} {w w1 : World} (h : MvAt B p n c r w w1) : w1.cell? ⟨w.heap.size, 0, none⟩ = some (.pointer (some ⟨B, 0, none⟩)) ∧ w1.cell? ⟨w.heap.size, 1, none⟩ = some (.int .i64 p) ∧ w1.cell? ⟨w.heap.size, 2, none⟩ = some (.int .i64 n) ∧ w1.cell? ⟨w.heap.size, 3, none⟩ = some (.int .i64 c) ∧
      w1.cell? ⟨w.heap.size, 4, none⟩ = some (.bool r) := by
  have hb := h.box
  exact ⟨by rw [cell_of_row _ _ _ _ _ _ hb]; rfl, by rw [cell_of_row _ _ _ _ _ _ hb]; rfl, by rw [cell_of_row _ _ _ _ _ _ hb]; rfl, by rw [cell_of_row _ _ _ _ _ _ hb]; rfl, by rw [cell_of_row _ _ _ _ _ _ hb]; rfl⟩
/-- What a region that loads a move's first cells keeps. -/
theorem MvAt.s {B : Nat} {p n c : Int} {r : Bool} {w w1 : World} (h : MvAt B p n c r w w1) : w1.cell? ⟨w.heap.size, 0, none⟩ = some (.pointer (some ⟨B, 0, none⟩)) ∧ w1.cell? ⟨w.heap.size, 1, none⟩ = some (.int .i64 p) ∧ w1.cell? ⟨w.heap.size, 2, none⟩ = some (.int .i64 n) ∧ MvAt B p n c r w w1 :=
  ⟨h.cells.1, h.cells.2.1, h.cells.2.2.1, h⟩
/-- A region that draws its order, its calls kept within a class of worlds. -/
theorem region_class {P : Program} {id : Nat} {Q : Exit → Act → World → Prop} {a : Act} {w : World} {l : List Oper} (C : World → Prop) (hm : P.follows .mixedOrders = true) (hB : Region.lexB .any l.toArray = true) (hC : C w.drew)
    (h : wpQuiet P l.toArray C (fun a' => ∀ w', C w' → Q .normal a' w') l a) : (Code.region id l.toArray true).wp P Q a w := wp_region_quiet hm hB hC (by simpa using h)
/-- The box of a move. -/
theorem mv_box {w W0 : World} {B : Nat} {p n c : Int} {r : Bool} {T : TypeId} (h : w.alloc (.cells #[.pointer (some ⟨B, 0, none⟩), .int .i64 p, .int .i64 n, .int .i64 c, .bool r] T) = W0) :
    W0.cell? ⟨w.heap.size, 0, none⟩ = some (.pointer (some ⟨B, 0, none⟩)) ∧ W0.cell? ⟨w.heap.size, 1, none⟩ = some (.int .i64 p) ∧ W0.cell? ⟨w.heap.size, 2, none⟩ = some (.int .i64 n) ∧ W0.cell? ⟨w.heap.size, 3, none⟩ = some (.int .i64 c) ∧
      W0.cell? ⟨w.heap.size, 4, none⟩ = some (.bool r) ∧ Below w.heap.size w W0 := by
  have hb := World.alloc_heap_new w (.cells #[.pointer (some ⟨B, 0, none⟩), .int .i64 p, .int .i64 n, .int .i64 c, .bool r] T)
  have hB := balloc w (.cells #[.pointer (some ⟨B, 0, none⟩), .int .i64 p, .int .i64 n, .int .i64 c, .bool r] T)
  rw [h] at hb hB
  exact ⟨by rw [cell_of_row _ _ _ _ _ _ hb]; rfl, by rw [cell_of_row _ _ _ _ _ _ hb]; rfl, by rw [cell_of_row _ _ _ _ _ _ hb]; rfl, by rw [cell_of_row _ _ _ _ _ _ hb]; rfl, by rw [cell_of_row _ _ _ _ _ _ hb]; rfl, hB⟩
set_option maxRecDepth 100000 in
theorem rule3_any (p n c : Int) (r : Bool) (w : World) {B : Nat} {O : List Nat} {ns : List Nd} (hA : ArW B O ns w) (hf : Fit ns) :
    Calls Tryz.prog 192 #[mvV B p n c r] w (Ret w (.bool (c != 0 && parOf ns c != p))) := by
  have H1 := Lib.hid (fun w' (hb : Below w.heap.size w w') => Parent_any c w' (hA.later hb) hf.len)
  have HB0 := Lib.hid (fun o => balloc w o)
  rw [show (if isH ns.length c then ((ndAt ns c).parent : Int) else 0) = parOf ns c from rfl] at H1
  generalize parOf ns c = q at *
  unfold mvV
  clear hA hf
  by_cases hc0 : c = 0
  · subst hc0
    go_enter Tryz.func192, Tryz.ntmps192
    go_wp2_with fail
    generalize hW : w.alloc _ = W0
    obtain ⟨m0, m1, m2, m3, m4, mb⟩ := mv_box hW
    have MB := Lib.hid mb
    clear hW mb
    go_quiet (fail)
    go_wp2_with fail
    go_ret
    exact Ret.mk (by simp [*]) (bdrewsA MB.out _)
  · have hc : (c != 0) = true := by simpa using hc0
    go_enter Tryz.func192, Tryz.ntmps192
    go_wp2_with fail
    generalize hW : w.alloc _ = W0
    obtain ⟨m0, m1, m2, m3, m4, mb⟩ := mv_box hW
    have MB := Lib.hid mb
    clear hW mb
    go_quiet ((go_at_call 15; exact quiet_leftA (H1.out _ (bdrewsA MB.out _))))
    go_wp2_with fail
    go_ret
    exact Ret.mk (by simp [*]) (bdrewsA MB.out _)
set_option maxRecDepth 100000 in
theorem rule4_any (p n c : Int) (r : Bool) (w : World) {B : Nat} {O : List Nat} {ns : List Nd} (hA : ArW B O ns w) (hf : Fit ns) :
    Calls Tryz.prog 193 #[mvV B p n c r] w (Ret w (.bool (kdA ns n == 1))) := by
  have H1 := Lib.hid (fun w' (hb : Below w.heap.size w w') => kind_any n w' (hA.later hb) hf)
  rw [show (descAt ns n).kind = kdA ns n from rfl] at H1
  have HB0 := Lib.hid (fun o => balloc w o)
  generalize kdA ns n = k at *
  unfold mvV
  clear hA hf
  go_enter Tryz.func193, Tryz.ntmps193
  go_wp2_with (go_at_call 81; refine (H1.out _ (HB0.out _)).mono ?_; rintro e w1 ⟨rfl, b1⟩)
  go_ret
  exact Ret.mk rfl (bthen (HB0.out _) (HB0.out _).size b1)
/-- The fifth rule. -/
def rul5 (kp kn : Int) : Bool := (kp == 1 && kn == 5) || (!(kp == 1) && kn == 3)
set_option maxRecDepth 100000 in
set_option maxHeartbeats 4000000 in
theorem rule5_any (p n c : Int) (r : Bool) (w : World) {B : Nat} {O : List Nat} {ns : List Nd} (hA : ArW B O ns w) (hf : Fit ns) :
    Calls Tryz.prog 194 #[mvV B p n c r] w (Ret w (.bool (rul5 (kdA ns p) (kdA ns n)))) := by
  have H1 := Lib.hid (fun w' (hb : Below w.heap.size w w') => kind_any p w' (hA.later hb) hf)
  have H2 := Lib.hid (fun w' (hb : Below w.heap.size w w') => kind_any n w' (hA.later hb) hf)
  rw [show (descAt ns n).kind = kdA ns n from rfl] at H2
  rw [show (descAt ns p).kind = kdA ns p from rfl] at H1
  generalize kdA ns n = kn at *
  generalize kdA ns p = kp at *
  unfold mvV rul5
  clear hA hf
  go_enter Tryz.func194, Tryz.ntmps194
  go_wp2_with fail
  generalize hW : w.alloc _ = W0
  obtain ⟨m0, m1, m2, m3, m4, mb⟩ := mv_box hW
  have mb' := bdrewA mb
  have MV := MvAt.start hW
  clear hW mb mb'
  have hC0 : MvAt B p n c r w W0.drew := MV.drew
  obtain ⟨C, hC⟩ : ∃ C : World → Prop, C = MvAt B p n c r w := ⟨_, rfl⟩
  rw [← hC] at hC0
  have HCC := Lib.hid hC
  clear hC MV m0 m1 m2 m3 m4
  refine region_class C (by kernel_rfl) (by kernel_rfl) hC0 ?_
  iterate 4
    refine wpQuiet_step (fun K hK => ?_)
    go_simp
    apply Exists.intro
    refine ⟨fun W hW => ?_, hK _ ?_⟩
    · first
        | exact rfl
        | (rw [HCC.out] at hW; obtain ⟨m0, m1, m2, m3, m4⟩ := hW.cells; go_simp; exact rfl)
    clear hK K
  refine wpQuiet_step (fun K hK => ?_)
  go_simp
  apply Exists.intro
  refine ⟨fun W hW => ?_, hK _ ?_⟩
  · rw [HCC.out] at hW
    refine (H1.out _ hW.bl).mono ?_
    rintro e w1 ⟨rfl, b1⟩
    exact ⟨rfl, by rw [HCC.out]; exact hW.step b1⟩
  clear hK K
  iterate 5
    refine wpQuiet_step (fun K hK => ?_)
    go_simp
    apply Exists.intro
    refine ⟨fun W hW => ?_, hK _ ?_⟩
    · first
        | exact rfl
        | (rw [HCC.out] at hW; obtain ⟨m0, m1, m2, m3, m4⟩ := hW.cells; go_simp; exact rfl)
    clear hK K
  refine wpQuiet_step (fun K hK => ?_)
  go_simp
  apply Exists.intro
  refine ⟨fun W hW => ?_, hK _ ?_⟩
  · rw [HCC.out] at hW
    refine (H2.out _ hW.bl).mono ?_
    rintro e w1 ⟨rfl, b1⟩
    exact ⟨rfl, by rw [HCC.out]; exact hW.step b1⟩
  clear hK K
  iterate 2
    refine wpQuiet_step (fun K hK => ?_)
    go_simp
    apply Exists.intro
    refine ⟨fun W hW => ?_, hK _ ?_⟩
    · first
        | exact rfl
        | (rw [HCC.out] at hW; obtain ⟨m0, m1, m2, m3, m4⟩ := hW.cells; go_simp; exact rfl)
    clear hK K
  refine wpQuiet_nil ?_
  intro W2 hW2
  rw [HCC.out] at hW2
  have HB := Lib.hid hW2.bl
  clear hW2 HCC hC0 H1 H2
  have HBB := HB
  cases h1 : (kp == 1)
  all_goals
    cases h2 : (kn == 5)
    all_goals
      go_wp2_with fail
      all_goals
        go_ret
        exact Ret.mk (by first | (simp [h1, h2]; done) | (simp [h1]; done) | simp_all) HB.out
end Go.Proofs.YtdapdadcninidaaGreatDoor
/- Package dom: the last rule, at a parent without children; the first rule that refuses. No condition but that the arena fits. -/
namespace Go.Proofs.YtdapdadcninidaaGreatDoor
open Go.RowKit
attribute [local go_sem ↓] Go.wp_at_zero Go.wp_at_succ

set_option maxRecDepth 100000 in
/-- Is this kind among these? -/
theorem kIndex_any (ks : List Int) (v : Int) (w : World) {a : Option Addr} {c : Nat} (hl : ks.length ≤ 1000000) (hc : ∀ j k, ks[j]? = some k → ∃ g, a = some ⟨g, 0, none⟩ ∧ w.cell? ⟨g, j, none⟩ = some (.int .i64 k)) :
    Calls Tryz.prog 229 #[.slice a ks.length c, .int .i64 v] w fun e w' => (∃ i : Int, e = .returned (.int .i64 i) ∧ decide (0 ≤ i) = ks.contains v) ∧ w = w' := by
  have HC := Lib.hid hc
  obtain ⟨b, hb⟩ : ∃ b, ks.contains v = b := ⟨_, rfl⟩
  rw [hb]
  have HBV := Lib.hid hb
  clear hc hb
  go_enter Tryz.func229, Tryz.ntmps229
  go_wp2
  go_loop [4, 5, 8] (fun _ _ i => ∃ k : Nat, k ≤ ks.length ∧ i = .int .i64 k ∧ (ks.take k).contains v = false) (fun _ _ i => ks.length - (intOf i).toNat)
  case atStart => exact ⟨0, Nat.zero_le _, rfl, rfl⟩
  case round =>
    obtain ⟨k, hk, rfl, hall⟩ := hrel
    have HA := Lib.hid hall
    clear hall
    by_cases hlt : k < ks.length
    · obtain ⟨g, rfl, hcell⟩ := HC.out k ks[k] (List.getElem?_eq_getElem hlt)
      obtain ⟨z, hz⟩ : ∃ z, ks[k] = z := ⟨_, rfl⟩
      rw [hz] at hcell
      have hki : (k : Int) < (ks.length : Int) := by omega
      by_cases hb : v = z
      · have HR : Hid (b = true) := Lib.hid (by
          rw [← HBV.out, List.contains_iff_mem, hb, ← hz]
          exact List.getElem_mem hlt)
        subst hb
        clear hz
        go_wp2
        go_ret
        exact ⟨⟨_, rfl, by rw [HR.out]; simp⟩, rfl⟩
      · have HN : Hid ((ks.take (k + 1)).contains v = false) := Lib.hid (by
          rw [List.take_succ_eq_append_getElem hlt, hz]
          have := HA.out
          simp only [List.contains_eq_mem, decide_eq_false_iff_not, List.mem_append, List.mem_singleton, not_or] at this ⊢
          exact ⟨this, hb⟩)
        have hb2 : (v == z) = false := by simpa using hb
        clear hz
        go_wp2
        go_round
        case rel => exact ⟨k + 1, by omega, by go_num, HN.out⟩
        case measure => simp [intOf]; omega
    · have HR : Hid (b = false) := Lib.hid (by
        have := HA.out
        rwa [List.take_of_length_le (by omega), HBV.out] at this)
      go_wp2
      go_ret
      exact ⟨⟨_, rfl, by rw [HR.out]; rfl⟩, rfl⟩
set_option maxRecDepth 100000 in
theorem kContains_any (ks : List Int) (v : Int) (w : World) {a : Option Addr} {c : Nat} (hl : ks.length ≤ 1000000) (hc : ∀ j k, ks[j]? = some k → ∃ g, a = some ⟨g, 0, none⟩ ∧ w.cell? ⟨g, j, none⟩ = some (.int .i64 k)) :
    Calls Tryz.prog 221 #[.slice a ks.length c, .int .i64 v] w fun e w' => e = .returned (.bool (ks.contains v)) ∧ w = w' := by
  have H1 := Lib.hid (kIndex_any ks v w (c := c) hl hc)
  clear hc
  generalize ks.contains v = b at *
  go_enter Tryz.func221, Tryz.ntmps221
  go_wp2_with fail
  refine H1.out.mono ?_
  rintro e w1 ⟨⟨i, rfl, hi⟩, rfl⟩
  have HI := Lib.hid hi
  clear hi
  go_wp2_with fail
  go_ret
  exact ⟨by simp [HI.out], rfl⟩
set_option maxRecDepth 100000 in
/-- split, of a parent without children. -/
theorem split_nil (p n c : Int) (r : Bool) (w : World) {B : Nat} {O : List Nat} {ns : List Nd} (hA : ArW B O ns w) (hf : Fit ns) (hk : kidsAt ns p = []) :
    Calls Tryz.prog 220 #[mvV B p n c r] w (Ret w (.tuple #[.slice none 0 0, .slice none 0 0])) := by
  have H1 := fun w' (hb : Below w.heap.size w w') => Kids_any p w' (hA.later hb) hf.len (hf.kids p)
  rw [hk] at H1
  have H1 := Lib.hid H1
  unfold mvV
  clear hA hf hk
  go_enter Tryz.func220, Tryz.ntmps220
  go_wp2_with fail
  generalize hW : w.alloc _ = W0
  obtain ⟨m0, m1, m2, m3, m4, mb⟩ := mv_box hW
  have MB := Lib.hid mb
  clear hW mb
  go_wp2_with fail
  refine (H1.out _ MB.out).mono ?_
  rintro e w1 ⟨v, rfl, hr, b1⟩
  obtain ⟨ka, kc, rfl⟩ := ownsRow_slice hr
  have HB1 := Lib.hid (bthen MB.out MB.out.size b1)
  clear hr b1 H1 m0 m1 m2 m3 m4
  go_wp2_with fail
  go_loop [2, 3, 13] (fun s2 s3 i => s2 = .slice none 0 0 ∧ s3 = .slice none 0 0 ∧ i = .int .i64 0) (fun _ _ _ => 0)
  case atStart => exact ⟨rfl, rfl, rfl⟩
  case round =>
    obtain ⟨rfl, rfl, rfl⟩ := hrel
    go_wp2_with fail
    go_ret2
    exact Ret.mk rfl HB1.out
theorem nilKinds (w : World) : ∀ (j : Nat) (k : Int), ([] : List Int)[j]? = some k → ∃ g, (none : Option Addr) = some ⟨g, 0, none⟩ ∧ w.cell? ⟨g, j, none⟩ = some (.int .i64 k) := fun j k h => by simp at h
theorem kCon_nil (v : Int) (w : World) (c : Nat) : Calls Tryz.prog 221 #[.slice none 0 c, .int .i64 v] w fun e w' => e = .returned (.bool false) ∧ w = w' :=
  kContains_any [] v w (a := none) (c := c) (Nat.zero_le _) (nilKinds w)
set_option maxRecDepth 100000 in
/-- element, of a parent without children, at its end. -/
theorem element_nil (p n : Int) (r : Bool) (w : World) {B : Nat} {O : List Nat} {ns : List Nd} (hA : ArW B O ns w) (hf : Fit ns) (hk : kidsAt ns p = []) :
    Calls Tryz.prog 210 #[mvV B p n 0 r] w (Ret w (.bool false)) := by
  have H1 := Lib.hid (fun w' (hb : Below w.heap.size w w') => split_nil p n 0 r w' (hA.later hb) hf hk)
  have H2 := Lib.hid (fun v w' c => kCon_nil v w' c)
  unfold mvV at *
  clear hA hf hk
  go_enter Tryz.func210, Tryz.ntmps210
  go_wp2_with fail
  generalize hW : w.alloc _ = W0
  obtain ⟨m0, m1, m2, m3, m4, mb⟩ := mv_box hW
  have MB := Lib.hid mb
  clear hW mb
  go_wp2_with fail
  refine (H1.out _ MB.out).mono ?_
  rintro e w1 ⟨rfl, b1⟩
  have HB1 := Lib.hid (bthen MB.out MB.out.size b1)
  have hbx := World.block_lt_of_cell? _ _ m0
  have k0 := (b1.cell (p := ⟨w.heap.size, 0, none⟩) hbx).trans m0
  have k3 := (b1.cell (p := ⟨w.heap.size, 3, none⟩) hbx).trans m3
  have k4 := (b1.cell (p := ⟨w.heap.size, 4, none⟩) hbx).trans m4
  clear b1 H1 m0 m1 m2 m3 m4 hbx
  cases r
  all_goals
    go_wp2_with (go_at_call 221; refine (H2.out _ _ _).mono ?_; rintro e w2 ⟨rfl, rfl⟩)
    go_ret
    exact Ret.mk rfl HB1.out
set_option maxRecDepth 100000 in
/-- crowded, of an element, at the end of a parent without children. -/
theorem crowded_nil (p n : Int) (r : Bool) (w : World) {B : Nat} {O : List Nat} {ns : List Nd} (hA : ArW B O ns w) (hf : Fit ns) (hk : kidsAt ns p = []) (hn : kdA ns n = 4) :
    Calls Tryz.prog 196 #[mvV B p n 0 r] w (Ret w (.bool false)) := by
  have H1 := fun w' (hb : Below w.heap.size w w') => kind_any n w' (hA.later hb) hf
  rw [show (descAt ns n).kind = kdA ns n from rfl, hn] at H1
  have H1 := Lib.hid H1
  have H2 := Lib.hid (fun w' (hb : Below w.heap.size w w') => element_nil p n r w' (hA.later hb) hf hk)
  unfold mvV at *
  clear hA hf hk hn
  go_enter Tryz.func196, Tryz.ntmps196
  go_wp2_with fail
  generalize hW : w.alloc _ = W0
  have MV := MvAt.start hW
  obtain ⟨m0, m1, m2, m3, m4⟩ := MV.cells
  clear hW
  go_wp2_with fail
  refine (H1.out _ MV.bl).mono ?_
  rintro e w1 ⟨rfl, b1⟩
  have mv1 := MV.step b1
  have rb := Lib.hid mv1.box
  clear b1 H1 m0 m1 m2 m3 m4 MV
  obtain ⟨m0, m1, m2, m3, m4⟩ := mv1.cells
  go_wp2_with fail
  refine (H2.out _ mv1.bl).mono ?_
  rintro e w2 ⟨rfl, b2⟩
  have mv2 := Lib.hid (mv1.step b2).bl
  clear b2 m0 m1 m2 m3 m4 mv1
  go_wp2_with fail
  go_ret
  exact Ret.mk rfl mv2.out
/-- The last rule, at a parent that is no document. -/
theorem rule6_no (p n c : Int) (r : Bool) (w : World) {B : Nat} {O : List Nat} {ns : List Nd} (hA : ArW B O ns w) (hf : Fit ns) (hp : kdA ns p ≠ 1) :
    Calls Tryz.prog 195 #[mvV B p n c r] w (Ret w (.bool false)) := by
  have H1 := Lib.hid (fun w' (hb : Below w.heap.size w w') => kind_any p w' (hA.later hb) hf)
  rw [show (descAt ns p).kind = kdA ns p from rfl] at H1
  generalize kdA ns p = kp at *
  have hpb : (kp == 1) = false := by simpa using hp
  unfold mvV at *
  clear hA hf hp
  go_enter Tryz.func195, Tryz.ntmps195
  go_wp2_with fail
  generalize hW : w.alloc _ = W0
  have MV := MvAt.start hW
  obtain ⟨m0, m1, m2, m3, m4⟩ := MV.cells
  clear hW
  go_wp2_with fail
  refine (H1.out _ MV.bl).mono ?_
  rintro e w1 ⟨rfl, b1⟩
  have mv1 := Lib.hid (MV.step b1).bl
  clear b1 H1 m0 m1 m2 m3 m4 MV
  go_wp2_with fail
  go_ret
  exact Ret.mk rfl mv1.out
/-- .. at a document without children. -/
theorem rule6_nil (p n : Int) (r : Bool) (w : World) {B : Nat} {O : List Nat} {ns : List Nd} (hA : ArW B O ns w) (hf : Fit ns) (hp : kdA ns p = 1) (hk : kidsAt ns p = []) (hn : kdA ns n = 4) :
    Calls Tryz.prog 195 #[mvV B p n 0 r] w (Ret w (.bool false)) := by
  have H1 := fun w' (hb : Below w.heap.size w w') => kind_any p w' (hA.later hb) hf
  rw [show (descAt ns p).kind = kdA ns p from rfl, hp] at H1
  have H1 := Lib.hid H1
  have H2 := Lib.hid (fun w' (hb : Below w.heap.size w w') => crowded_nil p n r w' (hA.later hb) hf hk hn)
  unfold mvV at *
  clear hA hf hk hn hp
  go_enter Tryz.func195, Tryz.ntmps195
  go_wp2_with fail
  generalize hW : w.alloc _ = W0
  have MV := MvAt.start hW
  obtain ⟨m0, m1, m2, m3, m4⟩ := MV.cells
  clear hW
  go_wp2_with fail
  refine (H1.out _ MV.bl).mono ?_
  rintro e w1 ⟨rfl, b1⟩
  have mv1 := MV.step b1
  clear b1 H1 m0 m1 m2 m3 m4 MV
  obtain ⟨m0, m1, m2, m3, m4⟩ := mv1.cells
  go_wp2_with fail
  refine (H2.out _ mv1.bl).mono ?_
  rintro e w2 ⟨rfl, b2⟩
  have mv2 := Lib.hid (mv1.step b2).bl
  clear b2 m0 m1 m2 m3 m4 mv1
  go_wp2_with fail
  go_ret
  exact Ret.mk rfl mv2.out
end Go.Proofs.YtdapdadcninidaaGreatDoor
/- Package dom: the first rule that refuses a move. No condition but the rules' own answers. -/
namespace Go.Proofs.YtdapdadcninidaaGreatDoor
open Go.RowKit
attribute [local go_sem ↓] Go.wp_at_zero Go.wp_at_succ

theorem run_store_func {P : Program} {w : World} {a : Addr} {m : Mode} (fn : Fn) (x y : Array Value) : (store a (.func fn x y) m).run P w = stored P w a (.func fn x y) m := run_store P w a _ m rfl
attribute [local go_sem] run_store_func
def rulesRow : Array Value := #[.func (.func 190) #[] #[], .int .i64 4, .func (.func 191) #[] #[], .int .i64 4, .func (.func 192) #[] #[], .int .i64 5,
  .func (.func 193) #[] #[], .int .i64 4, .func (.func 194) #[] #[], .int .i64 4, .func (.func 195) #[] #[], .int .i64 4]
set_option maxRecDepth 100000 in
theorem rules_any (w : World) : Calls Tryz.prog 161 #[] w fun e w' => e = .returned (.slice (some ⟨w.heap.size, 0, none⟩) 6 6) ∧ w' = w.alloc (.cells rulesRow 211) := by
  go_enter Tryz.func161, Tryz.ntmps161
  go_wp2_with fail
  go_ret
  exact ⟨rfl, rfl⟩
/-- The rules' answers. -/
structure RulB (b1 b2 b3 b4 b5 b6 : Bool) (m : Value) (w : World) : Prop where
  h1 : ∀ w', Below w.heap.size w w' → Calls Tryz.prog 190 #[m] w' (Ret w' (.bool b1))
  h2 : ∀ w', Below w.heap.size w w' → Calls Tryz.prog 191 #[m] w' (Ret w' (.bool b2))
  h3 : ∀ w', Below w.heap.size w w' → Calls Tryz.prog 192 #[m] w' (Ret w' (.bool b3))
  h4 : ∀ w', Below w.heap.size w w' → Calls Tryz.prog 193 #[m] w' (Ret w' (.bool b4))
  h5 : ∀ w', Below w.heap.size w w' → Calls Tryz.prog 194 #[m] w' (Ret w' (.bool b5))
  h6 : ∀ w', Below w.heap.size w w' → Calls Tryz.prog 195 #[m] w' (Ret w' (.bool b6))
def firstE (b1 b2 b3 b4 b5 b6 : Bool) : Int := if b1 then 4 else if b2 then 4 else if b3 then 5 else if b4 then 4 else if b5 then 4 else if b6 then 4 else 0
set_option maxRecDepth 100000 in
set_option maxHeartbeats 2000000 in
theorem refused_any (p n c : Int) (r : Bool) (w : World) {B : Nat} {b1 b2 b3 b4 b5 b6 : Bool} (hR : RulB b1 b2 b3 b4 b5 b6 (mvV B p n c r) w) :
    Calls Tryz.prog 118 #[mvV B p n c r] w (Ret w (.int .i64 (firstE b1 b2 b3 b4 b5 b6))) := by
  have HR := Lib.hid hR
  have HQ := Lib.hid rules_any
  clear hR
  unfold mvV at *
  go_enter Tryz.func118, Tryz.ntmps118
  go_wp2_with fail
  generalize hW : w.alloc _ = W0
  have mb : W0.heap[w.heap.size]? = some (.cells #[.pointer (some ⟨B, 0, none⟩), .int .i64 p, .int .i64 n, .int .i64 c, .bool r] 173 (0, 0)) := by rw [← hW]; exact World.alloc_heap_new w _
  have hB := balloc w (.cells #[.pointer (some ⟨B, 0, none⟩), .int .i64 p, .int .i64 n, .int .i64 c, .bool r] 173)
  rw [hW] at hB
  have hs0 : W0.heap.size = w.heap.size + 1 := by rw [← hW]; simp
  refine (HQ.out W0).mono ?_
  rintro e w1 ⟨rfl, rfl⟩
  generalize hW1 : W0.alloc _ = W1
  have rb : W1.heap[W0.heap.size]? = some (.cells rulesRow 211 (0, 0)) := by rw [← hW1]; exact World.alloc_heap_new W0 _
  have hB1 : Below w.heap.size w W1 := by rw [← hW1]; exact hB.alloc hB.size _
  have mb1 : W1.heap[w.heap.size]? = some (.cells #[.pointer (some ⟨B, 0, none⟩), .int .i64 p, .int .i64 n, .int .i64 c, .bool r] 173 (0, 0)) := by rw [← hW1]; exact (Below.heap_alloc W0 _ _ (by omega)).trans mb
  rw [hs0] at rb ⊢
  have hs1 : W1.heap.size = w.heap.size + 2 := by rw [← hW1]; simp [hs0]
  have HB1 := Lib.hid hB1; have RB := Lib.hid rb; have MB := Lib.hid mb1; have HS1 := Lib.hid hs1
  clear hW hW1 mb hB hs0 rb hB1 mb1 hs1 HQ
  go_wp2_with fail
  go_loopw [7] (fun i wr => ∃ k : Nat, k ≤ 6 ∧ i = .int .i64 k ∧ Below (w.heap.size + 2) W1 wr ∧ w.heap.size + 2 ≤ wr.heap.size ∧ (0 < k → b1 = false) ∧ (1 < k → b2 = false) ∧ (2 < k → b3 = false) ∧ (3 < k → b4 = false) ∧ (4 < k → b5 = false) ∧ (5 < k → b6 = false)) (fun i _ => 6 - (intOf i).toNat)
  case atStart => exact ⟨0, Nat.zero_le _, rfl, by rw [← HS1.out]; exact Below.refl _ _, by rw [HS1.out]; exact Nat.le_refl _, by omega, by omega, by omega, by omega, by omega, by omega⟩
  case round =>
    obtain ⟨k, hk, rfl, hbw, hsw, hall⟩ := hrel
    have HA := Lib.hid hall
    have rbw := (hbw.block (w.heap.size + 1) (by omega)).trans RB.out
    have mbw := (hbw.block w.heap.size (by omega)).trans MB.out
    have hbb : Below w.heap.size w wr := HB1.out.trans (hbw.mono (by omega))
    have HBB := Lib.hid hbb; have HBW := Lib.hid hbw; have HSW := Lib.hid hsw
    have mbo : ∀ o, (wr.alloc o).heap[w.heap.size]? = some (.cells #[.pointer (some ⟨B, 0, none⟩), .int .i64 p, .int .i64 n, .int .i64 c, .bool r] 173 (0, 0)) := fun o => (Below.heap_alloc wr o _ (by omega)).trans mbw
    have q0 : ∀ o, (wr.alloc o).cell? ⟨w.heap.size, 0, none⟩ = some (.pointer (some ⟨B, 0, none⟩)) := fun o => by rw [cell_of_row _ _ _ _ _ _ (mbo o)]; rfl
    have q1 : ∀ o, (wr.alloc o).cell? ⟨w.heap.size, 1, none⟩ = some (.int .i64 p) := fun o => by rw [cell_of_row _ _ _ _ _ _ (mbo o)]; rfl
    have q2 : ∀ o, (wr.alloc o).cell? ⟨w.heap.size, 2, none⟩ = some (.int .i64 n) := fun o => by rw [cell_of_row _ _ _ _ _ _ (mbo o)]; rfl
    have q3 : ∀ o, (wr.alloc o).cell? ⟨w.heap.size, 3, none⟩ = some (.int .i64 c) := fun o => by rw [cell_of_row _ _ _ _ _ _ (mbo o)]; rfl
    have q4 : ∀ o, (wr.alloc o).cell? ⟨w.heap.size, 4, none⟩ = some (.bool r) := fun o => by rw [cell_of_row _ _ _ _ _ _ (mbo o)]; rfl
    have HRB := Lib.hid rbw
    clear hall rbw mbw hbb hbw hsw mbo
    rcases (show k = 6 ∨ k = 0 ∨ k = 1 ∨ k = 2 ∨ k = 3 ∨ k = 4 ∨ k = 5 by omega) with rfl | rfl | rfl | rfl | rfl | rfl | rfl
    · have HV : Hid (firstE b1 b2 b3 b4 b5 b6 = 0) := Lib.hid (by
        obtain ⟨h1, h2, h3, h4, h5, h6⟩ := HA.out
        rw [h1 (by omega), h2 (by omega), h3 (by omega), h4 (by omega), h5 (by omega), h6 (by omega)]; rfl)
      go_wp2
      go_ret
      exact Ret.mk (by rw [HV.out]; rfl) HBB.out
    · have r0 : wr.cell? ⟨w.heap.size + 1, 0, none⟩ = some (.func (.func 190) #[] #[]) := by rw [cell_of_row _ _ _ _ _ _ HRB.out]; rfl
      have r1 : wr.cell? ⟨w.heap.size + 1, 1, none⟩ = some (.int .i64 4) := by rw [cell_of_row _ _ _ _ _ _ HRB.out]; rfl
      go_wp2_with fail
      refine (HR.out.h1 _ (HBB.out.alloc HBB.out.size _)).mono ?_
      rintro e w3 ⟨rfl, b3⟩
      have e1 : w3.cell? ⟨wr.heap.size, 1, none⟩ = some (.int .i64 4) := (b3.cell (p := ⟨wr.heap.size, 1, none⟩) (by simp)).trans (by simp)
      have HB3 := Lib.hid (bthen (HBB.out.alloc HBB.out.size _) (Nat.le_trans HBB.out.size (by simp)) b3)
      have HL3 := Lib.hid ((HBW.out.trans ((balloc wr _).mono HSW.out)).trans (b3.mono (by have := HSW.out; simp; omega)))
      have HS3 := Lib.hid (show w.heap.size + 2 ≤ w3.heap.size by have := HSW.out; have := b3.size; simp at this; omega)
      clear b3 r0 r1 q0 q1 q2 q3 q4
      cases hb : b1
      · have HN := Lib.hid hb
        clear hb
        go_wp2_with fail
        go_roundw
        case rel => exact ⟨1, by omega, rfl, HL3.out, HS3.out, fun _ => HN.out, fun h => absurd h (by omega), fun h => absurd h (by omega), fun h => absurd h (by omega), fun h => absurd h (by omega), fun h => absurd h (by omega)⟩
        case measure => simp [intOf]
      · have HV : Hid (firstE b1 b2 b3 b4 b5 b6 = 4) := Lib.hid (by rw [hb]; rfl)
        clear hb
        go_wp2_with fail
        go_ret
        exact Ret.mk (by rw [HV.out]; rfl) HB3.out
    · have r0 : wr.cell? ⟨w.heap.size + 1, 2, none⟩ = some (.func (.func 191) #[] #[]) := by rw [cell_of_row _ _ _ _ _ _ HRB.out]; rfl
      have r1 : wr.cell? ⟨w.heap.size + 1, 3, none⟩ = some (.int .i64 4) := by rw [cell_of_row _ _ _ _ _ _ HRB.out]; rfl
      go_wp2_with fail
      refine (HR.out.h2 _ (HBB.out.alloc HBB.out.size _)).mono ?_
      rintro e w3 ⟨rfl, b3⟩
      have e1 : w3.cell? ⟨wr.heap.size, 1, none⟩ = some (.int .i64 4) := (b3.cell (p := ⟨wr.heap.size, 1, none⟩) (by simp)).trans (by simp)
      have HB3 := Lib.hid (bthen (HBB.out.alloc HBB.out.size _) (Nat.le_trans HBB.out.size (by simp)) b3)
      have HL3 := Lib.hid ((HBW.out.trans ((balloc wr _).mono HSW.out)).trans (b3.mono (by have := HSW.out; simp; omega)))
      have HS3 := Lib.hid (show w.heap.size + 2 ≤ w3.heap.size by have := HSW.out; have := b3.size; simp at this; omega)
      clear b3 r0 r1 q0 q1 q2 q3 q4
      cases hb : b2
      · have HN := Lib.hid hb
        clear hb
        go_wp2_with fail
        go_roundw
        case rel => exact ⟨2, by omega, rfl, HL3.out, HS3.out, fun _ => HA.out.1 (by omega), fun _ => HN.out, fun h => absurd h (by omega), fun h => absurd h (by omega), fun h => absurd h (by omega), fun h => absurd h (by omega)⟩
        case measure => simp [intOf]
      · have HV : Hid (firstE b1 b2 b3 b4 b5 b6 = 4) := Lib.hid (by rw [HA.out.1 (by omega)]; rw [hb]; rfl)
        clear hb
        go_wp2_with fail
        go_ret
        exact Ret.mk (by rw [HV.out]; rfl) HB3.out
    · have r0 : wr.cell? ⟨w.heap.size + 1, 4, none⟩ = some (.func (.func 192) #[] #[]) := by rw [cell_of_row _ _ _ _ _ _ HRB.out]; rfl
      have r1 : wr.cell? ⟨w.heap.size + 1, 5, none⟩ = some (.int .i64 5) := by rw [cell_of_row _ _ _ _ _ _ HRB.out]; rfl
      go_wp2_with fail
      refine (HR.out.h3 _ (HBB.out.alloc HBB.out.size _)).mono ?_
      rintro e w3 ⟨rfl, b3⟩
      have e1 : w3.cell? ⟨wr.heap.size, 1, none⟩ = some (.int .i64 5) := (b3.cell (p := ⟨wr.heap.size, 1, none⟩) (by simp)).trans (by simp)
      have HB3 := Lib.hid (bthen (HBB.out.alloc HBB.out.size _) (Nat.le_trans HBB.out.size (by simp)) b3)
      have HL3 := Lib.hid ((HBW.out.trans ((balloc wr _).mono HSW.out)).trans (b3.mono (by have := HSW.out; simp; omega)))
      have HS3 := Lib.hid (show w.heap.size + 2 ≤ w3.heap.size by have := HSW.out; have := b3.size; simp at this; omega)
      clear b3 r0 r1 q0 q1 q2 q3 q4
      cases hb : b3
      · have HN := Lib.hid hb
        clear hb
        go_wp2_with fail
        go_roundw
        case rel => exact ⟨3, by omega, rfl, HL3.out, HS3.out, fun _ => HA.out.1 (by omega), fun _ => HA.out.2.1 (by omega), fun _ => HN.out, fun h => absurd h (by omega), fun h => absurd h (by omega), fun h => absurd h (by omega)⟩
        case measure => simp [intOf]
      · have HV : Hid (firstE b1 b2 b3 b4 b5 b6 = 5) := Lib.hid (by rw [HA.out.1 (by omega)]; rw [HA.out.2.1 (by omega)]; rw [hb]; rfl)
        clear hb
        go_wp2_with fail
        go_ret
        exact Ret.mk (by rw [HV.out]; rfl) HB3.out
    · have r0 : wr.cell? ⟨w.heap.size + 1, 6, none⟩ = some (.func (.func 193) #[] #[]) := by rw [cell_of_row _ _ _ _ _ _ HRB.out]; rfl
      have r1 : wr.cell? ⟨w.heap.size + 1, 7, none⟩ = some (.int .i64 4) := by rw [cell_of_row _ _ _ _ _ _ HRB.out]; rfl
      go_wp2_with fail
      refine (HR.out.h4 _ (HBB.out.alloc HBB.out.size _)).mono ?_
      rintro e w3 ⟨rfl, b3⟩
      have e1 : w3.cell? ⟨wr.heap.size, 1, none⟩ = some (.int .i64 4) := (b3.cell (p := ⟨wr.heap.size, 1, none⟩) (by simp)).trans (by simp)
      have HB3 := Lib.hid (bthen (HBB.out.alloc HBB.out.size _) (Nat.le_trans HBB.out.size (by simp)) b3)
      have HL3 := Lib.hid ((HBW.out.trans ((balloc wr _).mono HSW.out)).trans (b3.mono (by have := HSW.out; simp; omega)))
      have HS3 := Lib.hid (show w.heap.size + 2 ≤ w3.heap.size by have := HSW.out; have := b3.size; simp at this; omega)
      clear b3 r0 r1 q0 q1 q2 q3 q4
      cases hb : b4
      · have HN := Lib.hid hb
        clear hb
        go_wp2_with fail
        go_roundw
        case rel => exact ⟨4, by omega, rfl, HL3.out, HS3.out, fun _ => HA.out.1 (by omega), fun _ => HA.out.2.1 (by omega), fun _ => HA.out.2.2.1 (by omega), fun _ => HN.out, fun h => absurd h (by omega), fun h => absurd h (by omega)⟩
        case measure => simp [intOf]
      · have HV : Hid (firstE b1 b2 b3 b4 b5 b6 = 4) := Lib.hid (by rw [HA.out.1 (by omega)]; rw [HA.out.2.1 (by omega)]; rw [HA.out.2.2.1 (by omega)]; rw [hb]; rfl)
        clear hb
        go_wp2_with fail
        go_ret
        exact Ret.mk (by rw [HV.out]; rfl) HB3.out
    · have r0 : wr.cell? ⟨w.heap.size + 1, 8, none⟩ = some (.func (.func 194) #[] #[]) := by rw [cell_of_row _ _ _ _ _ _ HRB.out]; rfl
      have r1 : wr.cell? ⟨w.heap.size + 1, 9, none⟩ = some (.int .i64 4) := by rw [cell_of_row _ _ _ _ _ _ HRB.out]; rfl
      go_wp2_with fail
      refine (HR.out.h5 _ (HBB.out.alloc HBB.out.size _)).mono ?_
      rintro e w3 ⟨rfl, b3⟩
      have e1 : w3.cell? ⟨wr.heap.size, 1, none⟩ = some (.int .i64 4) := (b3.cell (p := ⟨wr.heap.size, 1, none⟩) (by simp)).trans (by simp)
      have HB3 := Lib.hid (bthen (HBB.out.alloc HBB.out.size _) (Nat.le_trans HBB.out.size (by simp)) b3)
      have HL3 := Lib.hid ((HBW.out.trans ((balloc wr _).mono HSW.out)).trans (b3.mono (by have := HSW.out; simp; omega)))
      have HS3 := Lib.hid (show w.heap.size + 2 ≤ w3.heap.size by have := HSW.out; have := b3.size; simp at this; omega)
      clear b3 r0 r1 q0 q1 q2 q3 q4
      cases hb : b5
      · have HN := Lib.hid hb
        clear hb
        go_wp2_with fail
        go_roundw
        case rel => exact ⟨5, by omega, rfl, HL3.out, HS3.out, fun _ => HA.out.1 (by omega), fun _ => HA.out.2.1 (by omega), fun _ => HA.out.2.2.1 (by omega), fun _ => HA.out.2.2.2.1 (by omega), fun _ => HN.out, fun h => absurd h (by omega)⟩
        case measure => simp [intOf]
      · have HV : Hid (firstE b1 b2 b3 b4 b5 b6 = 4) := Lib.hid (by rw [HA.out.1 (by omega)]; rw [HA.out.2.1 (by omega)]; rw [HA.out.2.2.1 (by omega)]; rw [HA.out.2.2.2.1 (by omega)]; rw [hb]; rfl)
        clear hb
        go_wp2_with fail
        go_ret
        exact Ret.mk (by rw [HV.out]; rfl) HB3.out
    · have r0 : wr.cell? ⟨w.heap.size + 1, 10, none⟩ = some (.func (.func 195) #[] #[]) := by rw [cell_of_row _ _ _ _ _ _ HRB.out]; rfl
      have r1 : wr.cell? ⟨w.heap.size + 1, 11, none⟩ = some (.int .i64 4) := by rw [cell_of_row _ _ _ _ _ _ HRB.out]; rfl
      go_wp2_with fail
      refine (HR.out.h6 _ (HBB.out.alloc HBB.out.size _)).mono ?_
      rintro e w3 ⟨rfl, b3⟩
      have e1 : w3.cell? ⟨wr.heap.size, 1, none⟩ = some (.int .i64 4) := (b3.cell (p := ⟨wr.heap.size, 1, none⟩) (by simp)).trans (by simp)
      have HB3 := Lib.hid (bthen (HBB.out.alloc HBB.out.size _) (Nat.le_trans HBB.out.size (by simp)) b3)
      have HL3 := Lib.hid ((HBW.out.trans ((balloc wr _).mono HSW.out)).trans (b3.mono (by have := HSW.out; simp; omega)))
      have HS3 := Lib.hid (show w.heap.size + 2 ≤ w3.heap.size by have := HSW.out; have := b3.size; simp at this; omega)
      clear b3 r0 r1 q0 q1 q2 q3 q4
      cases hb : b6
      · have HN := Lib.hid hb
        clear hb
        go_wp2_with fail
        go_roundw
        case rel => exact ⟨6, by omega, rfl, HL3.out, HS3.out, fun _ => HA.out.1 (by omega), fun _ => HA.out.2.1 (by omega), fun _ => HA.out.2.2.1 (by omega), fun _ => HA.out.2.2.2.1 (by omega), fun _ => HA.out.2.2.2.2.1 (by omega), fun _ => HN.out⟩
        case measure => simp [intOf]
      · have HV : Hid (firstE b1 b2 b3 b4 b5 b6 = 4) := Lib.hid (by rw [HA.out.1 (by omega)]; rw [HA.out.2.1 (by omega)]; rw [HA.out.2.2.1 (by omega)]; rw [HA.out.2.2.2.1 (by omega)]; rw [HA.out.2.2.2.2.1 (by omega)]; rw [hb]; rfl)
        clear hb
        go_wp2_with fail
        go_ret
        exact Ret.mk (by rw [HV.out]; rfl) HB3.out
end Go.Proofs.YtdapdadcninidaaGreatDoor
