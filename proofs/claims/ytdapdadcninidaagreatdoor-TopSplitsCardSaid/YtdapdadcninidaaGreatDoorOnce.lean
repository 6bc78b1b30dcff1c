/- sync.Once: Do, at a function that has not been called yet. -/
import Derived.Test.YtdapdadcninidaaGreatDoorBase
import Derived.Test.YtdapdadcninidaaGreatDoorIter
import Derived.Tactics
import Derived.Tactics2
import Derived.Defers
import Derived.Laws.Pointers
import Derived.Laws.LoneSync
import Derived.RegionTactic
import Derived.RegionCalls
import Derived.ChangeAlike
namespace Go.Proofs.YtdapdadcninidaaGreatDoor
open Go.RowKit

theorem on_disable (w : World) : (callFunc 238 #[]).run Tryz.prog w = .ok (.value (.tuple #[])) w := run_call_mark0 Tryz.func238 (by kernel_rfl) (by kernel_rfl) (by kernel_rfl) .disable (by kernel_rfl) w
theorem on_enable (w : World) : (callFunc 240 #[]).run Tryz.prog w = .ok (.value (.tuple #[])) w := run_call_mark0 Tryz.func240 (by kernel_rfl) (by kernel_rfl) (by kernel_rfl) .enable (by kernel_rfl) w
theorem on_acquire (a : Addr) (w : World) : (callFunc 241 #[.pointer (some a)]).run Tryz.prog w = .ok (.value (.tuple #[])) w := run_call_marked Tryz.func241 (by kernel_rfl) (by kernel_rfl) (by kernel_rfl) .acquire (by kernel_rfl) a w
theorem on_release (a : Addr) (w : World) : (callFunc 243 #[.pointer (some a)]).run Tryz.prog w = .ok (.value (.tuple #[])) w := run_call_marked Tryz.func243 (by kernel_rfl) (by kernel_rfl) (by kernel_rfl) .releaseMerge (by kernel_rfl) a w

theorem store_deferred (a : Addr) (x : Value) (u : FrameMode) (w : World) (hc : w.cell? a = some x) (hz : w.frozen? a = false) :
    CallsD Tryz.prog 225 #[.pointer (some a), .bool true] u w fun e u' w' => u' = u ∧ (e = .returned (.tuple #[]) ∧ w' = w.drew.setCell a (.int .u32 1)) := by
  have hc' : w.drew.cell? a = some x := by go_simp
  have hz' : w.drew.frozen? a = false := by go_simp
  have hst := run_call_store (P := Tryz.prog) Tryz.func232 (by kernel_rfl) (by kernel_rfl) (by kernel_rfl) (by kernel_rfl) (k := .u32) (y := 1) hc' hz'
  go_enter_d Tryz.func225, Tryz.ntmps225
  go_wp2
  go_region_calls
  all_goals (go_end0; exact ⟨rfl, rfl⟩)
set_option maxRecDepth 100000 in
set_option maxHeartbeats 1000000 in
theorem unlock_deferred (a : Addr) (u : FrameMode) (w : World) (hc : w.cell? a = some (.int .i32 1)) (hz : w.frozen? a = false) :
    CallsD Tryz.prog 224 #[.pointer (some a)] u w fun e u' w' => u' = u ∧ (e = .returned (.tuple #[]) ∧ w' = w.setCell a (.int .i32 0)) := by
  have hd := on_disable
  have he := on_enable
  have hr := on_release
  have hadd := run_call_add (P := Tryz.prog) Tryz.func244 (by kernel_rfl) (by kernel_rfl) (by kernel_rfl) .i32 (by kernel_rfl) (y := -1) (s := 0) hc hz (by simp [go_sem]; rfl)
  have hcv := run_convert_to_unsafe (P := Tryz.prog) (src := 319) (dst := 215) Tryz.underlying319 Tryz.underlying215 (by kernel_rfl) hc
  go_enter_d Tryz.func224, Tryz.ntmps224
  go_wp2
  go_end0
  go_wp2
set_option maxRecDepth 100000 in
set_option maxHeartbeats 1000000 in
theorem lock_free (a : Addr) (w : World) (hc : w.cell? a = some (.int .i32 0)) (hz : w.frozen? a = false) :
    Calls Tryz.prog 223 #[.pointer (some a)] w fun e w' => e = .returned (.tuple #[]) ∧ w' = w.setCell a (.int .i32 1) := by
  have hd := on_disable
  have he := on_enable
  have ha := on_acquire
  have hcas := run_call_cas_hit (P := Tryz.prog) Tryz.func239 (by kernel_rfl) (by kernel_rfl) (by kernel_rfl) .i32 (by kernel_rfl) (y := 1) hc hz
  have hc' : (w.setCell a (.int .i32 1)).cell? a = some (.int .i32 1) := World.cell?_setCell_same w a _ hc
  have hcv := run_convert_to_unsafe (P := Tryz.prog) (src := 319) (dst := 215) Tryz.underlying319 Tryz.underlying215 (by kernel_rfl) hc'
  go_enter Tryz.func223, Tryz.ntmps223
  go_wp2
  first | go_end0 | (simp only [Exit.inBlock, Exit.then]; refine bodyPost_ret (results_none rfl _ _ _) rfl ?_) | refine bodyPost_ret (results_none rfl _ _ _) rfl ?_
  go_wp2
set_option maxRecDepth 100000 in
theorem done_any (a : Addr) (d : Int) (w : World) (h0 : w.cell? a = some (.int .u32 d)) :
    Calls Tryz.prog 213 #[.pointer (some a)] w fun e w' => e = .returned (.bool (d != 0)) ∧ w' = w := by
  have hl := run_call_load (P := Tryz.prog) Tryz.func222 (by kernel_rfl) (by kernel_rfl) (by kernel_rfl) .u32 (by kernel_rfl) h0
  go_enter Tryz.func213, Tryz.ntmps213
  go_wp2
  go_ret
  exact ⟨rfl, rfl⟩
set_option maxRecDepth 100000 in
set_option maxHeartbeats 1600000 in
/-- doSlow, the lock free and nothing done: the function (f, bound to p) is called; then 'done' is stored and the lock let go. -/
theorem slow_any (b f : Nat) (p : Value) (Q : World → Prop) (w : World)
    (h0 : w.cell? ⟨b, 0, none⟩ = some (.int .u32 0)) (h1 : w.cell? ⟨b, 1, none⟩ = some (.int .i32 0))
    (f0 : w.frozen? ⟨b, 0, none⟩ = false) (f1 : w.frozen? ⟨b, 1, none⟩ = false) (hmk : ∀ W, (callFunc f #[p]).run Tryz.prog W = .ok (.enter f #[p]) W)
    (hf : Calls Tryz.prog f #[p] (w.setCell ⟨b, 1, none⟩ (.int .i32 1)) fun e w2 => e = .returned (.tuple #[]) ∧ Q w2 ∧ w2.cell? ⟨b, 0, none⟩ = some (.int .u32 0) ∧ w2.cell? ⟨b, 1, none⟩ = some (.int .i32 1) ∧ w2.frozen? ⟨b, 0, none⟩ = false ∧ w2.frozen? ⟨b, 1, none⟩ = false) :
    Calls Tryz.prog 214 #[.pointer (some ⟨b, 0, none⟩), .func (.func f) #[p] #[]] w fun e w' => e = .returned (.tuple #[]) ∧ ∃ w2, Q w2 ∧ w' = (w2.drew.setCell ⟨b, 0, none⟩ (.int .u32 1)).setCell ⟨b, 1, none⟩ (.int .i32 0) := by
  have hl := done_any ⟨b, 0, none⟩ 0 (w.setCell ⟨b, 1, none⟩ (.int .i32 1)) ((World.cell?_setCell_other _ ⟨b, 1, none⟩ ⟨b, 0, none⟩ _ (by simp)).trans h0)
  have hnot : ∀ (x : Bool) (w : World), (Op.unary .not (.bool x)).run Tryz.prog w = .ok (.bool (!x)) w := fun _ _ => rfl
  have HF := Lib.hid hf
  clear hf
  go_enter_defers Tryz.func214, Tryz.ntmps214
  go_wp2_with (go_at_call 223; refine (lock_free ⟨b, 1, none⟩ _ (by go_simp) (by go_simp)).mono ?_; rintro e w' ⟨rfl, rfl⟩)
  refine hl.mono ?_
  rintro e w1 ⟨rfl, rfl⟩
  go_wp2_with fail
  refine HF.out.mono ?_
  rintro e w2 ⟨rfl, hq, k0, k1, k2, k3⟩
  have HQ := Lib.hid hq
  clear hq
  go_wp2
  refine leaves_cons (f := 225) (args := #[.pointer (some ⟨b, 0, none⟩), .bool true]) (by simp) (by simp [go_sem]) ?_
  refine (store_deferred ⟨b, 0, none⟩ (.int .u32 0) .returning _ k0 k2).mono ?_
  rintro e u' w'' ⟨rfl, rfl, rfl⟩
  refine leaves_cons (f := 224) (args := #[.pointer (some ⟨b, 1, none⟩)]) (by simp [settle]) (by simp [go_sem]) ?_
  refine (unlock_deferred ⟨b, 1, none⟩ _ _ ?_ (by simp [k3])).mono ?_
  · refine (World.cell?_setCell_other _ ⟨b, 0, none⟩ ⟨b, 1, none⟩ _ (by simp)).trans ?_
    rw [World.cell?_drew]
    exact k1
  rintro e u' w'' ⟨rfl, rfl, rfl⟩
  simp [Leaves, settle, results, Tryz.results214]
  exact ⟨w2, HQ.out, rfl⟩
set_option maxRecDepth 100000 in
set_option maxHeartbeats 1600000 in
/-- Do, nothing done. -/
theorem do_any (b f : Nat) (p : Value) (Q : World → Prop) (w : World)
    (h0 : w.cell? ⟨b, 0, none⟩ = some (.int .u32 0)) (h1 : w.cell? ⟨b, 1, none⟩ = some (.int .i32 0))
    (f0 : w.frozen? ⟨b, 0, none⟩ = false) (f1 : w.frozen? ⟨b, 1, none⟩ = false) (hmk : ∀ W, (callFunc f #[p]).run Tryz.prog W = .ok (.enter f #[p]) W)
    (hf : Calls Tryz.prog f #[p] (w.setCell ⟨b, 1, none⟩ (.int .i32 1)) fun e w2 => e = .returned (.tuple #[]) ∧ Q w2 ∧ w2.cell? ⟨b, 0, none⟩ = some (.int .u32 0) ∧ w2.cell? ⟨b, 1, none⟩ = some (.int .i32 1) ∧ w2.frozen? ⟨b, 0, none⟩ = false ∧ w2.frozen? ⟨b, 1, none⟩ = false) :
    Calls Tryz.prog 199 #[.pointer (some ⟨b, 0, none⟩), .func (.func f) #[p] #[]] w fun e w' => e = .returned (.tuple #[]) ∧ ∃ w2, Q w2 ∧ w' = (w2.drew.setCell ⟨b, 0, none⟩ (.int .u32 1)).setCell ⟨b, 1, none⟩ (.int .i32 0) := by
  have hl := done_any ⟨b, 0, none⟩ 0 w h0
  have hnot : ∀ (x : Bool) (w : World), (Op.unary .not (.bool x)).run Tryz.prog w = .ok (.bool (!x)) w := fun _ _ => rfl
  have H1 := Lib.hid (slow_any b f p Q w h0 h1 f0 f1 hmk hf)
  have HL := Lib.hid hl
  clear hf hl
  go_enter Tryz.func199, Tryz.ntmps199
  go_wp2_with fail
  refine HL.out.mono ?_
  rintro e w1 ⟨rfl, rfl⟩
  go_wp2_with fail
  refine H1.out.mono ?_
  rintro e w1 ⟨rfl, hq⟩
  have HQ := Lib.hid hq
  clear hq
  go_wp2
  go_end0
  exact ⟨rfl, HQ.out⟩
end Go.Proofs.YtdapdadcninidaaGreatDoor
