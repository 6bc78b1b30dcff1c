/- TopLive: the number of nodes never falls, a node keeps its kind, its namespace, its name, its contents and its host whatever happens, and a walk that has begun yields each node once. Conditions: none beyond the row's. -/
import Derived.Test.YtdapdadcninidaaGreatDoorM1
import Derived.Test.YtdapdadcninidaaGreatDoorM19
import Derived.Test.YtdapdadcninidaaGreatDoorM20
import Derived.Carry
import Derived.Lay
import Derived.Deep.DeepWitnessRowRef
namespace Go.Proofs.YtdapdadcninidaaGreatDoor.topLive
open Go.ChangeShapes Go.WideShapes Go.ChangeAt Go.RowKit Go.ChangeMaps
theorem laidOut : laidOutB Tryz.prog = true := by kernel_rfl
set_option maxRecDepth 100000 in
theorem contract (H : Type) (enc : TypeId × Value → H) (W : World) (base : Nat) (args : Array Value) (ds gs : List (DataW H)) (before : List MemPlace)
    (hval : ∀ (j : Nat) t v, Tryz.f5.params[j]? = some t → args[j]? = some v → Value.okWide Tryz.prog W .any base t v)
    (hW : DataW.Whole enc Tryz.prog Tryz.f5.params.toList Rows.topLiveSpec.vars false W args.toList ds gs before) :
    Calls Tryz.prog 5 args W fun e W' => ∃ v, e = .returned v ∧ Rows.topLiveSpec.post enc Tryz.prog Tryz.f5 false true false false W args v W' := by
  have hW' := hW
  obtain ⟨p, q, hA0, hV, rfl, hfz, hnd⟩ := hW
  have hA : DataW.TrodAll enc Tryz.prog W 0 (fun _ => true) true Tryz.f5.params.toList args.toList ds p := hA0
  rw [Tryz.params5] at hA hval
  obtain ⟨v0, vs0, d0, ds0, p0, q0, hargs0, rfl, rfl, h0, r0⟩ := trodAll_cons hA
  obtain ⟨v1, vs1, d1, ds1, p1, q1, hargs1, rfl, rfl, h1, r1⟩ := trodAll_cons r0
  obtain ⟨rfl, rfl, rfl⟩ := trodAll_nil r1
  obtain rfl : args = #[v0, v1] := by cases args; simp_all
  obtain ⟨rfl, rfl⟩ := trodVars_none hV
  have h0k := h0
  obtain ⟨a0, len0, cap0, rfl⟩ := okWide_slice Tryz.underlying75 (hval 0 75 _ rfl rfl)
  obtain ⟨n1, rfl, rfl, rfl, hw1⟩ := open_int Tryz.underlying3 (hval 1 3 _ rfl rfl) h1
  obtain ⟨fuel0, hf0⟩ := h0
  clear hA0
  simp only [List.append_nil] at hW'
  obtain ⟨l, rfl, hl0, hin0, hal⟩ := opsIn_open (by kernel_rfl) (by kernel_rfl) (by kernel_rfl) (by kernel_rfl) (by kernel_rfl) (by kernel_rfl) (by kernel_rfl) hf0
  have hlt : ∀ x ∈ p0, x.block < W.heap.size := fun x hx => hW'.lt x (by simpa using hx)
  refine (TopLive_any l n1 W (c := cap0) hl0 hin0 hal).mono fun e W' ⟨he, hb⟩ => ?_
  subst he
  exact ⟨_, rfl, post_of_below (pa := p0) (pv := []) hW' (fun _ _ _ => trodAll_cons_mk (shut_bool Tryz.underlying4 _) trodAll_mk0)
    (fun sp hsp => by
      have := trodAll_mk2 (WideElems.Trod_stays laidOut (by kernel_rfl) (of_decide_eq_true (by kernel_rfl)) h0k (fun x hx => hb.same (hlt x hx)) (fun x hx => hsp x (by simpa using hx))) (shut_int Tryz.underlying3 hw1)
      rw [List.append_nil] at this
      exact this)
    (fun _ _ => rfl) (by simp) hb (ok_one (by kernel_rfl) rfl (okWide_bool_mk Tryz.underlying4 _))⟩
noncomputable def lw (os : Os) : World := World.laidAll Tryz.prog os Rows.topLiveRow.laid
set_option maxRecDepth 100000 in
theorem laid_met (os : Os) : laidMet Tryz.prog Rows.topLiveRow.laid ((lw os).forCall (fun _ _ => 0) ⟨#[], #[.slice none 0 0, .int .i64 0], []⟩).memory :=
  laidMet_laidAll _ (by kernel_rfl) (by kernel_rfl)
theorem reads (os : Os) {H : Type} (enc : TypeId × Value → H) : ∃ places, DataW.whole enc Tryz.prog ((lw os).forCall (fun _ _ => 0) ⟨#[], #[.slice none 0 0, .int .i64 0], []⟩).memory Tryz.f5.params.toList Rows.topLiveSpec.vars false (#[.slice none 0 0, .int .i64 0] : Array Value).toList 8 = some ([.nil, .lit (.int .i64 0)], [], places) :=
  ⟨[], by kernel_rfl⟩
set_option maxRecDepth 100000 in
theorem lifted (os : Os) (started : os.Started) (H : Type) (enc : TypeId × Value → H) (F : Stop.Interp) :
    ReturnsInHanded {} Tryz.checked os 5 .any ((OpenSpec.ofChange Rows.topLiveSpec).preRow enc Tryz.prog Tryz.f5 Rows.topLiveRow.domain false Rows.topLiveRow.laid) (((OpenSpec.ofChange Rows.topLiveSpec).at F).post enc Tryz.prog Tryz.f5 false true false false) := by
  obtain ⟨places, hx⟩ := reads os enc
  refine returnsInHanded_of_row (C := Tryz.checked) (s := OpenSpec.ofChange Rows.topLiveSpec) own started (by kernel_rfl) Tryz.func5
    (witness_row_atRef (enc := enc) (C := Tryz.checked) false (lw os) #[.slice none 0 0, .int .i64 0] (World.laidAll_os _ _ _) (by kernel_rfl) (by kernel_rfl) (by kernel_rfl)
      (OpenSpec.preRow_of_cond 8 hx (by kernel_rfl) (fun k hk => by cases hk) (by kernel_rfl) (laid_met os))) ?_
  intro W base args ds gs before hval hW _ _ _ _ hsh _
  exact contract H enc W base args ds gs before hval hW
theorem said : Rows.TopLiveSaid :=
  OpenClaim.holds_of_cond 5 Tryz.f5 rfl rfl rfl rfl rfl rfl rfl ⟨rfl, rfl, rfl, rfl, rfl⟩ rfl rfl rfl rfl rfl (by kernel_rfl) Tryz.func5 (by kernel_rfl)
    (of_decide_eq_true (by kernel_rfl)) (by unfold Func.isWrapper; first | (rw [if_pos (by decide +kernel)]; kernel_rfl) | (rw [if_neg (by decide +kernel)]; exact ⟨rfl, rfl⟩))
    (fun os started H enc _ F => by rw [OpenClaim.pre_eq_preRow]; exact lifted os started H enc F)
theorem plain (f : FuncId) (fn : Func) (hf : Tryz.pinned.checked.prog.funcNamed "thicket/thickettop.TopLive" = some f) (hfn : Tryz.pinned.checked.prog.funcs[f]? = some fn) :
    true = Tryz.pinned.checked.prog.looks [] ∧ ∀ (j : Nat) t, fn.params[j]? = some t → Tryz.pinned.checked.prog.wantsStandIn t = false := by
  obtain rfl : f = 5 := Option.some.inj ((show Tryz.prog.funcNamed "thicket/thickettop.TopLive" = some 5 by kernel_rfl).symm.trans hf) |>.symm
  obtain rfl : fn = Tryz.f5 := (Option.some.inj (Tryz.func5.symm.trans hfn)).symm
  refine ⟨by kernel_rfl, fun j t ht => ?_⟩
  rw [Tryz.params5] at ht
  have hm := Array.mem_of_getElem? ht
  simp only [List.mem_toArray, List.mem_cons, List.not_mem_nil, or_false] at hm
  rcases hm with rfl | rfl
  · exact (show Tryz.prog.wantsStandIn 75 = false by kernel_rfl)
  · exact (show Tryz.prog.wantsStandIn 3 = false by kernel_rfl)
theorem card : Rows.TopLiveCardSaid :=
  Claim7.holds_tied_plain_at .later [] _ _ _ _ said (fun _ h => by cases h) (by kernel_rfl) (fun _ h => by cases h) topLive_row_tie rfl ⟨rfl, rfl⟩ (by kernel_rfl) rfl plain (by kernel_rfl)
end Go.Proofs.YtdapdadcninidaaGreatDoor.topLive
namespace Go.Proofs.YtdapdadcninidaaGreatDoor
theorem topLive_card : Rows.TopLiveCardSaid := topLive.card
#print axioms topLive_card
end Go.Proofs.YtdapdadcninidaaGreatDoor
