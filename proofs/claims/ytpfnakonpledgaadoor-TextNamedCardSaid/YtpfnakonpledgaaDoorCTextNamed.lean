/- TextNamed: the value of any string as a name, the longest name ahead of it, and whether some name begins with it, as the reference says. Conditions: none beyond the row's. -/
import Derived.Test.YtpfnakonpledgaaDoorFin
import Derived.Test.YtpfnakonpledgaaDoorLa6
namespace Go.Proofs.YtpfnakonpledgaaDoor.textNamed
open Go.ChangeShapes Go.WideShapes Go.ChangeAt Go.RowKit Go.ChangeMaps
set_option maxRecDepth 100000 in
theorem contract (H : Type) (enc : TypeId × Value → H) (W : World) (base : Nat) (args : Array Value) (ds gs : List (DataW H)) (before : List MemPlace)
    (hval : ∀ (j : Nat) t v, Tryd.f17.params[j]? = some t → args[j]? = some v → Value.okWide Tryd.prog W .any base t v)
    (hW : DataW.Whole enc Tryd.prog Tryd.f17.params.toList Rows.textNamedSpec.vars false W args.toList ds gs before) (hG : Good W) :
    Calls Tryd.prog 17 args W fun e W' => ∃ v, e = .returned v ∧ Rows.textNamedSpec.post enc Tryd.prog Tryd.f17 false true false false W args v W' := by
  have hW' := hW
  obtain ⟨p, q, hA0, hV, rfl, hfz, hnd⟩ := hW
  have hA : DataW.TrodAll enc Tryd.prog W 0 (fun _ => true) true Tryd.f17.params.toList args.toList ds p := hA0
  rw [Tryd.params17] at hA hval
  obtain ⟨v0, vs0, d0, ds0, p0, q0, hargs0, rfl, rfl, h0, r0⟩ := trodAll_cons hA
  obtain ⟨rfl, rfl, rfl⟩ := trodAll_nil r0
  obtain rfl : args = #[v0] := by cases args; simp_all
  obtain ⟨rfl, rfl⟩ := trodVars_none hV
  obtain ⟨s0, rfl, rfl, rfl, hs0⟩ := open_string Tryd.underlying9 (hval 0 9 _ rfl rfl) h0
  clear hA0
  simp only [List.append_nil] at hW'
  obtain ⟨l0, rfl⟩ : ∃ l : List UInt8, s0 = ⟨l.toArray⟩ := ⟨_, str_list s0⟩
  refine (TextNamed_any l0 W hG hs0).mono fun e W' ⟨he, hb⟩ => ?_
  subst he
  exact ⟨_, rfl, post_of_below (pa := []) (pv := []) hW' (fun _ _ _ => trodAll_cons_mk (shut_bool Tryd.underlying4 _) trodAll_mk0) (fun _ _ => trodAll_cons_mk (shut_string Tryd.underlying9 hs0) trodAll_mk0) (fun _ _ => rfl) rfl
    hb (ok_one (by kernel_rfl) rfl (okWide_bool_mk Tryd.underlying4 _))⟩
set_option maxRecDepth 100000 in
theorem laid_met (os : Os) : laidMet Tryd.prog Rows.textNamedRow.laid ((laidWorld os).forCall (fun _ _ => 0) ⟨#[], #[.string ⟨#[]⟩], []⟩).memory :=
  laidMet_of_run' 8 (by kernel_rfl) (by kernel_rfl)
theorem reads (os : Os) {H : Type} (enc : TypeId × Value → H) : ∃ places, DataW.whole enc Tryd.prog ((laidWorld os).forCall (fun _ _ => 0) ⟨#[], #[.string ⟨#[]⟩], []⟩).memory Tryd.f17.params.toList Rows.textNamedSpec.vars false (#[.string ⟨#[]⟩] : Array Value).toList 8 = some ([.lit (.string [])], [], places) :=
  ⟨[], by kernel_rfl⟩
set_option maxRecDepth 100000 in
theorem lifted (os : Os) (started : os.Started) (H : Type) (enc : TypeId × Value → H) (F : Stop.Interp) :
    ReturnsInHanded {} Tryd.checked os 17 .any ((OpenSpec.ofChange Rows.textNamedSpec).preRow enc Tryd.prog Tryd.f17 Rows.textNamedRow.domain false Rows.textNamedRow.laid) (((OpenSpec.ofChange Rows.textNamedSpec).at F).post enc Tryd.prog Tryd.f17 false true false false) := by
  obtain ⟨places, hx⟩ := reads os enc
  refine returnsInHanded_of_row (C := Tryd.checked) (s := OpenSpec.ofChange Rows.textNamedSpec) own started (by kernel_rfl) Tryd.func17
    (witness_row_at (enc := enc) (C := Tryd.checked) false (laidWorld os) #[.string ⟨#[]⟩] rfl (by kernel_rfl) (by kernel_rfl) (by kernel_rfl)
      (OpenSpec.preRow_of_cond 8 hx (by kernel_rfl) (fun k hk => by cases hk) (by kernel_rfl) (laid_met os))) ?_
  intro W base args ds gs before hval hW _ _ _ _ hsh _
  exact contract H enc W base args ds gs before hval hW (good_of_shaped hsh)
theorem said : Rows.TextNamedSaid :=
  OpenClaim.holds_of_cond 17 Tryd.f17 rfl rfl rfl rfl rfl rfl rfl ⟨rfl, rfl, rfl, rfl, rfl⟩ rfl rfl rfl rfl rfl (by kernel_rfl) Tryd.func17 (by kernel_rfl)
    (of_decide_eq_true (by kernel_rfl)) (by unfold Func.isWrapper; first | (rw [if_pos (by decide +kernel)]; kernel_rfl) | (rw [if_neg (by decide +kernel)]; exact ⟨rfl, rfl⟩))
    (fun os started H enc _ F => by rw [OpenClaim.pre_eq_preRow]; exact lifted os started H enc F)
theorem plain (f : FuncId) (fn : Func) (hf : Tryd.pinned.checked.prog.funcNamed "thicket/thicketlaw01.TextNamed" = some f) (hfn : Tryd.pinned.checked.prog.funcs[f]? = some fn) :
    false = Tryd.pinned.checked.prog.looks [] ∧ ∀ (j : Nat) t, fn.params[j]? = some t → Tryd.pinned.checked.prog.wantsStandIn t = false := by
  obtain rfl : f = 17 := Option.some.inj ((show Tryd.prog.funcNamed "thicket/thicketlaw01.TextNamed" = some 17 by kernel_rfl).symm.trans hf) |>.symm
  obtain rfl : fn = Tryd.f17 := (Option.some.inj (Tryd.func17.symm.trans hfn)).symm
  refine ⟨by kernel_rfl, fun j t ht => ?_⟩
  rw [Tryd.params17] at ht
  have hm := Array.mem_of_getElem? ht
  simp only [List.mem_toArray, List.mem_cons, List.not_mem_nil, or_false] at hm
  subst hm; exact (show Tryd.prog.wantsStandIn 9 = false by kernel_rfl)
theorem card : Rows.TextNamedCardSaid :=
  Claim7.holds_tied_plain_at .later [] _ _ _ _ said (fun _ h => by cases h) (by kernel_rfl) (fun _ h => by cases h) textNamed_row_tie rfl ⟨rfl, rfl⟩ (by kernel_rfl) rfl plain (by kernel_rfl)
end Go.Proofs.YtpfnakonpledgaaDoor.textNamed
namespace Go.Proofs.YtpfnakonpledgaaDoor
theorem textNamed_card : Rows.TextNamedCardSaid := textNamed.card
#print axioms textNamed_card
end Go.Proofs.YtpfnakonpledgaaDoor
