/- TextBehind: the longest name ahead of the n-th name with anything behind it is that name or a longer one that begins with it, and is found; every prefix of a name is a prefix of a name. Conditions: none beyond the row's. -/
import Derived.Test.YtgjodmjegmilhaaDoorFin
import Derived.Test.YtgjodmjegmilhaaDoorLa7
import Derived.SizedLaws
namespace Go.Proofs.YtgjodmjegmilhaaDoor.textBehind
open Go.ChangeShapes Go.WideShapes Go.ChangeAt Go.RowKit Go.ChangeMaps
set_option maxRecDepth 100000 in
theorem contract (H : Type) (enc : TypeId × Value → H) (W : World) (base : Nat) (args : Array Value) (ds gs : List (DataW H)) (before : List MemPlace)
    (hval : ∀ (j : Nat) t v, Tryd.f4.params[j]? = some t → args[j]? = some v → Value.okWide Tryd.prog W .any base t v)
    (hW : DataW.Whole enc Tryd.prog Tryd.f4.params.toList Rows.textBehindSpec.vars false W args.toList ds gs before) (hG : Good W) (hz : (DataW.weightsEach Tryd.prog (Tryd.f4.params.toList ++ (OpenSpec.ofChange Rows.textBehindSpec).bare.plain.varTypes Tryd.prog) (ds ++ gs)).all (· ≤ reachBytes) = true) :
    Calls Tryd.prog 4 args W fun e W' => ∃ v, e = .returned v ∧ Rows.textBehindSpec.post enc Tryd.prog Tryd.f4 false true false false W args v W' := by
  have hW' := hW
  obtain ⟨p, q, hA0, hV, rfl, hfz, hnd⟩ := hW
  have hA : DataW.TrodAll enc Tryd.prog W 0 (fun _ => true) true Tryd.f4.params.toList args.toList ds p := hA0
  rw [Tryd.params4] at hA hval
  obtain ⟨v0, vs0, d0, ds0, p0, q0, hargs0, rfl, rfl, h0, r0⟩ := trodAll_cons hA
  obtain ⟨v1, vs1, d1, ds1, p1, q1, hargs1, rfl, rfl, h1, r1⟩ := trodAll_cons r0
  obtain ⟨rfl, rfl, rfl⟩ := trodAll_nil r1
  obtain rfl : args = #[v0, v1] := by cases args; simp_all
  obtain ⟨rfl, rfl⟩ := trodVars_none hV
  obtain ⟨n0, rfl, rfl, rfl, hw0⟩ := open_int Tryd.underlying3 (hval 0 3 _ rfl rfl) h0
  obtain ⟨s1, rfl, rfl, rfl, hs1⟩ := open_string Tryd.underlying9 (hval 1 9 _ rfl rfl) h1
  clear hA0
  simp only [List.append_nil] at hW'
  obtain ⟨l1, rfl⟩ : ∃ l : List UInt8, s1 = ⟨l.toArray⟩ := ⟨_, str_list s1⟩
  have hz1 : l1.length ≤ 140737488351232 := sized_string hz (j := 1) (t := 9) (bytes := l1) (by rw [Tryd.params4]; rfl) rfl
  refine (TextBehind_any n0 l1 W hG (by omega)).mono fun e W' ⟨he, hb⟩ => ?_
  subst he
  exact ⟨_, rfl, post_of_below (pa := []) (pv := []) hW' (fun _ _ _ => trodAll_cons_mk (shut_bool Tryd.underlying4 _) trodAll_mk0) (fun _ _ => trodAll_cons_mk (shut_int Tryd.underlying3 hw0) (trodAll_cons_mk (shut_string Tryd.underlying9 hs1) trodAll_mk0)) (fun _ _ => rfl) rfl
    hb (ok_one (by kernel_rfl) rfl (okWide_bool_mk Tryd.underlying4 _))⟩
set_option maxRecDepth 100000 in
theorem laid_met (os : Os) : laidMet Tryd.prog Rows.textBehindRow.laid ((laidWorld os).forCall (fun _ _ => 0) ⟨#[], #[.int .i64 0, .string ⟨#[]⟩], []⟩).memory :=
  laidMet_of_run' 8 (by kernel_rfl) (by kernel_rfl)
theorem reads (os : Os) {H : Type} (enc : TypeId × Value → H) : ∃ places, DataW.whole enc Tryd.prog ((laidWorld os).forCall (fun _ _ => 0) ⟨#[], #[.int .i64 0, .string ⟨#[]⟩], []⟩).memory Tryd.f4.params.toList Rows.textBehindSpec.vars false (#[.int .i64 0, .string ⟨#[]⟩] : Array Value).toList 8 = some ([.lit (.int .i64 0), .lit (.string [])], [], places) :=
  ⟨[], by kernel_rfl⟩
set_option maxRecDepth 100000 in
theorem lifted (os : Os) (started : os.Started) (H : Type) (enc : TypeId × Value → H) (F : Stop.Interp) :
    ReturnsInHanded {} Tryd.checked os 4 .any ((OpenSpec.ofChange Rows.textBehindSpec).preRow enc Tryd.prog Tryd.f4 Rows.textBehindRow.domain false Rows.textBehindRow.laid) (((OpenSpec.ofChange Rows.textBehindSpec).at F).post enc Tryd.prog Tryd.f4 false true false false) := by
  obtain ⟨places, hx⟩ := reads os enc
  refine returnsInHanded_of_row (C := Tryd.checked) (s := OpenSpec.ofChange Rows.textBehindSpec) own started (by kernel_rfl) Tryd.func4
    (witness_row_at (enc := enc) (C := Tryd.checked) false (laidWorld os) #[.int .i64 0, .string ⟨#[]⟩] rfl (by kernel_rfl) (by kernel_rfl) (by kernel_rfl)
      (OpenSpec.preRow_of_cond 8 hx (by kernel_rfl) (fun k hk => by cases hk) (by kernel_rfl) (laid_met os))) ?_
  intro W base args ds gs before hval hW _ _ hz _ hsh _
  exact contract H enc W base args ds gs before hval hW (good_of_shaped hsh) hz
theorem said : Rows.TextBehindSaid :=
  OpenClaim.holds_of_cond 4 Tryd.f4 rfl rfl rfl rfl rfl rfl rfl ⟨rfl, rfl, rfl, rfl, rfl⟩ rfl rfl rfl rfl rfl (by kernel_rfl) Tryd.func4 (by kernel_rfl)
    (of_decide_eq_true (by kernel_rfl)) (by unfold Func.isWrapper; first | (rw [if_pos (by decide +kernel)]; kernel_rfl) | (rw [if_neg (by decide +kernel)]; exact ⟨rfl, rfl⟩))
    (fun os started H enc _ F => by rw [OpenClaim.pre_eq_preRow]; exact lifted os started H enc F)
theorem plain (f : FuncId) (fn : Func) (hf : Tryd.pinned.checked.prog.funcNamed "thicket/thicketlaw01.TextBehind" = some f) (hfn : Tryd.pinned.checked.prog.funcs[f]? = some fn) :
    false = Tryd.pinned.checked.prog.looks [] ∧ ∀ (j : Nat) t, fn.params[j]? = some t → Tryd.pinned.checked.prog.wantsStandIn t = false := by
  obtain rfl : f = 4 := Option.some.inj ((show Tryd.prog.funcNamed "thicket/thicketlaw01.TextBehind" = some 4 by kernel_rfl).symm.trans hf) |>.symm
  obtain rfl : fn = Tryd.f4 := (Option.some.inj (Tryd.func4.symm.trans hfn)).symm
  refine ⟨by kernel_rfl, fun j t ht => ?_⟩
  rw [Tryd.params4] at ht
  have hm := Array.mem_of_getElem? ht
  simp only [List.mem_toArray, List.mem_cons, List.not_mem_nil, or_false] at hm
  rcases hm with rfl | rfl
  · exact (show Tryd.prog.wantsStandIn 3 = false by kernel_rfl)
  · exact (show Tryd.prog.wantsStandIn 9 = false by kernel_rfl)
theorem card : Rows.TextBehindCardSaid :=
  Claim7.holds_tied_plain_at .later [] _ _ _ _ said (fun _ h => by cases h) (by kernel_rfl) (fun _ h => by cases h) textBehind_row_tie rfl ⟨rfl, rfl⟩ (by kernel_rfl) rfl plain (by kernel_rfl)
end Go.Proofs.YtgjodmjegmilhaaDoor.textBehind
namespace Go.Proofs.YtgjodmjegmilhaaDoor
theorem textBehind_card : Rows.TextBehindCardSaid := textBehind.card
#print axioms textBehind_card
end Go.Proofs.YtgjodmjegmilhaaDoor
