/- TextScalars: the bytes of any scalar values decode to these, and are valid; with a number among them that is none they are not. Conditions: none beyond the row's. -/
import Derived.Test.YtpfnakonpledgaaDoorFin
import Derived.Test.YtpfnakonpledgaaDoorSca
import Derived.ChangeSlices
namespace Go.Proofs.YtpfnakonpledgaaDoor.textScalars
open Go.ChangeShapes Go.WideShapes Go.ChangeAt Go.RowKit Go.ChangeMaps
set_option maxRecDepth 100000 in
theorem contract (H : Type) (enc : TypeId × Value → H) (W : World) (base : Nat) (args : Array Value) (ds gs : List (DataW H)) (before : List MemPlace)
    (hval : ∀ (j : Nat) t v, Tryd.f15.params[j]? = some t → args[j]? = some v → Value.okWide Tryd.prog W .any base t v)
    (hW : DataW.Whole enc Tryd.prog Tryd.f15.params.toList Rows.textScalarsSpec.vars false W args.toList ds gs before) (hG : Good W) :
    Calls Tryd.prog 15 args W fun e W' => ∃ v, e = .returned v ∧ Rows.textScalarsSpec.post enc Tryd.prog Tryd.f15 false true false false W args v W' := by
  have hW' := hW
  obtain ⟨p, q, hA0, hV, rfl, hfz, hnd⟩ := hW
  have hA : DataW.TrodAll enc Tryd.prog W 0 (fun _ => true) true Tryd.f15.params.toList args.toList ds p := hA0
  rw [Tryd.params15] at hA hval
  obtain ⟨v0, vs0, d0, ds0, p0, q0, hargs0, rfl, rfl, h0, r0⟩ := trodAll_cons hA
  obtain ⟨rfl, rfl, rfl⟩ := trodAll_nil r0
  obtain rfl : args = #[v0] := by cases args; simp_all
  obtain ⟨rfl, rfl⟩ := trodVars_none hV
  obtain ⟨a0, len, cap, rfl⟩ := okWide_slice Tryd.underlying40 (hval 0 40 _ rfl rfl)
  obtain ⟨fuel, hf⟩ := h0
  clear hA0
  simp only [List.append_nil] at hW'
  have hc1 : Tryd.prog.cellsOf 3 = 1 := by kernel_rfl
  rcases open_ints Tryd.underlying40 Tryd.underlying3 hc1 hf with ⟨hcs, hx⟩ | ⟨a, len', cap', zs, hcs, _, hl, hm, hz, hx, hcell, hwz⟩
  · simp [Value.cells] at hcs
    obtain ⟨rfl, rfl, rfl⟩ := hcs
    simp only [Prod.mk.injEq] at hx
    obtain ⟨rfl, rfl⟩ := hx
    refine (TextScalars_any [] _ W hG (.inl ⟨rfl, rfl⟩) (by simp)).mono fun e W' ⟨he, hb⟩ => ?_
    subst he
    exact ⟨_, rfl, post_of_below (pa := []) (pv := []) hW' (fun _ _ _ => trodAll_cons_mk (shut_bool Tryd.underlying4 _) trodAll_mk0) (fun _ _ => trodAll_mk1 (shut_slice_nil Tryd.underlying40)) (fun _ _ => rfl) rfl
      hb (ok_one (by kernel_rfl) rfl (okWide_bool_mk Tryd.underlying4 _))⟩
  · simp [Value.cells] at hcs
    obtain ⟨rfl, rfl, rfl⟩ := hcs
    simp only [Prod.mk.injEq] at hx
    obtain ⟨rfl, rfl⟩ := hx
    simp only [if_true] at hz
    have hlt : len ≤ zs.length := by omega
    have hlen : (zs.take len).length = len := by simp; omega
    have hin : IsInts W (.slice (some a) len cap) (zs.take len) := by
      refine .inr ⟨a, cap, by rw [hlen], fun i hi => ?_⟩
      rw [hcell i (by omega)]
      rw [hlen] at hi
      simp [List.getD, List.getElem?_eq_getElem (show i < zs.length by omega)]
    refine (TextScalars_any (zs.take len) _ W hG hin (by rw [hlen]; omega)).mono fun e W' ⟨he, hb⟩ => ?_
    subst he
    have hcell' : ∀ i, i < zs.length → W'.cell? (a.add i) = some (.int .i64 (zs.getD i 0)) := fun i hi => by
      rw [hb.cell (p := a.add i) (World.block_lt_of_cell? _ _ (hcell i hi))]; exact hcell i hi
    have again : ∀ sp : Nat → Bool, (∀ p ∈ MemPlace.row a zs.length, sp p.block = true) → DataW.TrodAll enc Tryd.prog W' 0 sp true [40] [.slice (some a) len cap] [.slice (lits .i64 (zs.take len)) (lits .i64 (zs.drop len))] (MemPlace.row a zs.length) := by
      intro sp hsp
      by_cases hz0 : zs.length = 0
      · have hc0 : cap = 0 := by omega
        have hl0 : len = 0 := by omega
        subst hc0; subst hl0
        have t0 := shut_ints (enc := enc) (w := W') (base := 0) (spare := sp) (held := true) (a := a) (len := 0) (cap := 0) (zs := zs) 0 Tryd.underlying40 Tryd.underlying3 hc1 (Nat.zero_le _) (Nat.le_refl _) hm (by simp [hz0]) hcell' hwz
        exact trodAll_mk1 ⟨2, by simpa [Value.cells] using t0⟩
      · have hspb : sp a.block = true := by
          have := hsp (.cell a.block a.off) (MemPlace.mem_row.2 ⟨0, by omega, by simp⟩)
          exact this
        have t0 := shut_ints (enc := enc) (w := W') (base := 0) (spare := sp) (held := true) (a := a) (len := len) (cap := cap) (zs := zs) 0 Tryd.underlying40 Tryd.underlying3 hc1 (Nat.zero_le _) hl hm (by simp [hspb, hz]) hcell' hwz
        exact trodAll_mk1 ⟨2, by simpa [Value.cells] using t0⟩
    exact ⟨_, rfl, post_of_below (pa := MemPlace.row a zs.length) (pv := []) hW' (fun _ _ _ => trodAll_cons_mk (shut_bool Tryd.underlying4 _) trodAll_mk0) (fun sp hsp => again sp (by simpa using hsp)) (fun _ _ => rfl) (by simp)
      hb (ok_one (by kernel_rfl) rfl (okWide_bool_mk Tryd.underlying4 _))⟩
set_option maxRecDepth 100000 in
theorem laid_met (os : Os) : laidMet Tryd.prog Rows.textScalarsRow.laid ((laidWorld os).forCall (fun _ _ => 0) ⟨#[], #[.slice none 0 0], []⟩).memory :=
  laidMet_of_run' 8 (by kernel_rfl) (by kernel_rfl)
theorem reads (os : Os) {H : Type} (enc : TypeId × Value → H) : ∃ places, DataW.whole enc Tryd.prog ((laidWorld os).forCall (fun _ _ => 0) ⟨#[], #[.slice none 0 0], []⟩).memory Tryd.f15.params.toList Rows.textScalarsSpec.vars false (#[.slice none 0 0] : Array Value).toList 8 = some ([.nil], [], places) :=
  ⟨[], by kernel_rfl⟩
set_option maxRecDepth 100000 in
theorem lifted (os : Os) (started : os.Started) (H : Type) (enc : TypeId × Value → H) (F : Stop.Interp) :
    ReturnsInHanded {} Tryd.checked os 15 .any ((OpenSpec.ofChange Rows.textScalarsSpec).preRow enc Tryd.prog Tryd.f15 Rows.textScalarsRow.domain false Rows.textScalarsRow.laid) (((OpenSpec.ofChange Rows.textScalarsSpec).at F).post enc Tryd.prog Tryd.f15 false true false false) := by
  obtain ⟨places, hx⟩ := reads os enc
  refine returnsInHanded_of_row (C := Tryd.checked) (s := OpenSpec.ofChange Rows.textScalarsSpec) own started (by kernel_rfl) Tryd.func15
    (witness_row_at (enc := enc) (C := Tryd.checked) false (laidWorld os) #[.slice none 0 0] rfl (by kernel_rfl) (by kernel_rfl) (by kernel_rfl)
      (OpenSpec.preRow_of_cond 8 hx (by kernel_rfl) (fun k hk => by cases hk) (by kernel_rfl) (laid_met os))) ?_
  intro W base args ds gs before hval hW _ _ _ _ hsh _
  exact contract H enc W base args ds gs before hval hW (good_of_shaped hsh)
theorem said : Rows.TextScalarsSaid :=
  OpenClaim.holds_of_cond 15 Tryd.f15 rfl rfl rfl rfl rfl rfl rfl ⟨rfl, rfl, rfl, rfl, rfl⟩ rfl rfl rfl rfl rfl (by kernel_rfl) Tryd.func15 (by kernel_rfl)
    (of_decide_eq_true (by kernel_rfl)) (by unfold Func.isWrapper; first | (rw [if_pos (by decide +kernel)]; kernel_rfl) | (rw [if_neg (by decide +kernel)]; exact ⟨rfl, rfl⟩))
    (fun os started H enc _ F => by rw [OpenClaim.pre_eq_preRow]; exact lifted os started H enc F)
theorem plain (f : FuncId) (fn : Func) (hf : Tryd.pinned.checked.prog.funcNamed "thicket/thicketlaw01.TextScalars" = some f) (hfn : Tryd.pinned.checked.prog.funcs[f]? = some fn) :
    false = Tryd.pinned.checked.prog.looks [] ∧ ∀ (j : Nat) t, fn.params[j]? = some t → Tryd.pinned.checked.prog.wantsStandIn t = false := by
  obtain rfl : f = 15 := Option.some.inj ((show Tryd.prog.funcNamed "thicket/thicketlaw01.TextScalars" = some 15 by kernel_rfl).symm.trans hf) |>.symm
  obtain rfl : fn = Tryd.f15 := (Option.some.inj (Tryd.func15.symm.trans hfn)).symm
  refine ⟨by kernel_rfl, fun j t ht => ?_⟩
  rw [Tryd.params15] at ht
  have hm := Array.mem_of_getElem? ht
  simp only [List.mem_toArray, List.mem_cons, List.not_mem_nil, or_false] at hm
  subst hm; exact (show Tryd.prog.wantsStandIn 40 = false by kernel_rfl)
theorem card : Rows.TextScalarsCardSaid :=
  Claim7.holds_tied_plain_at .later [] _ _ _ _ said (fun _ h => by cases h) (by kernel_rfl) (fun _ h => by cases h) textScalars_row_tie rfl ⟨rfl, rfl⟩ (by kernel_rfl) rfl plain (by kernel_rfl)
end Go.Proofs.YtpfnakonpledgaaDoor.textScalars
namespace Go.Proofs.YtpfnakonpledgaaDoor
theorem textScalars_card : Rows.TextScalarsCardSaid := textScalars.card
#print axioms textScalars_card
end Go.Proofs.YtpfnakonpledgaaDoor
