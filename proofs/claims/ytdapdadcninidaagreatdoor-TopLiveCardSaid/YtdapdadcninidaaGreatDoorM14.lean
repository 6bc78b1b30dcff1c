/- slices.Delete of one attribute. No condition but that the slice is the caller's own. Package dom: SetAttribute, RemoveAttribute, in all cases. No condition but the invariant and short names. Package dom: what duplicate makes, and its rounds. No condition but the invariant. Package dom: duplicate at a node of each kind. No condition but the invariant. Package dom: duplicate at a node of each kind. No condition but the invariant. -/
import Derived.Test.YtdapdadcninidaaGreatDoorM13
import Derived.Lib.SliceRun
import Derived.Deep.RegionLaw
import Derived.Shelf.RegionOpenPlain
import Derived.Test.YtdapdadcninidaaGreatDoorM12
set_option linter.unusedSimpArgs false
set_option linter.unusedVariables false
namespace Go.Proofs.YtdapdadcninidaaGreatDoor
open Go.RowKit
attribute [local go_sem ↓] Go.wp_at_zero Go.wp_at_succ

def zA : List Value := [.int .i64 0, .string ⟨#[]⟩, .string ⟨#[]⟩]
/-- 'clear' of one attribute. -/
theorem run_clear_att (W : World) (ty : TypeId) (b o c : Nat) (hc : ∀ j, j < 3 → (W.cell? ⟨b, o + j, none⟩).isSome = true) (hf : ∀ j, j < 3 → W.frozen? ⟨b, o + j, none⟩ = false) :
    (Builtin.clear_ #[40] ty #[.slice (some ⟨b, o, none⟩) 1 c]).run Tryz.prog W = .ok (.tuple #[]) (W.setCells b o zA) := by
  have hst := run_storeCells_cells (P := Tryz.prog) b o zA 0 W (by simpa [zA] using hc) (by simpa [zA] using hf) (by intro v hv; simp [zA] at hv; rcases hv with rfl | rfl | rfl <;> rfl)
  simp only [Nat.add_zero] at hst
  have hzv : ∀ w, (zeroValue 121).run Tryz.prog w = .ok zeroA w := fun w => by kernel_rfl
  have hzc : (Builtin.zeroCells zeroA.cells 1).toList = zA := by kernel_rfl
  simp [Builtin.clear_, run_underlying Tryz.underlying40, hzv, hzc, hst]
theorem attCells_get (l : List Att) {j : Nat} (hj : j < l.length) (k : Nat) (hk : k < 3) : (attCells l)[j * 3 + k]? = (attCells [l[j]])[k]? := by
  obtain ⟨c0, c1, c2⟩ := attCells_at l j l[j] (List.getElem?_eq_getElem hj)
  match k, hk with
  | 0, _ => exact c0
  | 1, _ => exact c1
  | 2, _ => exact c2
set_option maxRecDepth 100000 in
set_option maxHeartbeats 4000000 in
theorem attDelete_any (l : List Att) (i : Nat) (w : World) {R g c : Nat} (h : w.ownsRow R 121 3 (.slice (some ⟨g, 0, none⟩) l.length c) l.length (attCells l)) (hi : i < l.length) (hl : l.length ≤ 1000000) :
    Calls Tryz.prog 123 #[.slice (some ⟨g, 0, none⟩) l.length c, .int .i64 (i : Nat), .int .i64 ((i + 1 : Nat) : Int)] w fun e w' =>
      e = .returned (.slice (some ⟨g, 0, none⟩) (l.eraseIdx i).length c) ∧ AttsAt w' (some ⟨g, 0, none⟩) (l.eraseIdx i) ∧ Below R w w' := by
  have hR := ownsRow_ge h (g := g) rfl
  have hgl := ownsRow_lt h (g := g) rfl
  obtain ⟨hn, ⟨h2, _⟩ | ⟨g', cap, cur, h2, _, hb, hcap, hmx, hcs, hpre⟩⟩ := h
  · cases h2
  cases h2
  have hlen := attCells_len l
  have hcell : ∀ k u, (attCells l)[k]? = some u → w.cell? ⟨g, k, none⟩ = some u := fun k u hu => by
    rw [cell_of_row w g k cur _ _ hb, ← Array.getElem?_toList]
    rw [← hpre, List.getElem?_take] at hu
    split at hu
    · exact hu
    · cases hu
  have hfz : ∀ k, w.frozen? ⟨g, k, none⟩ = false := fun k => Lib.frozen_of_heap hb k
  have hsome : ∀ k, k < l.length * 3 → (w.cell? ⟨g, k, none⟩).isSome = true := fun k hk => by
    rw [hcell k _ (List.getElem?_eq_getElem (by omega))]; rfl
  obtain ⟨news, hnews⟩ : ∃ news, attCells (l.drop (i + 1)) = news := ⟨_, rfl⟩
  have hnl : news.length = (l.length - (i + 1)) * 3 := by rw [← hnews, attCells_len, List.length_drop]
  have hnew : ∀ t u, news[t]? = some u → w.cell? ⟨g, (i + 1) * 3 + t, none⟩ = some u := fun t u hu => by
    refine hcell _ _ ?_
    have h1 : attCells l = attCells (l.take (i + 1)) ++ attCells (l.drop (i + 1)) := by rw [← attCells_app, List.take_append_drop]
    rw [h1, hnews, List.getElem?_append_right (by rw [attCells_len, List.length_take]; omega), attCells_len, List.length_take, Nat.min_eq_left (by omega), Nat.add_sub_cancel_left]
    exact hu
  obtain ⟨A, hA, hsrc⟩ : ∃ A : Addr, (if c = i + 1 then (some ⟨g, 0, none⟩ : Option Addr) else some ⟨g, (i + 1) * 3, none⟩) = some A ∧ Hid (∀ t u, news[t]? = some u → w.drew.cell? (A.add t) = some u) := by
    by_cases e : c = i + 1
    · refine ⟨⟨g, 0, none⟩, by simp [e], Lib.hid fun t u hu => ?_⟩
      have h0 : news.length = 0 := by rw [hnl]; omega
      rw [List.length_eq_zero_iff.1 h0] at hu
      simp at hu
    · refine ⟨⟨g, (i + 1) * 3, none⟩, by simp [e], Lib.hid fun t u hu => ?_⟩
      rw [Addr.add_lit]
      exact hnew t u hu
  have s2 : Hid (∀ u ∈ news, u.oneCell' = true) := Lib.hid (by rw [← hnews]; exact attCells_one _)
  have s3 : Hid (∀ t, t < news.length → (w.drew.cell? ⟨g, 0 + i * 3 + t, none⟩).isSome = true ∧ w.drew.frozen? ⟨g, 0 + i * 3 + t, none⟩ = false) := Lib.hid (fun t ht => ⟨hsome _ (by rw [hnl] at ht; omega), hfz _⟩)
  obtain ⟨W1, hW1⟩ : ∃ W1, W1 = w.drew.setCells g (0 + i * 3) news := ⟨_, rfl⟩
  have hd : w.drew.heap[g]? = some (.cells cur 121 (0, 0)) := hb
  obtain ⟨cur1, hb1, hs1⟩ := setCells_shape g news (0 + i * 3) w.drew cur _ _ hd
  rw [← hW1] at hb1
  have hcl := fun ty => run_clear_att W1 ty g ((l.length - 1) * 3) (c - (l.length - 1)) (fun j hj => cell_some hb1 _ (by rw [hs1]; omega)) (fun j _ => Lib.frozen_of_heap hb1 _)
  have hin := World.cell?_setCells_in g news (0 + i * 3) w.drew (fun j hj => (s3.out j hj).1)
  have hout : ∀ k, k < i * 3 → W1.cell? ⟨g, k, none⟩ = w.cell? ⟨g, k, none⟩ := fun k hk => by
    rw [hW1, World.cell?_setCells_out g news (0 + i * 3) w.drew ⟨g, k, none⟩ (fun _ _ => Or.inl (by dsimp only; omega))]; rfl
  have hE : AttsAt (W1.setCells g ((l.length - 1) * 3) zA) (some ⟨g, 0, none⟩) (l.eraseIdx i) ∧ Below R w (W1.setCells g ((l.length - 1) * 3) zA) := by
    refine ⟨fun j y hj => ?_, ?_⟩
    · have hjl : j < l.length - 1 := by
        have := (List.getElem?_eq_some_iff.1 hj).1
        rwa [List.length_eraseIdx, if_pos hi] at this
      have hk : ∀ k, k < 3 → (W1.setCells g ((l.length - 1) * 3) zA).cell? ⟨g, 0 + j * 3 + k, none⟩ = (attCells [y])[k]? := by
        intro k hk
        rw [World.cell?_setCells_out g zA _ W1 ⟨g, 0 + j * 3 + k, none⟩ (fun _ _ => Or.inl (by dsimp only; omega)), Nat.zero_add]
        by_cases hji : j < i
        · rw [List.getElem?_eraseIdx_of_lt hji] at hj
          rw [hout _ (by omega)]
          have hlj : j < l.length := by omega
          have hy : l[j] = y := by rw [List.getElem?_eq_getElem hlj] at hj; exact Option.some.inj hj
          have hg := attCells_get l hlj k hk
          rw [hy] at hg
          have hkl : k < (attCells [y]).length := by simpa [attCells] using hk
          rw [List.getElem?_eq_getElem hkl] at hg ⊢
          exact hcell _ _ hg
        · rw [List.getElem?_eraseIdx_of_ge (by omega)] at hj
          have hlj : j + 1 < l.length := by omega
          have hy : l[j + 1] = y := by rw [List.getElem?_eq_getElem hlj] at hj; exact Option.some.inj hj
          have hkl : k < (attCells [y]).length := by simpa [attCells] using hk
          have hin2 := hin ((j - i) * 3 + k) (by rw [hnl]; omega)
          rw [← hW1, show 0 + i * 3 + ((j - i) * 3 + k) = j * 3 + k by omega] at hin2
          rw [hin2, ← List.getElem?_eq_getElem, ← hnews, attCells_get (l.drop (i + 1)) (j := j - i) (by simp; omega) k hk]
          have : (l.drop (i + 1))[j - i]'(by simp; omega) = y := by rw [List.getElem_drop, ← hy]; congr 1; omega
          rw [this]
      exact ⟨g, 0, rfl, hk 0 (by omega), hk 1 (by omega), hk 2 (by omega)⟩
    · have m1 : Mod (fun k => k = g) w W1 := by rw [hW1]; exact ((Mod.refl _ w).drewN 1).trans (Mod.setCells (S := fun k => k = g) g rfl _ _ _)
      exact (m1.trans (Mod.setCells (S := fun k => k = g) g rfl _ _ _)).below (by omega) fun k hk e => by omega
  have hEL : (l.eraseIdx i).length = i + (l.length - (i + 1)) := by rw [List.length_eraseIdx, if_pos hi]; omega
  have hEL' := hEL
  have HE := Lib.hid hE; have HEL := Lib.hid hEL; have HNL := Lib.hid hnl
  have hW : Hid (W1 = w.drew.setCells g (0 + i * 3) news) := Lib.hid hW1
  have hic : i ≤ c := by omega
  have hjc : i + 1 ≤ c := by omega
  obtain ⟨i0, hi0, _, hz1, _⟩ := info_parts infoA
  have mixed : Tryz.prog.follows .mixedOrders = true := by kernel_rfl
  clear hE hin hout hd hb1 hs1 hW1 hsome hfz hcell hnew hnews hpre hb hn hEL hlen
  obtain ⟨j, hj⟩ : ∃ j, i + 1 = j := ⟨_, rfl⟩
  have hl1 : l.length - 1 = i + (l.length - j) := by omega
  rw [hj] at hA hjc hEL' HNL ⊢
  rw [hl1] at hcl HE
  have hlt : i < j := by omega
  have hjl : j ≤ l.length := by omega
  have HJ := Lib.hid hj
  have hcl2 : ∀ ty, (Builtin.clear_ #[40] ty #[.slice (some ⟨g, (i + (l.length - j)) * 3, none⟩) (l.length - (i + (l.length - j))) (c - (i + (l.length - j)))]).run Tryz.prog W1 = .ok (.tuple #[]) (W1.setCells g ((i + (l.length - j)) * 3) zA) := fun ty => by
    rw [show l.length - (i + (l.length - j)) = 1 by omega]; exact hcl ty
  clear hl1 hi hj hcl
  go_enter Tryz.func123, Tryz.ntmps123
  go_wp2_with fail
  go_region_law_o (refine step_append_room rfl (.tmp 22) (.tmp 25) 40 rfl 121 i0 3 Tryz.underlying40 hi0 hz1 g 0 i c (by simp [Act.eval, Act.put]) A (l.length - j) (c - j) news (by simp [Act.eval, Act.put]) HNL.out hsrc.out s2.out (by omega) s3.out ?_; rw [← hW.out])
  go_wp2
  go_ret
  exact ⟨by rw [HEL.out, HJ.out]; rfl, HE.out⟩
end Go.Proofs.YtdapdadcninidaaGreatDoor
namespace Go.Proofs.YtdapdadcninidaaGreatDoor
open Go.RowKit
attribute [local go_sem ↓] Go.wp_at_zero Go.wp_at_succ

set_option maxRecDepth 100000 in
set_option maxHeartbeats 4000000 in
theorem SetAttribute_fw (el sp : Int) (nm v : List UInt8) (w : World) {T : Nat} {O : List Nat} {s : St} {L : Lim} (hA : ArM T O s w) (hg : Gd L s) (hf : L.f ≤ 900000) (ha : L.a ≤ 90000) (hl : nm.length ≤ 1000000) :
    Calls Tryz.prog 73 #[.pointer (some ⟨T, 0, none⟩), .int .i64 el, .int .i64 sp, .string ⟨nm.toArray⟩, .string ⟨v.toArray⟩] w (Act T O w (FwE ⟨L.x, L.y, L.f, L.a + 1⟩ s)) := by
  have hfit := hg.fit (by omega) (by omega)
  obtain ⟨iv, O1, hA1, -⟩ := hA.turn
  have H1 := Lib.hid (attribute_any el sp nm w hA1 hfit hl)
  have H2 := fun w' => ValidAttribute_any nm w' (by unfold maxLen; omega)
  have HF := Lib.hid (fun (er : Int) w' (hb : Below w.heap.size w w') => show Act T O w (FwE ⟨L.x, L.y, L.f, L.a + 1⟩ s) (.returned (.int .i64 er)) w' from Act.still hA hb ⟨⟨_, rfl⟩, hg.still.weak (Nat.le_refl _) (Nat.le_refl _) (Nat.le_refl _) (Nat.le_add_right _ _)⟩)
  have HS := Lib.hid (fun (l : List Att) {a : Option Addr} {c : Nat} w' (hb : Below w.heap.size w w') (hll : l.length ≤ L.a + 1) (hat : AttsAt w' a l) =>
    show Calls Tryz.prog 122 #[.pointer (some ⟨T, 0, none⟩), .int .i64 el, .slice a l.length c] w' (fun e w2 => ∃ er : Int, e = .returned (.int .i64 er) ∧ Act T O w (FwE ⟨L.x, L.y, L.f, L.a + 1⟩ s) (.returned (.int .i64 er)) w2) from
      (SetAttrs_fw el l w' (hA.later hb) hg hf (by omega) hat).mono fun e w2 hh => by
        obtain ⟨s2, O2, h1, h2, ⟨er, rfl⟩, h3⟩ := hh
        exact ⟨er, rfl, s2, O2, h1, astep_pre hb h2, ⟨_, rfl⟩, h3.weak (Nat.le_refl _) (Nat.le_refl _) (Nat.le_refl _) (Nat.max_le.2 ⟨Nat.le_add_right _ _, hll⟩)⟩)
  have HAA := Lib.hid (fun (x : Nat) (hx : inR s.ns x) => hg.aa _ (nd_mem hx))
  generalize validAttr nm = va at *
  have H2 := Lib.hid H2
  clear hA hA1 hg hfit
  go_enter Tryz.func73, Tryz.ntmps73
  go_wp2_with fail
  refine H1.out.mono ?_
  rintro e w1 ⟨b1, (⟨er, h0, rfl⟩ | ⟨x, i, nm2, aa, ac, rfl, hx, rfl, hr, hi1, hi2⟩)⟩
  · have h0b : (er != 0) = true := by simpa using h0
    have HB1 := Lib.hid b1
    clear b1 H1 h0
    go_wp2_with fail
    go_ret
    exact HF.out _ _ HB1.out
  · have hal := HAA.out x hx
    generalize (nd s.ns x).attrs = l at *
    have HB1 := Lib.hid b1; have HR := Lib.hid hr
    clear b1 H1 hr hx HAA
    go_wp2_with fail
    refine (H2.out _).mono ?_
    rintro e w2 ⟨rfl, b2⟩
    have HB2 := Lib.hid (bthen HB1.out HB1.out.size b2)
    have HR2 := Lib.hid (ownsRow_below HR.out b2)
    clear b2 H2 HR HB1
    cases va
    · go_wp2_with fail
      go_ret
      exact HF.out _ _ HB2.out
    · by_cases hneg : i < 0
      · go_wp2_with (at_builtin; refine append_att rfl _ _ rfl w.heap.size _ l rfl (by exact HR2.out) ⟨sp, nm2, v⟩ rfl (by omega) (by exact HB2.out.size) ?_; intro v' w5 hown5 hb5; obtain ⟨va5, vc5, rfl⟩ := ownsRow_slice hown5; have HOW5 := Lib.hid hown5; have HB5 := Lib.hid (HB2.out.trans hb5); clear hown5 hb5)
        have H5 := HS.out (l ++ [⟨sp, nm2, v⟩]) (a := va5) (c := vc5) w5 HB5.out (by simp; omega) (AttsAt.own (b := w.heap.size) (by simpa using HOW5.out))
        rw [show (l ++ [(⟨sp, nm2, v⟩ : Att)]).length = l.length + 1 by simp] at H5
        have H5 := Lib.hid H5
        refine H5.out.mono ?_
        rintro e w6 ⟨er, rfl, hh⟩
        have HZ := Lib.hid hh
        clear hh H5
        go_wp2_with fail
        go_ret
        exact HZ.out
      · obtain ⟨k, rfl⟩ : ∃ k : Nat, i = (k : Int) := ⟨i.toNat, by omega⟩
        have hkl : k < l.length := by omega
        obtain ⟨g, rfl⟩ : ∃ g, aa = some ⟨g, 0, none⟩ := by
          rcases HR2.out.2 with ⟨e, h⟩ | ⟨g, cap, cur, e, _⟩
          · omega
          · cases e; exact ⟨g, rfl⟩
        have hat := AttsAt.own HR2.out
        obtain ⟨g', o', e, -, -, c2⟩ := hat k l[k] (List.getElem?_eq_getElem hkl)
        cases e
        rw [Nat.zero_add] at c2
        have fz : w2.frozen? ⟨g, k * 3 + 2, none⟩ = false := by
          rcases HR2.out.2 with ⟨e, h⟩ | ⟨g', cap, cur, e, _, hb, _⟩
          · omega
          · cases e; exact Lib.frozen_of_heap hb _
        have hgg := ownsRow_ge HR2.out (g := g) rfl
        have hm : Mod (fun k => k = g) w2 (w2.setCell ⟨g, k * 3 + 2, none⟩ (.string ⟨v.toArray⟩)) := Mod.setCell _ _ rfl
        have H5 := HS.out (l.set k { l[k] with value := v }) (a := some ⟨g, 0, none⟩) (c := ac) (w2.setCell ⟨g, k * 3 + 2, none⟩ (.string ⟨v.toArray⟩)) (HB2.out.trans (hm.below HB2.out.size fun j hj e => by omega)) (by simp; omega) (hat.setv hkl rfl v)
        rw [show (l.set k { l[k] with value := v }).length = l.length by simp] at H5
        have H5 := Lib.hid H5
        clear hat hm HS
        go_wp2_with fail
        refine H5.out.mono ?_
        rintro e w6 ⟨er, rfl, hh⟩
        have HZ := Lib.hid hh
        clear hh H5
        go_wp2_with fail
        go_ret
        exact HZ.out
/-- A bool, an error number; a state within limits. -/
def FwB (M : Lim) (s : St) (e : Ending) (s' : St) : Prop := (∃ (b : Bool) (er : Int), e = .returned (.tuple #[.bool b, .int .i64 er])) ∧ Fw M s s'
set_option maxRecDepth 100000 in
set_option maxHeartbeats 4000000 in
theorem RemoveAttribute_fw (el sp : Int) (nm : List UInt8) (w : World) {T : Nat} {O : List Nat} {s : St} {L : Lim} (hA : ArM T O s w) (hg : Gd L s) (hf : L.f ≤ 900000) (ha : L.a ≤ 90000) (hl : nm.length ≤ 1000000) :
    Calls Tryz.prog 74 #[.pointer (some ⟨T, 0, none⟩), .int .i64 el, .int .i64 sp, .string ⟨nm.toArray⟩] w (Act T O w (FwB L s)) := by
  have hfit := hg.fit (by omega) (by omega)
  obtain ⟨iv, O1, hA1, -⟩ := hA.turn
  have H1 := Lib.hid (attribute_any el sp nm w hA1 hfit hl)
  have HF := Lib.hid (fun (b : Bool) (er : Int) w' (hb : Below w.heap.size w w') => show Act T O w (FwB L s) (.returned (.tuple #[.bool b, .int .i64 er])) w' from Act.still hA hb ⟨⟨_, _, rfl⟩, hg.still⟩)
  have HS := Lib.hid (fun (l : List Att) {a : Option Addr} {c : Nat} w' (hb : Below w.heap.size w w') (hll : l.length ≤ L.a) (hat : AttsAt w' a l) =>
    show Calls Tryz.prog 122 #[.pointer (some ⟨T, 0, none⟩), .int .i64 el, .slice a l.length c] w' (fun e w2 => ∃ er : Int, e = .returned (.int .i64 er) ∧ Act T O w (FwB L s) (.returned (.tuple #[.bool true, .int .i64 er])) w2) from
      (SetAttrs_fw el l w' (hA.later hb) hg hf (by omega) hat).mono fun e w2 hh => by
        obtain ⟨s2, O2, h1, h2, ⟨er, rfl⟩, h3⟩ := hh
        exact ⟨er, rfl, s2, O2, h1, astep_pre hb h2, ⟨_, _, rfl⟩, h3.weak (Nat.le_refl _) (Nat.le_refl _) (Nat.le_refl _) (Nat.max_le.2 ⟨Nat.le_refl _, hll⟩)⟩)
  have HAA := Lib.hid (fun (x : Nat) (hx : inR s.ns x) => hg.aa _ (nd_mem hx))
  clear hA hA1 hg hfit
  go_enter Tryz.func74, Tryz.ntmps74
  go_wp2_with fail
  refine H1.out.mono ?_
  rintro e w1 ⟨b1, (⟨er, h0, rfl⟩ | ⟨x, i, nm2, aa, ac, rfl, hx, rfl, hr, hi1, hi2⟩)⟩
  · have h0b : (er != 0) = true := by simpa using h0
    have HB1 := Lib.hid b1
    clear b1 H1 h0
    go_wp2_with fail
    go_ret2
    exact HF.out _ _ _ HB1.out
  · have hal := HAA.out x hx
    generalize (nd s.ns x).attrs = l at *
    have HB1 := Lib.hid b1; have HR := Lib.hid hr
    clear b1 H1 hr hx HAA
    by_cases hneg : i < 0
    · go_wp2_with fail
      go_ret2
      exact HF.out _ _ _ HB1.out
    · obtain ⟨k, rfl⟩ : ∃ k : Nat, i = (k : Int) := ⟨i.toNat, by omega⟩
      have hkl : k < l.length := by omega
      obtain ⟨g, rfl⟩ : ∃ g, aa = some ⟨g, 0, none⟩ := by
        rcases HR.out.2 with ⟨e, h⟩ | ⟨g, cap, cur, e, _⟩
        · omega
        · cases e; exact ⟨g, rfl⟩
      have H4 := Lib.hid (attDelete_any l k w1 HR.out hkl (by omega))
      have hel : (l.eraseIdx k).length ≤ L.a := by rw [List.length_eraseIdx, if_pos hkl]; omega
      rw [show ((k + 1 : Nat) : Int) = (k : Int) + 1 by omega] at H4
      generalize l.eraseIdx k = l2 at *
      go_wp2_with fail
      refine H4.out.mono ?_
      rintro e w3 ⟨rfl, hat, b3⟩
      have H5 := Lib.hid (HS.out l2 (a := some ⟨g, 0, none⟩) (c := ac) w3 (HB1.out.trans b3) hel hat)
      clear hat b3 H4
      go_wp2_with fail
      refine H5.out.mono ?_
      rintro e w6 ⟨er, rfl, hh⟩
      have HZ := Lib.hid hh
      clear hh H5
      go_wp2_with fail
      go_ret2
      exact HZ.out
end Go.Proofs.YtdapdadcninidaaGreatDoor
namespace Go.Proofs.YtdapdadcninidaaGreatDoor
open Go.RowKit

/-- What a call makes for a copy: c the new node, or 0. -/
structure MkQ (L : Lim) (s : St) (D : Nat) (c : Nat) (s' : St) : Prop where
  pre : Pre s.ns s'.ns
  kt : KT s.ns s'.ns
  c : c = 0 ∨ NewN s c D s'
  gd : Gd L s'
def MkR (L : Lim) (s : St) (D : Nat) (e : Ending) (s' : St) : Prop := ∃ (c : Nat) (er : Int), e = .returned (.tuple #[.int .i64 (c : Nat), .int .i64 er]) ∧ MkQ L s D c s'
theorem made_mk {L : Lim} {s s' : St} {doc : Int} {d : Nd} {e : Ending} (hg : Gd L s) (hp : d.parent = 0) (hk : d.kids = []) (hc : d.contents = 0) (hh : d.host = 0) (h1 : d.kind ≠ 1) (h4 : d.kind ≠ 4) (ha : d.attrs = []) (hd : d.data.length ≤ L.y)
    (h : (∃ er : Int, er ≠ 0 ∧ e = .returned (.tuple #[.int .i64 0, .int .i64 er]) ∧ s' = s) ∨ (docE s.ns doc = 0 ∧ e = .returned (.tuple #[.int .i64 ((s.ns.length + 1 : Nat) : Int), .int .i64 0]) ∧ s' = ⟨s.ns ++ [{ d with doc := doc.toNat }], s.mp⟩)) :
    MkR ⟨L.x, L.y, L.f + 1, L.a⟩ s d.data.length e s' := by
  have hF := made_fw hg hp hk hc hh h1 h4 ha h
  have hG : Gd ⟨L.x, L.y, L.f + 1, L.a⟩ s' := hF.2.gd.weak (Nat.le_refl _) (Nat.max_le.2 ⟨Nat.le_refl _, hd⟩) (Nat.le_refl _) (Nat.le_refl _)
  rcases h with ⟨er, _, rfl, rfl⟩ | ⟨_, rfl, rfl⟩
  · exact ⟨0, er, rfl, Pre.refl _, KT.refl _, .inl rfl, hG⟩
  · obtain ⟨n1, n2⟩ := nd_app_new (ns := s.ns) (ms := [{ d with doc := doc.toNat }]) (j := 0) rfl
    rw [Nat.add_zero] at n1 n2
    exact ⟨_, 0, rfl, Pre.app _ _, hF.2.kt, .inr ⟨Nat.lt_succ_self _, n1, by dsimp only; rw [n2]; exact hp, by dsimp only; rw [n2]; exact Nat.le_refl _⟩, hG⟩
theorem Text_mk (doc : Int) (l : List UInt8) (w : World) {T : Nat} {O : List Nat} {s : St} {L : Lim} (hA : ArM T O s w) (hg : Gd L s) (hf : L.f ≤ 900000) (hl : l.length ≤ L.y) :
    Calls Tryz.prog 11 #[.pointer (some ⟨T, 0, none⟩), .int .i64 doc, .string ⟨l.toArray⟩] w (Act T O w (MkR ⟨L.x, L.y, L.f + 1, L.a⟩ s l.length)) := by
  obtain ⟨iv, O1, hA1, hd⟩ := hA.created
  have := hg.len
  exact (Text_int doc l w hA1 (by omega)).mono fun e w' hh => (hd doc _ e w' hh).mono fun s' hs' => made_mk (d := { kind := 5, data := l }) hg rfl rfl rfl rfl (by show (5 : Int) ≠ 1; decide) (by show (5 : Int) ≠ 4; decide) rfl hl hs'
theorem Comment_mk (doc : Int) (l : List UInt8) (w : World) {T : Nat} {O : List Nat} {s : St} {L : Lim} (hA : ArM T O s w) (hg : Gd L s) (hf : L.f ≤ 900000) (hl : l.length ≤ L.y) :
    Calls Tryz.prog 10 #[.pointer (some ⟨T, 0, none⟩), .int .i64 doc, .string ⟨l.toArray⟩] w (Act T O w (MkR ⟨L.x, L.y, L.f + 1, L.a⟩ s l.length)) := by
  obtain ⟨iv, O1, hA1, hd⟩ := hA.created
  have := hg.len
  exact (Comment_int doc l w hA1 (by omega)).mono fun e w' hh => (hd doc _ e w' hh).mono fun s' hs' => made_mk (d := { kind := 6, data := l }) hg rfl rfl rfl rfl (by show (6 : Int) ≠ 1; decide) (by show (6 : Int) ≠ 4; decide) rfl hl hs'
theorem MkR.more {L : Lim} {s s' : St} {D E : Nat} {e : Ending} (h : MkR L s D e s') (hD : D ≤ E) : MkR L s E e s' := by
  obtain ⟨c, er, he, h1, h2, h3, h4⟩ := h
  exact ⟨c, er, he, h1, h2, h3.imp id fun h => ⟨h.gt, h.is, h.par, Nat.le_trans h.dat hD⟩, h4⟩
theorem Doctype_mk (doc : Int) (n p q : List UInt8) (D : Nat) (w : World) {T : Nat} {O : List Nat} {s : St} {L : Lim} (hA : ArM T O s w) (hg : Gd L s) (hf : L.f ≤ 900000) :
    Calls Tryz.prog 125 #[.pointer (some ⟨T, 0, none⟩), .int .i64 doc, .string ⟨n.toArray⟩, .string ⟨p.toArray⟩, .string ⟨q.toArray⟩] w (Act T O w (MkR ⟨L.x, L.y, L.f + 1, L.a⟩ s D)) := by
  obtain ⟨iv, O1, hA1, hd⟩ := hA.created
  have := hg.len
  exact (Doctype_int doc n p q w hA1 (by omega)).mono fun e w' hh => (hd doc _ e w' hh).mono fun s' hs' => (made_mk (d := { kind := 3, name := n, pub := p, sys := q }) hg rfl rfl rfl rfl (by show (3 : Int) ≠ 1; decide) (by show (3 : Int) ≠ 4; decide) rfl (Nat.zero_le _) hs').more (Nat.zero_le _)
theorem Fragment_mk (doc : Int) (D : Nat) (w : World) {T : Nat} {O : List Nat} {s : St} {L : Lim} (hA : ArM T O s w) (hg : Gd L s) (hf : L.f ≤ 900000) :
    Calls Tryz.prog 126 #[.pointer (some ⟨T, 0, none⟩), .int .i64 doc] w (Act T O w (MkR ⟨L.x, L.y, L.f + 1, L.a⟩ s D)) := by
  obtain ⟨iv, O1, hA1, hd⟩ := hA.created
  have := hg.len
  exact (Fragment_int doc w hA1 (by omega)).mono fun e w' hh => (hd doc _ e w' hh).mono fun s' hs' => (made_mk (d := { kind := 2 }) hg rfl rfl rfl rfl (by show (2 : Int) ≠ 1; decide) (by show (2 : Int) ≠ 4; decide) rfl (Nat.zero_le _) hs').more (Nat.zero_le _)
theorem Document_mk (q : Bool) (D : Nat) (w : World) {T : Nat} {O : List Nat} {s : St} {L : Lim} (hA : ArM T O s w) (hg : Gd L s) (hf : L.f ≤ 900000) :
    Calls Tryz.prog 8 #[.pointer (some ⟨T, 0, none⟩), .bool q] w (Act T O w (fun e s' => ∃ c : Nat, e = .returned (.int .i64 (c : Nat)) ∧ MkQ ⟨L.x, L.y, L.f + 2, L.a⟩ s D c s')) := by
  refine (Document_fw q w hA hg hf).mono fun e w' hh => hh.mono fun s' hs' => ?_
  obtain ⟨h1, rfl, h3⟩ := hs'
  obtain ⟨n1, n2⟩ := nd_app_new (ns := s.ns) (ms := [{ kind := 1, quirks := q, doc := s.ns.length + 1 }]) (j := 0) rfl
  rw [Nat.add_zero] at n1 n2
  exact ⟨_, h1, Pre.app _ _, h3.kt, .inr ⟨Nat.lt_succ_self _, n1, by dsimp only; rw [n2], by dsimp only; rw [n2]; exact Nat.zero_le _⟩, h3.gd⟩
/-- An element made for a copy. -/
structure ElQ (L : Lim) (s : St) (tm : Bool) (D : Nat) (c : Nat) (s' : St) : Prop where
  pre : Pre s.ns s'.ns
  kt : KT s.ns s'.ns
  cn : c = 0 ∨ NewN s c D s'
  gd : Gd ⟨L.x, L.y, L.f + (if (descAt s'.ns ((c : Nat) : Int)).contents = 0 then 1 else 2), L.a⟩ s'
  ct : (descAt s'.ns ((c : Nat) : Int)).contents = 0 ∨ (s.ns.length < (descAt s'.ns ((c : Nat) : Int)).contents ∧ inR s'.ns (descAt s'.ns ((c : Nat) : Int)).contents)
  tm : tm = false → (descAt s'.ns ((c : Nat) : Int)).contents = 0
def ElR (L : Lim) (s : St) (tm : Bool) (D : Nat) (e : Ending) (s' : St) : Prop := ∃ (c : Nat) (er : Int), e = .returned (.tuple #[.int .i64 (c : Nat), .int .i64 er]) ∧ ElQ L s tm D c s'
theorem descAt_zero (ns : List Nd) : descAt ns ((0 : Nat) : Int) = {} := by
  unfold descAt
  rw [if_neg (by simp [isH])]
theorem Element_mk (doc sp : Int) (nm : List UInt8) (l : List Att) (D : Nat) (w : World) {T : Nat} {O : List Nat} {s : St} {L : Lim} {a : Option Addr} {c : Nat} (hA : ArM T O s w) (hg : Gd L s) (hf : L.f ≤ 900000) (hal : l.length ≤ 100000) (hla : l.length ≤ L.a) (hc : AttsAt w a l) :
    Calls Tryz.prog 9 #[.pointer (some ⟨T, 0, none⟩), .int .i64 doc, .int .i64 sp, .string ⟨nm.toArray⟩, .slice a l.length c] w (Act T O w (ElR L s (isTmpl { kind := 4, space := sp, name := nm }) D)) := by
  have := hg.len
  refine (Element_act doc sp nm l w hA hg.map (by omega) hal hc).mono fun e w' hh => hh.mono fun s' hs => ?_
  have hol := onceF_le l
  rcases hs.got hg hf with ⟨er, _, rfl, rfl⟩ | ⟨_, rfl, d, hd⟩
  · have e0 : (descAt s'.ns ((0 : Nat) : Int)).contents = 0 := by rw [descAt_zero]
    exact ⟨0, er, rfl, Pre.refl _, KT.refl _, .inl rfl, hg.weak (Nat.le_refl _) (Nat.le_refl _) (Nat.le_add_right _ _) (Nat.le_refl _), .inl e0, fun _ => e0⟩
  · obtain ⟨k1, k2, k3, k4, k5, k6, k7, k8⟩ := hd.elt.k
    obtain ⟨i1, i2⟩ := hd.is
    have e0 : descAt s'.ns ((s.ns.length + 1 : Nat) : Int) = d := by rw [descAt_nd i1, i2]
    refine ⟨_, 0, rfl, hd.pre, hd.kt, .inr ⟨Nat.lt_succ_self _, i1, by rw [i2]; exact k2, by rw [i2, k4]; exact Nat.zero_le _⟩, ?_, ?_, ?_⟩
    · rw [e0]
      refine hd.gd.weak (Nat.le_refl _) (Nat.le_refl _) ?_ (Nat.max_le.2 ⟨Nat.le_refl _, (show (onceF [] l).1.length ≤ L.a by omega)⟩)
      dsimp only
      split <;> omega
    · rw [e0]
      by_cases h0 : d.contents = 0
      · exact .inl h0
      · exact .inr ⟨Nat.lt_of_succ_lt (hd.ct h0).1, (hd.ct h0).2⟩
    · rw [e0]
      exact fun ht => hd.tm ht
/-- duplicate's contract, deep, at a node that has a parent. -/
def DupAt (T : Nat) (ns0 : List Nd) (k : Nat) (xs : List Nat) : Prop := ∀ (doc : Int) (w : World) (O : List Nat) (s : St) (L : Lim), ArM T O s w → Gd L s → Pre ns0 s.ns → L.f + 1 + xs.length ≤ 900000 → L.a ≤ 90000 →
  Calls Tryz.prog 124 #[.pointer (some ⟨T, 0, none⟩), .int .i64 doc, .pointer (some ⟨T, 0, none⟩), .int .i64 (k : Nat), .bool true] w (Act T O w (DupR ns0 k ⟨L.x + attW ns0 xs, L.y, L.f + 1 + xs.length, L.a⟩ s))
theorem dup_round {T : Nat} {ns0 : List Nd} {s s2 : St} {M : Lim} {N D c t k' : Nat} {rest O2 : List Nat} {wr : World} (hJ : DupJ ns0 s M N D c t (k' :: rest) s2) (hA : ArM T O2 s2 wr) (hk : inR ns0 k') (hpar : (nd ns0 k').parent ≠ 0) (hpre : Pre ns0 s.ns) (hMf : M.f ≤ 900000) (hMa : M.a ≤ 90000)
    (IH : ∀ k' xs', xs'.length < N → inR ns0 k' → (nd ns0 k').parent ≠ 0 → Sub (kdW ns0) (kdW ns0 ((k' : Nat) : Int)) xs' → DupAt T ns0 k' xs') (doc' : Int) :
    Calls Tryz.prog 124 #[.pointer (some ⟨T, 0, none⟩), .int .i64 doc', .pointer (some ⟨T, 0, none⟩), .int .i64 (k' : Nat), .bool true] wr fun e w3 => ∃ (c' : Nat) (s3 : St) (O3 : List Nat), e = .returned (.int .i64 (c' : Nat)) ∧ ArM T O3 s3 w3 ∧ AStep O2 wr O3 w3 ∧ (∃ L3, Gd L3 s3 ∧ L3.f ≤ 900000 ∧ L3.a ≤ 90000) ∧ DupJ ns0 s M N D c t rest (putS s3 t c' 0) := by
  obtain ⟨xs1, L1, h1, h2, h3, h4, h5, h6, h7⟩ := hJ.round hpar
  obtain ⟨x0, X0, F0, g1, g2, g3, g4, g5⟩ := hJ.gd
  refine (IH k' xs1 h6 hk hpar h1 doc' wr O2 s2 L1 hA h2 (hpre.trans hJ.pre) (by omega) (by omega)).mono fun e w3 hh => ?_
  obtain ⟨s3, O3, k1, k2, c', rfl, hq⟩ := hh
  have hj := h7 c' s3 hq
  exact ⟨c', s3, O3, rfl, k1, k2, ⟨_, hq.gd, by dsimp only; omega, by dsimp only; omega⟩, hj⟩
theorem dup_put {T t c' : Nat} {s3 : St} {O3 : List Nat} {w3 : World} (hA : ArM T O3 s3 w3) (hL : ∃ L3, Gd L3 s3 ∧ L3.f ≤ 900000 ∧ L3.a ≤ 90000) :
    Calls Tryz.prog 12 #[.pointer (some ⟨T, 0, none⟩), .int .i64 (t : Nat), .int .i64 (c' : Nat), .int .i64 0] w3 fun e w4 => ∃ (er : Int) (O4 : List Nat), e = .returned (.int .i64 er) ∧ ArM T O4 (putS s3 t c' 0) w4 ∧ AStep O3 w3 O4 w4 := by
  obtain ⟨M, hg, hMf, hMa⟩ := hL
  refine (Put_act (t : Nat) (c' : Nat) 0 w3 hA hg hMf (by omega)).mono fun e w4 hh => ?_
  obtain ⟨s4, O4, k1, k2, ⟨er, rfl⟩, rfl⟩ := hh
  exact ⟨er, O4, rfl, k1, k2⟩
end Go.Proofs.YtdapdadcninidaaGreatDoor
namespace Go.Proofs.YtdapdadcninidaaGreatDoor
open Go.RowKit
attribute [local go_sem ↓] Go.wp_at_zero Go.wp_at_succ

set_option maxRecDepth 100000 in
set_option maxHeartbeats 8000000 in
theorem dup_doc {T : Nat} {ns0 : List Nd} {r : Nat → Nat} (hs0 : Snd ns0 r) (ht : Tm ns0) {k : Nat} (hk : inR ns0 k) {xs : List Nat} (hS : Sub (kdW ns0) (kdW ns0 ((k : Nat) : Int)) xs) (deep : Bool) (IH : ∀ k' xs', xs'.length < xs.length → inR ns0 k' → (nd ns0 k').parent ≠ 0 → Sub (kdW ns0) (kdW ns0 ((k' : Nat) : Int)) xs' → DupAt T ns0 k' xs') (hkind : (nd ns0 k).kind = 1)
    (doc : Int) (w : World) {O : List Nat} {s : St} {L : Lim} (hA : ArM T O s w) (hg : Gd L s) (hp : Pre ns0 s.ns) (hf : L.f + 2 + xs.length ≤ 900000) (ha : L.a ≤ 90000) :
    Calls Tryz.prog 124 #[.pointer (some ⟨T, 0, none⟩), .int .i64 doc, .pointer (some ⟨T, 0, none⟩), .int .i64 (k : Nat), .bool deep] w (Act T O w (DupR ns0 k ⟨L.x + attW ns0 xs, L.y, L.f + 2 + xs.length, L.a⟩ s)) := by
  have hks : inR s.ns k := hp.inR hk
  have hnd : nd s.ns k = nd ns0 k := hp.old k hk
  have hfit := hg.fit (by omega) (by omega)
  obtain ⟨iv, O1, hA1, -⟩ := hA.turn
  have H1 := NodeD_any ((k : Nat) : Int) w hA1 hfit
  rw [descAt_nd hks, hnd] at H1
  have hdl : (nd ns0 k).data.length ≤ L.y := by rw [← hnd]; exact hg.dy _ (nd_mem hks)
  have hal : (nd ns0 k).attrs.length ≤ L.a := by rw [← hnd]; exact hg.aa _ (nd_mem hks)
  have hkl : (nd ns0 k).kids.length ≤ 1000000 := by rw [← hnd]; exact hfit.kid _ (nd_mem hks)
  obtain ⟨⟨x2, hS2, hW2, hL2, hL3⟩, hct⟩ := sub_ct (fun x hx hc => (hs0.cts x hx hc).1) hk hS
  have hkid : ∀ y ∈ (nd ns0 k).kids, inR ns0 y ∧ (nd ns0 y).parent ≠ 0 := fun y hy => ⟨(hs0.kid k y hk hy).1, by rw [(hs0.kid k y hk hy).2]; have := hk.1; omega⟩
  obtain ⟨M, hM⟩ : ∃ M : Lim, (⟨L.x + attW ns0 xs, L.y, L.f + 2 + xs.length, L.a⟩ : Lim) = M := ⟨_, rfl⟩
  have hMf : M.f ≤ 900000 := by rw [← hM]; exact hf
  have hMa : M.a ≤ 90000 := by rw [← hM]; exact ha
  have HDN := Lib.hid (fun (c t : Nat) (rest : List Nat) (s' : St) (w' : World) (O' : List Nat) (h : DupJ ns0 s M xs.length (nd ns0 k).data.length c t rest s') (hA' : ArM T O' s' w') (hs' : AStep O w O' w') => show Act T O w (DupR ns0 k M s) (.returned (.int .i64 (c : Nat))) w' from ⟨s', O', hA', hs', c, rfl, h.done⟩)
  have HJ0 := Lib.hid (fun (c : Nat) (s1 : St) (h : MkQ ⟨L.x, L.y, L.f + 2, L.a⟩ s (nd ns0 k).data.length c s1) => show DupJ ns0 s M xs.length (nd ns0 k).data.length c c (nd ns0 k).kids s1 from
    ⟨h.pre, h.kt, h.c, h.c.imp id fun h => ⟨h.gt, h.is⟩, x2, L.x, L.f + 2, hS2, by rw [← hM]; exact h.gd, by rw [← hM]; dsimp only; omega, by rw [← hM]; dsimp only; omega, hL2⟩)
  rw [hM]
  have HRD := Lib.hid (fun (c t k' : Nat) (rest O2 : List Nat) (s2 : St) (wr : World) (doc' : Int) (hJ : DupJ ns0 s M xs.length (nd ns0 k).data.length c t (k' :: rest) s2) (hA : ArM T O2 s2 wr) (hk : inR ns0 k') (hpar : (nd ns0 k').parent ≠ 0) => dup_round hJ hA hk hpar hp hMf hMa IH doc')
  have HA := Lib.hid hA; have HG := Lib.hid hg
  clear hs0 hS hnd hks hfit hA1 hct hM IH hS2 hW2 hL2 hL3 ht hA hg hp 
  generalize nd ns0 k = d at *
  have hq1 : (d.kind == 1) = true := by rw [hkind]; rfl
  clear hkind
  have HKID := Lib.hid hkid; have H1 := Lib.hid H1
  clear hkid
  go_enter Tryz.func124, Tryz.ntmps124
  go_wp2_with fail
  refine H1.out.mono ?_
  rintro e w1 ⟨k1, k2, a1, a2, rfl, hkr, har, b1⟩
  have HB1 := Lib.hid b1; have HKR := Lib.hid hkr; have HAR := Lib.hid har
  clear b1 hkr har H1
  go_wp2_with fail
  generalize hW2 : w1.alloc _ = W2
  have hbx : W2.heap[w1.heap.size]? = some (.cells (nodeArr d k1 k2 a1 a2) 55 (0, 0)) := by rw [← hW2]; exact World.alloc_heap_new w1 _
  have hb2 : Below w1.heap.size w1 W2 := by rw [← hW2]; exact balloc _ _
  have HB2 := Lib.hid (bthen HB1.out HB1.out.size hb2)
  have HX2 := Lib.hid (Kp.new HA.out HB1.out.size hbx)
  have HK2 := Lib.hid (Kr.new HA.out (Nat.le_refl _) (ownsRow_below HKR.out hb2))
  have HAT := Lib.hid (AttsAt.own (ownsRow_below HAR.out hb2))
  have HA2 := Lib.hid (HA.out.later HB2.out)
  obtain ⟨bx, hbxe⟩ : ∃ bx, w1.heap.size = bx := ⟨_, rfl⟩
  rw [hbxe] at HX2 ⊢
  clear hbx hb2 hW2 hbxe HB1 HKR HAR
  have H3 := Lib.hid (Document_mk d.quirks d.data.length W2 HA2.out HG.out (by omega))
  refine H3.out.mono ?_
  rintro e w3 ⟨s3, O3, hA3, hs3, c, rfl, hq⟩
  have HX3 := Lib.hid (HX2.out.step hs3); have HK3 := Lib.hid (HK2.out.step hs3); have HST3 := Lib.hid (astep_pre HB2.out hs3); have HA3 := Lib.hid hA3
  have HJ3 := Lib.hid (HJ0.out c s3 hq)
  have p2 : w3.cell? ⟨bx, 2, none⟩ = some (.slice k1 d.kids.length k2) := HX3.out.cell 2
  clear hA3 hs3 hq HX2 HK2 HB2 HA2 H3
  cases deep
  · have HF := Lib.hid (HDN.out c c d.kids s3 w3 O3 HJ3.out HA3.out HST3.out)
    clear HDN HRD HJ3 HK3 HX3
    go_wp2_with fail
    go_ret
    exact HF.out
  · go_wp2_with fail
    go_loopw [134] (fun i wr => ∃ (j : Nat) (O2 : List Nat) (s2 : St), j ≤ d.kids.length ∧ i = .int .i64 (j : Nat) ∧ ArM T O2 s2 wr ∧ AStep O3 w3 O2 wr ∧ DupJ ns0 s M xs.length d.data.length c c (d.kids.drop j) s2) (fun i _ => d.kids.length - (intOf i).toNat)
    case atStart => exact ⟨0, O3, s3, Nat.zero_le _, rfl, HA3.out, AStep.refl _ _, HJ3.out⟩
    case round =>
      obtain ⟨j, O2, s2, hj, rfl, hA2, hs2, hJ2⟩ := hrel
      by_cases hlt : j < d.kids.length
      · have hR := (HK3.out.step hs2).r
        obtain ⟨gk, rfl⟩ := row_someA hR (by omega)
        have hcell := row_at hR j (natV d.kids[j]) (by simp [kidCells, hlt])
        have hdr : d.kids.drop j = d.kids[j] :: d.kids.drop (j + 1) := List.drop_eq_getElem_cons hlt
        rw [hdr] at hJ2
        obtain ⟨hk1, hk2⟩ := HKID.out _ (List.getElem_mem hlt)
        have H6 := HRD.out c c _ _ O2 s2 wr (c : Nat) hJ2 hA2 hk1 hk2
        obtain ⟨y, hy⟩ : ∃ y, d.kids[j] = y := ⟨_, rfl⟩
        rw [hy] at H6 hcell
        have hji : (j : Int) < (d.kids.length : Int) := by omega
        simp only [natV] at hcell
        have H6 := Lib.hid H6; have HS2 := Lib.hid hs2
        clear hy hdr hR hA2 hs2 hJ2 hk1 hk2
        go_wp2_with fail
        refine H6.out.mono ?_
        rintro e w5 ⟨c', s5, O5, rfl, hA5, hs5, hL5, hJ5⟩
        have H7 := Lib.hid (dup_put (t := c) (c' := c') hA5 hL5)
        have HS5 := Lib.hid (HS2.out.trans hs5); have HJ5 := Lib.hid hJ5
        clear hA5 hs5 hL5 hJ5 H6
        go_wp2_with fail
        refine H7.out.mono ?_
        rintro e w6 ⟨er6, O6, rfl, hA6, hs6⟩
        have HA6 := Lib.hid hA6; have HS6 := Lib.hid (HS5.out.trans hs6)
        clear hA6 hs6 H7
        go_wp2_with fail
        go_roundw
        case rel => exact ⟨j + 1, O6, _, by omega, by go_num, HA6.out, HS6.out, HJ5.out⟩
        case measure => first | (simp only [intOf]; omega) | (simp [intOf]; omega)
      · have HF := Lib.hid (HDN.out c c _ s2 wr O2 hJ2 hA2 (HST3.out.trans hs2))
        clear hA2 hs2 hJ2 HRD
        go_wp2_with fail
        go_ret
        exact HF.out
set_option maxRecDepth 100000 in
set_option maxHeartbeats 8000000 in
theorem dup_frag {T : Nat} {ns0 : List Nd} {r : Nat → Nat} (hs0 : Snd ns0 r) (ht : Tm ns0) {k : Nat} (hk : inR ns0 k) {xs : List Nat} (hS : Sub (kdW ns0) (kdW ns0 ((k : Nat) : Int)) xs) (deep : Bool) (IH : ∀ k' xs', xs'.length < xs.length → inR ns0 k' → (nd ns0 k').parent ≠ 0 → Sub (kdW ns0) (kdW ns0 ((k' : Nat) : Int)) xs' → DupAt T ns0 k' xs') (hkind : (nd ns0 k).kind = 2)
    (doc : Int) (w : World) {O : List Nat} {s : St} {L : Lim} (hA : ArM T O s w) (hg : Gd L s) (hp : Pre ns0 s.ns) (hf : L.f + 1 + xs.length ≤ 900000) (ha : L.a ≤ 90000) :
    Calls Tryz.prog 124 #[.pointer (some ⟨T, 0, none⟩), .int .i64 doc, .pointer (some ⟨T, 0, none⟩), .int .i64 (k : Nat), .bool deep] w (Act T O w (DupR ns0 k ⟨L.x + attW ns0 xs, L.y, L.f + 1 + xs.length, L.a⟩ s)) := by
  have hks : inR s.ns k := hp.inR hk
  have hnd : nd s.ns k = nd ns0 k := hp.old k hk
  have hfit := hg.fit (by omega) (by omega)
  obtain ⟨iv, O1, hA1, -⟩ := hA.turn
  have H1 := NodeD_any ((k : Nat) : Int) w hA1 hfit
  rw [descAt_nd hks, hnd] at H1
  have hdl : (nd ns0 k).data.length ≤ L.y := by rw [← hnd]; exact hg.dy _ (nd_mem hks)
  have hal : (nd ns0 k).attrs.length ≤ L.a := by rw [← hnd]; exact hg.aa _ (nd_mem hks)
  have hkl : (nd ns0 k).kids.length ≤ 1000000 := by rw [← hnd]; exact hfit.kid _ (nd_mem hks)
  obtain ⟨⟨x2, hS2, hW2, hL2, hL3⟩, hct⟩ := sub_ct (fun x hx hc => (hs0.cts x hx hc).1) hk hS
  have hkid : ∀ y ∈ (nd ns0 k).kids, inR ns0 y ∧ (nd ns0 y).parent ≠ 0 := fun y hy => ⟨(hs0.kid k y hk hy).1, by rw [(hs0.kid k y hk hy).2]; have := hk.1; omega⟩
  obtain ⟨M, hM⟩ : ∃ M : Lim, (⟨L.x + attW ns0 xs, L.y, L.f + 1 + xs.length, L.a⟩ : Lim) = M := ⟨_, rfl⟩
  have hMf : M.f ≤ 900000 := by rw [← hM]; exact hf
  have hMa : M.a ≤ 90000 := by rw [← hM]; exact ha
  have HDN := Lib.hid (fun (c t : Nat) (rest : List Nat) (s' : St) (w' : World) (O' : List Nat) (h : DupJ ns0 s M xs.length (nd ns0 k).data.length c t rest s') (hA' : ArM T O' s' w') (hs' : AStep O w O' w') => show Act T O w (DupR ns0 k M s) (.returned (.int .i64 (c : Nat))) w' from ⟨s', O', hA', hs', c, rfl, h.done⟩)
  have HJ0 := Lib.hid (fun (c : Nat) (s1 : St) (h : MkQ ⟨L.x, L.y, L.f + 1, L.a⟩ s (nd ns0 k).data.length c s1) => show DupJ ns0 s M xs.length (nd ns0 k).data.length c c (nd ns0 k).kids s1 from
    ⟨h.pre, h.kt, h.c, h.c.imp id fun h => ⟨h.gt, h.is⟩, x2, L.x, L.f + 1, hS2, by rw [← hM]; exact h.gd, by rw [← hM]; dsimp only; omega, by rw [← hM]; dsimp only; omega, hL2⟩)
  rw [hM]
  have HRD := Lib.hid (fun (c t k' : Nat) (rest O2 : List Nat) (s2 : St) (wr : World) (doc' : Int) (hJ : DupJ ns0 s M xs.length (nd ns0 k).data.length c t (k' :: rest) s2) (hA : ArM T O2 s2 wr) (hk : inR ns0 k') (hpar : (nd ns0 k').parent ≠ 0) => dup_round hJ hA hk hpar hp hMf hMa IH doc')
  have HA := Lib.hid hA; have HG := Lib.hid hg
  clear hs0 hS hnd hks hfit hA1 hct hM IH hS2 hW2 hL2 hL3 ht hA hg hp 
  generalize nd ns0 k = d at *
  have hq1 : (d.kind == 1) = false := by rw [hkind]; rfl
  have hq2 : (d.kind == 2) = true := by rw [hkind]; rfl
  clear hkind
  have HKID := Lib.hid hkid; have H1 := Lib.hid H1
  clear hkid
  go_enter Tryz.func124, Tryz.ntmps124
  go_wp2_with fail
  refine H1.out.mono ?_
  rintro e w1 ⟨k1, k2, a1, a2, rfl, hkr, har, b1⟩
  have HB1 := Lib.hid b1; have HKR := Lib.hid hkr; have HAR := Lib.hid har
  clear b1 hkr har H1
  go_wp2_with fail
  generalize hW2 : w1.alloc _ = W2
  have hbx : W2.heap[w1.heap.size]? = some (.cells (nodeArr d k1 k2 a1 a2) 55 (0, 0)) := by rw [← hW2]; exact World.alloc_heap_new w1 _
  have hb2 : Below w1.heap.size w1 W2 := by rw [← hW2]; exact balloc _ _
  have HB2 := Lib.hid (bthen HB1.out HB1.out.size hb2)
  have HX2 := Lib.hid (Kp.new HA.out HB1.out.size hbx)
  have HK2 := Lib.hid (Kr.new HA.out (Nat.le_refl _) (ownsRow_below HKR.out hb2))
  have HAT := Lib.hid (AttsAt.own (ownsRow_below HAR.out hb2))
  have HA2 := Lib.hid (HA.out.later HB2.out)
  obtain ⟨bx, hbxe⟩ : ∃ bx, w1.heap.size = bx := ⟨_, rfl⟩
  rw [hbxe] at HX2 ⊢
  clear hbx hb2 hW2 hbxe HB1 HKR HAR
  have H3 := Lib.hid (Fragment_mk doc d.data.length W2 HA2.out HG.out (by omega))
  refine H3.out.mono ?_
  rintro e w3 ⟨s3, O3, hA3, hs3, c, er, rfl, hq⟩
  have HX3 := Lib.hid (HX2.out.step hs3); have HK3 := Lib.hid (HK2.out.step hs3); have HST3 := Lib.hid (astep_pre HB2.out hs3); have HA3 := Lib.hid hA3
  have HJ3 := Lib.hid (HJ0.out c s3 hq)
  have p2 : w3.cell? ⟨bx, 2, none⟩ = some (.slice k1 d.kids.length k2) := HX3.out.cell 2
  clear hA3 hs3 hq HX2 HK2 HB2 HA2 H3
  cases deep
  · have HF := Lib.hid (HDN.out c c d.kids s3 w3 O3 HJ3.out HA3.out HST3.out)
    clear HDN HRD HJ3 HK3 HX3
    go_wp2_with fail
    go_ret
    exact HF.out
  · go_wp2_with fail
    go_loopw [134] (fun i wr => ∃ (j : Nat) (O2 : List Nat) (s2 : St), j ≤ d.kids.length ∧ i = .int .i64 (j : Nat) ∧ ArM T O2 s2 wr ∧ AStep O3 w3 O2 wr ∧ DupJ ns0 s M xs.length d.data.length c c (d.kids.drop j) s2) (fun i _ => d.kids.length - (intOf i).toNat)
    case atStart => exact ⟨0, O3, s3, Nat.zero_le _, rfl, HA3.out, AStep.refl _ _, HJ3.out⟩
    case round =>
      obtain ⟨j, O2, s2, hj, rfl, hA2, hs2, hJ2⟩ := hrel
      by_cases hlt : j < d.kids.length
      · have hR := (HK3.out.step hs2).r
        obtain ⟨gk, rfl⟩ := row_someA hR (by omega)
        have hcell := row_at hR j (natV d.kids[j]) (by simp [kidCells, hlt])
        have hdr : d.kids.drop j = d.kids[j] :: d.kids.drop (j + 1) := List.drop_eq_getElem_cons hlt
        rw [hdr] at hJ2
        obtain ⟨hk1, hk2⟩ := HKID.out _ (List.getElem_mem hlt)
        have H6 := HRD.out c c _ _ O2 s2 wr doc hJ2 hA2 hk1 hk2
        obtain ⟨y, hy⟩ : ∃ y, d.kids[j] = y := ⟨_, rfl⟩
        rw [hy] at H6 hcell
        have hji : (j : Int) < (d.kids.length : Int) := by omega
        simp only [natV] at hcell
        have H6 := Lib.hid H6; have HS2 := Lib.hid hs2
        clear hy hdr hR hA2 hs2 hJ2 hk1 hk2
        go_wp2_with fail
        refine H6.out.mono ?_
        rintro e w5 ⟨c', s5, O5, rfl, hA5, hs5, hL5, hJ5⟩
        have H7 := Lib.hid (dup_put (t := c) (c' := c') hA5 hL5)
        have HS5 := Lib.hid (HS2.out.trans hs5); have HJ5 := Lib.hid hJ5
        clear hA5 hs5 hL5 hJ5 H6
        go_wp2_with fail
        refine H7.out.mono ?_
        rintro e w6 ⟨er6, O6, rfl, hA6, hs6⟩
        have HA6 := Lib.hid hA6; have HS6 := Lib.hid (HS5.out.trans hs6)
        clear hA6 hs6 H7
        go_wp2_with fail
        go_roundw
        case rel => exact ⟨j + 1, O6, _, by omega, by go_num, HA6.out, HS6.out, HJ5.out⟩
        case measure => first | (simp only [intOf]; omega) | (simp [intOf]; omega)
      · have HF := Lib.hid (HDN.out c c _ s2 wr O2 hJ2 hA2 (HST3.out.trans hs2))
        clear hA2 hs2 hJ2 HRD
        go_wp2_with fail
        go_ret
        exact HF.out
set_option maxRecDepth 100000 in
set_option maxHeartbeats 8000000 in
theorem dup_dtype {T : Nat} {ns0 : List Nd} {r : Nat → Nat} (hs0 : Snd ns0 r) (ht : Tm ns0) {k : Nat} (hk : inR ns0 k) {xs : List Nat} (hS : Sub (kdW ns0) (kdW ns0 ((k : Nat) : Int)) xs) (deep : Bool) (IH : ∀ k' xs', xs'.length < xs.length → inR ns0 k' → (nd ns0 k').parent ≠ 0 → Sub (kdW ns0) (kdW ns0 ((k' : Nat) : Int)) xs' → DupAt T ns0 k' xs') (hkind : (nd ns0 k).kind = 3)
    (doc : Int) (w : World) {O : List Nat} {s : St} {L : Lim} (hA : ArM T O s w) (hg : Gd L s) (hp : Pre ns0 s.ns) (hf : L.f + 1 + xs.length ≤ 900000) (ha : L.a ≤ 90000) :
    Calls Tryz.prog 124 #[.pointer (some ⟨T, 0, none⟩), .int .i64 doc, .pointer (some ⟨T, 0, none⟩), .int .i64 (k : Nat), .bool deep] w (Act T O w (DupR ns0 k ⟨L.x + attW ns0 xs, L.y, L.f + 1 + xs.length, L.a⟩ s)) := by
  have hks : inR s.ns k := hp.inR hk
  have hnd : nd s.ns k = nd ns0 k := hp.old k hk
  have hfit := hg.fit (by omega) (by omega)
  obtain ⟨iv, O1, hA1, -⟩ := hA.turn
  have H1 := NodeD_any ((k : Nat) : Int) w hA1 hfit
  rw [descAt_nd hks, hnd] at H1
  have hdl : (nd ns0 k).data.length ≤ L.y := by rw [← hnd]; exact hg.dy _ (nd_mem hks)
  have hal : (nd ns0 k).attrs.length ≤ L.a := by rw [← hnd]; exact hg.aa _ (nd_mem hks)
  have hkl : (nd ns0 k).kids.length ≤ 1000000 := by rw [← hnd]; exact hfit.kid _ (nd_mem hks)
  obtain ⟨⟨x2, hS2, hW2, hL2, hL3⟩, hct⟩ := sub_ct (fun x hx hc => (hs0.cts x hx hc).1) hk hS
  have hkid : ∀ y ∈ (nd ns0 k).kids, inR ns0 y ∧ (nd ns0 y).parent ≠ 0 := fun y hy => ⟨(hs0.kid k y hk hy).1, by rw [(hs0.kid k y hk hy).2]; have := hk.1; omega⟩
  obtain ⟨M, hM⟩ : ∃ M : Lim, (⟨L.x + attW ns0 xs, L.y, L.f + 1 + xs.length, L.a⟩ : Lim) = M := ⟨_, rfl⟩
  have hMf : M.f ≤ 900000 := by rw [← hM]; exact hf
  have hMa : M.a ≤ 90000 := by rw [← hM]; exact ha
  have HDN := Lib.hid (fun (c t : Nat) (rest : List Nat) (s' : St) (w' : World) (O' : List Nat) (h : DupJ ns0 s M xs.length (nd ns0 k).data.length c t rest s') (hA' : ArM T O' s' w') (hs' : AStep O w O' w') => show Act T O w (DupR ns0 k M s) (.returned (.int .i64 (c : Nat))) w' from ⟨s', O', hA', hs', c, rfl, h.done⟩)
  have HJ0 := Lib.hid (fun (c : Nat) (s1 : St) (h : MkQ ⟨L.x, L.y, L.f + 1, L.a⟩ s (nd ns0 k).data.length c s1) => show DupJ ns0 s M xs.length (nd ns0 k).data.length c c (nd ns0 k).kids s1 from
    ⟨h.pre, h.kt, h.c, h.c.imp id fun h => ⟨h.gt, h.is⟩, x2, L.x, L.f + 1, hS2, by rw [← hM]; exact h.gd, by rw [← hM]; dsimp only; omega, by rw [← hM]; dsimp only; omega, hL2⟩)
  rw [hM]
  have HRD := Lib.hid (fun (c t k' : Nat) (rest O2 : List Nat) (s2 : St) (wr : World) (doc' : Int) (hJ : DupJ ns0 s M xs.length (nd ns0 k).data.length c t (k' :: rest) s2) (hA : ArM T O2 s2 wr) (hk : inR ns0 k') (hpar : (nd ns0 k').parent ≠ 0) => dup_round hJ hA hk hpar hp hMf hMa IH doc')
  have HA := Lib.hid hA; have HG := Lib.hid hg
  clear hs0 hS hnd hks hfit hA1 hct hM IH hS2 hW2 hL2 hL3 ht hA hg hp 
  generalize nd ns0 k = d at *
  have hq1 : (d.kind == 1) = false := by rw [hkind]; rfl
  have hq2 : (d.kind == 2) = false := by rw [hkind]; rfl
  have hq3 : (d.kind == 3) = true := by rw [hkind]; rfl
  clear hkind
  have HKID := Lib.hid hkid; have H1 := Lib.hid H1
  clear hkid
  go_enter Tryz.func124, Tryz.ntmps124
  go_wp2_with fail
  refine H1.out.mono ?_
  rintro e w1 ⟨k1, k2, a1, a2, rfl, hkr, har, b1⟩
  have HB1 := Lib.hid b1; have HKR := Lib.hid hkr; have HAR := Lib.hid har
  clear b1 hkr har H1
  go_wp2_with fail
  generalize hW2 : w1.alloc _ = W2
  have hbx : W2.heap[w1.heap.size]? = some (.cells (nodeArr d k1 k2 a1 a2) 55 (0, 0)) := by rw [← hW2]; exact World.alloc_heap_new w1 _
  have hb2 : Below w1.heap.size w1 W2 := by rw [← hW2]; exact balloc _ _
  have HB2 := Lib.hid (bthen HB1.out HB1.out.size hb2)
  have HX2 := Lib.hid (Kp.new HA.out HB1.out.size hbx)
  have HK2 := Lib.hid (Kr.new HA.out (Nat.le_refl _) (ownsRow_below HKR.out hb2))
  have HAT := Lib.hid (AttsAt.own (ownsRow_below HAR.out hb2))
  have HA2 := Lib.hid (HA.out.later HB2.out)
  obtain ⟨bx, hbxe⟩ : ∃ bx, w1.heap.size = bx := ⟨_, rfl⟩
  rw [hbxe] at HX2 ⊢
  clear hbx hb2 hW2 hbxe HB1 HKR HAR
  have H3 := Lib.hid (Doctype_mk doc d.name d.pub d.sys d.data.length W2 HA2.out HG.out (by omega))
  refine H3.out.mono ?_
  rintro e w3 ⟨s3, O3, hA3, hs3, c, er, rfl, hq⟩
  have HX3 := Lib.hid (HX2.out.step hs3); have HK3 := Lib.hid (HK2.out.step hs3); have HST3 := Lib.hid (astep_pre HB2.out hs3); have HA3 := Lib.hid hA3
  have HJ3 := Lib.hid (HJ0.out c s3 hq)
  have p2 : w3.cell? ⟨bx, 2, none⟩ = some (.slice k1 d.kids.length k2) := HX3.out.cell 2
  clear hA3 hs3 hq HX2 HK2 HB2 HA2 H3
  cases deep
  · have HF := Lib.hid (HDN.out c c d.kids s3 w3 O3 HJ3.out HA3.out HST3.out)
    clear HDN HRD HJ3 HK3 HX3
    go_wp2_with fail
    go_ret
    exact HF.out
  · go_wp2_with fail
    go_loopw [134] (fun i wr => ∃ (j : Nat) (O2 : List Nat) (s2 : St), j ≤ d.kids.length ∧ i = .int .i64 (j : Nat) ∧ ArM T O2 s2 wr ∧ AStep O3 w3 O2 wr ∧ DupJ ns0 s M xs.length d.data.length c c (d.kids.drop j) s2) (fun i _ => d.kids.length - (intOf i).toNat)
    case atStart => exact ⟨0, O3, s3, Nat.zero_le _, rfl, HA3.out, AStep.refl _ _, HJ3.out⟩
    case round =>
      obtain ⟨j, O2, s2, hj, rfl, hA2, hs2, hJ2⟩ := hrel
      by_cases hlt : j < d.kids.length
      · have hR := (HK3.out.step hs2).r
        obtain ⟨gk, rfl⟩ := row_someA hR (by omega)
        have hcell := row_at hR j (natV d.kids[j]) (by simp [kidCells, hlt])
        have hdr : d.kids.drop j = d.kids[j] :: d.kids.drop (j + 1) := List.drop_eq_getElem_cons hlt
        rw [hdr] at hJ2
        obtain ⟨hk1, hk2⟩ := HKID.out _ (List.getElem_mem hlt)
        have H6 := HRD.out c c _ _ O2 s2 wr doc hJ2 hA2 hk1 hk2
        obtain ⟨y, hy⟩ : ∃ y, d.kids[j] = y := ⟨_, rfl⟩
        rw [hy] at H6 hcell
        have hji : (j : Int) < (d.kids.length : Int) := by omega
        simp only [natV] at hcell
        have H6 := Lib.hid H6; have HS2 := Lib.hid hs2
        clear hy hdr hR hA2 hs2 hJ2 hk1 hk2
        go_wp2_with fail
        refine H6.out.mono ?_
        rintro e w5 ⟨c', s5, O5, rfl, hA5, hs5, hL5, hJ5⟩
        have H7 := Lib.hid (dup_put (t := c) (c' := c') hA5 hL5)
        have HS5 := Lib.hid (HS2.out.trans hs5); have HJ5 := Lib.hid hJ5
        clear hA5 hs5 hL5 hJ5 H6
        go_wp2_with fail
        refine H7.out.mono ?_
        rintro e w6 ⟨er6, O6, rfl, hA6, hs6⟩
        have HA6 := Lib.hid hA6; have HS6 := Lib.hid (HS5.out.trans hs6)
        clear hA6 hs6 H7
        go_wp2_with fail
        go_roundw
        case rel => exact ⟨j + 1, O6, _, by omega, by go_num, HA6.out, HS6.out, HJ5.out⟩
        case measure => first | (simp only [intOf]; omega) | (simp [intOf]; omega)
      · have HF := Lib.hid (HDN.out c c _ s2 wr O2 hJ2 hA2 (HST3.out.trans hs2))
        clear hA2 hs2 hJ2 HRD
        go_wp2_with fail
        go_ret
        exact HF.out
end Go.Proofs.YtdapdadcninidaaGreatDoor
namespace Go.Proofs.YtdapdadcninidaaGreatDoor
open Go.RowKit
attribute [local go_sem ↓] Go.wp_at_zero Go.wp_at_succ

set_option maxRecDepth 100000 in
set_option maxHeartbeats 8000000 in
theorem dup_text {T : Nat} {ns0 : List Nd} {r : Nat → Nat} (hs0 : Snd ns0 r) (ht : Tm ns0) {k : Nat} (hk : inR ns0 k) {xs : List Nat} (hS : Sub (kdW ns0) (kdW ns0 ((k : Nat) : Int)) xs) (deep : Bool) (IH : ∀ k' xs', xs'.length < xs.length → inR ns0 k' → (nd ns0 k').parent ≠ 0 → Sub (kdW ns0) (kdW ns0 ((k' : Nat) : Int)) xs' → DupAt T ns0 k' xs') (hkind : (nd ns0 k).kind = 5)
    (doc : Int) (w : World) {O : List Nat} {s : St} {L : Lim} (hA : ArM T O s w) (hg : Gd L s) (hp : Pre ns0 s.ns) (hf : L.f + 1 + xs.length ≤ 900000) (ha : L.a ≤ 90000) :
    Calls Tryz.prog 124 #[.pointer (some ⟨T, 0, none⟩), .int .i64 doc, .pointer (some ⟨T, 0, none⟩), .int .i64 (k : Nat), .bool deep] w (Act T O w (DupR ns0 k ⟨L.x + attW ns0 xs, L.y, L.f + 1 + xs.length, L.a⟩ s)) := by
  have hks : inR s.ns k := hp.inR hk
  have hnd : nd s.ns k = nd ns0 k := hp.old k hk
  have hfit := hg.fit (by omega) (by omega)
  obtain ⟨iv, O1, hA1, -⟩ := hA.turn
  have H1 := NodeD_any ((k : Nat) : Int) w hA1 hfit
  rw [descAt_nd hks, hnd] at H1
  have hdl : (nd ns0 k).data.length ≤ L.y := by rw [← hnd]; exact hg.dy _ (nd_mem hks)
  have hal : (nd ns0 k).attrs.length ≤ L.a := by rw [← hnd]; exact hg.aa _ (nd_mem hks)
  have hkl : (nd ns0 k).kids.length ≤ 1000000 := by rw [← hnd]; exact hfit.kid _ (nd_mem hks)
  obtain ⟨⟨x2, hS2, hW2, hL2, hL3⟩, hct⟩ := sub_ct (fun x hx hc => (hs0.cts x hx hc).1) hk hS
  have hkid : ∀ y ∈ (nd ns0 k).kids, inR ns0 y ∧ (nd ns0 y).parent ≠ 0 := fun y hy => ⟨(hs0.kid k y hk hy).1, by rw [(hs0.kid k y hk hy).2]; have := hk.1; omega⟩
  obtain ⟨M, hM⟩ : ∃ M : Lim, (⟨L.x + attW ns0 xs, L.y, L.f + 1 + xs.length, L.a⟩ : Lim) = M := ⟨_, rfl⟩
  have hMf : M.f ≤ 900000 := by rw [← hM]; exact hf
  have hMa : M.a ≤ 90000 := by rw [← hM]; exact ha
  have HDN := Lib.hid (fun (c t : Nat) (rest : List Nat) (s' : St) (w' : World) (O' : List Nat) (h : DupJ ns0 s M xs.length (nd ns0 k).data.length c t rest s') (hA' : ArM T O' s' w') (hs' : AStep O w O' w') => show Act T O w (DupR ns0 k M s) (.returned (.int .i64 (c : Nat))) w' from ⟨s', O', hA', hs', c, rfl, h.done⟩)
  have HJ0 := Lib.hid (fun (c : Nat) (s1 : St) (h : MkQ ⟨L.x, L.y, L.f + 1, L.a⟩ s (nd ns0 k).data.length c s1) => show DupJ ns0 s M xs.length (nd ns0 k).data.length c c (nd ns0 k).kids s1 from
    ⟨h.pre, h.kt, h.c, h.c.imp id fun h => ⟨h.gt, h.is⟩, x2, L.x, L.f + 1, hS2, by rw [← hM]; exact h.gd, by rw [← hM]; dsimp only; omega, by rw [← hM]; dsimp only; omega, hL2⟩)
  rw [hM]
  have HRD := Lib.hid (fun (c t k' : Nat) (rest O2 : List Nat) (s2 : St) (wr : World) (doc' : Int) (hJ : DupJ ns0 s M xs.length (nd ns0 k).data.length c t (k' :: rest) s2) (hA : ArM T O2 s2 wr) (hk : inR ns0 k') (hpar : (nd ns0 k').parent ≠ 0) => dup_round hJ hA hk hpar hp hMf hMa IH doc')
  have HA := Lib.hid hA; have HG := Lib.hid hg
  clear hs0 hS hnd hks hfit hA1 hct hM IH hS2 hW2 hL2 hL3 ht hA hg hp 
  generalize nd ns0 k = d at *
  have hq1 : (d.kind == 1) = false := by rw [hkind]; rfl
  have hq2 : (d.kind == 2) = false := by rw [hkind]; rfl
  have hq3 : (d.kind == 3) = false := by rw [hkind]; rfl
  have hq5 : (d.kind == 5) = true := by rw [hkind]; rfl
  clear hkind
  have HKID := Lib.hid hkid; have H1 := Lib.hid H1
  clear hkid
  go_enter Tryz.func124, Tryz.ntmps124
  go_wp2_with fail
  refine H1.out.mono ?_
  rintro e w1 ⟨k1, k2, a1, a2, rfl, hkr, har, b1⟩
  have HB1 := Lib.hid b1; have HKR := Lib.hid hkr; have HAR := Lib.hid har
  clear b1 hkr har H1
  go_wp2_with fail
  generalize hW2 : w1.alloc _ = W2
  have hbx : W2.heap[w1.heap.size]? = some (.cells (nodeArr d k1 k2 a1 a2) 55 (0, 0)) := by rw [← hW2]; exact World.alloc_heap_new w1 _
  have hb2 : Below w1.heap.size w1 W2 := by rw [← hW2]; exact balloc _ _
  have HB2 := Lib.hid (bthen HB1.out HB1.out.size hb2)
  have HX2 := Lib.hid (Kp.new HA.out HB1.out.size hbx)
  have HK2 := Lib.hid (Kr.new HA.out (Nat.le_refl _) (ownsRow_below HKR.out hb2))
  have HAT := Lib.hid (AttsAt.own (ownsRow_below HAR.out hb2))
  have HA2 := Lib.hid (HA.out.later HB2.out)
  obtain ⟨bx, hbxe⟩ : ∃ bx, w1.heap.size = bx := ⟨_, rfl⟩
  rw [hbxe] at HX2 ⊢
  clear hbx hb2 hW2 hbxe HB1 HKR HAR
  have H3 := Lib.hid (Text_mk doc d.data W2 HA2.out HG.out (by omega) hdl)
  refine H3.out.mono ?_
  rintro e w3 ⟨s3, O3, hA3, hs3, c, er, rfl, hq⟩
  have HX3 := Lib.hid (HX2.out.step hs3); have HK3 := Lib.hid (HK2.out.step hs3); have HST3 := Lib.hid (astep_pre HB2.out hs3); have HA3 := Lib.hid hA3
  have HJ3 := Lib.hid (HJ0.out c s3 hq)
  have p2 : w3.cell? ⟨bx, 2, none⟩ = some (.slice k1 d.kids.length k2) := HX3.out.cell 2
  clear hA3 hs3 hq HX2 HK2 HB2 HA2 H3
  cases deep
  · have HF := Lib.hid (HDN.out c c d.kids s3 w3 O3 HJ3.out HA3.out HST3.out)
    clear HDN HRD HJ3 HK3 HX3
    go_wp2_with fail
    go_ret
    exact HF.out
  · go_wp2_with fail
    go_loopw [134] (fun i wr => ∃ (j : Nat) (O2 : List Nat) (s2 : St), j ≤ d.kids.length ∧ i = .int .i64 (j : Nat) ∧ ArM T O2 s2 wr ∧ AStep O3 w3 O2 wr ∧ DupJ ns0 s M xs.length d.data.length c c (d.kids.drop j) s2) (fun i _ => d.kids.length - (intOf i).toNat)
    case atStart => exact ⟨0, O3, s3, Nat.zero_le _, rfl, HA3.out, AStep.refl _ _, HJ3.out⟩
    case round =>
      obtain ⟨j, O2, s2, hj, rfl, hA2, hs2, hJ2⟩ := hrel
      by_cases hlt : j < d.kids.length
      · have hR := (HK3.out.step hs2).r
        obtain ⟨gk, rfl⟩ := row_someA hR (by omega)
        have hcell := row_at hR j (natV d.kids[j]) (by simp [kidCells, hlt])
        have hdr : d.kids.drop j = d.kids[j] :: d.kids.drop (j + 1) := List.drop_eq_getElem_cons hlt
        rw [hdr] at hJ2
        obtain ⟨hk1, hk2⟩ := HKID.out _ (List.getElem_mem hlt)
        have H6 := HRD.out c c _ _ O2 s2 wr doc hJ2 hA2 hk1 hk2
        obtain ⟨y, hy⟩ : ∃ y, d.kids[j] = y := ⟨_, rfl⟩
        rw [hy] at H6 hcell
        have hji : (j : Int) < (d.kids.length : Int) := by omega
        simp only [natV] at hcell
        have H6 := Lib.hid H6; have HS2 := Lib.hid hs2
        clear hy hdr hR hA2 hs2 hJ2 hk1 hk2
        go_wp2_with fail
        refine H6.out.mono ?_
        rintro e w5 ⟨c', s5, O5, rfl, hA5, hs5, hL5, hJ5⟩
        have H7 := Lib.hid (dup_put (t := c) (c' := c') hA5 hL5)
        have HS5 := Lib.hid (HS2.out.trans hs5); have HJ5 := Lib.hid hJ5
        clear hA5 hs5 hL5 hJ5 H6
        go_wp2_with fail
        refine H7.out.mono ?_
        rintro e w6 ⟨er6, O6, rfl, hA6, hs6⟩
        have HA6 := Lib.hid hA6; have HS6 := Lib.hid (HS5.out.trans hs6)
        clear hA6 hs6 H7
        go_wp2_with fail
        go_roundw
        case rel => exact ⟨j + 1, O6, _, by omega, by go_num, HA6.out, HS6.out, HJ5.out⟩
        case measure => first | (simp only [intOf]; omega) | (simp [intOf]; omega)
      · have HF := Lib.hid (HDN.out c c _ s2 wr O2 hJ2 hA2 (HST3.out.trans hs2))
        clear hA2 hs2 hJ2 HRD
        go_wp2_with fail
        go_ret
        exact HF.out
set_option maxRecDepth 100000 in
set_option maxHeartbeats 8000000 in
theorem dup_comm {T : Nat} {ns0 : List Nd} {r : Nat → Nat} (hs0 : Snd ns0 r) (ht : Tm ns0) {k : Nat} (hk : inR ns0 k) {xs : List Nat} (hS : Sub (kdW ns0) (kdW ns0 ((k : Nat) : Int)) xs) (deep : Bool) (IH : ∀ k' xs', xs'.length < xs.length → inR ns0 k' → (nd ns0 k').parent ≠ 0 → Sub (kdW ns0) (kdW ns0 ((k' : Nat) : Int)) xs' → DupAt T ns0 k' xs') (hkind : (nd ns0 k).kind = 6)
    (doc : Int) (w : World) {O : List Nat} {s : St} {L : Lim} (hA : ArM T O s w) (hg : Gd L s) (hp : Pre ns0 s.ns) (hf : L.f + 1 + xs.length ≤ 900000) (ha : L.a ≤ 90000) :
    Calls Tryz.prog 124 #[.pointer (some ⟨T, 0, none⟩), .int .i64 doc, .pointer (some ⟨T, 0, none⟩), .int .i64 (k : Nat), .bool deep] w (Act T O w (DupR ns0 k ⟨L.x + attW ns0 xs, L.y, L.f + 1 + xs.length, L.a⟩ s)) := by
  have hks : inR s.ns k := hp.inR hk
  have hnd : nd s.ns k = nd ns0 k := hp.old k hk
  have hfit := hg.fit (by omega) (by omega)
  obtain ⟨iv, O1, hA1, -⟩ := hA.turn
  have H1 := NodeD_any ((k : Nat) : Int) w hA1 hfit
  rw [descAt_nd hks, hnd] at H1
  have hdl : (nd ns0 k).data.length ≤ L.y := by rw [← hnd]; exact hg.dy _ (nd_mem hks)
  have hal : (nd ns0 k).attrs.length ≤ L.a := by rw [← hnd]; exact hg.aa _ (nd_mem hks)
  have hkl : (nd ns0 k).kids.length ≤ 1000000 := by rw [← hnd]; exact hfit.kid _ (nd_mem hks)
  obtain ⟨⟨x2, hS2, hW2, hL2, hL3⟩, hct⟩ := sub_ct (fun x hx hc => (hs0.cts x hx hc).1) hk hS
  have hkid : ∀ y ∈ (nd ns0 k).kids, inR ns0 y ∧ (nd ns0 y).parent ≠ 0 := fun y hy => ⟨(hs0.kid k y hk hy).1, by rw [(hs0.kid k y hk hy).2]; have := hk.1; omega⟩
  obtain ⟨M, hM⟩ : ∃ M : Lim, (⟨L.x + attW ns0 xs, L.y, L.f + 1 + xs.length, L.a⟩ : Lim) = M := ⟨_, rfl⟩
  have hMf : M.f ≤ 900000 := by rw [← hM]; exact hf
  have hMa : M.a ≤ 90000 := by rw [← hM]; exact ha
  have HDN := Lib.hid (fun (c t : Nat) (rest : List Nat) (s' : St) (w' : World) (O' : List Nat) (h : DupJ ns0 s M xs.length (nd ns0 k).data.length c t rest s') (hA' : ArM T O' s' w') (hs' : AStep O w O' w') => show Act T O w (DupR ns0 k M s) (.returned (.int .i64 (c : Nat))) w' from ⟨s', O', hA', hs', c, rfl, h.done⟩)
  have HJ0 := Lib.hid (fun (c : Nat) (s1 : St) (h : MkQ ⟨L.x, L.y, L.f + 1, L.a⟩ s (nd ns0 k).data.length c s1) => show DupJ ns0 s M xs.length (nd ns0 k).data.length c c (nd ns0 k).kids s1 from
    ⟨h.pre, h.kt, h.c, h.c.imp id fun h => ⟨h.gt, h.is⟩, x2, L.x, L.f + 1, hS2, by rw [← hM]; exact h.gd, by rw [← hM]; dsimp only; omega, by rw [← hM]; dsimp only; omega, hL2⟩)
  rw [hM]
  have HRD := Lib.hid (fun (c t k' : Nat) (rest O2 : List Nat) (s2 : St) (wr : World) (doc' : Int) (hJ : DupJ ns0 s M xs.length (nd ns0 k).data.length c t (k' :: rest) s2) (hA : ArM T O2 s2 wr) (hk : inR ns0 k') (hpar : (nd ns0 k').parent ≠ 0) => dup_round hJ hA hk hpar hp hMf hMa IH doc')
  have HA := Lib.hid hA; have HG := Lib.hid hg
  clear hs0 hS hnd hks hfit hA1 hct hM IH hS2 hW2 hL2 hL3 ht hA hg hp 
  generalize nd ns0 k = d at *
  have hq1 : (d.kind == 1) = false := by rw [hkind]; rfl
  have hq2 : (d.kind == 2) = false := by rw [hkind]; rfl
  have hq3 : (d.kind == 3) = false := by rw [hkind]; rfl
  have hq5 : (d.kind == 5) = false := by rw [hkind]; rfl
  have hq6 : (d.kind == 6) = true := by rw [hkind]; rfl
  clear hkind
  have HKID := Lib.hid hkid; have H1 := Lib.hid H1
  clear hkid
  go_enter Tryz.func124, Tryz.ntmps124
  go_wp2_with fail
  refine H1.out.mono ?_
  rintro e w1 ⟨k1, k2, a1, a2, rfl, hkr, har, b1⟩
  have HB1 := Lib.hid b1; have HKR := Lib.hid hkr; have HAR := Lib.hid har
  clear b1 hkr har H1
  go_wp2_with fail
  generalize hW2 : w1.alloc _ = W2
  have hbx : W2.heap[w1.heap.size]? = some (.cells (nodeArr d k1 k2 a1 a2) 55 (0, 0)) := by rw [← hW2]; exact World.alloc_heap_new w1 _
  have hb2 : Below w1.heap.size w1 W2 := by rw [← hW2]; exact balloc _ _
  have HB2 := Lib.hid (bthen HB1.out HB1.out.size hb2)
  have HX2 := Lib.hid (Kp.new HA.out HB1.out.size hbx)
  have HK2 := Lib.hid (Kr.new HA.out (Nat.le_refl _) (ownsRow_below HKR.out hb2))
  have HAT := Lib.hid (AttsAt.own (ownsRow_below HAR.out hb2))
  have HA2 := Lib.hid (HA.out.later HB2.out)
  obtain ⟨bx, hbxe⟩ : ∃ bx, w1.heap.size = bx := ⟨_, rfl⟩
  rw [hbxe] at HX2 ⊢
  clear hbx hb2 hW2 hbxe HB1 HKR HAR
  have H3 := Lib.hid (Comment_mk doc d.data W2 HA2.out HG.out (by omega) hdl)
  refine H3.out.mono ?_
  rintro e w3 ⟨s3, O3, hA3, hs3, c, er, rfl, hq⟩
  have HX3 := Lib.hid (HX2.out.step hs3); have HK3 := Lib.hid (HK2.out.step hs3); have HST3 := Lib.hid (astep_pre HB2.out hs3); have HA3 := Lib.hid hA3
  have HJ3 := Lib.hid (HJ0.out c s3 hq)
  have p2 : w3.cell? ⟨bx, 2, none⟩ = some (.slice k1 d.kids.length k2) := HX3.out.cell 2
  clear hA3 hs3 hq HX2 HK2 HB2 HA2 H3
  cases deep
  · have HF := Lib.hid (HDN.out c c d.kids s3 w3 O3 HJ3.out HA3.out HST3.out)
    clear HDN HRD HJ3 HK3 HX3
    go_wp2_with fail
    go_ret
    exact HF.out
  · go_wp2_with fail
    go_loopw [134] (fun i wr => ∃ (j : Nat) (O2 : List Nat) (s2 : St), j ≤ d.kids.length ∧ i = .int .i64 (j : Nat) ∧ ArM T O2 s2 wr ∧ AStep O3 w3 O2 wr ∧ DupJ ns0 s M xs.length d.data.length c c (d.kids.drop j) s2) (fun i _ => d.kids.length - (intOf i).toNat)
    case atStart => exact ⟨0, O3, s3, Nat.zero_le _, rfl, HA3.out, AStep.refl _ _, HJ3.out⟩
    case round =>
      obtain ⟨j, O2, s2, hj, rfl, hA2, hs2, hJ2⟩ := hrel
      by_cases hlt : j < d.kids.length
      · have hR := (HK3.out.step hs2).r
        obtain ⟨gk, rfl⟩ := row_someA hR (by omega)
        have hcell := row_at hR j (natV d.kids[j]) (by simp [kidCells, hlt])
        have hdr : d.kids.drop j = d.kids[j] :: d.kids.drop (j + 1) := List.drop_eq_getElem_cons hlt
        rw [hdr] at hJ2
        obtain ⟨hk1, hk2⟩ := HKID.out _ (List.getElem_mem hlt)
        have H6 := HRD.out c c _ _ O2 s2 wr doc hJ2 hA2 hk1 hk2
        obtain ⟨y, hy⟩ : ∃ y, d.kids[j] = y := ⟨_, rfl⟩
        rw [hy] at H6 hcell
        have hji : (j : Int) < (d.kids.length : Int) := by omega
        simp only [natV] at hcell
        have H6 := Lib.hid H6; have HS2 := Lib.hid hs2
        clear hy hdr hR hA2 hs2 hJ2 hk1 hk2
        go_wp2_with fail
        refine H6.out.mono ?_
        rintro e w5 ⟨c', s5, O5, rfl, hA5, hs5, hL5, hJ5⟩
        have H7 := Lib.hid (dup_put (t := c) (c' := c') hA5 hL5)
        have HS5 := Lib.hid (HS2.out.trans hs5); have HJ5 := Lib.hid hJ5
        clear hA5 hs5 hL5 hJ5 H6
        go_wp2_with fail
        refine H7.out.mono ?_
        rintro e w6 ⟨er6, O6, rfl, hA6, hs6⟩
        have HA6 := Lib.hid hA6; have HS6 := Lib.hid (HS5.out.trans hs6)
        clear hA6 hs6 H7
        go_wp2_with fail
        go_roundw
        case rel => exact ⟨j + 1, O6, _, by omega, by go_num, HA6.out, HS6.out, HJ5.out⟩
        case measure => first | (simp only [intOf]; omega) | (simp [intOf]; omega)
      · have HF := Lib.hid (HDN.out c c _ s2 wr O2 hJ2 hA2 (HST3.out.trans hs2))
        clear hA2 hs2 hJ2 HRD
        go_wp2_with fail
        go_ret
        exact HF.out
end Go.Proofs.YtdapdadcninidaaGreatDoor
