/- text.HasPrefix. -/
import Derived.Test.YtgjodmjegmilhaaDoorNam
import Derived.Test.YtgjodmjegmilhaaDoorRnd
import Derived.Test.YtgjodmjegmilhaaDoorRa
import Derived.Sort.QuietTacIn
namespace Go.Proofs.YtgjodmjegmilhaaDoor
open Go.RowKit
attribute [local go_sem] Oper.semAt_some
attribute [local go_sem] sext
attribute [local go_sem] sgetr

def hasE (es : List Ent) (s : List UInt8) : Bool := es.any fun x => s.isPrefixOf x.1
noncomputable def hasL (s : List UInt8) : Bool := hasE entL s
theorem hasE_hit {es : List Ent} {s : List UInt8} {i : Nat} {x : Ent} (hx : es[i]? = some x) (h : s.isPrefixOf x.1 = true) : hasE es s = true :=
  List.any_eq_true.2 ⟨x, List.mem_of_getElem? hx, h⟩
theorem hasE_miss {es : List Ent} {s : List UInt8} (hno : ∀ j y, j < es.length → es[j]? = some y → s.isPrefixOf y.1 = false) : hasE es s = false := by
  unfold hasE
  rw [List.any_eq_false]
  intro x hx
  obtain ⟨j, hj, rfl⟩ := List.getElem_of_mem hx
  rw [hno j _ hj (List.getElem?_eq_getElem hj)]; decide
/-- No prefix, seen at one byte. -/
theorem no_prefix_at {s l : List UInt8} {i : Nat} (h1 : i < s.length) (h2 : i < l.length) (hne : l[i] ≠ s[i]) : s.isPrefixOf l = false := by
  rw [Bool.eq_false_iff]
  intro h
  obtain ⟨t, rfl⟩ := List.isPrefixOf_iff_prefix.1 h
  exact hne (List.getElem_append_left h1)
theorem no_prefix_len {s l : List UInt8} (h : l.length < s.length) : s.isPrefixOf l = false := by
  rw [Bool.eq_false_iff]
  intro hp
  have := (List.isPrefixOf_iff_prefix.1 hp).length_le
  omega
theorem prefix_of_all {s l : List UInt8} (hl : s.length ≤ l.length) (h : ∀ i (h1 : i < s.length) (h2 : i < l.length), l[i] = s[i]) : s.isPrefixOf l = true := by
  rw [List.isPrefixOf_iff_prefix, List.prefix_iff_eq_take]
  apply List.ext_getElem (by simp; omega)
  intro i h1 h2
  simp
  exact (h i h1 (by omega)).symm
structure HsJ (es : List Ent) (s : List UInt8) (w : World) (i : Nat) (W : World) : Prop where
  no : ∀ j y, j < i → es[j]? = some y → s.isPrefixOf y.1 = false
  c0 : W.cell? ⟨w.heap.size, 0, none⟩ = some (.string ⟨s.toArray⟩)
  c1 : W.cell? ⟨w.heap.size + 1, 0, none⟩ = some (.bool false)
  f1 : W.frozen? ⟨w.heap.size + 1, 0, none⟩ = false
  bl : Below w.heap.size w W
structure HsX (es : List Ent) (s : List UInt8) (w : World) (c : Code) (W : World) : Prop where
  rt : c = .ret
  c1 : W.cell? ⟨w.heap.size + 1, 0, none⟩ = some (.bool true)
  hv : hasE es s = true
  bl : Below w.heap.size w W
theorem HsJ.kept {es : List Ent} {s : List UInt8} {w A B : World} {i : Nat} (h : HsJ es s w i A) (hm : Mod (fun k => w.heap.size + 2 ≤ k) A B) : HsJ es s w i B := by
  obtain ⟨h0, h1, h2, h4, h6⟩ := h
  have l1 := World.block_lt_of_cell? _ _ h1
  have l2 := World.block_lt_of_cell? _ _ h2
  exact ⟨h0, (hm.cell (p := ⟨_, 0, none⟩) l1 (by dsimp only; omega)).trans h1, (hm.cell (p := ⟨_, 0, none⟩) l2 (by dsimp only; omega)).trans h2,
    (hm.frozen (p := ⟨_, 0, none⟩) l2 (by dsimp only; omega)).trans h4, h6.trans (hm.below h6.size fun k hk => by omega)⟩
theorem HsX.kept {es : List Ent} {s : List UInt8} {w A B : World} {c : Code} (h : HsX es s w c A) (hm : Mod (fun k => w.heap.size + 2 ≤ k) A B) : HsX es s w c B := by
  obtain ⟨h0, h2, h3, h6⟩ := h
  have l2 := World.block_lt_of_cell? _ _ h2
  exact ⟨h0, (hm.cell (p := ⟨_, 0, none⟩) l2 (by dsimp only; omega)).trans h2, h3, h6.trans (hm.below h6.size fun k hk => by omega)⟩
theorem HsJ.next {es : List Ent} {s : List UInt8} {w W : World} {i : Nat} {x : Ent} (h : HsJ es s w i W) (hx : es[i]? = some x) (hno : s.isPrefixOf x.1 = false) : HsJ es s w (i + 1) W := by
  obtain ⟨h0, h1, h2, h4, h6⟩ := h
  refine ⟨fun j y hj hy => ?_, h1, h2, h4, h6⟩
  by_cases e : j = i
  · subst e
    have := hx.symm.trans hy
    cases this; exact hno
  · exact h0 j y (by omega) hy
theorem has_start (es : List Ent) (l : List UInt8) (w W0 : World) (hW0 : (w.alloc (.cells #[.string ⟨l.toArray⟩] 9)).alloc (.cells #[.bool false] 4) = W0) :
    HsJ es l w 0 W0 ∧ W0.heap.size = w.heap.size + 2 := by
  subst hW0
  have e0 := World.alloc_heap_new w (.cells #[.string ⟨l.toArray⟩] 9)
  have e1 := World.alloc_heap_new (w.alloc (.cells #[.string ⟨l.toArray⟩] 9)) (.cells #[.bool false] 4)
  rw [World.size_alloc] at e1
  have e0' := (Below.heap_alloc (w.alloc (.cells #[.string ⟨l.toArray⟩] 9)) (.cells #[.bool false] 4) w.heap.size (by simp)).trans e0
  refine ⟨⟨fun _ _ h => absurd h (Nat.not_lt_zero _), ?_, ?_, ?_, (balloc w _).alloc (by simp) _⟩, by simp⟩
  · rw [Lib.cell_of_heap e0']; rfl
  · rw [Lib.cell_of_heap e1]; rfl
  · exact Lib.frozen_of_heap e1 0

set_option maxRecDepth 100000 in
set_option maxHeartbeats 1000000 in
theorem HasPrefix_any (l : List UInt8) (w : World) (hg : Good w) (_ : l.length ≤ 1000000000) : Calls Tryd.prog 9 #[.string ⟨l.toArray⟩] w (Ret w (.bool (hasL l))) := by
  have hit := fun n hn w hg => entries_iter n hn w hg
  have hsm := ent_small
  show Calls _ _ _ _ (Ret w (.bool (hasE entL l)))
  obtain ⟨es, hes⟩ : ∃ es, entL = es := ⟨_, rfl⟩
  rw [hes] at hit hsm ⊢
  have HIT := Lib.hid hit; have HSM := Lib.hid hsm
  clear hit hsm hes
  obtain ⟨n, hn⟩ : ∃ n, 9 ≤ n := ⟨9, Nat.le_refl _⟩
  have hgs := hg.size
  refine (callsIn_wide (n := n)).1 ?_
  refine callsIn_of_wp_marks Tryd.func9 rfl trivial ?_ rfl
  simp only [Tryd.ntmps9, List.size_toArray, List.length_cons, List.length_nil, Nat.reduceAdd, Nat.reduceSub, Array.replicate_succ, Array.replicate_zero, List.push_toArray, List.append_toArray, List.nil_append, List.cons_append]
  gi_wp2_with fail
  refine wpIn_wide.2 (wp_scope_straight ((wpIn_wide (n := n)).1 ?_))
  refine wpIn_seq ?_
  refine wpIn_label ?_
  gi_wp2_with fail
  refine call_wide (entries_any _) ?_ (by omega)
  rintro e w1 ⟨rfl, rfl⟩
  obtain ⟨W0, hW0⟩ : ∃ W0, (w.alloc (.cells #[.string ⟨l.toArray⟩] 9)).alloc (.cells #[.bool false] 4) = W0 := ⟨_, rfl⟩
  obtain ⟨hJ0, hs0⟩ := has_start es l w W0 hW0
  have hb0 := hJ0.bl
  have hg0 : Good W0 := hg.below hb0 hgs
  rw [hW0]
  clear hW0
  have HJ0 := Lib.hid hJ0
  clear hJ0
  have HS := Lib.hid (HIT.out (n - 1) (by omega) W0 hg0)
  have hgs0 := hg0.size
  have hs0a : W0.heap.size ≤ w.heap.size + 2 := by omega
  have hs0b : w.heap.size + 2 ≤ W0.heap.size := by omega
  clear hs0
  gi_wp2_with fail
  refine wpIn_rangeFunc_it rfl (by omega) (gf := 27) rfl trivial enter_entries1 HS.out (Nat.le_refl _) (fun k _ h => h) (fun k h => ?_) (fun x => rfl)
    (fun _ i W => HsJ es l w i W) (fun _ c _ W => HsX es l w c W) ?keep ?keepx ?start ?round ?done ?stop
  · rcases h with h | rfl
    · exact h.elim
    · exact ⟨hgs0, rfl⟩
  case keep => exact fun n1 i A B h hm => h.kept (hm.mono fun k _ h => h.elim False.elim fun h => by omega)
  case keepx => exact fun n1 c i A B h hm => h.kept (hm.mono fun k _ h => h.elim False.elim fun h => by omega)
  case start => exact fun _ _ => HJ0.out
  case round =>
    rintro lp ⟨nm, cd⟩ W
    gi_wp2_with fail
    refine ⟨trivial, ?_⟩
    rintro n1 i W' hx hj hn1 hn1' hR
    have hcs := (HSM.out (nm, cd) (List.mem_of_getElem? hx)).1
    dsimp only at hcs
    have HJ := Lib.hid hj; have HX := Lib.hid hx
    have hc1 := hj.c0
    clear hj hx hR HJ0
    by_cases hlen : nm.length < l.length
    · gi_wp2_with fail
      exact ⟨HJ.out.next HX.out (no_prefix_len hlen), Mod.refl _ _⟩
    · gi_wp2_with fail
      gi_loopw [15] (fun s15 wr => ∃ k : Nat, k ≤ l.length ∧ s15 = .int .i64 k ∧ HsJ es l w i wr ∧ (∀ S, Mod S W' wr) ∧ ∀ j (h1 : j < l.length) (h2 : j < nm.length), j < k → nm[j] = l[j]) (fun s15 _ => l.length - (intOf s15).toNat)
      case atStart => exact ⟨0, Nat.zero_le _, rfl, HJ.out, fun S => Mod.refl _ _, fun _ _ _ h => absurd h (Nat.not_lt_zero _)⟩
      case round =>
        obtain ⟨k, hk, rfl, hj, hm, hall⟩ := hrel
        have HJ2 := Lib.hid hj; have HM := Lib.hid hm; have HALL := Lib.hid hall
        have hc2 := hj.c0
        have hb2 := hj.c1
        have hf2 := hj.f1
        clear hj hm hall hc1
        by_cases hkl : k < l.length
        · gi_wp2_with fail
          have hkn : k < nm.length := by omega
          by_cases hbe : nm[k] = l[k]
          · have hq : ((nm[k].toNat : Int) != (l[k].toNat : Int)) = false := by rw [bne, u8_eq]; simp [hbe]
            have HBE := Lib.hid hbe; clear hbe
            refine region_round_lit rfl (by kernel_rfl) (by kernel_rfl) ?_
            repeat (quiet_step_in (fail))
            refine wpQuietIn_nil ?_
            rintro _ ⟨q, rfl⟩
            gi_wp2_with fail
            go_roundw
            case rel =>
              refine ⟨k + 1, by omega, by go_num, HJ2.out.kept (Mod.drewN (Mod.refl _ _) _), fun S => (HM.out S).trans (Mod.drewN (Mod.refl _ _) _), fun j h1 h2 hjk => ?_⟩
              by_cases e : j = k
              · subst e; exact HBE.out
              · exact HALL.out j h1 h2 (by omega)
            case measure => simp [intOf]; omega
          · have hq : ((nm[k].toNat : Int) != (l[k].toNat : Int)) = true := by rw [bne, u8_eq]; simp [hbe]
            have HBE := Lib.hid hbe; clear hbe
            refine region_round_lit rfl (by kernel_rfl) (by kernel_rfl) ?_
            repeat (quiet_step_in (fail))
            refine wpQuietIn_nil ?_
            rintro _ ⟨q, rfl⟩
            gi_wp2_with fail
            exact ⟨(HJ2.out.kept (Mod.drewN (Mod.refl _ _) _)).next HX.out (no_prefix_at hkl hkn HBE.out), (HM.out _).trans (Mod.drewN (Mod.refl _ _) _)⟩
        · gi_wp2_with fail
          refine ⟨⟨rfl, ?_, ?_, ?_⟩, ?_⟩
          · exact World.cell?_setCell_same' _ _ _ (by rw [hb2]; rfl)
          · exact hasE_hit HX.out (prefix_of_all (s := l) (l := nm) (by omega) fun j h1 h2 => HALL.out j h1 h2 (by omega))
          · exact HJ2.out.bl.setCell (by simp) _
          · exact (HM.out _).trans (Mod.setCell _ _ ⟨fun h => h, by dsimp only; omega, by dsimp only; omega⟩)
  case done =>
    rintro D n1 W hn1 hn2 hj hD hK
    have HV := Lib.hid (hasE_miss hj.no)
    obtain ⟨h0, h1, h2, h3, h4⟩ := hj
    clear h0
    gi_wp2_with fail
    rw [Exit.noGoto_ret]
    have hr1 : (W.setCell ⟨w.heap.size + 1, 0, none⟩ (.bool false)).cell? ⟨w.heap.size + 1, 0, none⟩ = some (.bool false) := World.cell?_setCell_same' _ _ _ (by rw [h2]; rfl)
    have hbl : Below w.heap.size w (W.setCell ⟨w.heap.size + 1, 0, none⟩ (.bool false)) := h4.setCell (by simp) _
    have hK' := (Below.heap_setCell W ⟨w.heap.size + 1, 0, none⟩ (.bool false) D (by dsimp only; omega)).trans hK
    refine ⟨by simp, .inl ⟨_, _, rfl, run_takeDeferred hK', ?_⟩⟩
    have hq1 := putObj_cell (D := D) (x := .deferred none) hr1 (by omega)
    rw [HV.out]
    exact ⟨.bool false, by simp [results, Tryd.results9, go_sem, hq1], Ret.mk rfl (below_put hbl (by omega))⟩
  case stop =>
    rintro D n1 c i W hn1 hn2 hi ⟨rfl, h1, h2, h3⟩ hD hK
    gi_wp2_with fail
    refine ⟨by simp, .inl ⟨_, _, rfl, run_takeDeferred hK, ?_⟩⟩
    have hr1 := putObj_cell (D := D) (x := .deferred none) h1 (by omega)
    exact ⟨.bool true, by simp [results, Tryd.results9, go_sem, hr1], Ret.mk (by rw [h2]) (below_put h3 (by omega))⟩
end Go.Proofs.YtgjodmjegmilhaaDoor
