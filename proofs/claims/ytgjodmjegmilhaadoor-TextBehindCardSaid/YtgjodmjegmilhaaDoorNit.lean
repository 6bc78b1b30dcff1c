/- The iterator of text.Names: it ranges over the table's entries and hands each name with its value to yield. -/
import Derived.Test.YtgjodmjegmilhaaDoorNam
import Derived.Shelf.RegionOpen
namespace Go.Proofs.YtgjodmjegmilhaaDoor
open Go.RowKit
attribute [local go_sem] Oper.semAt_some
attribute [local go_sem] sext

theorem roundIn_wide {n m l : Nat} {P : Program} {k : Nat} {f : FuncId} {tmps : Array Value} {assign body : Code} {w : World} {R R' : Ending → World → Prop} (h : RoundIn Fence.wide n P k f tmps assign body w R) (hr : ∀ e w', R e w' → R' e w') :
    RoundIn (Fence.wide.inRound l) m P k f tmps assign body w R' :=
  RoundIn.mono (F := Fence.wide) ⟨h.1, fun c cs _ => h.2 c cs (room_wide _)⟩ hr
structure NitP (J Jx : World → Prop) (bx : Nat) (v : Value) (S : Nat → Prop) (W' : World) (b : Bool) (a' : Act) (w' : World) : Prop where
  t : a'.tmps.getD 12 undef = .bool (!b)
  d : a'.defers = []
  j : b = true → J w'
  x : b = false → Jx w'
  c : w'.cell? ⟨bx, 0, none⟩ = some v
  m : Mod S W' w'
structure NitQ (J Jx : World → Prop) (bx : Nat) (v : Value) (S : Nat → Prop) (W' : World) (a' : Act) (w' : World) : Prop where
  out : ∃ b, NitP J Jx bx v S W' b a' w'
theorem yield_arm {n m l : Nat} {P : Program} {k : Nat} {f : FuncId} {tmps : Array Value} {assign body : Code} {w : World} {J Jx : World → Prop} {S : Nat → Prop} {R' : Ending → World → Prop}
    (h : RoundIn Fence.wide n P k f tmps assign body w fun e W' => ((e = .returned (.bool true) ∧ J W') ∨ (e = .returned (.bool false) ∧ Jx W')) ∧ Mod S w W') (hm : 1 ≤ m)
    (hk : ∀ b W', (b = true → J W') → (b = false → Jx W') → Mod S w W' → R' (.returned (.bool b)) W') :
    ((Fence.wide.inRound l).depth.isSome = true → 1 ≤ m) ∧ RoundIn (Fence.wide.inRound l) (m - 1) P k f tmps assign body w R' := by
  refine ⟨fun _ => hm, roundIn_wide h ?_⟩
  rintro e W3 ⟨(⟨rfl, hj3⟩ | ⟨rfl, hj3⟩), hm3⟩
  · exact hk true _ (fun _ => hj3) (fun h => by cases h) hm3
  · exact hk false _ (fun h => by cases h) (fun _ => hj3) hm3
theorem enter_Names1 (args : Array Value) (W : World) : (callFunc 12 args).run Tryd.prog W = .ok (.enter 12 args) W := by simp [go_sem]

set_option maxRecDepth 100000 in
set_option maxHeartbeats 1000000 in
theorem names_iter (n : Nat) (hn : 9 ≤ n) (w : World) (hg : Good w) :
    IterAt Fence.wide n Tryd.prog 12 #[] (fun x : Ent => #[.string ⟨x.1.toArray⟩, .string ⟨(valL x.2).toArray⟩]) entL (fun _ => False) (fun k => k = 0) w := by
  have hit := fun n hn w hg => entries_iter n hn w hg
  have hsm := ent_small
  obtain ⟨es, hes⟩ : ∃ es, entL = es := ⟨_, rfl⟩
  rw [hes] at hit hsm ⊢
  have HIT := Lib.hid hit; have HSM := Lib.hid hsm
  clear hit hsm hes
  intro lp J Jx W hsz hI hJ hJx hY h0
  have hgW : Good W := by
    obtain ⟨m, hm⟩ := hg
    exact ⟨m, (World.cell?_of_block (w := w) (hI _ (.inr rfl))).trans hm⟩
  have hgs := hgW.size
  have HJ := Lib.hid hJ; have HJX := Lib.hid hJx; have HY := Lib.hid hY; have H0 := Lib.hid h0
  clear hJ hJx hY h0 hI
  refine callsIn_of_wp_marks Tryd.func12 rfl trivial ?_ rfl
  simp only [Tryd.ntmps12, List.size_toArray, List.length_cons, List.length_nil, Nat.reduceAdd, Nat.reduceSub, Array.replicate_succ, Array.replicate_zero, List.push_toArray, List.append_toArray, List.nil_append, List.cons_append]
  gi_wp2_with fail
  refine call_wide (entries_any _) ?_ (by omega)
  rintro e w1 ⟨rfl, rfl⟩
  obtain ⟨W1, hW1⟩ : ∃ W1, W.alloc (.cells #[.func (.yield lp) #[] #[]] 37) = W1 := ⟨_, rfl⟩
  rw [hW1]
  have hb1 : Below W.heap.size W W1 := by rw [← hW1]; exact balloc W _
  have hs1a : W1.heap.size ≤ W.heap.size + 1 := by rw [← hW1]; simp
  have hs1b : W.heap.size + 1 ≤ W1.heap.size := by rw [← hW1]; simp
  have hbx : W1.cell? ⟨W.heap.size, 0, none⟩ = some (.func (.yield lp) #[] #[]) := by
    rw [← hW1, Lib.cell_of_heap (World.alloc_heap_new W _)]; rfl
  clear hW1
  have hg1 : Good W1 := hgW.below hb1 hgs
  have HS := Lib.hid (HIT.out (n - 1) (by omega) W1 hg1)
  have hgs1 := hg1.size
  have HBX := Lib.hid hbx
  clear hbx
  gi_wp2_with fail
  refine wpIn_rangeFunc_it2 rfl (by omega) (gf := 27) rfl trivial enter_entries1 HS.out (Nat.le_refl _) (fun k _ h => h) (fun k h => ?_) (fun x => rfl)
    (fun n1 i V => J n1 i V ∧ V.cell? ⟨W.heap.size, 0, none⟩ = some (.func (.yield lp) #[] #[])) (fun n1 c i V => c = .ret ∧ Jx n1 i V) ?keep ?keepx ?start ?round ?done ?stop
  · rcases h with h | rfl
    · exact h.elim
    · exact ⟨hgs1, rfl⟩
  case keep =>
    rintro n1 i A B ⟨h, hb⟩ hm
    have hl := World.block_lt_of_cell? _ _ hb
    refine ⟨HJ.out n1 i A B h (hm.mono fun k _ h => h.elim (fun h => .inl h) fun h => .inr (by omega)), (hm.cell (p := ⟨_, 0, none⟩) hl ?_).trans hb⟩
    rintro (h | h)
    · exact h
    · dsimp only at h; omega
  case keepx => exact fun n1 c i A B h hm => ⟨h.1, HJX.out n1 i A B h.2 (hm.mono fun k _ h => h.elim (fun h => .inl h) fun h => .inr (by omega))⟩
  case start => exact fun n1 hn1 => ⟨HJ.out n1 0 _ _ (H0.out n1 (by omega)) (Mod.of_below hb1), HBX.out⟩
  case round =>
    rintro lp2 ⟨nm, cd⟩ V
    gi_wp2_with fail
    refine ⟨trivial, ?_⟩
    rintro n1 i W' hx ⟨hj, hb⟩ hn1 hn1' hR
    have hcs := (HSM.out (nm, cd) (List.mem_of_getElem? hx)).2
    have hgW' : Good W' := by
      obtain ⟨m, hm⟩ := hg1
      exact ⟨m, (World.cell?_of_block (w := W1) (hR _ rfl)).trans hm⟩
    have H1 := Lib.hid (fun w hg => value_any cd w hg (by simp at hcs; omega))
    have HJ1 := Lib.hid hj; have HX := Lib.hid hx
    have hl := World.block_lt_of_cell? _ _ hb
    clear hj hx hR
    have hmx : Tryd.prog.follows .mixedOrders = true := by kernel_rfl
    gi_wp2_with fail
    obtain ⟨S1, hS1⟩ : ∃ S, S = BoS W1.heap.size n1 (fun _ => False) fun k => k = 0 := ⟨_, rfl⟩
    refine wpIn_mono (Q := Exit.then (NitQ (J n1 (i + 1)) (Jx n1 (i + 1)) W.heap.size (.func (.yield lp) #[] #[]) S1 W') (fun _ _ _ => False)) ?_ ?_
    · gi_region_with_o (first
        | (refine call_round (H1.out _ (by exact hgW')) ?_ (by omega)
           rintro e w2 ⟨rfl, b2'⟩
           have b2 : Below W'.heap.size W' w2 := by first | exact b2' | exact bdrew b2'
           have hc2 : w2.cell? ⟨W.heap.size, 0, none⟩ = some (.func (.yield lp) #[] #[]) := ((bcell b2).1 W.heap.size 0 hl).trans hb
           have hb2s := b2.size
           obtain ⟨fn, tmps, assign, body, hy, hR⟩ := HY.out n1 i _ w2 HX.out (HJ.out n1 i _ _ HJ1.out (Mod.of_below b2)) (by omega) (by omega)
           dsimp only at hy
           have HR := Lib.hid hR
           clear hR b2')
        | (refine yield_arm HR.out (by omega) ?_
           rintro b W3 hq1 hq2 hm3))
      all_goals
        refine ⟨b, rfl, rfl, hq1, hq2, (hm3.cell (p := ⟨_, 0, none⟩) (by dsimp only; omega) (fun h => h.2.2 (by dsimp only; omega))).trans hc2, by rw [hS1]; exact (Mod.of_below b2).trans (hm3.mono fun k _ h => ⟨h.1, h.2.1, fun h' => h.2.2 (by omega)⟩)⟩
    · rintro (_ | _ | _ | _ | _ | _) a' w' hq <;> first | exact hq.elim | skip
      obtain ⟨b, q1, qd, qj, qx, qc, qm⟩ := hq.out
      rw [Array.getD_eq_getD_getElem?] at q1
      obtain ⟨T, ds⟩ := a'
      dsimp only at q1 qd
      subst qd
      rw [hS1] at qm
      have QM := Lib.hid qm; have QJ := Lib.hid qj; have QX := Lib.hid qx
      clear qm qj qx
      cases b
      · simp only [Bool.not_false] at q1
        gi_wp2_with fail
        refine wpIn_cond_true (by simpa [Act.eval] using q1) ?_
        gi_wp2_with fail
        exact ⟨⟨rfl, QX.out trivial⟩, QM.out⟩
      · simp only [Bool.not_true] at q1
        gi_wp2_with fail
        refine wpIn_cond_false (by simpa [Act.eval] using q1) ?_
        gi_wp2_with fail
        exact ⟨⟨QJ.out trivial, qc⟩, QM.out⟩
  case done =>
    rintro _ n1 V hn1 hn2 ⟨hj, hb⟩ rfl hK
    have hp : J n1 es.length (V.putObj W1.heap.size (.deferred none)) := HJ.out n1 _ _ _ hj (Mod.putObj V _ (.inr ⟨by omega, by omega⟩))
    have HP := Lib.hid hp
    clear hj hp
    gi_wp2_with fail
    refine ⟨by simp, .inl ⟨_, _, rfl, run_takeDeferred hK, ?_⟩⟩
    exact ⟨_, results_none rfl _ _ _, ⟨_, rfl⟩, n1, by omega, by simp; omega, .inl HP.out⟩
  case stop =>
    rintro _ n1 c i V hn1 hn2 hi ⟨rfl, hj⟩ rfl hK
    have hp : Jx n1 i (V.putObj W1.heap.size (.deferred none)) := HJX.out n1 _ _ _ hj (Mod.putObj V _ (.inr ⟨by omega, by omega⟩))
    have HP := Lib.hid hp
    clear hj hp
    gi_wp2_with fail
    refine ⟨by simp, .inl ⟨_, _, rfl, run_takeDeferred hK, ?_⟩⟩
    exact ⟨_, results_none rfl _ _ _, ⟨_, rfl⟩, n1, by omega, by simp; omega, .inr ⟨i, hi, HP.out⟩⟩
end Go.Proofs.YtgjodmjegmilhaaDoor
