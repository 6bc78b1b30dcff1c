/- append of a string to a slice of bytes that the call owns, and where the new row lies. No condition but the length. -/
import Derived.Test.YtdapdadcninidaaGreatDoorOwn
import Derived.Test.YtdapdadcninidaaGreatDoorIter
import Derived.Test.YtdapdadcninidaaGreatDoorBld
import Derived.Lib.FrozenHead
import Derived.Lib.BufStepsIn
import Derived.Test.YtdapdadcninidaaGreatDoorAr1
import Derived.Deep.AppendLies
namespace Go.Proofs.YtdapdadcninidaaGreatDoor
open Go.RowKit

theorem ok_inj {α : Type} {v v' : α} {w w' : World} (h : (Result.ok v w : Result α) = .ok v' w') : v = v' ∧ w = w' := by cases h; exact ⟨rfl, rfl⟩
theorem append_lies_str {w : World} (R : Nat) (ty : TypeId) (v : Value) (bs l : List UInt8) (hown : OwnB R w v bs) (hlen : bs.length + l.length ≤ 100000000000) (hR : R ≤ w.heap.size) :
    ∃ v' w', (Builtin.append_ #[110, 9] ty #[v, .string ⟨l.toArray⟩]).run Tryz.prog w = .ok v' w' ∧ OwnB R w' v' (bs ++ l) ∧ Mod (fun k => v.ownBlock = some k) w w' ∧ (v'.ownBlock = v.ownBlock ∨ ∃ g, v'.ownBlock = some g ∧ w.heap.size ≤ g) := by
  obtain ⟨i0, hi, hz0, hz1, hz2⟩ := info_parts infoB
  have hs : (⟨l.toArray⟩ : ByteArray).size = l.length := by simp [ByteArray.size]
  have hbl : (byteVals bs).length = bs.length := byteVals_len bs
  have h1 : bs.length + (⟨l.toArray⟩ : ByteArray).size ≤ maxLen := by rw [hs]; unfold maxLen; omega
  have h2 : bs.length + (⟨l.toArray⟩ : ByteArray).size ≤ 140737488355328 := by rw [hs]; omega
  have hown' : w.ownsRowF R 5 1 v bs.length (byteVals bs) := by have := hown; unfold OwnB OwnV at this; rwa [hbl] at this
  obtain ⟨v', w', hr, ho, hg, -⟩ := Lib.run_append_own_stringF (P := Tryz.prog) w R 110 9 ty 5 i0 Tryz.underlying110 Tryz.underlying9 hi hz0 hz1 hz2 v bs.length (byteVals bs) hown' ⟨l.toArray⟩ h1 h2 hR
  refine ⟨v', w', hr, ?_, Mod.of_grown hg fun k hk => hk.symm ▸ rfl, ?_⟩
  · unfold OwnB OwnV
    rw [byteVals_len, List.length_append, byteVals_app]
    rw [hs] at ho
    exact ho
  · rcases hown'.2 with ⟨rfl, h0⟩ | ⟨g, cap, cur, fz, rfl, hbg, hgg, hfz, hnc, hcm, hcs, htake⟩
    · obtain ⟨v2, w2, hr2, ho2, -, -⟩ := Lib.run_append_own_stringF (P := Tryz.prog) w w.heap.size 110 9 ty 5 i0 Tryz.underlying110 Tryz.underlying9 hi hz0 hz1 hz2 (.slice none 0 0) bs.length (byteVals bs) ⟨hown'.1, .inl ⟨rfl, h0⟩⟩ ⟨l.toArray⟩ h1 h2 (Nat.le_refl _)
      obtain ⟨rfl, rfl⟩ := ok_inj (hr.symm.trans hr2)
      cases hv : v'.ownBlock with
      | none => exact .inl rfl
      | some k => exact .inr ⟨k, rfl, (ho2.lt k hv).1⟩
    · by_cases hroom : bs.length + (⟨l.toArray⟩ : ByteArray).size ≤ cap
      · have hr2 := Lib.run_append_room_stringF (P := Tryz.prog) w 110 9 ty 5 i0 Tryz.underlying110 Tryz.underlying9 hi hz1 g bs.length cap cur fz hgg (by simpa using hfz) ⟨l.toArray⟩ hroom (by omega)
        obtain ⟨rfl, rfl⟩ := ok_inj (hr.symm.trans hr2)
        exact .inl rfl
      · have holds : ∀ j u, (byteVals bs)[j]? = some u → w.cell? ((⟨g, 0, none⟩ : Addr).add j) = some u := hown'.cells (g := g) rfl
        have hr2 := Lib.run_append_grow_string (P := Tryz.prog) w 110 9 ty 5 i0 (.int .u8 0) Tryz.underlying110 Tryz.underlying9 hi hz0 ⟨g, 0, none⟩ bs.length cap (byteVals bs) (by rw [hz1, hbl]; omega) holds ⟨l.toArray⟩ (by omega) (by rw [hs]; omega) (by rw [hz2]; exact growslice_fits (by rw [hs]; omega) (by rw [hs]; omega))
        obtain ⟨rfl, rfl⟩ := ok_inj (hr.symm.trans hr2)
        exact .inr ⟨w.heap.size, rfl, Nat.le_refl _⟩
end Go.Proofs.YtdapdadcninidaaGreatDoor
/- append inside a fence, and where the new row lies: a string to bytes, an element to a slice of ints. No condition but the length. -/
namespace Go.Proofs.YtdapdadcninidaaGreatDoor
open Go.RowKit

theorem in_append_str {F : Fence} {n : Nat} {ops : Array Oper} {rest : List Oper} {o : Oper} {a : Act} {Q : Exit → Act → World → Prop} {W : World} (hgd : o.guard = none) (sl x : Operand)
    (ho : o.op = .call { callee := .builtin .append, args := #[sl, x], argTypes := #[110, 9] })
    (R : Nat) (v : Value) (bs l : List UInt8) (hs : a.eval sl = v) (hown : OwnB R W v bs) (hx : a.eval x = .string ⟨l.toArray⟩) (hlen : bs.length + l.length ≤ 100000000000) (hR : R ≤ W.heap.size)
    (h : ∀ v' w', OwnB R w' v' (bs ++ l) → Mod (fun k => v.ownBlock = some k) W w' → (v'.ownBlock = v.ownBlock ∨ ∃ g, v'.ownBlock = some g ∧ W.heap.size ≤ g) → wpListIn F n Tryz.prog ops Q rest (a.put o.dst v') w') :
    wpListIn F n Tryz.prog ops Q (o :: rest) a W := by
  refine wpListIn_plain hgd fun K hK => ?_
  obtain ⟨v', w', hr, h2, h3, h4⟩ := append_lies_str R o.type v bs l hown hlen hR
  unfold Oper.wpIn
  refine ⟨?_, ?_⟩
  · simp [Oper.about, ho, resolve, Target.leads, Sem.run_pure]
  · rw [Oper.semAt_plain F _ _ (by rw [ho]; intro c hc'; cases hc')]
    simp [execOp, ho, resolve, invoke, builtin, hs, hx, hr, Result.andThen]
    exact hK _ _ (h v' w' h2 h3 h4)
theorem infoI : (Tryz.prog.info? 3).map (fun i => (i.zero, i.size, i.bytes)) = some (some (.int .i64 0), 1, 8) := by kernel_rfl
theorem in_append_int {F : Fence} {n : Nat} {ops : Array Oper} {rest : List Oper} {o : Oper} {a : Act} {Q : Exit → Act → World → Prop} {W : World} (hgd : o.guard = none) (sl x : Operand)
    (ho : o.op = .call { callee := .builtin .append, args := #[sl, x], argTypes := #[53, 53] })
    (R : Nat) (v : Value) (xs : List Value) (u : Value) (hs : a.eval sl = v) (hown : W.ownsRow R 3 1 v xs.length xs) (hu : u.oneCell' = true) (hx : a.eval x = .slice (some ⟨W.heap.size, 0, none⟩) 1 1) (hlen : xs.length + 1 ≤ 1000000000) (hR : R ≤ W.heap.size)
    (h : ∀ v' w', w'.ownsRow R 3 1 v' (xs.length + 1) (xs ++ [u]) → Mod (fun k => v.ownBlock = some k) W w' → (v'.ownBlock = v.ownBlock ∨ ∃ g, v'.ownBlock = some g ∧ W.heap.size ≤ g) → wpListIn F n Tryz.prog ops Q rest (a.put o.dst v') w') :
    wpListIn F n Tryz.prog ops Q (o :: rest) a (W.alloc (.cells #[u] 3)) := by
  obtain ⟨i0, hi, hz0, hz1, hz2⟩ := info_parts infoI
  refine wpListIn_plain hgd fun K hK => ?_
  have hown2 : (W.alloc (.cells #[u] 3)).ownsRow R 3 1 v xs.length xs := ownsRow_below hown (balloc W _)
  obtain ⟨g, cap, w', hr, h2, h3, h4, h5⟩ := run_append_lies (P := Tryz.prog) (W.alloc (.cells #[u] 3)) 53 o.type R 3 i0 (.int .i64 0) 1 8 Tryz.underlying53 hi hz0 hz1 hz2 rfl (by decide) v xs.length xs hown2 ⟨W.heap.size, 0, none⟩ 1 1 [u] rfl
    (news_new (H := W.heap.size) (cs := [u]) rfl) (by intro y hy; simp at hy; subst hy; exact hu) (by decide) (by unfold maxLen; omega) (by omega) (by simp; omega) (W.heap.size + 1) (by simp)
  unfold Oper.wpIn
  refine ⟨?_, ?_⟩
  · simp [Oper.about, ho, resolve, Target.leads, Sem.run_pure]
  · rw [Oper.semAt_plain F _ _ (by rw [ho]; intro c hc'; cases hc')]
    simp [execOp, ho, resolve, invoke, builtin, hs, hx, hr, Result.andThen]
    refine hK _ _ (h _ w' h2 ?_ ?_)
    · exact (Mod.alloc _ W _).trans (Mod.of_grown h3 fun k hk => hk.symm ▸ rfl)
    · rcases h4 with h4 | h4
      · exact .inl (by rw [h4]; rfl)
      · exact .inr ⟨g, rfl, by omega⟩
end Go.Proofs.YtdapdadcninidaaGreatDoor
