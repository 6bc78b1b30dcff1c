/- Package arena: SetData; the children of a node are replaced. -/
import Derived.Test.YtdapdadcninidaaGreatDoorAr7
namespace Go.Proofs.YtdapdadcninidaaGreatDoor
open Go.RowKit
attribute [local go_sem ↓] Go.wp_at_zero Go.wp_at_succ

def setDataE (ns : List Nd) (h : Int) : Int := if isH ns.length h then (if (ndAt ns h).kind = 5 ∨ (ndAt ns h).kind = 6 then 0 else 9) else 3
def setNd (ns : List Nd) (h : Int) (d : Nd) : List Nd := ns.set (h - 1).toNat d
/-- A call that sets something: an error and nothing has turned, or OK and these are the nodes. -/
def Did (B : Nat) (O : List Nat) (w : World) (er : Int) (ns' : List Nd) (e : Ending) (w' : World) : Prop :=
  e = .returned (.int .i64 er) ∧ ((er ≠ 0 ∧ Below w.heap.size w w') ∨ (er = 0 ∧ ∃ O', ArW B O' ns' w' ∧ AStep O w O' w'))
set_option maxRecDepth 100000 in
set_option maxHeartbeats 1000000 in
theorem SetData_any (h : Int) (l : List UInt8) (w : World) {B : Nat} {O : List Nat} {ns : List Nd} (hA : ArW B O ns w) (hl : ns.length ≤ 1000000) :
    Calls Tryz.prog 53 #[.pointer (some ⟨B, 0, none⟩), .int .i64 h, .string ⟨l.toArray⟩] w (Did B O w (setDataE ns h) (setNd ns h { ndAt ns h with data := l })) := by
  obtain ⟨W0, hW0⟩ : ∃ W0, w.alloc (.cells #[.int .i64 h] 3) = W0 := ⟨_, rfl⟩
  have b0 : Below w.heap.size w W0 := by rw [← hW0]; exact balloc w _
  have hbx : W0.heap[w.heap.size]? = some (.cells #[.int .i64 h] 3) := by rw [← hW0]; exact World.alloc_heap_new w _
  have hA0 := hA.later b0
  have H1 := check_any (B := B) (H := w.heap.size) (c := 1) [h] W0 hA0 (by intro j v hj; match j, hj with | 0, hj => simp at hj; subst hj; rw [cell_of_row _ _ _ _ _ _ hbx]; rfl) (by simp)
  have HW := Lib.hid hW0
  cases hh : isH ns.length h
  · rw [show chkH ns.length [h] = 3 by simp [chkH, hh]] at H1
    have he : setDataE ns h = 3 := by simp [setDataE, hh]
    have HF := Lib.hid (show Did B O w (setDataE ns h) (setNd ns h { ndAt ns h with data := l }) (.returned (.int .i64 3)) W0 from ⟨by rw [he], .inl ⟨by rw [he]; decide, b0⟩⟩)
    have H1 := Lib.hid H1
    clear hh he hA hA0 b0 hbx hW0
    go_enter Tryz.func53, Tryz.ntmps53
    go_wp2_with fail
    rw [HW.out]
    refine H1.out.mono ?_
    rintro e w1 ⟨rfl, rfl⟩
    go_wp2_with fail
    go_ret
    exact HF.out
  · rw [show chkH ns.length [h] = 0 by simp [chkH, hh]] at H1
    obtain ⟨g, cap, kv, av, i, hi, hx, c0, hn, -, -, hat⟩ := atW_any h W0 hA0 hh hl
    have n0 := hn.c0
    have n7 := hn.c7
    have f7 := hn.fz 7 (by omega)
    have hput := hA0.put (j := 7) (d' := { ndAt ns h with data := l }) (v := .string ⟨l.toArray⟩) hx c0 (by omega) (fun _ _ => rfl) rfl rfl
    have hset : ns.set i { ndAt ns h with data := l } = setNd ns h { ndAt ns h with data := l } := by rw [setNd, hi]; congr 1; omega
    rw [hset] at hput
    have HD : Hid (∀ k, (ndAt ns h).kind = k → setDataE ns h = if k = 5 ∨ k = 6 then 0 else 9) := Lib.hid (by rintro k rfl; simp [setDataE, hh])
    obtain ⟨k, hk⟩ : ∃ k, (ndAt ns h).kind = k := ⟨_, rfl⟩
    rw [hk] at n0
    have he := HD.out k hk
    have HP := Lib.hid hput
    have H1 := Lib.hid H1
    have H2 := Lib.hid (hat W0 rfl)
    have B0 := Lib.hid b0
    have HE := Lib.hid he
    clear hh he hA hA0 b0 hbx hW0 hput hset hn hat c0 hi hx hk HD
    by_cases h5 : k = 5 ∨ k = 6
    · have HF := Lib.hid (show Did B O w (setDataE ns h) (setNd ns h { ndAt ns h with data := l }) (.returned (.int .i64 0)) _ from ⟨by rw [HE.out, if_pos h5], .inr ⟨by rw [HE.out, if_pos h5], O, HP.out.1, astep_pre B0.out HP.out.2⟩⟩)
      rcases h5 with rfl | rfl
      all_goals
        go_enter Tryz.func53, Tryz.ntmps53
        go_wp2_with fail
        rw [HW.out]
        refine H1.out.mono ?_
        rintro e w1 ⟨rfl, rfl⟩
        go_wp2_with (go_at_call 37; refine H2.out.mono ?_; rintro e w1 ⟨rfl, rfl⟩)
        go_ret
        exact HF.out
    · have HF := Lib.hid (show Did B O w (setDataE ns h) (setNd ns h { ndAt ns h with data := l }) (.returned (.int .i64 9)) W0 from ⟨by rw [HE.out, if_neg h5], .inl ⟨by rw [HE.out, if_neg h5]; decide, B0.out⟩⟩)
      have h51 : (k != 5) = true := by simp; omega
      have h61 : (k != 6) = true := by simp; omega
      clear h5
      go_enter Tryz.func53, Tryz.ntmps53
      go_wp2_with fail
      rw [HW.out]
      refine H1.out.mono ?_
      rintro e w1 ⟨rfl, rfl⟩
      go_wp2_with (go_at_call 37; refine H2.out.mono ?_; rintro e w1 ⟨rfl, rfl⟩)
      go_ret
      exact HF.out

/-- Field j of node i is set, whatever the rows of the nodes: they are given behind it. -/
theorem ar_setF {w : World} {B g n cap i j : Nat} {tab inv v : Value} {L : List Nv} {x y : Nv} (hd : w.heap[B]? = some (.cells #[tab, inv] 93 (0, 0))) (hrow : w.ownsRow 0 96 13 tab L.length (rowCells L))
    (ht : tab = .slice (some ⟨g, 0, none⟩) n cap) (hx : L[i]? = some x) (hj : j < 13) (hy : y.cells = x.cells.set j v)
    (hown : ∀ z ∈ L.set i y, w.ownsRow 0 3 1 z.kv z.nd.kids.length (kidCells z.nd.kids) ∧ w.ownsRow 0 121 3 z.av z.nd.attrs.length (attCells z.nd.attrs)) (hnd : (blocks B tab (L.set i y)).Nodup) :
    Ar (w.setCell ⟨g, i * 13 + j, none⟩ v) B tab inv (L.set i y) := by
  have hi : i < L.length := (List.getElem?_eq_some_iff.1 hx).1
  have hgt : tab.ownBlock = some g := by rw [ht]; rfl
  obtain ⟨n1, n2⟩ := List.nodup_cons.1 hnd
  have hgB : g ≠ B := fun e => n1 (by simp [hgt, e])
  have hm : Mod (fun k => k = g) w (w.setCell ⟨g, i * 13 + j, none⟩ v) := Mod.setCell _ _ rfl
  have hrest : ∀ z ∈ L.set i y, z.kv.ownBlock ≠ some g ∧ z.av.ownBlock ≠ some g := by
    intro z hz
    have := (List.nodup_append.1 n2).2.2 g (by simp [hgt])
    exact ⟨fun e => this g (List.mem_flatMap.2 ⟨z, hz, by simp [e]⟩) rfl, fun e => this g (List.mem_flatMap.2 ⟨z, hz, by simp [e]⟩) rfl⟩
  refine ⟨(Below.heap_setCell _ _ _ _ (Ne.symm hgB)).trans hd, ?_, fun z hz => ?_, fun z hz => ?_, hnd⟩
  · obtain ⟨h1, ⟨h2, h3⟩ | ⟨g', cap', cur, h2, h3, h4, h5, h6, h7, h8⟩⟩ := hrow
    · omega
    · rw [ht] at h2
      cases h2
      refine ⟨by rw [rowCells_len], .inr ⟨g, cap, cur.setIfInBounds (i * 13 + j) v, by rw [ht, List.length_set], h3, Joins.block_setCell h4 v, by simpa using h5, h6, by simpa using h7, ?_⟩⟩
      rw [rowCells_set L i j x y v hx hj hy, ← h8, List.length_set, Array.toList_setIfInBounds, List.take_set]
  · exact ownsRow_mod (hown z hz).1 hm fun k hkk e => (hrest z hz).1 (by rw [hkk, e])
  · exact ownsRow_mod (hown z hz).2 hm fun k hkk e => (hrest z hz).2 (by rw [hkk, e])
end Go.Proofs.YtdapdadcninidaaGreatDoor
