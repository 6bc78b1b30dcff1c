/- Package arena: a field of a stored node is set; check. -/
import Derived.Test.YtdapdadcninidaaGreatDoorAr1
namespace Go.Proofs.YtdapdadcninidaaGreatDoor
open Go.RowKit
attribute [local go_sem ↓] Go.wp_at_zero Go.wp_at_succ

theorem Nv.cells_len (x : Nv) : x.cells.length = 13 := rfl
theorem rowCells_set : ∀ (L : List Nv) (i j : Nat) (x y : Nv) (v : Value), L[i]? = some x → j < 13 → y.cells = x.cells.set j v → rowCells (L.set i y) = (rowCells L).set (i * 13 + j) v
  | [], _, _, _, _, _, h, _, _ => by simp at h
  | z :: L, 0, j, x, y, v, h, hj, hy => by
    obtain rfl : z = x := by simpa using h
    rw [List.set_cons_zero, rowCells, List.flatMap_cons, hy, rowCells, List.flatMap_cons, Nat.zero_mul, Nat.zero_add, List.set_append_left _ _ (by rw [Nv.cells_len]; exact hj)]
  | z :: L, i + 1, j, x, y, v, h, hj, hy => by
    have ih := rowCells_set L i j x y v (by simpa using h) hj hy
    rw [List.set_cons_succ, rowCells, List.flatMap_cons, rowCells, List.flatMap_cons, List.set_append_right _ _ (by rw [Nv.cells_len]; omega), Nv.cells_len, show (i + 1) * 13 + j - 13 = i * 13 + j by omega]
    exact congrArg _ ih
/-- A field of node i is set. -/
theorem ar_set {w : World} {B g n cap i j : Nat} {tab inv v : Value} {L : List Nv} {x y : Nv} (h : Ar w B tab inv L) (ht : tab = .slice (some ⟨g, 0, none⟩) n cap) (hx : L[i]? = some x) (hj : j < 13) (hy : y.cells = x.cells.set j v)
    (hk : w.ownsRow 0 3 1 y.kv y.nd.kids.length (kidCells y.nd.kids)) (ha : w.ownsRow 0 121 3 y.av y.nd.attrs.length (attCells y.nd.attrs)) (hnd : (blocks B tab (L.set i y)).Nodup) :
    Ar (w.setCell ⟨g, i * 13 + j, none⟩ v) B tab inv (L.set i y) := by
  have hi : i < L.length := (List.getElem?_eq_some_iff.1 hx).1
  have hgt : tab.ownBlock = some g := by rw [ht]; rfl
  have hgB : g ≠ B := fun e => h.tab_ne (by rw [hgt, e])
  have hm : Mod (fun k => k = g) w (w.setCell ⟨g, i * 13 + j, none⟩ v) := Mod.setCell _ _ rfl
  obtain ⟨n1, n2⟩ := List.nodup_cons.1 hnd
  have hrest : ∀ z ∈ L.set i y, z.kv.ownBlock ≠ some g ∧ z.av.ownBlock ≠ some g := by
    intro z hz
    have := (List.nodup_append.1 n2).2.2 g (by simp [hgt])
    exact ⟨fun e => this g (List.mem_flatMap.2 ⟨z, hz, by simp [e]⟩) rfl, fun e => this g (List.mem_flatMap.2 ⟨z, hz, by simp [e]⟩) rfl⟩
  have hown : ∀ z ∈ L.set i y, w.ownsRow 0 3 1 z.kv z.nd.kids.length (kidCells z.nd.kids) ∧ w.ownsRow 0 121 3 z.av z.nd.attrs.length (attCells z.nd.attrs) := by
    intro z hz
    rcases List.mem_or_eq_of_mem_set hz with hz | rfl
    · exact ⟨h.kid z hz, h.att z hz⟩
    · exact ⟨hk, ha⟩
  refine ⟨(Below.heap_setCell _ _ _ _ (Ne.symm hgB)).trans h.hd, ?_, fun z hz => ?_, fun z hz => ?_, hnd⟩
  · obtain ⟨h1, ⟨h2, h3⟩ | ⟨g', cap', cur, h2, h3, h4, h5, h6, h7, h8⟩⟩ := h.row
    · omega
    · rw [ht] at h2
      cases h2
      refine ⟨by rw [rowCells_len], .inr ⟨g, cap, cur.setIfInBounds (i * 13 + j) v, by rw [ht, List.length_set], h3, Joins.block_setCell h4 v, by simpa using h5, h6, by simpa using h7, ?_⟩⟩
      rw [rowCells_set L i j x y v hx hj hy, ← h8, List.length_set, Array.toList_setIfInBounds, List.take_set]
  · exact ownsRow_mod (hown z hz).1 hm fun k hkk e => (hrest z hz).1 (by rw [hkk, e])
  · exact ownsRow_mod (hown z hz).2 hm fun k hkk e => (hrest z hz).2 (by rw [hkk, e])
theorem blocks_set {B i : Nat} {tab : Value} {L : List Nv} {x y : Nv} (hx : L[i]? = some x) (hk : y.kv = x.kv) (ha : y.av = x.av) : blocks B tab (L.set i y) = blocks B tab L := by
  unfold blocks
  congr 2
  induction L generalizing i with
  | nil => rfl
  | cons z L ih =>
    cases i with
    | zero =>
      obtain rfl : z = x := by simpa using hx
      simp [hk, ha]
    | succ i => simp only [List.set_cons_succ, List.flatMap_cons]; rw [ih (by simpa using hx)]
/-- .. one that is no slice. -/
theorem ar_put {w : World} {B g n cap i j : Nat} {tab inv v : Value} {L : List Nv} {x : Nv} {d : Nd} (h : Ar w B tab inv L) (ht : tab = .slice (some ⟨g, 0, none⟩) n cap) (hx : L[i]? = some x) (hj : j < 13)
    (hd : ndCells d x.kv x.av = x.cells.set j v) (hk : d.kids = x.nd.kids) (ha : d.attrs = x.nd.attrs) :
    Ar (w.setCell ⟨g, i * 13 + j, none⟩ v) B tab inv (L.set i ⟨d, x.kv, x.av⟩) ∧ AStep (blocks B tab L) w (blocks B tab (L.set i ⟨d, x.kv, x.av⟩)) (w.setCell ⟨g, i * 13 + j, none⟩ v) := by
  have hm := List.mem_of_getElem? hx
  have hb := blocks_set (B := B) (tab := tab) (y := ⟨d, x.kv, x.av⟩) hx rfl rfl
  refine ⟨ar_set h ht hx hj hd ?_ ?_ (by rw [hb]; exact h.nd), ⟨Mod.setCell _ _ (mem_blocks.2 (.inr (.inl (by rw [ht]; rfl)))), fun k hk => .inl (by rwa [hb] at hk)⟩⟩
  · dsimp only; rw [hk]; exact h.kid x hm
  · dsimp only; rw [ha]; exact h.att x hm

/-- The arena at B holds these nodes; O: the blocks that are its own. -/
def ArW (B : Nat) (O : List Nat) (ns : List Nd) (w : World) : Prop := ∃ tab inv L, Ar w B tab inv L ∧ blocks B tab L = O ∧ L.map (·.nd) = ns
theorem ArW.later {B : Nat} {O : List Nat} {ns : List Nd} {w w' : World} (h : ArW B O ns w) (hb : Below w.heap.size w w') : ArW B O ns w' := by
  obtain ⟨tab, inv, L, h1, h2, h3⟩ := h
  exact ⟨tab, inv, L, h1.later hb, h2, h3⟩
theorem ArW.kept {S : Nat → Prop} {B : Nat} {O : List Nat} {ns : List Nd} {w w' : World} (h : ArW B O ns w) (hm : Mod S w w') (hS : ∀ k ∈ O, ¬ S k) : ArW B O ns w' := by
  obtain ⟨tab, inv, L, h1, h2, h3⟩ := h
  exact ⟨tab, inv, L, h1.kept hm (by rw [h2]; exact hS), h2, h3⟩
theorem ArW.lt {B : Nat} {O : List Nat} {ns : List Nd} {w : World} (h : ArW B O ns w) {k : Nat} (hk : k ∈ O) : k < w.heap.size := by
  obtain ⟨tab, inv, L, h1, h2, h3⟩ := h
  rw [← h2] at hk
  exact h1.lt hk
theorem ArW.hasB {B : Nat} {O : List Nat} {ns : List Nd} {w : World} (h : ArW B O ns w) : B ∈ O := by
  obtain ⟨tab, inv, L, h1, h2, h3⟩ := h
  rw [← h2]
  exact mem_blocks.2 (.inl rfl)
/-- The error of a call with these handles. -/
def chkH (n : Nat) (hs : List Int) : Int := if hs.all (isH n) then 0 else 3
theorem isH_any (h : Int) (w : World) {B : Nat} {O : List Nat} {ns : List Nd} (hA : ArW B O ns w) : Calls Tryz.prog 45 #[.pointer (some ⟨B, 0, none⟩), .int .i64 h] w fun e w' => e = .returned (.bool (isH ns.length h)) ∧ w = w' := by
  obtain ⟨tab, inv, L, h1, h2, rfl⟩ := hA
  rw [List.length_map]
  exact has_any h w h1
set_option maxRecDepth 100000 in
set_option maxHeartbeats 1000000 in
theorem check_any (hs : List Int) (w : World) {B H c : Nat} {O : List Nat} {ns : List Nd} (hA : ArW B O ns w) (hc : ∀ j v, hs[j]? = some v → w.cell? ⟨H, j, none⟩ = some (.int .i64 v)) (hn : hs.length ≤ 1000) :
    Calls Tryz.prog 44 #[.pointer (some ⟨B, 0, none⟩), .slice (some ⟨H, 0, none⟩) hs.length c] w fun e w' => e = .returned (.int .i64 (chkH ns.length hs)) ∧ w = w' := by
  have H1 := Lib.hid (fun h => isH_any h w hA)
  have HC := Lib.hid hc
  clear hc hA
  go_enter Tryz.func44, Tryz.ntmps44
  go_wp2
  go_loop [6, 11] (fun _ i => ∃ k : Nat, k ≤ hs.length ∧ i = .int .i64 k ∧ (hs.take k).all (isH ns.length) = true) (fun _ i => hs.length - (intOf i).toNat)
  case atStart => exact ⟨0, Nat.zero_le _, rfl, rfl⟩
  case round =>
    obtain ⟨k, hk, rfl, hall⟩ := hrel
    have HA := Lib.hid hall
    clear hall
    by_cases hlt : k < hs.length
    · have hcell := HC.out k hs[k] (List.getElem?_eq_getElem hlt)
      obtain ⟨z, hz⟩ : ∃ z, hs[k] = z := ⟨_, rfl⟩
      rw [hz] at hcell
      have HZ := Lib.hid hz
      clear hz
      cases hb : isH ns.length z
      · have H2 := H1.out z
        rw [hb] at H2
        have H3 := Lib.hid H2
        have HR : Hid (chkH ns.length hs = 3) := Lib.hid (by
          unfold chkH
          rw [if_neg]
          rw [List.all_eq_true]
          intro h
          have := h hs[k] (List.getElem_mem hlt)
          rw [HZ.out, hb] at this
          cases this)
        clear H2 hb
        go_wp2_with (refine H3.out.mono ?_; rintro e w' ⟨rfl, rfl⟩)
        go_ret
        exact ⟨by rw [HR.out]; rfl, rfl⟩
      · have H2 := H1.out z
        rw [hb] at H2
        have H3 := Lib.hid H2
        have HN : Hid ((hs.take (k + 1)).all (isH ns.length) = true) := Lib.hid (by
          rw [List.take_succ_eq_append_getElem hlt, List.all_append, HA.out, HZ.out]; simp [hb])
        clear H2 hb
        go_wp2_with (refine H3.out.mono ?_; rintro e w' ⟨rfl, rfl⟩)
        go_round
        case rel => exact ⟨k + 1, by omega, by go_num, HN.out⟩
        case measure => simp [intOf]; omega
    · have HR : Hid (chkH ns.length hs = 0) := Lib.hid (by
        unfold chkH
        rw [if_pos]
        have := HA.out
        rwa [List.take_of_length_le (by omega)] at this)
      go_wp2
      go_ret
      exact ⟨by rw [HR.out]; rfl, rfl⟩
end Go.Proofs.YtdapdadcninidaaGreatDoor
