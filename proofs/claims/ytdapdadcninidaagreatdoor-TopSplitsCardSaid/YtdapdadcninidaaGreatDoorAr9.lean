/- Package arena: the children of a node are replaced; cut. -/
import Derived.Test.YtdapdadcninidaaGreatDoorAr8
namespace Go.Proofs.YtdapdadcninidaaGreatDoor
open Go.RowKit
attribute [local go_sem ↓] Go.wp_at_zero Go.wp_at_succ

/-- The blocks of all but node i's children. -/
def blocksBut (B : Nat) (tab : Value) (L : List Nv) (i : Nat) (av : Value) : List Nat := B :: (tab.ownBlock.toList ++ ((L.take i).flatMap (fun x => x.kv.ownBlock.toList ++ x.av.ownBlock.toList) ++ (av.ownBlock.toList ++ (L.drop (i + 1)).flatMap fun x => x.kv.ownBlock.toList ++ x.av.ownBlock.toList)))
theorem blocks_perm {B i : Nat} {tab : Value} {L : List Nv} {x : Nv} (hx : L[i]? = some x) : (blocks B tab L).Perm (x.kv.ownBlock.toList ++ blocksBut B tab L i x.av) := by
  obtain ⟨hi, rfl⟩ := List.getElem?_eq_some_iff.1 hx
  have e : L = L.take i ++ L[i] :: L.drop (i + 1) := by rw [← List.drop_eq_getElem_cons hi, List.take_append_drop]
  unfold blocks blocksBut
  conv => lhs; rw [e]
  rw [List.flatMap_append, List.flatMap_cons]
  generalize L[i].kv.ownBlock.toList = K
  generalize L[i].av.ownBlock.toList = A
  generalize (L.take i).flatMap _ = P
  generalize (L.drop (i + 1)).flatMap _ = Q
  generalize tab.ownBlock.toList = T
  rw [← List.cons_append, ← List.cons_append]
  generalize B :: T = S
  have h1 : (S ++ (P ++ (K ++ A ++ Q))).Perm (K ++ (S ++ (P ++ (A ++ Q)))) := by
    have : S ++ (P ++ (K ++ A ++ Q)) = (S ++ P) ++ (K ++ (A ++ Q)) := by simp [List.append_assoc]
    rw [this, show S ++ (P ++ (A ++ Q)) = (S ++ P) ++ (A ++ Q) by simp [List.append_assoc], ← List.append_assoc, ← List.append_assoc K]
    exact List.Perm.append_right _ List.perm_append_comm
  exact h1
theorem take_set_eq {α : Type} (L : List α) (i : Nat) (y : α) : (L.set i y).take i = L.take i := by
  rw [List.take_set, List.set_eq_of_length_le (by rw [List.length_take]; exact Nat.min_le_left _ _)]
theorem drop_set_eq {α : Type} (L : List α) (i : Nat) (y : α) : (L.set i y).drop (i + 1) = L.drop (i + 1) := by
  rw [List.drop_set, if_pos (by omega)]
theorem blocksBut_set {B i : Nat} {tab av : Value} {L : List Nv} {y : Nv} : blocksBut B tab (L.set i y) i av = blocksBut B tab L i av := by
  unfold blocksBut
  rw [take_set_eq, drop_set_eq]
theorem ar_kids {w w1 : World} {B g n cap i : Nat} {tab inv v' : Value} {L : List Nv} {x : Nv} {ks : List Nat} (h : Ar w B tab inv L) (ht : tab = .slice (some ⟨g, 0, none⟩) n cap) (hx : L[i]? = some x)
    (hm : Mod (fun k => x.kv.ownBlock = some k) w w1) (hr : w1.ownsRow 0 3 1 v' ks.length (kidCells ks)) (hb : v'.ownBlock = x.kv.ownBlock ∨ ∃ k, v'.ownBlock = some k ∧ w.heap.size ≤ k) :
    Ar (w1.setCell ⟨g, i * 13 + 2, none⟩ v') B tab inv (L.set i ⟨{ x.nd with kids := ks }, v', x.av⟩) ∧
      AStep (blocks B tab L) w (blocks B tab (L.set i ⟨{ x.nd with kids := ks }, v', x.av⟩)) (w1.setCell ⟨g, i * 13 + 2, none⟩ v') := by
  have hi : i < L.length := (List.getElem?_eq_some_iff.1 hx).1
  have hmx := List.mem_of_getElem? hx
  have hp := blocks_perm (B := B) (tab := tab) hx
  have hnd := hp.nodup_iff.1 h.nd
  obtain ⟨hn1, hn2, hn3⟩ := List.nodup_append.1 hnd
  have hlt : ∀ k ∈ blocksBut B tab L i x.av, k < w.heap.size ∧ x.kv.ownBlock ≠ some k := fun k hk => ⟨h.lt (hp.mem_iff.2 (List.mem_append_right _ hk)), fun e => hn3 k (by simp [e]) k hk rfl⟩
  obtain ⟨y, hy⟩ : ∃ y : Nv, (⟨{ x.nd with kids := ks }, v', x.av⟩ : Nv) = y := ⟨_, rfl⟩
  have hya : y.av = x.av := by rw [← hy]
  have hyk : y.kv = v' := by rw [← hy]
  have hys : (L.set i y)[i]? = some y := by rw [List.getElem?_set_self hi]
  have hp2 := blocks_perm (B := B) (tab := tab) hys
  rw [blocksBut_set, hya, hyk] at hp2
  have hnd2 : (blocks B tab (L.set i y)).Nodup := by
    rw [hp2.nodup_iff, List.nodup_append]
    refine ⟨by cases v'.ownBlock <;> simp, hn2, fun a ha b hb' e => ?_⟩
    subst e
    have ha : v'.ownBlock = some a := by simpa using ha
    rcases hb with hb | ⟨k, hk, hge⟩
    · exact (hlt a hb').2 (by rw [← hb, ha])
    · have : k = a := by rw [ha] at hk; exact (Option.some.inj hk).symm
      have := (hlt a hb').1
      omega
  have hBb : B ∈ blocksBut B tab L i x.av := List.mem_cons_self ..
  have hTb : ∀ k, tab.ownBlock = some k → k ∈ blocksBut B tab L i x.av := fun k hk => List.mem_cons_of_mem _ (List.mem_append_left _ (by simp [hk]))
  have hd1 : w1.heap[B]? = some (.cells #[tab, inv] 93 (0, 0)) := (hm.block B (hlt B hBb).1 (hlt B hBb).2).trans h.hd
  have hrow1 := ownsRow_mod h.row hm fun k hk => (hlt k (hTb k hk)).2
  rw [hy]
  have hoth : ∀ j z, j ≠ i → L[j]? = some z → (∀ k, z.kv.ownBlock = some k → k ∈ blocksBut B tab L i x.av) ∧ ∀ k, z.av.ownBlock = some k → k ∈ blocksBut B tab L i x.av := by
    intro j z hji hz
    have hjl : j < L.length := (List.getElem?_eq_some_iff.1 hz).1
    have hmem : z ∈ L.take i ∨ z ∈ L.drop (i + 1) := by
      by_cases hlt' : j < i
      · exact .inl (List.mem_of_getElem? (by rw [List.getElem?_take, if_pos hlt']; exact hz))
      · exact .inr (List.mem_of_getElem? (i := j - (i + 1)) (by rw [List.getElem?_drop, show i + 1 + (j - (i + 1)) = j by omega]; exact hz))
    have put : ∀ k, (z.kv.ownBlock = some k ∨ z.av.ownBlock = some k) → k ∈ blocksBut B tab L i x.av := by
      intro k hk
      refine List.mem_cons_of_mem _ (List.mem_append_right _ ?_)
      rcases hmem with hmem | hmem
      · exact List.mem_append_left _ (List.mem_flatMap.2 ⟨z, hmem, by simpa using hk⟩)
      · exact List.mem_append_right _ (List.mem_append_right _ (List.mem_flatMap.2 ⟨z, hmem, by simpa using hk⟩))
    exact ⟨fun k hk => put k (.inl hk), fun k hk => put k (.inr hk)⟩
  have hAv : ∀ k, x.av.ownBlock = some k → k ∈ blocksBut B tab L i x.av := fun k hk => List.mem_cons_of_mem _ (List.mem_append_right _ (List.mem_append_right _ (List.mem_append_left _ (by simp [hk]))))
  have hown : ∀ z ∈ L.set i y, w1.ownsRow 0 3 1 z.kv z.nd.kids.length (kidCells z.nd.kids) ∧ w1.ownsRow 0 121 3 z.av z.nd.attrs.length (attCells z.nd.attrs) := by
    intro z hz
    obtain ⟨j, hj⟩ := List.getElem?_of_mem hz
    by_cases hji : j = i
    · subst hji
      rw [hys] at hj
      cases hj
      refine ⟨by rw [← hy]; exact hr, ?_⟩
      rw [hya, show y.nd.attrs = x.nd.attrs by rw [← hy]]
      exact ownsRow_mod (h.att x hmx) hm fun k hk => (hlt k (hAv k hk)).2
    · rw [List.getElem?_set_ne (Ne.symm hji)] at hj
      have hzm := List.mem_of_getElem? hj
      obtain ⟨o1, o2⟩ := hoth j z hji hj
      exact ⟨ownsRow_mod (h.kid z hzm) hm fun k hk => (hlt k (o1 k hk)).2, ownsRow_mod (h.att z hzm) hm fun k hk => (hlt k (o2 k hk)).2⟩
  refine ⟨ar_setF hd1 hrow1 ht hx (by omega) (by rw [← hy]; rfl) hown hnd2, ?_, ?_⟩
  · refine (hm.mono fun k _ hk => ?_).trans (Mod.setCell _ _ ?_)
    · exact hp.mem_iff.2 (List.mem_append_left _ (by simp [hk]))
    · exact mem_blocks.2 (.inr (.inl (by rw [ht]; rfl)))
  · intro k hk
    rcases List.mem_append.1 (hp2.mem_iff.1 hk) with hk | hk
    · have hk : v'.ownBlock = some k := by simpa using hk
      rcases hb with hb | ⟨k', hk', hge⟩
      · exact .inl (hp.mem_iff.2 (List.mem_append_left _ (by simp [← hb, hk])))
      · rw [hk] at hk'
        cases hk'
        exact .inr hge
    · exact .inl (hp.mem_iff.2 (List.mem_append_right _ hk))
/-- The same of the nodes. -/
theorem ArW.kids {B g i cap n : Nat} {O : List Nat} {ns : List Nd} {d : Nd} {v' kv : Value} {w w1 : World} {ks : List Nat} (h : ArW B O ns w) (hx : ns[i]? = some d) (hc : w.cell? ⟨B, 0, none⟩ = some (.slice (some ⟨g, 0, none⟩) n cap)) (hk : w.cell? ⟨g, i * 13 + 2, none⟩ = some kv)
    (hm : Mod (fun k => kv.ownBlock = some k) w w1) (hr : w1.ownsRow 0 3 1 v' ks.length (kidCells ks)) (hb : v'.ownBlock = kv.ownBlock ∨ ∃ k, v'.ownBlock = some k ∧ w.heap.size ≤ k) :
    ∃ O', ArW B O' (ns.set i { d with kids := ks }) (w1.setCell ⟨g, i * 13 + 2, none⟩ v') ∧ AStep O w O' (w1.setCell ⟨g, i * 13 + 2, none⟩ v') := by
  obtain ⟨tab, inv, L, h1, rfl, rfl⟩ := h
  rw [List.getElem?_map] at hx
  obtain ⟨x, hy, rfl⟩ := Option.map_eq_some_iff.1 hx
  have ht : tab = .slice (some ⟨g, 0, none⟩) n cap := Option.some.inj (h1.c0.symm.trans hc)
  obtain ⟨g', cap', ht', -, -, hn⟩ := h1.node hy
  have hgg : g' = g := by rw [ht] at ht'; cases ht'; rfl
  subst hgg
  have hkx : kv = x.kv := Option.some.inj (hk.symm.trans hn.c2)
  subst hkx
  obtain ⟨h2, h3⟩ := ar_kids h1 ht hy hm hr hb
  exact ⟨_, ⟨tab, inv, _, h2, rfl, by rw [List.map_set]⟩, h3⟩
theorem ArW.far {B g i cap n : Nat} {O : List Nat} {ns : List Nd} {kv : Value} {w : World} (h : ArW B O ns w) (hi : i < ns.length) (hc : w.cell? ⟨B, 0, none⟩ = some (.slice (some ⟨g, 0, none⟩) n cap)) (hk : w.cell? ⟨g, i * 13 + 2, none⟩ = some kv) :
    kv.ownBlock ≠ some g ∧ kv.ownBlock ≠ some B ∧ g ≠ B := by
  obtain ⟨tab, inv, L, h1, rfl, rfl⟩ := h
  rw [List.length_map] at hi
  have hy := List.getElem?_eq_getElem hi
  have ht : tab = .slice (some ⟨g, 0, none⟩) n cap := Option.some.inj (h1.c0.symm.trans hc)
  obtain ⟨g', cap', ht', hgB, -, hn⟩ := h1.node hy
  have hgg : g' = g := by rw [ht] at ht'; cases ht'; rfl
  subst hgg
  have hkx : kv = L[i].kv := Option.some.inj (hk.symm.trans hn.c2)
  subst hkx
  have hp := blocks_perm (B := B) (tab := tab) hy
  obtain ⟨-, -, hn3⟩ := List.nodup_append.1 (hp.nodup_iff.1 h1.nd)
  refine ⟨fun e => ?_, fun e => ?_, hgB⟩
  · exact hn3 g' (by simp [e]) g' (List.mem_cons_of_mem _ (List.mem_append_left _ (by rw [ht]; simp [Value.ownBlock]))) rfl
  · exact hn3 B (by simp [e]) B (List.mem_cons_self ..) rfl
theorem kidIdx_mem {ks : List Nat} {x : Nat} (hx : x ∈ ks) : ∃ i, i < ks.length ∧ kidIdx ks (x : Int) = (i : Int) ∧ ks.eraseIdx i = ks.erase x := by
  refine ⟨ks.idxOf x, List.idxOf_lt_length_of_mem hx, ?_, by rw [List.erase_eq_eraseIdx_of_idxOf rfl]⟩
  have hl := List.idxOf_lt_length_of_mem hx
  have := Lib.idxFrom_hit (x : Int) (kInts ks) (ks.idxOf x) 0 (by rw [kInts_len]; exact hl) (by simp [kInts, hl]) (fun j hj => ?_)
  · rw [Nat.zero_add] at this
    exact this
  · have hjl : j < ks.length := by omega
    have hne : (ks[j] == x) = false := by
      have := List.not_of_lt_findIdx (p := (· == x)) (xs := ks) hj
      simpa using this
    have hne : ks[j] ≠ x := by simpa using hne
    simp [kInts, hjl]
    omega
/-- The nodes with a node cut from its parent. -/
def cutL (ns : List Nd) (h : Int) : List Nd :=
  if (ndAt ns h).parent = 0 then ns
  else setNd (setNd ns (ndAt ns h).parent { ndAt ns (ndAt ns h).parent with kids := (ndAt ns (ndAt ns h).parent).kids.erase h.toNat }) h
    { ndAt (setNd ns (ndAt ns h).parent { ndAt ns (ndAt ns h).parent with kids := (ndAt ns (ndAt ns h).parent).kids.erase h.toNat }) h with parent := 0 }
end Go.Proofs.YtdapdadcninidaaGreatDoor
