/- Package arena: Element, with attributes. No condition but that the name is not template, and lengths. Package arena: inertOf, where there is no map yet. No condition but lengths. An arena with its map of inert documents in memory; inertOf, Inert, in all cases. No condition but lengths. Package arena: nodes created for any number; SetQuirks, SetDoc. No condition but lengths. Package arena: Element, of a template, where there is no inert document yet. No condition but lengths. Package arena over the state with its map: Inert, Element, SetAttrs, in all cases. No condition but lengths. Package arena over the state with its map: Element, in all cases. No condition but lengths. Package arena: the attributes of a node are replaced; SetAttrs. No condition but lengths. -/
import Derived.Test.YtdapdadcninidaaGreatDoorM4
import Derived.Test.YtdapdadcninidaaGreatDoorM6
import Derived.StillTailTactics
import Derived.Test.YtdapdadcninidaaGreatDoorM3
set_option linter.unusedSimpArgs false
set_option linter.unusedVariables false
namespace Go.Proofs.YtdapdadcninidaaGreatDoor
open Go.RowKit
attribute [local go_sem ↓] Go.wp_at_zero Go.wp_at_succ

theorem ownsRow_zero {w : World} {b n s : Nat} {e : TypeId} {v : Value} {xs : List Value} (h : w.ownsRow b e s v n xs) : w.ownsRow 0 e s v n xs := by
  refine ⟨h.1, ?_⟩
  rcases h.2 with h | ⟨g, cap, cur, hv, _, r⟩
  · exact .inl h
  · exact .inr ⟨g, cap, cur, hv, Nat.zero_le _, r⟩
theorem ownsRow_base {w : World} {b c n s : Nat} {e : TypeId} {v : Value} {xs : List Value} (hbc : c ≤ b) (h : w.ownsRow b e s v n xs) : w.ownsRow c e s v n xs := by
  refine ⟨h.1, ?_⟩
  rcases h.2 with h | ⟨g, cap, cur, hv, hge, r⟩
  · exact .inl h
  · exact .inr ⟨g, cap, cur, hv, Nat.le_trans hbc hge, r⟩
/-- add, of a node without children; its attributes lie in new memory. -/
theorem addA_any (d : Nd) (av : Value) (w0 w : World) {B : AB} {O : List Nat} {ns : List Nd} (hA : ArW B O ns w) (hl : ns.length ≤ 1000000) (hlt : ∀ k ∈ O, k < w0.heap.size) (hb : Below w0.heap.size w0 w) (hk : d.kids = [])
    (ha : w.ownsRow w0.heap.size 121 3 av d.attrs.length (attCells d.attrs)) :
    Calls Tryz.prog 36 #[.pointer (some ⟨B, 0, none⟩), .agg (ndCells d nilS av).toArray] w fun e w' => e = .returned (.int .i64 ((ns.length + 1 : Nat) : Int)) ∧ ∃ O', ArW B O' (ns ++ [d]) w' ∧ AStep O w0 O' w' := by
  obtain ⟨tab, L, h1, rfl, rfl⟩ := hA
  have hbl : blocks B tab (L ++ [⟨d, nilS, av⟩]) = blocks B tab L ++ av.ownBlock.toList := by simp [blocks, nilS, Value.ownBlock]
  have hg : ∀ g, av.ownBlock = some g → w0.heap.size ≤ g := fun g hg => ownsRow_ge ha hg
  have hnd : (blocks B tab (L ++ [⟨d, nilS, av⟩])).Nodup := by
    rw [hbl]
    refine List.nodup_append.2 ⟨h1.nd, by cases av.ownBlock <;> simp, ?_⟩
    rintro a ha b hb rfl
    have h2 := hg a (by simpa using hb)
    have h3 := hlt a ha
    omega
  have := add_any ⟨d, nilS, av⟩ w h1 (by simpa using hl) ⟨by rw [hk]; rfl, .inl ⟨rfl, by rw [hk]; rfl⟩⟩ (ownsRow_zero ha) hnd
  rw [hbl] at this
  refine this.mono fun e w' ⟨he, tab', h2, h3⟩ => ⟨by rw [he, List.length_map]; rfl, _, ⟨tab', _, h2, rfl, by simp⟩, ?_, ?_⟩
  · refine ⟨h3.mod.os.trans hb.os, h3.mod.tape.trans hb.tape, h3.mod.output.trans hb.output, Nat.le_trans hb.size h3.mod.size, fun k hk hO => ?_⟩
    refine (h3.mod.block k (Nat.lt_of_lt_of_le hk hb.size) fun hm => ?_).trans (hb.block k hk)
    rcases List.mem_append.1 hm with hm | hm
    · exact hO hm
    · have := hg k (by simpa using hm); omega
  · intro k hk
    rcases h3.own k hk with hm | hm
    · rcases List.mem_append.1 hm with hm | hm
      · exact .inl hm
      · exact .inr (hg k (by simpa using hm))
    · exact .inr (Nat.le_trans hb.size hm)
end Go.Proofs.YtdapdadcninidaaGreatDoor
namespace Go.Proofs.YtdapdadcninidaaGreatDoor
open Go.RowKit
attribute [local go_sem ↓] Go.wp_at_zero Go.wp_at_succ

theorem ArW.c1 {B : AB} {O : List Nat} {ns : List Nd} {w : World} (h : ArW B O ns w) : w.cell? ⟨B, 1, none⟩ = some B.iv := by
  obtain ⟨tab, L, h1, _, _⟩ := h
  exact h1.c1
theorem ArW.f1 {B : AB} {O : List Nat} {ns : List Nd} {w : World} (h : ArW B O ns w) (o : Nat) : w.frozen? ⟨B, o, none⟩ = false := by
  obtain ⟨tab, L, h1, _, _⟩ := h
  exact h1.f0 o
/-- The map's value is set. -/
theorem ArW.setIv {B : AB} {O : List Nat} {ns : List Nd} {w : World} (h : ArW B O ns w) (v : Value) : ArW ⟨B.blk, v⟩ O ns (w.setCell ⟨B, 1, none⟩ v) ∧ AStep O w O (w.setCell ⟨B, 1, none⟩ v) := by
  have hB := h.hasB
  obtain ⟨tab, L, h1, h2, h3⟩ := h
  have hm : Mod (fun k => k = B.blk) w (w.setCell ⟨B, 1, none⟩ v) := Mod.setCell _ _ rfl
  have hne : ∀ k, k ∈ (tab.ownBlock.toList ++ L.flatMap fun x => x.kv.ownBlock.toList ++ x.av.ownBlock.toList) → ¬ k = B.blk := fun k hk e => (List.nodup_cons.1 h1.nd).1 (e ▸ hk)
  refine ⟨⟨tab, L, ⟨?_, ?_, fun x hx => ?_, fun x hx => ?_, h1.nd⟩, h2, h3⟩, hm.mono fun k _ e => e ▸ hB, fun k hk => .inl hk⟩
  · rw [Joins.block_setCell (i := 1) h1.hd]; rfl
  · exact ownsRow_mod h1.row hm fun g hg => hne g (List.mem_append_left _ (by simp [hg]))
  · exact ownsRow_mod (h1.kid x hx) hm fun g hg => hne g (List.mem_append_right _ (List.mem_flatMap.2 ⟨x, hx, by simp [hg]⟩))
  · exact ownsRow_mod (h1.att x hx) hm fun g hg => hne g (List.mem_append_right _ (List.mem_flatMap.2 ⟨x, hx, by simp [hg]⟩))
theorem mset_mod (w : World) (M : Nat) (l : List (Nat × Nat × Nat)) (c : Nat) : Mod (fun k => k = M) w (mset w M l c) :=
  ⟨rfl, rfl, rfl, by rw [mset_size]; exact Nat.le_refl _, fun i _ hi => mset_other w l c hi⟩
theorem ino_fin {O O' : List Nat} {w w1 w2 : World} {M : Nat} (h : AStep O w O' w1) (hm : Mod (fun k => k = M) w1 w2) (hM : w.heap.size ≤ M) : AStep O w O' w2 :=
  ⟨⟨hm.os.trans h.mod.os, hm.tape.trans h.mod.tape, hm.output.trans h.mod.output, Nat.le_trans h.mod.size hm.size, fun k hk hO => (hm.block k (Nat.lt_of_lt_of_le hk h.mod.size) (by omega)).trans (h.mod.block k hk hO)⟩, h.own⟩
theorem AStep.drewI {O O' : List Nat} {w w' : World} (h : AStep O w O' w') : AStep O w O' w'.drew := ⟨⟨h.mod.os, h.mod.tape, h.mod.output, h.mod.size, h.mod.block⟩, h.own⟩
set_option maxRecDepth 100000 in
set_option maxHeartbeats 4000000 in
theorem inertOf_nil (doc : Nat) (w : World) {B : AB} {O : List Nat} {ns : List Nd} (hA : ArW B O ns w) (hl : ns.length ≤ 1000000) (hB : B.iv = .map none) (hd : doc ≤ ns.length) :
    Calls Tryz.prog 42 #[.pointer (some ⟨B, 0, none⟩), .int .i64 (doc : Nat)] w fun e w' => e = .returned (.int .i64 ((ns.length + 1 : Nat) : Int)) ∧ ∃ M O', M ∉ O' ∧ w.heap.size ≤ M ∧ w'.heap[M]? = some (.map (entA [(doc, ns.length + 1, 0), (ns.length + 1, ns.length + 1, 1)]) 2) ∧ ArW ⟨B.blk, .map (some M)⟩ O' (ns ++ [{ kind := 1, doc := ns.length + 1 }]) w' ∧ AStep O w O' w' := by
  have HD := Lib.hid (Document_any false w hA hl)
  have c1 := hA.c1
  rw [hB] at c1
  have hlk : ∀ w, (Instr.lookup 91 (.map none) (.int .i64 (doc : Nat)) true).run Tryz.prog w = .ok (.tuple #[.int .i64 0, .bool false]) w := fun w => run_look_nil (by omega)
  have hmk : ∀ w, (Instr.makeMap 91 none).run Tryz.prog w = .ok (.map (some w.heap.size)) (w.alloc (.map #[] 0)) := fun _ => rfl
  have heq : ∀ w, (binOp .eql 91 (.map none) (.map none)).run Tryz.prog w = .ok (.bool true) w := fun w => by kernel_rfl
  have HB := Lib.hid hB
  clear hA hB
  obtain ⟨i, hi⟩ : ∃ i, ns.length + 1 = i := ⟨_, rfl⟩
  rw [hi] at HD ⊢
  have hdi : doc ≠ i := by omega
  have hd9 : doc < 1000000000 := by omega
  have hi9 : i < 1000000000 := by omega
  have HDI := Lib.hid hdi
  clear hi hd hdi
  go_enter Tryz.func42, Tryz.ntmps42
  go_wp2_with fail
  refine HD.out.mono ?_
  rintro e w2 ⟨rfl, O2, hA2, hs2⟩
  have c2 := hA2.c1
  rw [HB.out] at c2
  have hA3 := hA2.later (balloc w2 (.map #[] 0))
  have c3 := hA3.c1
  have f3 := hA3.f1 1
  rw [HB.out] at c3
  have h3 : (w2.alloc (.map #[] 0)).heap[w2.heap.size]? = some (.map (entA []) 0) := World.alloc_heap_new w2 _
  have hb3 := balloc w2 (.map #[] 0)
  go_wp2_with fail
  have hne : w2.heap.size ≠ B.blk := fun e => by have := hA2.lt hA2.hasB; omega
  obtain ⟨hA4, hs4⟩ := hA3.setIv (.map (some w2.heap.size))
  have h4 := (Below.heap_setCell (w2.alloc (.map #[] 0)) ⟨B.blk, 1, none⟩ (.map (some w2.heap.size)) w2.heap.size hne).trans h3
  have hS4 : AStep O w O2 _ := hs2.trans (astep_pre hb3 hs4 : AStep O2 w2 O2 _)
  have hMO : ∀ k ∈ O2, k ≠ w2.heap.size := fun k hk e => by have := hA2.lt hk; omega
  have hM9 : w.heap.size ≤ w2.heap.size := hs2.mod.size
  have c4 := hA4.c1
  generalize hW : World.setCell _ _ _ = W1
  rw [hW] at hA4 h4 hS4 c4
  clear hW hs4 hA2 hs2 hA3 h3 hb3 c2 c3 f3 hmk hlk heq c1
  generalize w2.heap.size = M at *
  dsimp only at c4
  have hne : B.blk ≠ M := fun e => hMO _ hA4.hasB e
  have hM := (Array.getElem?_eq_some_iff.1 h4).1
  have c5 : ∀ l c, (mset W1 M l c).cell? ⟨B.blk, 1, none⟩ = some (.map (some M)) := fun l c => (World.cell?_of_block (a := ⟨B.blk, 1, none⟩) (mset_other W1 l c hne)).trans c4
  have e1 : (Instr.mapEntry 91 (.map (some M)) (.int .i64 (doc : Nat))).run Tryz.prog (mset W1 M [] 0).drew = .ok (.tuple #[.int .i64 0, .int .i64 0]) (mset W1 M [(doc, 0, 0)] 1).drew := run_entry (w := W1.drew) hM (by simp) hd9 (by simp)
  have e2 : (Instr.entryStore 91 (.map (some M)) (.int .i64 0) (.int .i64 (i : Nat))).run Tryz.prog (mset W1 M [(doc, 0, 0)] 1).drew = .ok () (mset W1 M [(doc, i, 0)] 1).drew := run_store_ent (w := W1.drew) (l := []) (r := []) (b := 0) hM (by simp)
  have e3 : (Instr.mapEntry 91 (.map (some M)) (.int .i64 (i : Nat))).run Tryz.prog (mset W1 M [(doc, i, 0)] 1).drew = .ok (.tuple #[.int .i64 0, .int .i64 1]) (mset W1 M [(doc, i, 0), (i, 0, 1)] 2).drew := run_entry (w := W1.drew) hM (by simp; omega) hi9 (by simp; exact HDI.out)
  have e4 : (Instr.entryStore 91 (.map (some M)) (.int .i64 1) (.int .i64 (i : Nat))).run Tryz.prog (mset W1 M [(doc, i, 0), (i, 0, 1)] 2).drew = .ok () (mset W1 M [(doc, i, 0), (i, i, 1)] 2).drew := run_store_ent (w := W1.drew) (l := [(doc, i, 0)]) (r := []) (b := 1) hM (by simp)
  rw [← mset_self h4]
  have HF := Lib.hid (show ∃ M' O', M' ∉ O' ∧ w.heap.size ≤ M' ∧ (mset W1 M [(doc, i, 0), (i, i, 1)] 2).drew.heap[M']? = some (.map (entA [(doc, i, 0), (i, i, 1)]) 2) ∧ ArW ⟨B.blk, .map (some M')⟩ O' (ns ++ [{ kind := 1, doc := i }]) (mset W1 M [(doc, i, 0), (i, i, 1)] 2).drew ∧ AStep O w O' (mset W1 M [(doc, i, 0), (i, i, 1)] 2).drew from ⟨M, O2, fun hk => hMO _ hk rfl, hM9, mset_heap hM _ _, (hA4.kept (mset_mod W1 M _ _) hMO).later ⟨rfl, rfl, rfl, Nat.le_refl _, fun _ _ => rfl⟩, (ino_fin hS4 (mset_mod W1 M _ _) hM9).drewI⟩)
  clear h4 hA4 hS4 hMO hM hne c4
  go_region
  all_goals
    go_wp2_with fail
    go_ret
    exact ⟨rfl, HF.out⟩
end Go.Proofs.YtdapdadcninidaaGreatDoor
namespace Go.Proofs.YtdapdadcninidaaGreatDoor
open Go.RowKit
attribute [local go_sem ↓] Go.wp_at_zero Go.wp_at_succ

/-- The map's value, the arena's own blocks O1, all blocks O. -/
def MpIs (iv : Value) (O1 O : List Nat) (mp : List (Nat × Nat × Nat)) (w : World) : Prop :=
  (iv = .map none ∧ mp = [] ∧ O = O1) ∨ ∃ M c, iv = .map (some M) ∧ M ∉ O1 ∧ O = M :: O1 ∧ w.heap[M]? = some (.map (entA mp) c) ∧ EntOk mp c
/-- The arena at T in this state; O: the blocks that are its own, the map's among them. -/
def ArM (T : Nat) (O : List Nat) (s : St) (w : World) : Prop := ∃ iv O1, ArW ⟨T, iv⟩ O1 s.ns w ∧ MpIs iv O1 O s.mp w
theorem MpIs.sub {iv : Value} {O1 O : List Nat} {mp : List (Nat × Nat × Nat)} {w : World} (h : MpIs iv O1 O mp w) : ∀ k ∈ O1, k ∈ O := by
  rcases h with ⟨_, _, rfl⟩ | ⟨M, c, _, _, rfl, _⟩
  · exact fun _ hk => hk
  · exact fun _ hk => List.mem_cons_of_mem _ hk
theorem ArM.lt {T : Nat} {O : List Nat} {s : St} {w : World} (h : ArM T O s w) : ∀ k ∈ O, k < w.heap.size := by
  obtain ⟨iv, O1, hA, hm⟩ := h
  rcases hm with ⟨_, _, rfl⟩ | ⟨M, c, _, _, rfl, hb, _⟩
  · exact fun k hk => hA.lt hk
  · intro k hk
    rcases List.mem_cons.1 hk with rfl | hk
    · exact (Array.getElem?_eq_some_iff.1 hb).1
    · exact hA.lt hk
theorem ArM.kept {S : Nat → Prop} {T : Nat} {O : List Nat} {s : St} {w w' : World} (h : ArM T O s w) (hm : Mod S w w') (hS : ∀ k ∈ O, ¬ S k) : ArM T O s w' := by
  obtain ⟨iv, O1, hA, hp⟩ := h
  refine ⟨iv, O1, hA.kept hm fun k hk => hS k (hp.sub k hk), ?_⟩
  rcases hp with h | ⟨M, c, h1, h2, rfl, hb, h4⟩
  · exact .inl h
  · exact .inr ⟨M, c, h1, h2, rfl, (hm.block M (Array.getElem?_eq_some_iff.1 hb).1 (hS M List.mem_cons_self)).trans hb, h4⟩
theorem ArM.later {T : Nat} {O : List Nat} {s : St} {w w' : World} (h : ArM T O s w) (hb : Below w.heap.size w w') : ArM T O s w' := h.kept (S := fun _ => False) (Mod.of_below hb) fun _ _ h => h
/-- A call that turns the nodes alone. -/
theorem ArM.turn {T : Nat} {O : List Nat} {s : St} {w : World} (h : ArM T O s w) : ∃ iv O1, ArW ⟨T, iv⟩ O1 s.ns w ∧ ∀ O2 ns2 w2, ArW ⟨T, iv⟩ O2 ns2 w2 → AStep O1 w O2 w2 → ∃ O', ArM T O' ⟨ns2, s.mp⟩ w2 ∧ AStep O w O' w2 := by
  obtain ⟨iv, O1, hA, hp⟩ := h
  refine ⟨iv, O1, hA, fun O2 ns2 w2 hA2 hs => ?_⟩
  rcases hp with ⟨h1, h2, rfl⟩ | ⟨M, c, h1, h2, rfl, hb, h4⟩
  · exact ⟨O2, ⟨iv, O2, hA2, .inl ⟨h1, h2, rfl⟩⟩, hs⟩
  · have hMl := (Array.getElem?_eq_some_iff.1 hb).1
    refine ⟨M :: O2, ⟨iv, O2, hA2, .inr ⟨M, c, h1, fun hk => (hs.own M hk).elim h2 (by omega), rfl, (hs.mod.block M hMl h2).trans hb, h4⟩⟩, hs.mod.mono fun k _ hk => List.mem_cons_of_mem _ hk, fun k hk => ?_⟩
    rcases List.mem_cons.1 hk with rfl | hk
    · exact .inl List.mem_cons_self
    · exact (hs.own k hk).imp (List.mem_cons_of_mem _) id
theorem ArM.made {T : Nat} {w : World} (h : ArW ⟨T, .map none⟩ [T] [] w) : ArM T [T] ⟨[], []⟩ w := ⟨_, _, h, .inl ⟨rfl, rfl, rfl⟩⟩
theorem AStep.drewM {O O' : List Nat} {w w' : World} (h : AStep O w O' w') : AStep O w O' w'.drew := ⟨⟨h.mod.os, h.mod.tape, h.mod.output, h.mod.size, h.mod.block⟩, h.own⟩
/-- What inertOf answers, and leaves. -/
def InQ (T : Nat) (O : List Nat) (s : St) (doc : Nat) (w : World) (e : Ending) (w' : World) : Prop :=
  (∃ v, mapL s.mp doc = some v ∧ e = .returned (.int .i64 (v : Nat)) ∧ Below w.heap.size w w') ∨
  (mapL s.mp doc = none ∧ e = .returned (.int .i64 ((s.ns.length + 1 : Nat) : Int)) ∧ ∃ c O', EntOk s.mp c ∧ ArM T O' (inertS s [(doc, s.ns.length + 1, c), (s.ns.length + 1, s.ns.length + 1, c + 1)]) w' ∧ AStep O w O' w')
set_option maxRecDepth 100000 in
set_option maxHeartbeats 4000000 in
theorem inertOf_some (doc c M : Nat) (l : List (Nat × Nat × Nat)) (w : World) {T : Nat} {O : List Nat} {ns : List Nd} (hA : ArW ⟨T, .map (some M)⟩ O ns w) (hl : ns.length ≤ 1000000) (hd : doc ≤ ns.length) (hM : M ∉ O) (hb : w.heap[M]? = some (.map (entA l) c)) (he : EntOk l c) (hk : ∀ x ∈ l, x.1 ≤ ns.length) :
    Calls Tryz.prog 42 #[.pointer (some ⟨T, 0, none⟩), .int .i64 (doc : Nat)] w fun e w' =>
      (∃ v, mapL l doc = some v ∧ e = .returned (.int .i64 (v : Nat)) ∧ Below w.heap.size w w') ∨
      (mapL l doc = none ∧ e = .returned (.int .i64 ((ns.length + 1 : Nat) : Int)) ∧ ∃ O', M ∉ O' ∧ w'.heap[M]? = some (.map (entA (l ++ [(doc, ns.length + 1, c), (ns.length + 1, ns.length + 1, c + 1)])) (c + 2)) ∧ ArW ⟨T, .map (some M)⟩ O' (ns ++ [{ kind := 1, doc := ns.length + 1 }]) w' ∧ AStep (M :: O) w (M :: O') w') := by
  have HD := Lib.hid (Document_any false w hA hl)
  have c1 := hA.c1
  have hlk := run_look hb he (show doc < 1000000000 by omega)
  have heq : ∀ w, (binOp .eql 91 (.map (some M)) (.map none)).run Tryz.prog w = .ok (.bool false) w := fun w => by kernel_rfl
  have HA := Lib.hid hA; have HB := Lib.hid hb; have HE := Lib.hid he; have HM := Lib.hid hM
  obtain ⟨i, hi⟩ : ∃ i, ns.length + 1 = i := ⟨_, rfl⟩
  rw [hi] at HD ⊢
  have hdi : doc ≠ i := by omega
  have hd9 : doc < 1000000000 := by omega
  have hi9 : i < 1000000000 := by omega
  have HDI := Lib.hid hdi
  have HKI := Lib.hid (show ∀ x ∈ l, x.1 ≠ i from fun x hx e => by have := hk x hx; omega)
  clear hA hb he hM hi hd hdi hk
  cases hm : mapL l doc with
  | some v =>
    rw [hm] at hlk
    have hlk2 : (Instr.lookup 91 (.map (some M)) (.int .i64 (doc : Nat)) true).run Tryz.prog w = .ok (.tuple #[.int .i64 (v : Nat), .bool true]) w := hlk
    clear hlk hm HD
    dsimp only at c1
    go_enter Tryz.func42, Tryz.ntmps42
    go_wp2_with fail
    go_ret
    exact .inl ⟨v, rfl, rfl, Below.refl _ _⟩
  | none =>
    rw [hm] at hlk
    have hlk2 : (Instr.lookup 91 (.map (some M)) (.int .i64 (doc : Nat)) true).run Tryz.prog w = .ok (.tuple #[.int .i64 0, .bool false]) w := hlk
    have HMN := Lib.hid hm
    clear hlk hm
    dsimp only at c1
    go_enter Tryz.func42, Tryz.ntmps42
    go_wp2_with fail
    refine HD.out.mono ?_
    rintro e w2 ⟨rfl, O2, hA2, hs2⟩
    have c2 := hA2.c1
    have hMl := (Array.getElem?_eq_some_iff.1 HB.out).1
    have h4 := (hs2.mod.block M hMl HM.out).trans HB.out
    have hMO : ∀ k ∈ O2, k ≠ M := fun k hk e => (hs2.own k hk).elim (fun h => HM.out (e ▸ h)) (fun h => by omega)
    have hne : T ≠ M := fun e => hMO _ hA2.hasB e
    have hM2 := (Array.getElem?_eq_some_iff.1 h4).1
    dsimp only at c2
    have c5 : ∀ l c, (mset w2 M l c).cell? ⟨T, 1, none⟩ = some (.map (some M)) := fun l c => (World.cell?_of_block (a := ⟨T, 1, none⟩) (mset_other w2 l c hne)).trans c2
    have hbc : ∀ x ∈ l, x.2.2 ≠ c := fun x hx e => by have := HE.out.bd x hx; omega
    have hbc1 : ∀ x ∈ l, x.2.2 ≠ c + 1 := fun x hx e => by have := HE.out.bd x hx; omega
    have hkd : ∀ x ∈ l, x.1 ≠ doc := fun x hx e => by
      have hm := HMN.out
      unfold mapL at hm
      cases hf : l.find? fun x => x.1 == doc with
      | none =>
        have := List.find?_eq_none.1 hf x hx
        simp [e] at this
      | some y => rw [hf] at hm; cases hm
    have e1 : (Instr.mapEntry 91 (.map (some M)) (.int .i64 (doc : Nat))).run Tryz.prog (mset w2 M l c).drew = .ok (.tuple #[.int .i64 0, .int .i64 (c : Nat)]) (mset w2 M (l ++ [(doc, 0, c)]) (c + 1)).drew := run_entry (w := w2.drew) hM2 HE.out.ks hd9 hkd
    have e2 : (Instr.entryStore 91 (.map (some M)) (.int .i64 (c : Nat)) (.int .i64 (i : Nat))).run Tryz.prog (mset w2 M (l ++ [(doc, 0, c)]) (c + 1)).drew = .ok () (mset w2 M (l ++ [(doc, i, c)]) (c + 1)).drew := run_store_ent (w := w2.drew) (l := l) (r := []) (b := c) hM2 hbc
    obtain ⟨c', hc'⟩ : ∃ c', c + 1 = c' := ⟨_, rfl⟩
    have e3 := run_entry (w := w2.drew) (c := c + 1) (k := i) (l := l ++ [(doc, i, c)]) hM2 (fun x hx => by
      rcases List.mem_append.1 hx with hx | hx
      · exact HE.out.ks x hx
      · rw [List.mem_singleton.1 hx]; exact hd9) hi9 (fun x hx => by
      rcases List.mem_append.1 hx with hx | hx
      · exact HKI.out x hx
      · rw [List.mem_singleton.1 hx]; exact HDI.out)
    have e4 := run_store_ent (w := w2.drew) (M := M) (c := c + 2) (k := i) (v := i) (v0 := 0) (l := l ++ [(doc, i, c)]) (r := []) (b := c + 1) hM2 (fun x hx => by
      rcases List.mem_append.1 hx with hx | hx
      · exact hbc1 x hx
      · rw [List.mem_singleton.1 hx]; dsimp only; omega)
    rw [List.append_assoc] at e3
    rw [List.append_assoc, List.append_assoc] at e4
    have e3' : (Instr.mapEntry 91 (.map (some M)) (.int .i64 (i : Nat))).run Tryz.prog (mset w2 M (l ++ [(doc, i, c)]) (c + 1)).drew = .ok (.tuple #[.int .i64 0, .int .i64 (c' : Nat)]) (mset w2 M (l ++ [(doc, i, c), (i, 0, c + 1)]) (c + 2)).drew := by rw [← hc']; exact e3
    have e4' : (Instr.entryStore 91 (.map (some M)) (.int .i64 (c' : Nat)) (.int .i64 (i : Nat))).run Tryz.prog (mset w2 M (l ++ [(doc, i, c), (i, 0, c + 1)]) (c + 2)).drew = .ok () (mset w2 M (l ++ [(doc, i, c), (i, i, c + 1)]) (c + 2)).drew := by rw [← hc']; exact e4
    have hfin : ∃ O', M ∉ O' ∧ (mset w2 M (l ++ [(doc, i, c), (i, i, c + 1)]) (c + 2)).drew.heap[M]? = some (.map (entA (l ++ [(doc, i, c), (i, i, c + 1)])) (c + 2)) ∧ ArW ⟨T, .map (some M)⟩ O' (ns ++ [{ kind := 1, doc := i }]) (mset w2 M (l ++ [(doc, i, c), (i, i, c + 1)]) (c + 2)).drew ∧ AStep (M :: O) w (M :: O') (mset w2 M (l ++ [(doc, i, c), (i, i, c + 1)]) (c + 2)).drew := by
      refine ⟨O2, fun hk => hMO _ hk rfl, mset_heap hM2 _ _, (hA2.kept (mset_mod w2 M _ _) hMO).later ⟨rfl, rfl, rfl, Nat.le_refl _, fun _ _ => rfl⟩, AStep.drewM ⟨(hs2.mod.mono fun k _ hk => List.mem_cons_of_mem _ hk).trans ((mset_mod w2 M _ _).mono fun k _ e => by rw [e]; exact List.mem_cons_self), fun k hk => ?_⟩⟩
      rcases List.mem_cons.1 hk with rfl | hk
      · exact .inl List.mem_cons_self
      · exact (hs2.own k hk).imp (List.mem_cons_of_mem _) id
    have HF := Lib.hid hfin
    rw [← mset_self h4]
    clear h4 hA2 hs2 hMO hM2 hne c2 e3 e4 hfin hbc hbc1 hkd hc'
    go_wp2_with fail
    go_region
    all_goals
      go_wp2_with fail
      go_ret
      first | exact .inr ⟨HMN.out, rfl, HF.out⟩ | exact .inr ⟨trivial, rfl, HF.out⟩ | exact .inr ⟨rfl, rfl, HF.out⟩
/-- inertOf, in all cases. -/
theorem inertOf_any (doc : Nat) (w : World) {T : Nat} {O : List Nat} {s : St} (hA : ArM T O s w) (hm : MapOk s) (hl : s.ns.length ≤ 1000000) (hd : doc ≤ s.ns.length) :
    Calls Tryz.prog 42 #[.pointer (some ⟨T, 0, none⟩), .int .i64 (doc : Nat)] w (InQ T O s doc w) := by
  obtain ⟨iv, O1, hA1, hp⟩ := hA
  rcases hp with ⟨rfl, hmp, rfl⟩ | ⟨M, c, rfl, h2, rfl, hb, h4⟩
  · refine (inertOf_nil doc w hA1 hl rfl hd).mono ?_
    rintro e w' ⟨he, M, O', h1, h2, h3, h4, h5⟩
    refine .inr ⟨by rw [hmp]; rfl, he, 0, M :: O', ⟨by rw [hmp]; simp, by rw [hmp]; simp, by rw [hmp]; simp, by rw [hmp]; simp⟩, ⟨_, O', h4, .inr ⟨M, 2, rfl, h1, rfl, ?_, ?_⟩⟩, h5.mod, fun k hk => ?_⟩
    · unfold inertS; rw [hmp]; exact h3
    · unfold inertS; rw [hmp]
      exact ⟨by simp, by simp, by simp; omega, by simp; omega⟩
    · rcases List.mem_cons.1 hk with rfl | hk
      · exact .inr h2
      · exact h5.own k hk
  · refine (inertOf_some doc c M s.mp w hA1 hl hd h2 hb h4 fun x hx => (hm.key x hx).2).mono ?_
    rintro e w' (⟨v, h5, he, hb2⟩ | ⟨h5, he, O', h6, h7, h8, h9⟩)
    · exact .inl ⟨v, h5, he, hb2⟩
    · refine .inr ⟨h5, he, c, M :: O', h4, ⟨_, O', h8, .inr ⟨M, c + 2, rfl, h6, rfl, h7, ?_⟩⟩, h9⟩
      have hks : ∀ x ∈ s.mp, x.1 ≠ doc := fun x hx e => by
        unfold mapL at h5
        cases hf : s.mp.find? fun x => x.1 == doc with
        | none =>
          have := List.find?_eq_none.1 hf x hx
          simp [e] at this
        | some y => rw [hf] at h5; cases h5
      exact ent_two h4 hks (fun x hx => (hm.key x hx).2) hd hl
end Go.Proofs.YtdapdadcninidaaGreatDoor
namespace Go.Proofs.YtdapdadcninidaaGreatDoor
open Go.RowKit
attribute [local go_sem ↓] Go.wp_at_zero Go.wp_at_succ

theorem docE_neg {ns : List Nd} {doc : Int} (h : doc < 0) : docE ns doc = 3 := by
  rw [docE, if_neg]
  intro hh
  obtain ⟨i, _, rfl⟩ := isH_iff.1 hh
  omega
set_option maxRecDepth 100000 in
set_option maxHeartbeats 1000000 in
theorem create_int (doc : Int) (d : Nd) (w : World) {B : AB} {O : List Nat} {ns : List Nd} (hA : ArW B O ns w) (hl : ns.length ≤ 1000000) (hk : d.kids = []) (ha : d.attrs = []) (hd : d.doc = 0) :
    Calls Tryz.prog 43 #[.pointer (some ⟨B, 0, none⟩), .int .i64 doc, .agg (ndCells d nilS nilS).toArray] w (Made B O ns w doc d) := by
  by_cases hn : doc < 0
  · have H1 := document_any doc w hA hl
    have hz := docE_neg (ns := ns) hn
    rw [hz] at H1
    have H1 := fun w' (hb : Below w.heap.size w w') => document_any doc w' (hA.later hb) hl
    rw [hz] at H1
    have HF := Lib.hid (fun (w1 : World) (b1 : Below w.heap.size w w1) => show Made B O ns w doc d (.returned (.tuple #[.int .i64 0, .int .i64 3])) w1 from .inl ⟨by rw [hz]; decide, by rw [hz], b1⟩)
    have hu : ndCells d nilS nilS = [.int .i64 d.kind, natV d.parent, nilS, .int .i64 0, .int .i64 d.space, strV d.name, nilS, strV d.data, strV d.pub, strV d.sys, .bool d.quirks, natV d.contents, natV d.host] := by simp only [ndCells, hd]; rfl
    rw [hu]
    have H1 := Lib.hid H1
    have HB := Lib.hid (fun o => balloc w o)
    clear hA hz hu hd hk ha hn
    go_enter Tryz.func43, Tryz.ntmps43
    go_wp2_with fail
    refine (H1.out _ (HB.out _)).mono ?_
    rintro e w1 ⟨rfl, b1⟩
    have HB1 := Lib.hid ((HB.out _).trans (b1.mono (by simp)))
    clear b1 H1
    go_wp2_with fail
    go_ret2
    exact HF.out _ HB1.out
  · obtain ⟨n, rfl⟩ : ∃ n : Nat, doc = (n : Int) := ⟨doc.toNat, by omega⟩
    exact create_any n d w hA hl hk ha hd
set_option maxRecDepth 100000 in
theorem Text_int (doc : Int) (l : List UInt8) (w : World) {B : AB} {O : List Nat} {ns : List Nd} (hA : ArW B O ns w) (hl : ns.length ≤ 1000000) :
    Calls Tryz.prog 11 #[.pointer (some ⟨B, 0, none⟩), .int .i64 doc, .string ⟨l.toArray⟩] w (Made B O ns w doc { kind := 5, data := l }) := by
  have H1 := Lib.hid (create_int doc { kind := 5, data := l } w hA hl rfl rfl rfl)
  clear hA
  go_enter Tryz.func11, Tryz.ntmps11
  go_wp2_with fail
  refine H1.out.mono ?_
  rintro e w1 hm
  have HM := Lib.hid hm
  obtain ⟨v1, v2, rfl⟩ : ∃ v1 v2, e = .returned (.tuple #[v1, v2]) := by
    rcases hm with ⟨_, rfl, _⟩ | ⟨_, rfl, _⟩ <;> exact ⟨_, _, rfl⟩
  clear hm
  go_wp2_with fail
  go_ret2
  exact HM.out
set_option maxRecDepth 100000 in
theorem Comment_int (doc : Int) (l : List UInt8) (w : World) {B : AB} {O : List Nat} {ns : List Nd} (hA : ArW B O ns w) (hl : ns.length ≤ 1000000) :
    Calls Tryz.prog 10 #[.pointer (some ⟨B, 0, none⟩), .int .i64 doc, .string ⟨l.toArray⟩] w (Made B O ns w doc { kind := 6, data := l }) := by
  have H1 := Lib.hid (create_int doc { kind := 6, data := l } w hA hl rfl rfl rfl)
  clear hA
  go_enter Tryz.func10, Tryz.ntmps10
  go_wp2_with fail
  refine H1.out.mono ?_
  rintro e w1 hm
  have HM := Lib.hid hm
  obtain ⟨v1, v2, rfl⟩ : ∃ v1 v2, e = .returned (.tuple #[v1, v2]) := by
    rcases hm with ⟨_, rfl, _⟩ | ⟨_, rfl, _⟩ <;> exact ⟨_, _, rfl⟩
  clear hm
  go_wp2_with fail
  go_ret2
  exact HM.out
set_option maxRecDepth 100000 in
theorem Doctype_int (doc : Int) (n p s : List UInt8) (w : World) {B : AB} {O : List Nat} {ns : List Nd} (hA : ArW B O ns w) (hl : ns.length ≤ 1000000) :
    Calls Tryz.prog 125 #[.pointer (some ⟨B, 0, none⟩), .int .i64 doc, .string ⟨n.toArray⟩, .string ⟨p.toArray⟩, .string ⟨s.toArray⟩] w (Made B O ns w doc { kind := 3, name := n, pub := p, sys := s }) := by
  have H1 := Lib.hid (create_int doc { kind := 3, name := n, pub := p, sys := s } w hA hl rfl rfl rfl)
  clear hA
  go_enter Tryz.func125, Tryz.ntmps125
  go_wp2_with fail
  refine H1.out.mono ?_
  rintro e w1 hm
  have HM := Lib.hid hm
  obtain ⟨v1, v2, rfl⟩ : ∃ v1 v2, e = .returned (.tuple #[v1, v2]) := by
    rcases hm with ⟨_, rfl, _⟩ | ⟨_, rfl, _⟩ <;> exact ⟨_, _, rfl⟩
  clear hm
  go_wp2_with fail
  go_ret2
  exact HM.out
set_option maxRecDepth 100000 in
theorem Fragment_int (doc : Int) (w : World) {B : AB} {O : List Nat} {ns : List Nd} (hA : ArW B O ns w) (hl : ns.length ≤ 1000000) :
    Calls Tryz.prog 126 #[.pointer (some ⟨B, 0, none⟩), .int .i64 doc] w (Made B O ns w doc { kind := 2 }) := by
  have H1 := Lib.hid (create_int doc { kind := 2 } w hA hl rfl rfl rfl)
  clear hA
  go_enter Tryz.func126, Tryz.ntmps126
  go_wp2_with fail
  refine H1.out.mono ?_
  rintro e w1 hm
  have HM := Lib.hid hm
  obtain ⟨v1, v2, rfl⟩ : ∃ v1 v2, e = .returned (.tuple #[v1, v2]) := by
    rcases hm with ⟨_, rfl, _⟩ | ⟨_, rfl, _⟩ <;> exact ⟨_, _, rfl⟩
  clear hm
  go_wp2_with fail
  go_ret2
  exact HM.out
set_option maxRecDepth 100000 in
set_option maxHeartbeats 1000000 in
theorem SetQuirks_any (h : Int) (q : Bool) (w : World) {B : AB} {O : List Nat} {ns : List Nd} (hA : ArW B O ns w) (hl : ns.length ≤ 1000000) :
    Calls Tryz.prog 128 #[.pointer (some ⟨B, 0, none⟩), .int .i64 h, .bool q] w (Did B O w (docE ns h) (setNd ns h { ndAt ns h with quirks := q })) := by
  have H1 := document_any h w hA hl
  by_cases hz : docE ns h = 0
  · have hh : isH ns.length h = true := by
      unfold docE at hz
      cases hh : isH ns.length h
      · rw [hh, if_neg (by decide)] at hz; exact absurd hz (by decide)
      · rfl
    rw [hz] at H1
    have H2 := fun w' (hb : Below w.heap.size w w') => atW_any h w' (hA.later hb) hh hl
    have HA := Lib.hid hA; have HZ := Lib.hid hz; have H1 := Lib.hid H1; have H2 := Lib.hid H2
    clear hA hz hh
    go_enter Tryz.func128, Tryz.ntmps128
    go_wp2_with fail
    refine H1.out.mono ?_
    rintro e w1 ⟨rfl, b1⟩
    obtain ⟨g, cap, kv, av, i, hi, hx, c0, hn, -, -, hat⟩ := H2.out w1 b1
    have n10 := hn.c10
    have f10 := hn.fz 10 (by omega)
    have hput := (HA.out.later b1).put (j := 10) (d' := { ndAt ns h with quirks := q }) (v := .bool q) hx c0 (by omega) (fun _ _ => rfl) rfl rfl
    have hset : ns.set i { ndAt ns h with quirks := q } = setNd ns h { ndAt ns h with quirks := q } := by rw [setNd, hi]; congr 1; omega
    rw [hset] at hput
    have HF := Lib.hid (show Did B O w (docE ns h) (setNd ns h { ndAt ns h with quirks := q }) (.returned (.int .i64 0)) _ from ⟨by rw [HZ.out], .inr ⟨HZ.out, O, hput.1, astep_pre b1 hput.2⟩⟩)
    have H3 := Lib.hid (hat w1 rfl)
    clear hput hset hn hat c0 hi hx b1 H1 H2
    go_wp2_with fail
    refine H3.out.mono ?_
    rintro e w2 ⟨rfl, rfl⟩
    go_wp2_with fail
    go_ret
    exact HF.out
  · obtain ⟨z, hzz⟩ : ∃ z, docE ns h = z := ⟨_, rfl⟩
    rw [hzz] at hz H1 ⊢
    have hzb : (z != 0) = true := by simpa using hz
    have H1 := Lib.hid H1; have HZ := Lib.hid hz
    clear hA hz hzz
    go_enter Tryz.func128, Tryz.ntmps128
    go_wp2_with fail
    refine H1.out.mono ?_
    rintro e w1 ⟨rfl, b1⟩
    have HB1 := Lib.hid b1
    clear b1 H1
    go_wp2_with fail
    go_ret
    exact ⟨rfl, .inl ⟨HZ.out, HB1.out⟩⟩
/-- The error of SetDoc. -/
def setDocE (ns : List Nd) (h doc : Int) : Int := if isH ns.length h && isH ns.length doc then (if (ndAt ns h).kind = 1 ∨ (ndAt ns doc).kind ≠ 1 then 9 else 0) else 3
set_option maxRecDepth 100000 in
set_option maxHeartbeats 2000000 in
theorem SetDoc_any (h doc : Int) (w : World) {B : AB} {O : List Nat} {ns : List Nd} (hA : ArW B O ns w) (hl : ns.length ≤ 1000000) :
    Calls Tryz.prog 129 #[.pointer (some ⟨B, 0, none⟩), .int .i64 h, .int .i64 doc] w (Did B O w (setDocE ns h doc) (setNd ns h { ndAt ns h with doc := doc.toNat })) := by
  obtain ⟨W0, hW0⟩ : ∃ W0, w.alloc (.cells #[.int .i64 h, .int .i64 doc] 3) = W0 := ⟨_, rfl⟩
  have b0 : Below w.heap.size w W0 := by rw [← hW0]; exact balloc w _
  have hbx : W0.heap[w.heap.size]? = some (.cells #[.int .i64 h, .int .i64 doc] 3) := by rw [← hW0]; exact World.alloc_heap_new w _
  have hA0 := hA.later b0
  have H1 := check_any (B := B) (H := w.heap.size) (c := 2) [h, doc] W0 hA0 (by intro j v hj; match j, hj with | 0, hj => simp at hj; subst hj; rw [cell_of_row _ _ _ _ _ _ hbx]; rfl | 1, hj => simp at hj; subst hj; rw [cell_of_row _ _ _ _ _ _ hbx]; rfl) (by simp)
  have HW := Lib.hid hW0
  cases hh : isH ns.length h && isH ns.length doc
  · rw [show chkH ns.length [h, doc] = 3 by simp only [chkH, List.all_cons, List.all_nil, Bool.and_true, hh]; rfl] at H1
    have he : setDocE ns h doc = 3 := by rw [setDocE, hh]; rfl
    have HF := Lib.hid (show Did B O w (setDocE ns h doc) (setNd ns h { ndAt ns h with doc := doc.toNat }) (.returned (.int .i64 3)) W0 from ⟨by rw [he], .inl ⟨by rw [he]; decide, b0⟩⟩)
    have H1 := Lib.hid H1
    clear hh he hA hA0 b0 hbx hW0
    go_enter Tryz.func129, Tryz.ntmps129
    go_wp2_with fail
    rw [HW.out]
    refine H1.out.mono ?_
    rintro e w1 ⟨rfl, rfl⟩
    go_wp2_with fail
    go_ret
    exact HF.out
  · rw [show chkH ns.length [h, doc] = 0 by simp only [chkH, List.all_cons, List.all_nil, Bool.and_true, hh]; rfl] at H1
    have hh2 := hh
    rw [Bool.and_eq_true] at hh2
    obtain ⟨j, hjl, hj⟩ := isH_iff.1 hh2.2
    obtain ⟨g, cap, kv, av, i, hi, hx, c0, hn, -, -, hat⟩ := atW_any h W0 hA0 hh2.1 hl
    obtain ⟨g2, cap2, kv2, av2, i2, hi2, hx2, c02, hn2, -, -, hat2⟩ := atW_any doc W0 hA0 hh2.2 hl
    have n0 := hn.c0
    have m0 := hn2.c0
    have n3 := hn.c3
    have f3 := hn.fz 3 (by omega)
    have hput := hA0.put (j := 3) (d' := { ndAt ns h with doc := doc.toNat }) (v := .int .i64 doc) hx c0 (by omega) (fun _ _ => by rw [hj]; rfl) rfl rfl
    have hset : ns.set i { ndAt ns h with doc := doc.toNat } = setNd ns h { ndAt ns h with doc := doc.toNat } := by rw [setNd, hi]; congr 1; omega
    rw [hset] at hput
    have HD : Hid (∀ k q, (ndAt ns h).kind = k → (ndAt ns doc).kind = q → setDocE ns h doc = if k = 1 ∨ q ≠ 1 then 9 else 0) := Lib.hid (by rintro k q rfl rfl; rw [setDocE, hh]; rfl)
    obtain ⟨k, hk⟩ : ∃ k, (ndAt ns h).kind = k := ⟨_, rfl⟩
    obtain ⟨q, hq⟩ : ∃ q, (ndAt ns doc).kind = q := ⟨_, rfl⟩
    rw [hk] at n0
    rw [hq] at m0
    have HE := Lib.hid (HD.out k q hk hq)
    have HP := Lib.hid hput
    have H1 := Lib.hid H1
    have H2 := Lib.hid (hat W0 rfl)
    have H3 := Lib.hid (hat2 W0 rfl)
    have B0 := Lib.hid b0
    clear hh hh2 hA hA0 b0 hbx hW0 hput hset hn hn2 hat hat2 c0 c02 hi hi2 hx hx2 hk hq HD hj hjl
    by_cases h1 : k = 1
    · have HF := Lib.hid (show Did B O w (setDocE ns h doc) (setNd ns h { ndAt ns h with doc := doc.toNat }) (.returned (.int .i64 9)) W0 from ⟨by rw [HE.out, if_pos (.inl h1)], .inl ⟨by rw [HE.out, if_pos (.inl h1)]; decide, B0.out⟩⟩)
      subst h1
      go_enter Tryz.func129, Tryz.ntmps129
      go_wp2_with fail
      rw [HW.out]
      refine H1.out.mono ?_
      rintro e w1 ⟨rfl, rfl⟩
      go_wp2_with fail
      refine H2.out.mono ?_
      rintro e w1 ⟨rfl, rfl⟩
      go_wp2_with fail
      go_ret
      exact HF.out
    · have h1b : (k == 1) = false := by simpa using h1
      by_cases h2 : q = 1
      · have HF := Lib.hid (show Did B O w (setDocE ns h doc) (setNd ns h { ndAt ns h with doc := doc.toNat }) (.returned (.int .i64 0)) _ from ⟨by rw [HE.out, if_neg (by simp [h1, h2])], .inr ⟨by rw [HE.out, if_neg (by simp [h1, h2])], O, HP.out.1, astep_pre B0.out HP.out.2⟩⟩)
        subst h2
        clear h1
        go_enter Tryz.func129, Tryz.ntmps129
        go_wp2_with fail
        rw [HW.out]
        refine H1.out.mono ?_
        rintro e w1 ⟨rfl, rfl⟩
        go_wp2_with fail
        refine H2.out.mono ?_
        rintro e w1 ⟨rfl, rfl⟩
        go_wp2_with fail
        refine H3.out.mono ?_
        rintro e w1 ⟨rfl, rfl⟩
        go_wp2_with fail
        refine H2.out.mono ?_
        rintro e w1 ⟨rfl, rfl⟩
        go_wp2_with fail
        go_ret
        exact HF.out
      · have HF := Lib.hid (show Did B O w (setDocE ns h doc) (setNd ns h { ndAt ns h with doc := doc.toNat }) (.returned (.int .i64 9)) W0 from ⟨by rw [HE.out, if_pos (.inr h2)], .inl ⟨by rw [HE.out, if_pos (.inr h2)]; decide, B0.out⟩⟩)
        have h2b : (q != 1) = true := by simpa using h2
        clear h1 h2
        go_enter Tryz.func129, Tryz.ntmps129
        go_wp2_with fail
        rw [HW.out]
        refine H1.out.mono ?_
        rintro e w1 ⟨rfl, rfl⟩
        go_wp2_with fail
        refine H2.out.mono ?_
        rintro e w1 ⟨rfl, rfl⟩
        go_wp2_with fail
        refine H3.out.mono ?_
        rintro e w1 ⟨rfl, rfl⟩
        go_wp2_with fail
        go_ret
        exact HF.out
end Go.Proofs.YtdapdadcninidaaGreatDoor
namespace Go.Proofs.YtdapdadcninidaaGreatDoor
open Go.RowKit
attribute [local go_sem ↓] Go.wp_at_zero Go.wp_at_succ

set_option maxRecDepth 100000 in
/-- A template. -/
theorem template_yes (d : Nd) (kv av : Value) (w : World) {g o : Nat} (hn : NdIs w g o d kv av) (hk : d.kind = 4) (hs : d.space = 1) (hd : d.name = tmplW) :
    Calls Tryz.prog 41 #[.pointer (some ⟨g, o, none⟩)] w fun e w' => e = .returned (.bool true) ∧ w = w' := by
  have c0 := hn.c0
  have c4 := hn.c4
  have c5 := hn.c5
  rw [hk] at c0
  rw [hs] at c4
  rw [hd] at c5
  unfold tmplW at c5
  clear hn hd hs hk
  go_enter Tryz.func41, Tryz.ntmps41
  go_wp2
  go_ret
  exact ⟨rfl, rfl⟩
end Go.Proofs.YtdapdadcninidaaGreatDoor
namespace Go.Proofs.YtdapdadcninidaaGreatDoor
open Go.RowKit
attribute [local go_sem ↓] Go.wp_at_zero Go.wp_at_succ

/-- A call that ends in some state: what it answers and leaves. -/
def Act (T : Nat) (O : List Nat) (w : World) (R : Ending → St → Prop) (e : Ending) (w' : World) : Prop := ∃ s' O', ArM T O' s' w' ∧ AStep O w O' w' ∧ R e s'
theorem astep_below {O : List Nat} {w w' : World} (hb : Below w.heap.size w w') : AStep O w O w' := astep_pre hb (AStep.refl O w')
theorem Act.still {T : Nat} {O : List Nat} {s : St} {w w' : World} {R : Ending → St → Prop} {e : Ending} (hA : ArM T O s w) (hb : Below w.heap.size w w') (hR : R e s) : Act T O w R e w' := ⟨s, O, hA.later hb, astep_below hb, hR⟩
theorem Act.mono {T : Nat} {O : List Nat} {w w' : World} {R R' : Ending → St → Prop} {e : Ending} (h : Act T O w R e w') (hR : ∀ s', R e s' → R' e s') : Act T O w R' e w' := by
  obtain ⟨s', O', h1, h2, h3⟩ := h
  exact ⟨s', O', h1, h2, hR s' h3⟩
/-- An inert document has been made, or none. -/
def InS (s s' : St) : Prop := s' = s ∨ ∃ doc c, inR s.ns doc ∧ (nd s.ns doc).kind = 1 ∧ mapL s.mp doc = none ∧ EntOk s.mp c ∧ s' = inertS s [(doc, s.ns.length + 1, c), (s.ns.length + 1, s.ns.length + 1, c + 1)]
theorem docE_zero {ns : List Nd} {doc : Int} (h : docE ns doc = 0) : ∃ x : Nat, doc = (x : Int) ∧ inR ns x ∧ (nd ns x).kind = 1 := by
  unfold docE at h
  split at h
  · rename_i hh
    obtain ⟨x, rfl, hx⟩ := isH_nat hh
    split at h
    · rename_i hk
      exact ⟨x, rfl, hx, hk⟩
    · cases h
  · cases h
/-- What Inert answers: some value, some error. -/
def InertR (s : St) (e : Ending) (s' : St) : Prop := (∃ v er : Int, e = .returned (.tuple #[.int .i64 v, .int .i64 er])) ∧ InS s s'
set_option maxRecDepth 100000 in
theorem Inert_act (doc : Int) (w : World) {T : Nat} {O : List Nat} {s : St} (hA : ArM T O s w) (hm : MapOk s) (hl : s.ns.length ≤ 1000000) :
    Calls Tryz.prog 127 #[.pointer (some ⟨T, 0, none⟩), .int .i64 doc] w (Act T O w (InertR s)) := by
  obtain ⟨iv, O1, hA1, -⟩ := hA.turn
  have H1 := document_any doc w hA1 hl
  by_cases hz : docE s.ns doc = 0
  · obtain ⟨x, rfl, hx, hk⟩ := docE_zero hz
    rw [hz] at H1
    have H2 := Lib.hid (fun w' (hb : Below w.heap.size w w') => inertOf_any x w' (hA.later hb) hm hl hx.2)
    have HA := Lib.hid hA; have HX := Lib.hid hx; have HK := Lib.hid hk; have H1 := Lib.hid H1
    clear hA hA1 hm hz hx hk
    go_enter Tryz.func127, Tryz.ntmps127
    go_wp2_with fail
    refine H1.out.mono ?_
    rintro e w1 ⟨rfl, b1⟩
    have H3 := Lib.hid (H2.out w1 b1)
    have HB1 := Lib.hid b1
    clear b1 H1 H2
    go_wp2_with fail
    refine H3.out.mono ?_
    rintro e w2 (⟨v, -, rfl, b2⟩ | ⟨hn, rfl, c, O', hc, hA2, hs2⟩)
    · have HB2 := Lib.hid (bthen HB1.out HB1.out.size b2)
      clear b2
      go_wp2_with fail
      go_ret2
      exact Act.still HA.out HB2.out ⟨⟨_, _, rfl⟩, .inl rfl⟩
    · have HF := Lib.hid (fun v : Int => show Act T O w (InertR s) (.returned (.tuple #[.int .i64 v, .int .i64 0])) w2 from ⟨_, O', hA2, astep_pre HB1.out hs2, ⟨_, _, rfl⟩, .inr ⟨x, c, HX.out, HK.out, hn, hc, rfl⟩⟩)
      clear hA2 hs2 hc hn
      obtain ⟨y, hy⟩ : ∃ y : Int, ((s.ns.length + 1 : Nat) : Int) = y := ⟨_, rfl⟩
      rw [hy]
      go_wp2_with fail
      go_ret2
      exact HF.out _
  · obtain ⟨z, hzz⟩ : ∃ z, docE s.ns doc = z := ⟨_, rfl⟩
    rw [hzz] at hz H1
    have hzb : (z != 0) = true := by simpa using hz
    have HF := Lib.hid (fun w' (hb : Below w.heap.size w w') => show Act T O w (InertR s) (.returned (.tuple #[.int .i64 0, .int .i64 z])) w' from Act.still hA hb ⟨⟨_, _, rfl⟩, .inl rfl⟩)
    have H1 := Lib.hid H1
    clear hA hA1 hm hz hzz
    go_enter Tryz.func127, Tryz.ntmps127
    go_wp2_with fail
    refine H1.out.mono ?_
    rintro e w1 ⟨rfl, b1⟩
    have HB1 := Lib.hid b1
    clear b1 H1
    go_wp2_with fail
    go_ret2
    exact HF.out _ HB1.out
set_option maxRecDepth 100000 in
theorem template_at (d : Nd) (kv av : Value) (w : World) {g o : Nat} (hn : NdIs w g o d kv av) (hk : d.kind = 4) :
    Calls Tryz.prog 41 #[.pointer (some ⟨g, o, none⟩)] w fun e w' => e = .returned (.bool (isTmpl d)) ∧ w = w' := by
  cases ht : (d.name == tmplW)
  · have := template_no d kv av w hn hk ht
    rwa [show isTmpl d = false by unfold isTmpl; rw [ht, Bool.and_false, Bool.and_false]]
  · have htn : d.name = tmplW := by simpa using ht
    by_cases hs : d.space = 1
    · have := template_yes d kv av w hn hk hs htn
      rwa [show isTmpl d = true by unfold isTmpl; rw [ht, hs, hk]; rfl]
    · rw [show isTmpl d = false by unfold isTmpl; rw [decide_eq_false hs, Bool.false_and, Bool.and_false]]
      have c0 := hn.c0
      have c4 := hn.c4
      rw [hk] at c0
      obtain ⟨sp, hsp⟩ : ∃ sp, d.space = sp := ⟨_, rfl⟩
      rw [hsp] at c4 hs
      have hsb : (sp == 1) = false := by simpa using hs
      clear hn ht htn hsp hs
      go_enter Tryz.func41, Tryz.ntmps41
      go_wp2
      all_goals
        go_ret
        exact ⟨rfl, rfl⟩
/-- The node that Element makes. -/
def eltD (doc sp : Int) (nm : List UInt8) (l : List Att) : Nd := { kind := 4, space := sp, name := nm, doc := doc.toNat, attrs := l }
/-- What Element answers and leaves. -/
def EltR (s : St) (doc sp : Int) (nm : List UInt8) (l : List Att) (e : Ending) (s' : St) : Prop :=
  (∃ er : Int, er ≠ 0 ∧ e = .returned (.tuple #[.int .i64 0, .int .i64 er]) ∧ s' = s) ∨
  (docE s.ns doc = 0 ∧ e = .returned (.tuple #[.int .i64 ((s.ns.length + 1 : Nat) : Int), .int .i64 0]) ∧
    ((isTmpl (eltD doc sp nm l) = false ∧ s' = ⟨s.ns ++ [eltD doc sp nm l], s.mp⟩) ∨
      ∃ s2 i, isTmpl (eltD doc sp nm l) = true ∧ InS ⟨s.ns ++ [eltD doc sp nm l], s.mp⟩ s2 ∧ s' = ⟨setNd (s2.ns ++ [{ kind := 2, host := s.ns.length + 1, doc := i }]) ((s.ns.length + 1 : Nat) : Int) { eltD doc sp nm l with contents := s2.ns.length + 1 }, s2.mp⟩))
end Go.Proofs.YtdapdadcninidaaGreatDoor
namespace Go.Proofs.YtdapdadcninidaaGreatDoor
open Go.RowKit
attribute [local go_sem ↓] Go.wp_at_zero Go.wp_at_succ

theorem isTmpl_eq {d : Nd} (h : isTmpl d = true) : d.kind = 4 ∧ d.space = 1 ∧ d.name = tmplW := by
  unfold isTmpl at h
  simp only [Bool.and_eq_true, decide_eq_true_eq, beq_iff_eq] at h
  exact h
theorem InS.map {s s' : St} (h : InS s s') (hm : MapOk s) (hl : s.ns.length ≤ 1000000) : MapOk s' := by
  rcases h with rfl | ⟨doc, c, hd, _, hn, hc, rfl⟩
  · exact hm
  · exact (mapOk_inert hm hc hd hn hl).1
theorem InS.len {s s' : St} (h : InS s s') : s'.ns.length = s.ns.length ∨ s'.ns.length = s.ns.length + 1 := by
  rcases h with rfl | ⟨doc, c, _, _, _, _, rfl⟩
  · exact .inl rfl
  · exact .inr (by unfold inertS; simp)
theorem InS.nd {s s' : St} (h : InS s s') {x : Nat} (hx : inR s.ns x) : inR s'.ns x ∧ nd s'.ns x = nd s.ns x := by
  rcases h with rfl | ⟨doc, c, _, _, _, _, rfl⟩
  · exact ⟨hx, rfl⟩
  · exact ⟨inR_app hx, nd_app hx⟩
theorem MapOk.grow {s : St} (h : MapOk s) (ms : List Nd) : MapOk ⟨s.ns ++ ms, s.mp⟩ := ⟨h.ent, fun x hx => by have := h.key x hx; simp; omega⟩
-- Element, where nothing is refused: a template's contents, too.
set_option maxRecDepth 100000 in
set_option maxHeartbeats 4000000 in
theorem Element_go (doc : Nat) (sp : Int) (nm : List UInt8) (l : List Att) (w : World) {T : Nat} {O : List Nat} {s : St} {a : Option Addr} {c : Nat} (hA : ArM T O s w) (hm : MapOk s) (hl : s.ns.length ≤ 900000) (hd : docE s.ns doc = 0) (hal : l.length ≤ 100000) (hc : AttsAt w a l) (hok : (onceF [] l).2 = true) (hsp : spaceOk sp = true) :
    Calls Tryz.prog 9 #[.pointer (some ⟨T, 0, none⟩), .int .i64 (doc : Int), .int .i64 sp, .string ⟨nm.toArray⟩, .slice a l.length c] w (Act T O w (EltR s doc sp nm (onceF [] l).1)) := by
  obtain ⟨iv, O1, hA1, hturn⟩ := hA.turn
  have H1 := document_any (doc : Int) w hA1 (by omega)
  rw [hd] at H1
  obtain ⟨x, hxd, hx, hxk⟩ := docE_zero hd
  obtain rfl : x = doc := by omega
  clear hxd
  have H1 := Lib.hid H1
  have H2 := Lib.hid (fun w' (hb : Below w.heap.size w w') => once_any l w' (a := a) (c := c) hal (hc.later hb))
  have HS := Lib.hid (fun w' H c hc => spaces_one sp w' (H := H) (c := c) hc)
  rw [hsp] at HS
  have HA := Lib.hid hA1; have HT := Lib.hid hturn; have HM := Lib.hid hm; have HX := Lib.hid hx; have HK := Lib.hid hxk; have HD := Lib.hid hd
  have hol := onceF_len [] l
  generalize onceF [] l = oc at *
  obtain ⟨ol, ok⟩ := oc
  dsimp only at *
  subst hok
  have hd0 : eltD (x : Int) sp nm ol = { kind := 4, space := sp, name := nm, doc := x, attrs := ol } := by unfold eltD; rw [Int.toNat_natCast]
  have HD0 := Lib.hid hd0
  obtain ⟨d, hde⟩ : ∃ d : Nd, ({ kind := 4, space := sp, name := nm, doc := x, attrs := ol } : Nd) = d := ⟨_, rfl⟩
  have HDE := Lib.hid hde
  obtain ⟨h1, e1⟩ : ∃ h, s.ns.length + 1 = h := ⟨_, rfl⟩
  have E1 := Lib.hid e1
  clear hA hA1 hturn hm hx hxk hd hc hsp hd0 hde e1
  go_enter Tryz.func9, Tryz.ntmps9
  go_wp2_with fail
  refine H1.out.mono ?_
  rintro e w1 ⟨rfl, b1⟩
  have H3 := Lib.hid (H2.out w1 b1)
  have HB1 := Lib.hid b1
  clear b1 H1 H2
  go_wp2_with fail
  refine H3.out.mono ?_
  rintro e w2 ⟨va, vc, rfl, hr, b2⟩
  have HR := Lib.hid hr; have HB2 := Lib.hid (bthen HB1.out HB1.out.size b2)
  clear hr b2 H3
  go_wp2_with fail
  refine (HS.out _ _ _ (by simp)).mono ?_
  rintro e w3 ⟨rfl, rfl⟩
  have HB3 := Lib.hid (HB2.out.alloc HB2.out.size (.cells #[.int .i64 sp] 29))
  have H5 := addA_any { kind := 4, space := sp, name := nm, doc := x, attrs := ol } (.slice va ol.length vc) w _ (HA.out.later HB3.out) (by omega) (fun k hk => HA.out.lt hk) HB3.out rfl (ownsRow_base (Nat.le_trans HB1.out.size (Nat.le_refl _)) (ownsRow_below HR.out (balloc w2 _)))
  rw [E1.out] at H5
  have H5 := Lib.hid H5
  go_wp2_with fail
  refine H5.out.mono ?_
  rintro e w4 ⟨rfl, O4, hA4, hs4⟩
  rw [HDE.out] at hA4
  obtain ⟨O4', hM4, hs4'⟩ := HT.out O4 _ w4 hA4 hs4
  have hx : (s.ns ++ [d])[s.ns.length]? = some d := by simp
  obtain ⟨g, cap, kv, av, c0, hn, -, -⟩ := hA4.node hx
  have hlen : (s.ns ++ [d]).length = s.ns.length + 1 := by simp
  rw [hlen] at c0
  have H6 := at_any s.ns.length w4 c0 (Nat.lt_succ_self _) (by omega)
  rw [E1.out] at H6
  have H6 := Lib.hid H6
  have hk4 : d.kind = 4 := by rw [← HDE.out]
  have H7 := Lib.hid (template_at _ kv av w4 hn hk4)
  have H8 := Lib.hid (inertOf_any x w4 hM4 (HM.out.grow [d]) (by simp; omega) (by simp; have := HX.out.2; omega))
  have HST4 := Lib.hid hs4'
  have HM4 := Lib.hid hM4
  clear hA4 hn c0 hlen hx H5 hs4 hM4 hs4' hk4
  cases ht : isTmpl d
  · rw [ht] at H7
    have HF := Lib.hid (show Act T O w (EltR s x sp nm ol) (.returned (.tuple #[.int .i64 (h1 : Nat), .int .i64 0])) w4 from ⟨_, O4', HM4.out, HST4.out, .inr ⟨HD.out, by rw [E1.out], .inl ⟨by rw [HD0.out, HDE.out]; exact ht, by rw [HD0.out, HDE.out]⟩⟩⟩)
    clear ht HM4 HST4 H8
    obtain ⟨y, hy⟩ : ∃ y : Int, ((h1 : Nat) : Int) = y := ⟨_, rfl⟩
    rw [hy] at HF H6 ⊢
    clear hy
    go_wp2_with (first | (go_at_call 37; refine H6.out.mono ?_; rintro e w5 ⟨rfl, rfl⟩) | (go_at_call 41; refine H7.out.mono ?_; rintro e w5 ⟨rfl, rfl⟩))
    go_ret2
    exact HF.out
  · rw [ht] at H7
    have HTT := Lib.hid ht
    clear ht
    go_wp2_with (first | (go_at_call 37; refine H6.out.mono ?_; rintro e w5 ⟨rfl, rfl⟩) | (go_at_call 41; refine H7.out.mono ?_; rintro e w5 ⟨rfl, rfl⟩))
    refine H8.out.mono ?_
    rintro e w5 hq
    obtain ⟨i, s2, O5, rfl, hM5, hs5, hI⟩ : ∃ (i : Nat) (s2 : St) (O5 : List Nat), e = .returned (.int .i64 (i : Nat)) ∧ ArM T O5 s2 w5 ∧ AStep O4' w4 O5 w5 ∧ InS ⟨s.ns ++ [d], s.mp⟩ s2 := by
      rcases hq with ⟨v, -, he, b5⟩ | ⟨hn, he, c, O', hc, hA5, hs5⟩
      · exact ⟨v, _, O4', he, HM4.out.later b5, astep_below b5, .inl rfl⟩
      · exact ⟨_, _, O', he, hA5, hs5, .inr ⟨x, c, inR_app HX.out, by show (nd (s.ns ++ [d]) x).kind = 1; rw [nd_app HX.out]; exact HK.out, hn, hc, rfl⟩⟩
    obtain ⟨iv5, O5a, hA5, hturn5⟩ := hM5.turn
    have hl5 : s2.ns.length ≤ s.ns.length + 2 ∧ s.ns.length + 1 ≤ s2.ns.length := by
      rcases hI.len with h | h
      · rw [h]; simp
      · rw [h]; simp
    have hn2 : s2.ns[s.ns.length]? = some d := by
      have hr : inR (s.ns ++ [d]) (s.ns.length + 1) := ⟨by omega, by simp⟩
      obtain ⟨g1, g2⟩ := hI.nd hr
      have g3 := nd_get g1
      have g4 : nd (s.ns ++ [d]) (s.ns.length + 1) = d := (nd_app_new (ns := s.ns) (ms := [d]) (j := 0) rfl).2
      rw [g2] at g3
      rw [show s.ns.length + 1 - 1 = s.ns.length by omega] at g3
      rw [g3]; exact congrArg some g4
    obtain ⟨h3, e3⟩ : ∃ h, s2.ns.length + 1 = h := ⟨_, rfl⟩
    have H9 := addW_any { kind := 2, host := h1, doc := i } w5 hA5 (by omega) rfl rfl
    rw [e3] at H9
    dsimp only at H9
    have H9 := Lib.hid H9
    have HT5 := Lib.hid hturn5
    have HST5 := Lib.hid (HST4.out.trans hs5)
    have HI := Lib.hid hI; have HL5 := Lib.hid hl5; have HN2 := Lib.hid hn2; have E3 := Lib.hid e3
    clear hM5 hA5 hs5 hI hturn5 H8 HST4 HM4 hl5 hn2 e3 hq
    go_wp2_with fail
    refine H9.out.mono ?_
    rintro e w6 ⟨rfl, O6, hA6, hs6⟩
    have hx : (s2.ns ++ [({ kind := 2, host := h1, doc := i } : Nd)])[s.ns.length]? = some d := by
      rw [List.getElem?_append_left (by have := HL5.out; omega)]; exact HN2.out
    obtain ⟨g, cap, kv, av, c0, hn, -, -⟩ := hA6.node hx
    have c11 := hn.c11
    have f11 := hn.fz 11 (by omega)
    obtain ⟨hA7, hs7⟩ := hA6.put (j := 11) (d' := { d with contents := h3 }) (v := .int .i64 (h3 : Nat)) hx c0 (by omega) (fun _ _ => rfl) rfl rfl
    have hlen : (s2.ns ++ [({ kind := 2, host := h1, doc := i } : Nd)]).length = s2.ns.length + 1 := by simp
    rw [hlen] at c0
    have H10 := at_any s.ns.length w6 c0 (by have := HL5.out; omega) (by have := HL5.out; omega)
    rw [E1.out] at H10
    have H10 := Lib.hid H10
    obtain ⟨O7, hM7, hs7'⟩ := HT5.out O6 _ _ hA7 (hs6.trans hs7)
    have HF := Lib.hid (show Act T O w (EltR s x sp nm ol) (.returned (.tuple #[.int .i64 (h1 : Nat), .int .i64 0])) _ from ⟨_, O7, hM7, HST5.out.trans hs7', .inr ⟨HD.out, by rw [E1.out], .inr ⟨s2, i, by rw [HD0.out, HDE.out]; exact HTT.out, by rw [HD0.out, HDE.out]; exact HI.out, by
      rw [HD0.out, HDE.out, E1.out, E3.out, ← E1.out, setNd, show (((s.ns.length + 1 : Nat) : Int) - 1).toNat = s.ns.length by omega]⟩⟩⟩)
    clear hA6 hs6 hA7 hs7 hx hn c0 hlen H9 HST5 hM7 hs7'
    obtain ⟨y, hy⟩ : ∃ y : Int, ((h1 : Nat) : Int) = y := ⟨_, rfl⟩
    rw [hy] at HF H10 ⊢
    clear hy
    go_wp2_with (go_at_call 37; refine H10.out.mono ?_; rintro e w7 ⟨rfl, rfl⟩)
    go_ret2
    exact HF.out
set_option maxRecDepth 100000 in
set_option maxHeartbeats 2000000 in
theorem Element_act (doc sp : Int) (nm : List UInt8) (l : List Att) (w : World) {T : Nat} {O : List Nat} {s : St} {a : Option Addr} {c : Nat} (hA : ArM T O s w) (hm : MapOk s) (hl : s.ns.length ≤ 900000) (hal : l.length ≤ 100000) (hc : AttsAt w a l) :
    Calls Tryz.prog 9 #[.pointer (some ⟨T, 0, none⟩), .int .i64 doc, .int .i64 sp, .string ⟨nm.toArray⟩, .slice a l.length c] w (Act T O w (EltR s doc sp nm (onceF [] l).1)) := by
  obtain ⟨iv, O1, hA1, -⟩ := hA.turn
  have H1 := document_any doc w hA1 (by omega)
  have HE := Lib.hid (fun (er : Int) (w' : World) (h0 : er ≠ 0) (hb : Below w.heap.size w w') => show Act T O w (EltR s doc sp nm (onceF [] l).1) (.returned (.tuple #[.int .i64 0, .int .i64 er])) w' from Act.still hA hb (.inl ⟨er, h0, rfl, rfl⟩))
  by_cases hz : docE s.ns doc = 0
  · cases hok : (onceF [] l).2
    · rw [hz] at H1
      have H1 := Lib.hid H1
      have H2 := Lib.hid (fun w' (hb : Below w.heap.size w w') => once_any l w' (a := a) (c := c) hal (hc.later hb))
      generalize onceF [] l = oc at *
      obtain ⟨ol, ok⟩ := oc
      dsimp only at *
      subst hok
      clear hA hA1 hm hz hc
      go_enter Tryz.func9, Tryz.ntmps9
      go_wp2_with fail
      refine H1.out.mono ?_
      rintro e w1 ⟨rfl, b1⟩
      have H3 := Lib.hid (H2.out w1 b1)
      have HB1 := Lib.hid b1
      clear b1 H1 H2
      go_wp2_with fail
      refine H3.out.mono ?_
      rintro e w2 ⟨va, vc, rfl, -, b2⟩
      have HB2 := Lib.hid (bthen HB1.out HB1.out.size b2)
      clear b2 H3
      go_wp2_with fail
      go_ret2
      exact HE.out _ _ (by decide) HB2.out
    · cases hsp : spaceOk sp
      · rw [hz] at H1
        have H1 := Lib.hid H1
        have H2 := Lib.hid (fun w' (hb : Below w.heap.size w w') => once_any l w' (a := a) (c := c) hal (hc.later hb))
        have HS := Lib.hid (fun w' H c hc => spaces_one sp w' (H := H) (c := c) hc)
        rw [hsp] at HS
        generalize onceF [] l = oc at *
        obtain ⟨ol, ok⟩ := oc
        dsimp only at *
        subst hok
        clear hA hA1 hm hz hc hsp
        go_enter Tryz.func9, Tryz.ntmps9
        go_wp2_with fail
        refine H1.out.mono ?_
        rintro e w1 ⟨rfl, b1⟩
        have H3 := Lib.hid (H2.out w1 b1)
        have HB1 := Lib.hid b1
        clear b1 H1 H2
        go_wp2_with fail
        refine H3.out.mono ?_
        rintro e w2 ⟨va, vc, rfl, -, b2⟩
        have HB2 := Lib.hid (bthen HB1.out HB1.out.size b2)
        clear b2 H3
        go_wp2_with fail
        refine (HS.out _ _ _ (by simp)).mono ?_
        rintro e w3 ⟨rfl, rfl⟩
        have HB3 := Lib.hid (HB2.out.alloc HB2.out.size (.cells #[.int .i64 sp] 29))
        go_wp2_with fail
        go_ret2
        exact HE.out _ _ (by decide) HB3.out
      · obtain ⟨x, rfl, -, -⟩ := docE_zero hz
        exact Element_go x sp nm l w hA hm hl hz hal hc hok hsp
  · obtain ⟨z, hzz⟩ : ∃ z, docE s.ns doc = z := ⟨_, rfl⟩
    rw [hzz] at hz H1
    have hzb : (z != 0) = true := by simpa using hz
    have HZ := Lib.hid hz
    have H1 := Lib.hid H1
    clear hA hA1 hm hc hz hzz
    go_enter Tryz.func9, Tryz.ntmps9
    go_wp2_with fail
    refine H1.out.mono ?_
    rintro e w1 ⟨rfl, b1⟩
    have HB1 := Lib.hid b1
    clear b1 H1
    go_wp2_with fail
    go_ret2
    exact HE.out _ _ HZ.out HB1.out
end Go.Proofs.YtdapdadcninidaaGreatDoor
namespace Go.Proofs.YtdapdadcninidaaGreatDoor
open Go.RowKit
attribute [local go_sem ↓] Go.wp_at_zero Go.wp_at_succ

theorem blocksBut_perm {B i : Nat} {tab av : Value} {L : List Nv} : (blocksBut B tab L i av).Perm (av.ownBlock.toList ++ blocksBut B tab L i nilS) := by
  unfold blocksBut
  rw [show nilS.ownBlock.toList = [] from rfl]
  generalize (L.take i).flatMap _ = P
  generalize (L.drop (i + 1)).flatMap _ = Q
  generalize tab.ownBlock.toList = T
  generalize av.ownBlock.toList = A
  rw [List.nil_append]
  have h : (B :: (T ++ (P ++ (A ++ Q)))) = (B :: (T ++ P)) ++ (A ++ Q) := by simp [List.append_assoc]
  have h2 : A ++ (B :: (T ++ (P ++ Q))) = A ++ ((B :: (T ++ P)) ++ Q) := by simp [List.append_assoc]
  rw [h, h2, ← List.append_assoc, ← List.append_assoc A]
  exact List.Perm.append_right _ List.perm_append_comm
/-- The attributes of a node are replaced by others in new memory. -/
theorem ArW.atts {B : AB} {g i cap n b : Nat} {O : List Nat} {ns : List Nd} {d : Nd} {v' : Value} {w : World} {l : List Att} (h : ArW B O ns w) (hx : ns[i]? = some d) (hc : w.cell? ⟨B, 0, none⟩ = some (.slice (some ⟨g, 0, none⟩) n cap))
    (hr : w.ownsRow b 121 3 v' l.length (attCells l)) (hlt : ∀ k ∈ O, k < b) :
    ∃ O', ArW B O' (ns.set i { d with attrs := l }) (w.setCell ⟨g, i * 13 + 6, none⟩ v') ∧ Mod (· ∈ O) w (w.setCell ⟨g, i * 13 + 6, none⟩ v') ∧ ∀ k ∈ O', k ∈ O ∨ b ≤ k := by
  obtain ⟨tab, L, h1, rfl, rfl⟩ := h
  rw [List.getElem?_map] at hx
  obtain ⟨x, hy, rfl⟩ := Option.map_eq_some_iff.1 hx
  have ht : tab = .slice (some ⟨g, 0, none⟩) n cap := Option.some.inj (h1.c0.symm.trans hc)
  have hi : i < L.length := (List.getElem?_eq_some_iff.1 hy).1
  obtain ⟨y, hye⟩ : ∃ y : Nv, (⟨{ x.nd with attrs := l }, x.kv, v'⟩ : Nv) = y := ⟨_, rfl⟩
  have hyk : y.kv = x.kv := by rw [← hye]
  have hya : y.av = v' := by rw [← hye]
  have hys : (L.set i y)[i]? = some y := by rw [List.getElem?_set_self hi]
  have p1 := (blocks_perm (B := B) (tab := tab) hy).trans (List.Perm.append_left _ blocksBut_perm)
  have p2 := (blocks_perm (B := B) (tab := tab) hys).trans (List.Perm.append_left _ blocksBut_perm)
  rw [hyk, hya] at p2
  rw [show blocksBut B tab (L.set i y) i nilS = blocksBut B tab L i nilS from blocksBut_set] at p2
  have hg : ∀ k, v'.ownBlock = some k → b ≤ k := fun k hk => ownsRow_ge hr hk
  have hnd2 : (blocks B tab (L.set i y)).Nodup := by
    rw [p2.nodup_iff]
    have hnd := p1.nodup_iff.1 h1.nd
    obtain ⟨n1, n2, n3⟩ := List.nodup_append.1 hnd
    obtain ⟨n4, n5, n6⟩ := List.nodup_append.1 n2
    refine List.nodup_append.2 ⟨n1, List.nodup_append.2 ⟨by cases v'.ownBlock <;> simp, n5, fun a ha c hc' e => ?_⟩, fun a ha c hc' e => ?_⟩
    · subst e
      have := hg a (by simpa using ha)
      have := hlt a (p1.mem_iff.2 (List.mem_append_right _ (List.mem_append_right _ hc')))
      omega
    · subst e
      rcases List.mem_append.1 hc' with hc' | hc'
      · have := hg a (by simpa using hc')
        have := hlt a (p1.mem_iff.2 (List.mem_append_left _ ha))
        omega
      · exact n3 a ha a (List.mem_append_right _ hc') rfl
  have hset := ar_set h1 ht hy (j := 6) (y := y) (v := v') (by omega) (by rw [← hye]; rfl) (by rw [← hye]; exact h1.kid x (List.mem_of_getElem? hy)) (by rw [← hye]; exact ownsRow_zero hr) hnd2
  refine ⟨_, ⟨tab, _, hset, rfl, by rw [List.map_set, ← hye]⟩, Mod.setCell _ _ (mem_blocks.2 (.inr (.inl (by rw [ht]; rfl)))), fun k hk => ?_⟩
  rcases List.mem_append.1 (p2.mem_iff.1 hk) with hk | hk
  · exact .inl (p1.mem_iff.2 (List.mem_append_left _ hk))
  · rcases List.mem_append.1 hk with hk | hk
    · exact .inr (hg k (by simpa using hk))
    · exact .inl (p1.mem_iff.2 (List.mem_append_right _ (List.mem_append_right _ hk)))
/-- What SetAttrs answers and leaves. -/
def SetR (s : St) (h : Int) (l : List Att) (e : Ending) (s' : St) : Prop :=
  (∃ er : Int, e = .returned (.int .i64 er)) ∧ (s' = s ∨ (isH s.ns.length h = true ∧ s' = ⟨setNd s.ns h { ndAt s.ns h with attrs := l }, s.mp⟩))
set_option maxRecDepth 100000 in
set_option maxHeartbeats 2000000 in
theorem SetAttrs_act (h : Int) (l : List Att) (w : World) {T : Nat} {O : List Nat} {s : St} {a : Option Addr} {c : Nat} (hA : ArM T O s w) (hl : s.ns.length ≤ 1000000) (hal : l.length ≤ 100000) (hc : AttsAt w a l) :
    Calls Tryz.prog 122 #[.pointer (some ⟨T, 0, none⟩), .int .i64 h, .slice a l.length c] w (Act T O w (SetR s h (onceF [] l).1)) := by
  obtain ⟨iv, O1, hA1, hturn⟩ := hA.turn
  have HE := Lib.hid (fun (er : Int) (w' : World) (hb : Below w.heap.size w w') => show Act T O w (SetR s h (onceF [] l).1) (.returned (.int .i64 er)) w' from Act.still hA hb ⟨⟨_, rfl⟩, .inl rfl⟩)
  obtain ⟨W0, hW0⟩ : ∃ W0, w.alloc (.cells #[.int .i64 h] 3) = W0 := ⟨_, rfl⟩
  have b0 : Below w.heap.size w W0 := by rw [← hW0]; exact balloc w _
  have hbx : W0.heap[w.heap.size]? = some (.cells #[.int .i64 h] 3) := by rw [← hW0]; exact World.alloc_heap_new w _
  have hA0 := hA1.later b0
  have H1 := check_any (B := ⟨T, iv⟩) (H := w.heap.size) (c := 1) [h] W0 hA0 (by intro j v hj; match j, hj with | 0, hj => simp at hj; subst hj; rw [cell_of_row _ _ _ _ _ _ hbx]; rfl) (by simp)
  have HW := Lib.hid hW0; have B0 := Lib.hid b0
  cases hh : isH s.ns.length h
  · rw [show chkH s.ns.length [h] = 3 by simp [chkH, hh]] at H1
    have H1 := Lib.hid H1
    clear hh hA hA1 hA0 b0 hbx hW0 hturn hc
    go_enter Tryz.func122, Tryz.ntmps122
    go_wp2_with fail
    rw [HW.out]
    refine H1.out.mono ?_
    rintro e w1 ⟨rfl, rfl⟩
    go_wp2_with fail
    go_ret
    exact HE.out _ _ B0.out
  · rw [show chkH s.ns.length [h] = 0 by simp [chkH, hh]] at H1
    obtain ⟨g, cap, kv, av, i, hi, hx, c0, hn, -, -, hat⟩ := atW_any h W0 hA0 hh hl
    have n0 := hn.c0
    have H1 := Lib.hid H1
    have H2 := Lib.hid (hat W0 rfl)
    obtain ⟨k, hk⟩ : ∃ k, (ndAt s.ns h).kind = k := ⟨_, rfl⟩
    rw [hk] at n0
    by_cases h4 : k = 4
    · have H3 := Lib.hid (fun w' (hb : Below w.heap.size w w') => once_any l w' (a := a) (c := c) hal (hc.later hb))
      have hset : ∀ l, s.ns.set i { ndAt s.ns h with attrs := l } = setNd s.ns h { ndAt s.ns h with attrs := l } := fun l => by rw [setNd, hi]; congr 1; omega
      have HS := Lib.hid hset; have HX := Lib.hid hx; have HA0 := Lib.hid hA0; have HC0 := Lib.hid c0; have HN := Lib.hid hn; have HT := Lib.hid hturn; have HH := Lib.hid hh; have HA1 := Lib.hid hA1
      generalize onceF [] l = oc at *
      obtain ⟨ol, ok⟩ := oc
      dsimp only at *
      subst h4
      clear hh hA hA1 hA0 b0 hbx hW0 hn hat c0 hi hx hk hturn hc hset
      go_enter Tryz.func122, Tryz.ntmps122
      go_wp2_with fail
      rw [HW.out]
      refine H1.out.mono ?_
      rintro e w1 ⟨rfl, rfl⟩
      go_wp2_with fail
      refine H2.out.mono ?_
      rintro e w1 ⟨rfl, rfl⟩
      go_wp2_with fail
      refine (H3.out _ B0.out).mono ?_
      rintro e w2 ⟨va, vc, rfl, hr, b2⟩
      have HR := Lib.hid hr; have HB2 := Lib.hid (bthen B0.out B0.out.size b2)
      have n0 := (b2.cell (p := ⟨g, i * 13, none⟩) (World.block_lt_of_cell? _ _ n0)).trans n0
      cases ok
      · clear hr b2
        go_wp2_with fail
        go_ret
        exact HE.out _ _ HB2.out
      · have c6 := (b2.cell (p := ⟨g, i * 13 + 6, none⟩) (World.block_lt_of_cell? _ _ HN.out.c6)).trans HN.out.c6
        have hA2 := HA1.out.later HB2.out
        obtain ⟨g', cap', kv', av', c0', hn', -, -⟩ := hA2.node HX.out
        have c0 := (b2.cell (p := ⟨T, 0, none⟩) (World.block_lt_of_cell? _ _ HC0.out)).trans HC0.out
        have hgg : g' = g := by
          have := Option.some.inj (c0'.symm.trans c0)
          cases this; rfl
        subst hgg
        have f6 := hn'.fz 6 (by omega)
        obtain ⟨O2, hA3, hm3, ho3⟩ := hA2.atts HX.out c0 (ownsRow_base (Nat.le_trans B0.out.size (Nat.le_refl _)) HR.out) (fun k hk => HA1.out.lt hk)
        rw [HS.out] at hA3
        obtain ⟨O3, hM3, hs3⟩ := HT.out O2 _ _ hA3 ⟨(Mod.of_below HB2.out).trans hm3, ho3⟩
        have HF := Lib.hid (show Act T O w (SetR s h ol) (.returned (.int .i64 0)) _ from ⟨_, O3, hM3, hs3, ⟨_, rfl⟩, .inr ⟨HH.out, rfl⟩⟩)
        clear hr b2 hA2 hn' c0' c0 hA3 hm3 ho3 hM3 hs3
        go_wp2_with fail
        go_ret
        exact HF.out
    · have h4b : (k != 4) = true := by simpa using h4
      clear hh hA hA1 hA0 b0 hbx hW0 hn hat c0 hi hx hk hturn hc h4
      go_enter Tryz.func122, Tryz.ntmps122
      go_wp2_with fail
      rw [HW.out]
      refine H1.out.mono ?_
      rintro e w1 ⟨rfl, rfl⟩
      go_wp2_with fail
      refine H2.out.mono ?_
      rintro e w1 ⟨rfl, rfl⟩
      go_wp2_with fail
      go_ret
      exact HE.out _ _ B0.out
end Go.Proofs.YtdapdadcninidaaGreatDoor
