/- text.Count, text.Valid, text.Decode, text.Input: loops over the pieces. -/
import Derived.Test.YtpfnakonpledgaaDoorPcs
import Derived.Test.YtpfnakonpledgaaDoorNew
namespace Go.Proofs.YtpfnakonpledgaaDoor
open Go.RowKit
attribute [local go_sem] Oper.semAt_some
attribute [local go_sem] sext

def RetPieces (l : List UInt8) (w : World) (e : Ending) (w' : World) : Prop :=
  ∃ Bb, e = .returned (.func (.func 102) #[] #[.pointer (some ⟨Bb, 0, none⟩)]) ∧ w.heap.size ≤ Bb ∧ w'.cell? ⟨Bb, 0, none⟩ = some (.string ⟨l.toArray⟩) ∧ w'.frozen? ⟨Bb, 0, none⟩ = false ∧ Below w.heap.size w w'
theorem pieces_any (l : List UInt8) (w : World) : Calls Tryd.prog 76 #[.string ⟨l.toArray⟩] w (RetPieces l w) := by
  go_enter Tryd.func76, Tryd.ntmps76
  go_wp2
  go_ret
  exact ⟨w.heap.size, rfl, Nat.le_refl _, by go_cell, by go_cell, by go_grown⟩
theorem enter_pieces1 (args : Array Value) (W : World) : (callFunc 102 args).run Tryd.prog W = .ok (.enter 102 args) W := by simp [go_sem]

/-- Behind the loop the block of its deferred calls is shut. -/
theorem below_put {n D : Nat} {w W : World} {o : Obj} (h : Below n w W) (hD : n ≤ D) : Below n w (W.putObj D o) :=
  ⟨h.os, h.tape, h.output, by simpa using h.size, fun k hk => (World.putObj_heap_other (by omega)).trans (h.block k hk)⟩

/-- Cells of the caller's own, ahead of the loop, abide the iterator's steps. -/
theorem Mod.old {m n1 Bb : Nat} {A B : World} (h : Mod (ItS m n1 (fun k => k = Bb)) A B) {b o : Nat} {v : Value} (hc : A.cell? ⟨b, o, none⟩ = some v) (hb : b < m) (hne : b ≠ Bb) : B.cell? ⟨b, o, none⟩ = some v :=
  (h.cell (p := ⟨b, o, none⟩) (World.block_lt_of_cell? _ _ hc) (fun e => by rcases e with e | e; exact hne e; exact absurd hb (by show ¬ b < m; have := e.1; simp at this; omega))).trans hc
theorem Mod.oldF {m n1 Bb : Nat} {A B : World} (h : Mod (ItS m n1 (fun k => k = Bb)) A B) {b o : Nat} {v : Value} (hc : A.cell? ⟨b, o, none⟩ = some v) (hf : A.frozen? ⟨b, o, none⟩ = false) (hb : b < m) (hne : b ≠ Bb) : B.frozen? ⟨b, o, none⟩ = false :=
  (h.frozen (p := ⟨b, o, none⟩) (World.block_lt_of_cell? _ _ hc) (fun e => by rcases e with e | e; exact hne e; exact absurd hb (by show ¬ b < m; have := e.1; simp at this; omega))).trans hf
theorem Mod.oldB {m n1 Bb n : Nat} {w A B : World} (h : Mod (ItS m n1 (fun k => k = Bb)) A B) (hb : Below n w A) (hn : n ≤ w.heap.size) (hm : n ≤ m) (hB : n ≤ Bb) : Below n w B :=
  hb.trans (h.below (Nat.le_trans hn hb.size) (fun k hk e => by rcases e with e | e <;> omega))
def CountJ (w : World) (i : Nat) (W : World) : Prop := W.cell? ⟨w.heap.size, 0, none⟩ = some (.int .i64 (i : Nat)) ∧ W.frozen? ⟨w.heap.size, 0, none⟩ = false ∧ Below w.heap.size w W
theorem pieces_len_le (l : List UInt8) : (pieces l).length ≤ l.length := by
  have : ∀ n b, (piecesF n b).length ≤ n := by
    intro n
    induction n with
    | zero => intro b; simp [piecesF]
    | succ n ih =>
      intro b
      rw [piecesF]
      split
      · simp
      · have := ih (b.drop (pieceL b).1); simp; omega
  exact this _ _

theorem putObj_cell {W : World} {D b o : Nat} {x : Obj} {v : Value} (h : W.cell? ⟨b, o, none⟩ = some v) (hne : b ≠ D) : (W.putObj D x).cell? ⟨b, o, none⟩ = some v :=
  (World.cell?_of_block (w := W) (World.putObj_heap_other hne)).trans h

set_option maxRecDepth 100000 in
set_option maxHeartbeats 1000000 in
theorem Count_any (l : List UInt8) (w : World) (hs : l.length ≤ 1000000000) : Calls Tryd.prog 59 #[.string ⟨l.toArray⟩] w (Ret w (.int .i64 ((pieces l).length : Nat))) := by
  obtain ⟨n, hn⟩ : ∃ n, 9 ≤ n := ⟨9, Nat.le_refl _⟩
  refine (callsIn_wide (n := n)).1 ?_
  refine callsIn_of_wp_marks Tryd.func59 rfl trivial ?_ rfl
  simp only [Tryd.ntmps59, List.size_toArray, List.length_cons, List.length_nil, Nat.reduceAdd, Nat.reduceSub, Array.replicate_succ, Array.replicate_zero, List.push_toArray, List.append_toArray, List.nil_append, List.cons_append]
  gi_wp2_with fail
  refine call_wide (pieces_any _ _) ?_ (by omega)
  rintro e w1 ⟨Bb, rfl, hBb, hc, hf, b1⟩
  have hBn1 : w1.cell? ⟨w.heap.size, 0, none⟩ = some (.int .i64 0) := (b1.cell (p := ⟨w.heap.size, 0, none⟩) (by simp)).trans (by go_cell)
  have hBf1 : w1.frozen? ⟨w.heap.size, 0, none⟩ = false := (b1.frozen (p := ⟨w.heap.size, 0, none⟩) (by simp)).trans (by go_cell)
  have hBl := World.block_lt_of_cell? _ _ hc
  have hw1 : w.heap.size < w1.heap.size := World.block_lt_of_cell? _ _ hBn1
  simp only [World.size_alloc] at hBb
  have hbw : Below w.heap.size w w1 := bthen (balloc w _) (by simp) b1
  have HS := Lib.hid (pieces_iter (n - 1) (by omega) w1 Bb l hs hc hf)
  gi_wp2_with fail
  refine wpIn_rangeFunc_it rfl (by omega) (gf := 102) rfl trivial enter_pieces1 HS.out (Nat.le_refl _) (fun k h => h.elim) (fun k h => ?_) (fun x => rfl)
    (fun _ i W => CountJ w i W) (fun _ _ _ _ => False) ?keep (fun _ _ _ _ _ h _ => h) ?start ?round ?done (fun _ _ _ _ _ _ _ _ h => h.elim)
  · rcases h with rfl | h
    · exact ⟨hBl, rfl⟩
    · exact h.elim
  case keep =>
    rintro n1 i A B ⟨h1, h2, h3⟩ hm
    exact ⟨hm.old h1 hw1 (by omega), hm.oldF h1 h2 hw1 (by omega), hm.oldB h3 (Nat.le_refl _) hbw.size (by omega)⟩
  case start => exact fun _ _ => ⟨hBn1, hBf1, hbw⟩
  case round =>
    rintro lp ⟨p, wh⟩ W
    dsimp only [encP]
    gi_wp2_with fail
    refine ⟨trivial, ?_⟩
    rintro n1 i W' hx ⟨h1, h2, h3⟩ hn1 hn1' -
    have hi : i < (pieces l).length := (List.getElem?_eq_some_iff.1 hx).1
    have hpl := pieces_len_le l
    clear hx
    gi_wp2_with fail
    refine ⟨⟨?_, ?_, ?_⟩, ?_⟩
    · exact World.cell?_setCell_same' _ _ _ (by rw [h1]; rfl)
    · rw [World.frozen?_setCell]; exact h2
    · exact h3.setCell (Nat.le_refl _) _
    · refine Mod.setCell _ _ ⟨?_, fun h => h, ?_⟩
      · show w.heap.size ≠ Bb; omega
      · show ¬ (w1.heap.size ≤ w.heap.size ∧ _); omega
  case done =>
    rintro D n1 W hn1 hn2 ⟨h1, h2, h3⟩ hD hK
    gi_wp2_with fail
    refine ⟨by simp, .inl ⟨_, _, rfl, run_takeDeferred hK, ?_⟩⟩
    exact ⟨_, results_tmp rfl _ _ _, Ret.mk rfl (below_put h3 (by omega))⟩

def validL (l : List UInt8) : Bool := (pieces l).all fun x => x.2
def ValidJ (l : List UInt8) (w : World) (i : Nat) (W : World) : Prop :=
  (∀ j x, j < i → (pieces l)[j]? = some x → x.2 = true) ∧ (∃ v, W.cell? ⟨w.heap.size, 0, none⟩ = some (.bool v)) ∧ W.frozen? ⟨w.heap.size, 0, none⟩ = false ∧ Below w.heap.size w W
def ValidX (l : List UInt8) (w : World) (c : Code) (W : World) : Prop :=
  c = .ret ∧ validL l = false ∧ W.cell? ⟨w.heap.size, 0, none⟩ = some (.bool false) ∧ Below w.heap.size w W
theorem validL_true {l : List UInt8} (h : ∀ j x, j < (pieces l).length → (pieces l)[j]? = some x → x.2 = true) : validL l = true := by
  unfold validL
  rw [List.all_eq_true]
  intro x hx
  obtain ⟨j, hj, rfl⟩ := List.getElem_of_mem hx
  exact h j _ hj (List.getElem?_eq_getElem hj)
theorem validL_false {l : List UInt8} {i : Nat} {x : Piece} (hx : (pieces l)[i]? = some x) (h : x.2 = false) : validL l = false := by
  unfold validL
  rw [List.all_eq_false]
  exact ⟨x, List.mem_of_getElem? hx, by simp [h]⟩

set_option maxRecDepth 100000 in
set_option maxHeartbeats 1000000 in
theorem Valid_any (l : List UInt8) (w : World) (hs : l.length ≤ 1000000000) : Calls Tryd.prog 60 #[.string ⟨l.toArray⟩] w (Ret w (.bool (validL l))) := by
  obtain ⟨n, hn⟩ : ∃ n, 9 ≤ n := ⟨9, Nat.le_refl _⟩
  refine (callsIn_wide (n := n)).1 ?_
  refine callsIn_of_wp_marks Tryd.func60 rfl trivial ?_ rfl
  simp only [Tryd.ntmps60, List.size_toArray, List.length_cons, List.length_nil, Nat.reduceAdd, Nat.reduceSub, Array.replicate_succ, Array.replicate_zero, List.push_toArray, List.append_toArray, List.nil_append, List.cons_append]
  gi_wp2_with fail
  refine call_wide (pieces_any _ _) ?_ (by omega)
  rintro e w1 ⟨Bb, rfl, hBb, hc, hf, b1⟩
  have hBn1 : w1.cell? ⟨w.heap.size, 0, none⟩ = some (.bool false) := (b1.cell (p := ⟨w.heap.size, 0, none⟩) (by simp)).trans (by go_cell)
  have hBf1 : w1.frozen? ⟨w.heap.size, 0, none⟩ = false := (b1.frozen (p := ⟨w.heap.size, 0, none⟩) (by simp)).trans (by go_cell)
  have hBl := World.block_lt_of_cell? _ _ hc
  have hw1 : w.heap.size < w1.heap.size := World.block_lt_of_cell? _ _ hBn1
  simp only [World.size_alloc] at hBb
  have hbw : Below w.heap.size w w1 := bthen (balloc w _) (by simp) b1
  have HS := Lib.hid (pieces_iter (n - 1) (by omega) w1 Bb l hs hc hf)
  gi_wp2_with fail
  refine wpIn_rangeFunc_it rfl (by omega) (gf := 102) rfl trivial enter_pieces1 HS.out (Nat.le_refl _) (fun k h => h.elim) (fun k h => ?_) (fun x => rfl)
    (fun _ i W => ValidJ l w i W) (fun _ c _ W => ValidX l w c W) ?keep ?keepx ?start ?round ?done ?stop
  · rcases h with rfl | h
    · exact ⟨hBl, rfl⟩
    · exact h.elim
  case keep =>
    rintro n1 i A B ⟨h0, ⟨v, h1⟩, h2, h3⟩ hm
    exact ⟨h0, ⟨v, hm.old h1 hw1 (by omega)⟩, hm.oldF h1 h2 hw1 (by omega), hm.oldB h3 (Nat.le_refl _) hbw.size (by omega)⟩
  case keepx =>
    rintro n1 c i A B ⟨h0, h1, h2, h3⟩ hm
    exact ⟨h0, h1, hm.old h2 hw1 (by omega), hm.oldB h3 (Nat.le_refl _) hbw.size (by omega)⟩
  case start => exact fun _ _ => ⟨fun j x h _ => absurd h (Nat.not_lt_zero _), ⟨_, hBn1⟩, hBf1, hbw⟩
  case round =>
    rintro lp ⟨p, wh⟩ W
    dsimp only [encP]
    gi_wp2_with fail
    refine ⟨trivial, ?_⟩
    rintro n1 i W' hx ⟨h0, ⟨v, h1⟩, h2, h3⟩ hn1 hn1' -
    have HX := Lib.hid hx; have H0 := Lib.hid h0
    clear hx h0
    cases wh
    · gi_wp2_with fail
      refine ⟨⟨rfl, validL_false HX.out rfl, ?_, ?_⟩, ?_⟩
      · exact World.cell?_setCell_same' _ _ _ (by rw [h1]; rfl)
      · exact h3.setCell (Nat.le_refl _) _
      · refine Mod.setCell _ _ ⟨?_, fun h => h, ?_⟩
        · show w.heap.size ≠ Bb; omega
        · show ¬ (w1.heap.size ≤ w.heap.size ∧ _); omega
    · gi_wp2_with fail
      refine ⟨⟨fun j x hj hx => ?_, ⟨v, h1⟩, h2, h3⟩, Mod.refl _ _⟩
      by_cases e : j = i
      · subst e
        have := HX.out.symm.trans hx
        cases this; rfl
      · exact H0.out j x (by omega) hx
  case done =>
    rintro D n1 W hn1 hn2 ⟨h0, ⟨v, h1⟩, h2, h3⟩ hD hK
    have HV := Lib.hid (validL_true h0); clear h0
    gi_wp2_with fail
    have hK' := (Below.heap_setCell W ⟨w.heap.size, 0, none⟩ (.bool true) D (by show D ≠ w.heap.size; omega)).trans hK
    refine ⟨by simp, .inl ⟨_, _, rfl, run_takeDeferred hK', ?_⟩⟩
    have hr := putObj_cell (D := D) (x := .deferred none) (World.cell?_setCell_same' W ⟨w.heap.size, 0, none⟩ (.bool true) (by rw [h1]; rfl)) (by omega)
    exact ⟨.bool true, by simp [results, Tryd.results60, go_sem, hr], Ret.mk (by rw [HV.out]) (below_put (h3.setCell (Nat.le_refl _) _) (by omega))⟩
  case stop =>
    rintro D n1 c i W hn1 hn2 hi ⟨rfl, h1, h2, h3⟩ hD hK
    have H1 := Lib.hid h1; clear h1
    gi_wp2_with fail
    refine ⟨by simp, .inl ⟨_, _, rfl, run_takeDeferred hK, ?_⟩⟩
    have hr := putObj_cell (D := D) (x := .deferred none) h2 (by omega)
    exact ⟨.bool false, by simp [results, Tryd.results60, go_sem, hr], Ret.mk (by rw [H1.out]) (below_put h3 (by omega))⟩
end Go.Proofs.YtpfnakonpledgaaDoor
