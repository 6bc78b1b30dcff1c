/- text.Decode and text.Input. -/
import Derived.Test.YtgjodmjegmilhaaDoorDcd
import Derived.Test.YtgjodmjegmilhaaDoorBld
namespace Go.Proofs.YtgjodmjegmilhaaDoor
open Go.RowKit
attribute [local go_sem] Oper.semAt_some
attribute [local go_sem] sext

def pieceOut (x : Piece) : List UInt8 := if x.2 then x.1 else [239, 191, 189]
def decPre (l : List UInt8) (i : Nat) : List UInt8 := ((pieces l).take i).flatMap pieceOut
def decL (l : List UInt8) : List UInt8 := (pieces l).flatMap pieceOut
theorem decPre_zero (l : List UInt8) : decPre l 0 = [] := rfl
theorem decPre_all (l : List UInt8) : decPre l (pieces l).length = decL l := by unfold decPre decL; rw [List.take_length]
theorem decPre_succ {l : List UInt8} {i : Nat} {x : Piece} (h : (pieces l)[i]? = some x) : decPre l (i + 1) = decPre l i ++ pieceOut x := by
  obtain ⟨hi, rfl⟩ := List.getElem?_eq_some_iff.1 h
  unfold decPre
  rw [List.take_succ_eq_append_getElem hi, List.flatMap_append]
  simp
theorem out_len (n : Nat) : ∀ b : List UInt8, b.length ≤ n → ((piecesF n b).flatMap pieceOut).length ≤ 3 * b.length := by
  induction n with
  | zero => intro b h; simp [piecesF]
  | succ n ih =>
    intro b h
    rw [piecesF]
    by_cases hb : b = []
    · simp [hb]
    · have hp := pieceL_bd b hb
      have h1 := ih (b.drop (pieceL b).1) (by simp; omega)
      rw [if_neg (by simpa using hb)]
      have h2 : (pieceOut (b.take (pieceL b).1, (pieceL b).2)).length ≤ 3 * (pieceL b).1 := by
        unfold pieceOut
        split
        · simp; omega
        · simp; omega
      simp only [List.flatMap_cons, List.length_append]
      simp only [List.length_drop] at h1
      omega
theorem piecesF_mem (n : Nat) : ∀ (b : List UInt8) (x : Piece), x ∈ piecesF n b → x.1.length ≤ b.length := by
  induction n with
  | zero => intro b x h; simp [piecesF] at h
  | succ n ih =>
    intro b x h
    rw [piecesF] at h
    split at h
    · simp at h
    · rcases List.mem_cons.1 h with rfl | h
      · simp; omega
      · have := ih _ _ h; simp at this; omega
theorem piece_len {l : List UInt8} {i : Nat} {x : Piece} (h : (pieces l)[i]? = some x) : x.1.length ≤ l.length := piecesF_mem _ _ _ (List.mem_of_getElem? h)
theorem decL_len (l : List UInt8) : (decL l).length ≤ 3 * l.length := out_len l.length l (Nat.le_refl _)
theorem decPre_len (l : List UInt8) (i : Nat) : (decPre l i).length ≤ 3 * l.length := by
  refine Nat.le_trans ?_ (decL_len l)
  have h : decL l = decPre l i ++ ((pieces l).drop i).flatMap pieceOut := by
    unfold decL decPre
    rw [← List.flatMap_append, List.take_append_drop]
  rw [h, List.length_append]; omega

def DecJ (l : List UInt8) (w : World) (Bb n1 i : Nat) (W : World) : Prop :=
  ((i = 0 ∧ W.heap[w.heap.size]? = some (.cells #[.pointer none, .slice none 0 0] 53 (0, 0))) ∨ (Bb < n1 ∧ Bld n1 w.heap.size (Lib.byteCells (decPre l i)) W)) ∧ Below w.heap.size w W
theorem DecJ.bld {l : List UInt8} {w : World} {Bb n1 i : Nat} {W : World} (h : DecJ l w Bb n1 i W) (hn : w.heap.size < n1) : Bld n1 w.heap.size (Lib.byteCells (decPre l i)) W := by
  rcases h.1 with ⟨rfl, h0⟩ | h
  · exact Bld.fresh h0 hn
  · exact h.2

set_option maxRecDepth 100000 in
set_option maxHeartbeats 1000000 in
theorem Decode_any (l : List UInt8) (w : World) (hs : l.length ≤ 1000000000) : Calls Tryd.prog 19 #[.string ⟨l.toArray⟩] w (Ret w (.string ⟨(decL l).toArray⟩)) := by
  obtain ⟨n, hn⟩ : ∃ n, 9 ≤ n := ⟨9, Nat.le_refl _⟩
  refine (callsIn_wide (n := n)).1 ?_
  refine callsIn_of_wp_marks Tryd.func19 rfl trivial ?_ rfl
  simp only [Tryd.ntmps19, List.size_toArray, List.length_cons, List.length_nil, Nat.reduceAdd, Nat.reduceSub, Array.replicate_succ, Array.replicate_zero, List.push_toArray, List.append_toArray, List.nil_append, List.cons_append]
  gi_wp2_with fail
  refine call_wide (pieces_any _ _) ?_ (by omega)
  rintro e w1 ⟨Bb, rfl, hBb, hc, hf, b1⟩
  have hBl := World.block_lt_of_cell? _ _ hc
  simp only [World.size_alloc] at hBb
  have hb1 : w1.heap[w.heap.size]? = some (.cells #[.pointer none, .slice none 0 0] 53 (0, 0)) := (b1.block w.heap.size (by simp)).trans (by rw [World.alloc_heap_new])
  have hw1 : w.heap.size < w1.heap.size := (Array.getElem?_eq_some_iff.1 hb1).1
  have hbw : Below w.heap.size w w1 := bthen (balloc w _) (by simp) b1
  have HS := Lib.hid (pieces_iter (n - 1) (by omega) w1 Bb l hs hc hf)
  clear b1 hc hf
  gi_wp2_with fail
  refine wpIn_rangeFunc_it rfl (by omega) (gf := 49) rfl trivial enter_pieces1 HS.out (Nat.le_refl _) (fun k h => h.elim) (fun k h => ?_) (fun x => rfl)
    (fun n1 i W => DecJ l w Bb n1 i W) (fun _ _ _ _ => False) ?keep (fun _ _ _ _ _ h _ => h) ?start ?round ?done (fun _ _ _ _ _ _ _ _ h => h.elim)
  · rcases h with rfl | h
    · exact ⟨hBl, rfl⟩
    · exact h.elim
  case keep =>
    rintro n1 i A B ⟨h1, h3⟩ hm
    refine ⟨?_, hm.oldB h3 (Nat.le_refl _) hbw.size (by omega)⟩
    rcases h1 with ⟨h0, h1⟩ | h1
    · exact .inl ⟨h0, (hm.block _ (Array.getElem?_eq_some_iff.1 h1).1 (fun e => by rcases e with e | e <;> omega)).trans h1⟩
    · exact .inr ⟨h1.1, h1.2.kept (fun k hk hb => hm.block k hk (fun e => by have := h1.1; rcases hb with hb | hb <;> rcases e with e | e <;> omega))⟩
  case start => exact fun _ _ => ⟨.inl ⟨rfl, hb1⟩, hbw⟩
  case round =>
    rintro lp ⟨p, wh⟩ W
    dsimp only [encP]
    gi_wp2_with fail
    refine ⟨trivial, ?_⟩
    rintro n1 i W' hx hj hn1 hn1' -
    have hbl := hj.bld (by omega)
    have hj2 := hj.2
    have hdl := decPre_len l i
    have hpx : p.length ≤ l.length := piece_len hx
    have HX := Lib.hid hx
    clear hx hj
    cases wh
    · have hws := WriteString_bld n1 w.heap.size _ [239, 191, 189] W' hbl (by omega) (by simp [Lib.byteCells_length]; omega)
      rw [← Lib.byteCells_append, show decPre l i ++ [239, 191, 189] = decPre l (i + 1) from (decPre_succ HX.out).symm] at hws
      have HW := Lib.hid hws; have HBL := Lib.hid hbl
      clear hws hbl
      gi_wp2_with fail
      refine call_round HW.out ?_ (by omega)
      rintro e w2 ⟨rfl, hb2, hm2⟩
      replace hm2 := HBL.out.mod hm2
      have HJ2 := Lib.hid (show DecJ l w Bb n1 (i + 1) w2 from ⟨.inr ⟨by omega, .inr hb2⟩, hj2.trans (hm2.below hj2.size (fun k hk e => by rcases e with e | e <;> omega))⟩)
      have HM2 := Lib.hid hm2
      clear hb2 hm2 hj2
      gi_wp2_with fail
      exact ⟨HJ2.out, HM2.out.mono (fun k _ h => ⟨fun e => by rcases h with h | h <;> omega, fun e => e, fun e => by rcases h with h | h <;> omega⟩)⟩
    · have hws := WriteString_bld n1 w.heap.size _ p W' hbl (by omega) (by simp [Lib.byteCells_length]; omega)
      rw [← Lib.byteCells_append, show decPre l i ++ p = decPre l (i + 1) from (decPre_succ HX.out).symm] at hws
      have HW := Lib.hid hws; have HBL := Lib.hid hbl
      clear hws hbl
      gi_wp2_with fail
      refine call_round HW.out ?_ (by omega)
      rintro e w2 ⟨rfl, hb2, hm2⟩
      replace hm2 := HBL.out.mod hm2
      have HJ2 := Lib.hid (show DecJ l w Bb n1 (i + 1) w2 from ⟨.inr ⟨by omega, .inr hb2⟩, hj2.trans (hm2.below hj2.size (fun k hk e => by rcases e with e | e <;> omega))⟩)
      have HM2 := Lib.hid hm2
      clear hb2 hm2 hj2
      gi_wp2_with fail
      exact ⟨HJ2.out, HM2.out.mono (fun k _ h => ⟨fun e => by rcases h with h | h <;> omega, fun e => e, fun e => by rcases h with h | h <;> omega⟩)⟩
  case done =>
    rintro D n1 W hn1 hn2 hj hD hK
    have hbl := hj.bld (by omega)
    rw [decPre_all] at hbl
    have hst := Lib.hid (String_bld n1 _ _ _ hbl)
    have hj2 := Lib.hid hj.2
    clear hj hbl
    gi_wp2_with fail
    refine call_wide hst.out ?_ (by omega)
    rintro e w2 ⟨rfl, hb2, ho2⟩
    have hK2 : w2.heap[D]? = some (.deferred (some [])) := ho2 D _ hK (fun e => by cases e; omega) (fun c fz e => by cases e)
    have HB2 := Lib.hid (hj2.out.trans hb2)
    clear hb2 ho2 hK hst
    gi_wp2_with fail
    refine ⟨by simp, .inl ⟨_, _, rfl, run_takeDeferred hK2, ?_⟩⟩
    exact ⟨_, results_tmp rfl _ _ _, Ret.mk rfl (below_put HB2.out (by omega))⟩

theorem Input_any (l : List UInt8) (w : World) (hg : Good w) (hs : l.length ≤ 100000000) : Calls Tryd.prog 20 #[.string ⟨l.toArray⟩] w (Ret w (.string ⟨(newlines (decL l)).toArray⟩)) := by
  have HG := Lib.hid hg; clear hg
  go_enter Tryd.func20, Tryd.ntmps20
  go_wp2_with fail
  refine (Decode_any l _ (by omega)).mono ?_
  rintro e w1 ⟨rfl, b1⟩
  go_wp2_with fail
  refine (Newlines_any (decL l) _ (HG.out.kept b1) (by have := decL_len l; omega)).mono ?_
  rintro e w2 ⟨rfl, b2⟩
  go_wp2_with fail
  go_ret
  exact Ret.mk rfl (bthen b1 b1.size b2)
end Go.Proofs.YtgjodmjegmilhaaDoor
