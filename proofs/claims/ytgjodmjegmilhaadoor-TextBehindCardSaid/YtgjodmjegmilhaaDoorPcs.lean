/- The iterator of text.pieces: it keeps what is left in a captured variable; its contract. -/
import Derived.Test.YtgjodmjegmilhaaDoorDec2
import Derived.Test.YtgjodmjegmilhaaDoorIter
namespace Go.Proofs.YtgjodmjegmilhaaDoor
open Go.RowKit
attribute [local go_sem] Oper.semAt_some
attribute [local go_sem] sext

theorem pieceRest_bd : ∀ (r : List Span) (b : List UInt8) (i : Nat), i + 1 ≤ (pieceRest r b i).1 ∧ (pieceRest r b i).1 ≤ i + 1 + b.length
  | [], b, i => by simp [pieceRest]
  | s :: r, [], i => by simp [pieceRest]
  | s :: r, c :: t, i => by
    have := pieceRest_bd r t (i + 1)
    rw [pieceRest]
    split
    · simp; omega
    · simp
theorem pieceF_bd : ∀ (fs : List (Span × List Span)) (b : List UInt8), b ≠ [] → 1 ≤ (pieceF fs b).1 ∧ (pieceF fs b).1 ≤ b.length
  | [], b, h => by cases b <;> simp_all [pieceF]
  | f :: fs, [], h => absurd rfl h
  | f :: fs, c :: t, h => by
    have h1 := pieceF_bd fs (c :: t) h
    have h2 := pieceRest_bd f.2 t 0
    rw [pieceF]
    split
    · simp; omega
    · exact h1
theorem pieceL_bd (b : List UInt8) (h : b ≠ []) : 1 ≤ (pieceL b).1 ∧ (pieceL b).1 ≤ b.length := pieceF_bd formsL b h
abbrev Piece := List UInt8 × Bool
def piecesF : Nat → List UInt8 → List Piece
  | 0, _ => []
  | n + 1, b => if b.isEmpty then [] else (b.take (pieceL b).1, (pieceL b).2) :: piecesF n (b.drop (pieceL b).1)
def pieces (b : List UInt8) : List Piece := piecesF b.length b
theorem piecesF_fuel : ∀ (n m : Nat) (b : List UInt8), b.length ≤ n → b.length ≤ m → piecesF n b = piecesF m b
  | 0, m, b, h, _ => by
    obtain rfl : b = [] := List.eq_nil_of_length_eq_zero (by omega)
    cases m <;> simp [piecesF]
  | n + 1, 0, b, _, h => by
    obtain rfl : b = [] := List.eq_nil_of_length_eq_zero (by omega)
    simp [piecesF]
  | n + 1, m + 1, b, h1, h2 => by
    rw [piecesF, piecesF]
    by_cases hb : b = []
    · simp [hb]
    · have := pieceL_bd b hb
      rw [piecesF_fuel n m (b.drop (pieceL b).1) (by simp; omega) (by simp; omega)]
theorem pieces_nil : pieces [] = [] := rfl
theorem pieces_cons (b : List UInt8) (h : b ≠ []) : pieces b = (b.take (pieceL b).1, (pieceL b).2) :: pieces (b.drop (pieceL b).1) := by
  have hb := pieceL_bd b h
  obtain ⟨n, hn⟩ : ∃ n, b.length = n + 1 := ⟨b.length - 1, by omega⟩
  unfold pieces
  rw [hn, piecesF, if_neg (by simpa using h), piecesF_fuel n _ _ (by simp; omega) (Nat.le_refl _)]

def encP (x : Piece) : Array Value := #[.string ⟨x.1.toArray⟩, .bool x.2]
def strSize (w : World) (b : Nat) : Nat := match w.cell? ⟨b, 0, none⟩ with | some (.string s) => s.size | _ => 0
theorem strSize_eq {w : World} {b : Nat} {l : List UInt8} (h : w.cell? ⟨b, 0, none⟩ = some (.string ⟨l.toArray⟩)) : strSize w b = l.length := by
  unfold strSize; rw [h]; rfl

set_option maxRecDepth 100000 in
set_option maxHeartbeats 1000000 in
theorem pieces_iter (n : Nat) (hn : 3 ≤ n) (w : World) (Bb : Nat) (l : List UInt8) (hs : l.length ≤ 1000000000) (hc : w.cell? ⟨Bb, 0, none⟩ = some (.string ⟨l.toArray⟩)) (hf : w.frozen? ⟨Bb, 0, none⟩ = false) :
    IterAt Fence.wide n Tryd.prog 49 #[.pointer (some ⟨Bb, 0, none⟩)] encP (pieces l) (fun k => k = Bb) (fun _ => False) w := by
  intro lp J Jx W hsz hI hJ hJx hY h0
  have hBw := World.block_lt_of_cell? w _ hc
  have hB : Bb < W.heap.size := Nat.lt_of_lt_of_le hBw hsz
  have hcW : W.cell? ⟨Bb, 0, none⟩ = some (.string ⟨l.toArray⟩) := (World.cell?_of_block (w := w) (hI Bb (.inl rfl))).trans hc
  have hfW : W.frozen? ⟨Bb, 0, none⟩ = false := (World.frozen?_of_block (w := w) (hI Bb (.inl rfl))).trans hf
  have HJ := Lib.hid hJ; have HJX := Lib.hid hJx; have HY := Lib.hid hY; have H0 := Lib.hid h0
  clear hJ hJx hY h0 hI hc hf
  refine callsIn_of_wp Tryd.func49 rfl trivial ?_ rfl
  simp only [Tryd.ntmps49, List.size_toArray, List.length_cons, List.length_nil, Nat.reduceAdd, Nat.reduceSub, Array.replicate_succ, Array.replicate_zero, List.push_toArray, List.append_toArray, List.nil_append, List.cons_append]
  gi_wp2_with fail
  refine call_wide (forms_any _) ?_ (by omega)
  rintro e w1 ⟨v, rfl, hF, b1⟩
  have HF := Lib.hid hF; clear hF
  have hc1 : w1.cell? ⟨Bb, 0, none⟩ = some (.string ⟨l.toArray⟩) := (b1.cell (p := ⟨Bb, 0, none⟩) hB).trans hcW
  have hf1 : w1.frozen? ⟨Bb, 0, none⟩ = false := (b1.frozen (p := ⟨Bb, 0, none⟩) hB).trans hfW
  have hs1 := b1.size
  have HJ0 := Lib.hid (HJ.out w1.heap.size 0 _ _ (H0.out w1.heap.size hs1) (Mod.of_below b1))
  obtain ⟨n1, hn1⟩ : ∃ n1, n1 = w1.heap.size := ⟨_, rfl⟩
  rw [← hn1] at HJ0 HF hs1
  have hn1' : n1 ≤ w1.heap.size := by omega
  clear hcW hfW b1 hn1 H0
  gi_wp2_with fail
  gi_loopw [] (fun wr => ∃ (i : Nat) (rest : List UInt8), i ≤ (pieces l).length ∧ rest.length ≤ l.length ∧ n1 ≤ wr.heap.size ∧ wr.cell? ⟨Bb, 0, none⟩ = some (.string ⟨rest.toArray⟩) ∧ wr.frozen? ⟨Bb, 0, none⟩ = false ∧ J n1 i wr ∧ (pieces l).drop i = pieces rest ∧ FormsAt W.heap.size n1 wr v)
    (fun wr => strSize wr Bb)
  case atStart => exact ⟨0, l, Nat.zero_le _, Nat.le_refl _, hn1', hc1, hf1, HJ0.out, rfl, HF.out⟩
  case round =>
    obtain ⟨i, rest, hi, hr, hsz1, hc, hf, hj, hd, hF⟩ := hrel
    have HD := Lib.hid hd; have HJ1 := Lib.hid hj; have HF1 := Lib.hid hF
    clear hd hj hF HJ0 HF hc1 hf1
    by_cases hnil : rest = []
    · subst hnil
      have HE : Hid (i = (pieces l).length) := Lib.hid (by
        have h1 := congrArg List.length HD.out
        rw [pieces_nil] at h1
        simp at h1
        omega)
      gi_wp2_with fail
      go_end0
      exact ⟨⟨_, rfl⟩, n1, hs1, hsz1, .inl (by rw [← HE.out]; exact HJ1.out)⟩
    · have hp := pieceL_bd rest hnil
      have hne : rest.isEmpty = false := by simpa using hnil
      have hpos : 0 < rest.length := List.length_pos_iff.2 hnil
      have hpc := pieces_cons rest hnil
      have h104 := piece_any v rest wr hpos (by omega) (HF1.out wr (fun _ _ _ => rfl))
      obtain ⟨⟨k, wh⟩, hkw⟩ : ∃ kw, pieceL rest = kw := ⟨_, rfl⟩
      rw [hkw] at hp h104 hpc
      dsimp only at hp h104 hpc
      have H104 := Lib.hid h104; clear h104
      obtain ⟨hp1, hp2⟩ := hp
      have hxi : (pieces l)[i]? = some (rest.take k, wh) := by
        have h1 : (List.drop i (pieces l))[0]? = some (rest.take k, wh) := by rw [HD.out, hpc]; rfl
        simpa using h1
      have hdi : Hid ((pieces l).drop (i + 1) = pieces (rest.drop k)) := Lib.hid (by
        rw [← List.drop_drop, HD.out, hpc]; rfl)
      have hil : i < (pieces l).length := (List.getElem?_eq_some_iff.1 hxi).1
      have HXI := Lib.hid hxi
      clear hpc hkw hxi HD
      gi_wp2_with fail
      refine call_wide H104.out ?_ (by omega)
      rintro e w2 ⟨rfl, b2⟩
      have hb2s := b2.size
      have hcl := World.block_lt_of_cell? wr _ hc
      have hc2 : w2.cell? ⟨Bb, 0, none⟩ = some (.string ⟨rest.toArray⟩) := (b2.cell (p := ⟨Bb, 0, none⟩) hcl).trans hc
      have hf2 : w2.frozen? ⟨Bb, 0, none⟩ = false := (b2.frozen (p := ⟨Bb, 0, none⟩) hcl).trans hf
      have hJ2 := HJ.out n1 i _ _ HJ1.out (Mod.of_below b2)
      obtain ⟨fn, tmps, assign, body, hy, hR⟩ := HY.out n1 i _ w2 HXI.out hJ2 hs1 (by omega)
      dsimp only [encP] at hy
      have HR := Lib.hid hR
      have HCW := Lib.hid hc
      clear hJ2 hR hc hf
      gi_wp2_with fail
      refine ⟨fun _ => by omega, ?_⟩
      refine HR.out.mono ?_
      rintro e W3 ⟨(⟨rfl, hj3⟩ | ⟨rfl, hj3⟩), hm3⟩
      · have hm3s := hm3.size
        have hc3 : W3.cell? ⟨Bb, 0, none⟩ = some (.string ⟨rest.toArray⟩) := (hm3.cell (p := ⟨Bb, 0, none⟩) (by show Bb < _; omega) (fun h => h.1 rfl)).trans hc2
        have hf3 : W3.frozen? ⟨Bb, 0, none⟩ = false := (hm3.frozen (p := ⟨Bb, 0, none⟩) (by show Bb < _; omega) (fun h => h.1 rfl)).trans hf2
        have HJ3 := Lib.hid hj3; have HM3 := Lib.hid hm3; have HB2 := Lib.hid b2
        have hc2l := World.block_lt_of_cell? _ _ hc3
        clear hj3 hm3 hy HR hc2 hf2
        gi_wp2_with fail
        go_roundw
        case rel =>
          refine ⟨i + 1, rest.drop k, by omega, by simp; omega, by simp [World.setCell]; omega, ?_, ?_, ?_, hdi.out, ?_⟩
          · rw [List.take_of_length_le (by simp)]; exact World.cell?_setCell_same' _ _ _ (by rw [hc3]; rfl)
          · rw [World.frozen?_setCell]; exact hf3
          · exact HJ.out n1 (i + 1) _ _ HJ3.out (Mod.setCell W3 _ (.inl rfl))
          · intro W' hW'
            refine HF1.out W' (fun q h1 h2 => (hW' q h1 h2).trans ?_)
            refine (Below.heap_setCell _ _ _ _ (by show q ≠ Bb; omega)).trans ?_
            exact (HM3.out.block q (by omega) (fun h => h.2.2 ⟨h1, h2⟩)).trans (HB2.out.block q (by omega))
        case measure =>
          rw [strSize_eq HCW.out]
          have h1 : strSize (W3.setCell ⟨Bb, 0, none⟩ (.string ⟨((rest.drop k).take (rest.length - k)).toArray⟩)) Bb = ((rest.drop k).take (rest.length - k)).length := strSize_eq (World.cell?_setCell_same' _ _ _ (by rw [hc3]; rfl))
          rw [h1]
          simp
          omega
      · have hm3s := hm3.size
        have HJ3 := Lib.hid hj3
        clear hj3 hm3 hy
        gi_wp2_with fail
        refine bodyPost_ret (results_none rfl _ _ _) rfl ?_
        exact ⟨⟨_, rfl⟩, n1, hs1, by omega, .inr ⟨i + 1, by omega, HJ3.out⟩⟩
end Go.Proofs.YtgjodmjegmilhaaDoor
