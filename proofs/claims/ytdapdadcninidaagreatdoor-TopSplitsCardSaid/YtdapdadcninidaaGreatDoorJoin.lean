/- Package dom: join. No condition but that each node's parent has it. -/
import Derived.Test.YtdapdadcninidaaGreatDoorLoc
namespace Go.Proofs.YtdapdadcninidaaGreatDoor
open Go.RowKit
attribute [local go_sem ↓] Go.wp_at_zero Go.wp_at_succ
attribute [local go_sem] sapp

theorem row_someJ {w : World} {b : Nat} {ka : Option Addr} {n kc : Nat} {xs : List Value} (h : w.ownsRow b 3 1 (.slice ka n kc) n xs) (hn : 0 < n) : ∃ gk, ka = some ⟨gk, 0, none⟩ := by
  rcases row_cells h with ⟨_, h0, _⟩ | ⟨gk, cap, cur, hv, _⟩
  · omega
  · cases hv; exact ⟨gk, rfl⟩
theorem row_keep {w w' : World} {b n s : Nat} {e : TypeId} {v : Value} {xs : List Value} (h : w.ownsRow b e s v n xs) (hk : ∀ g, v.ownBlock = some g → w'.heap[g]? = w.heap[g]?) : w'.ownsRow b e s v n xs := by
  refine ⟨h.1, ?_⟩
  rcases h.2 with h | ⟨g, cap, cur, hv, hg, hgg, r⟩
  · exact .inl h
  · exact .inr ⟨g, cap, cur, hv, hg, (hk g (by rw [hv]; rfl)).trans hgg, r⟩
structure JS where
  ns : List Nd
  first : Nat
  data : List UInt8
def setD (ns : List Nd) (h : Int) (l : List UInt8) : List Nd := if setDataE ns h = 0 then setNd ns h { ndAt ns h with data := l } else ns
def cutR (ns : List Nd) (h : Int) : List Nd := if cutE ns h = 0 then cutL ns h else ns
def jEnd (s : JS) : JS := ⟨if s.first = 0 then s.ns else setD s.ns s.first s.data, 0, []⟩
def jStep (s : JS) (k : Nat) : JS :=
  if (descAt s.ns k).kind = 5 then (if s.first = 0 ∧ (descAt s.ns k).data ≠ [] then ⟨s.ns, k, (descAt s.ns k).data⟩ else ⟨cutR s.ns k, s.first, s.data ++ (descAt s.ns k).data⟩) else jEnd s
def joinL (ns : List Nd) (ks : List Nat) : List Nd := (jEnd (ks.foldl jStep ⟨ns, 0, []⟩)).ns
def JOk : JS → List Nat → Prop
  | s, [] => Fit s.ns
  | s, k :: ks => Fit s.ns ∧ s.data.length + (descAt s.ns k).data.length ≤ 1000000000 ∧ (isH s.ns.length k = true → CutOk s.ns k) ∧ JOk (jStep s k) ks
theorem JOk.fit {s : JS} {ks : List Nat} (h : JOk s ks) : Fit s.ns := by
  cases ks with
  | nil => exact h
  | cons k ks => exact h.1
/-- join's three local blocks. -/
structure JCells (B : Nat) (w : World) (first : Nat) (data : List UInt8) (w1 : World) : Prop where
  a : w1.heap[w.heap.size]? = some (.cells #[.pointer (some ⟨B, 0, none⟩)] 23 (0, 0))
  f : w1.heap[w.heap.size + 1]? = some (.cells #[.int .i64 (first : Nat)] 3 (0, 0))
  d : w1.heap[w.heap.size + 2]? = some (.cells #[.string ⟨data.toArray⟩] 9 (0, 0))
theorem JCells.keep {B : Nat} {w w1 w2 : World} {first : Nat} {data : List UInt8} (h : JCells B w first data w1) (hk : ∀ b, w.heap.size ≤ b ∧ b < w.heap.size + 3 → w2.heap[b]? = w1.heap[b]?) : JCells B w first data w2 :=
  ⟨(hk _ (by omega)).trans h.a, (hk _ (by omega)).trans h.f, (hk _ (by omega)).trans h.d⟩
/-- The two variables are set. -/
theorem JCells.set {B : Nat} {w w1 : World} {first : Nat} {data : List UInt8} (h : JCells B w first data w1) (f' : Nat) (d' : List UInt8) :
    JCells B w f' d' ((w1.setCell ⟨w.heap.size + 1, 0, none⟩ (.int .i64 (f' : Nat))).setCell ⟨w.heap.size + 2, 0, none⟩ (.string ⟨d'.toArray⟩)) ∧
    JCells B w f' d' ((w1.setCell ⟨w.heap.size + 2, 0, none⟩ (.string ⟨d'.toArray⟩)).setCell ⟨w.heap.size + 1, 0, none⟩ (.int .i64 (f' : Nat))) := by
  obtain ⟨h1, h2, h3⟩ := h
  have far : ∀ (W : World) (b c : Nat) (v : Value), c ≠ b → (W.setCell ⟨b, 0, none⟩ v).heap[c]? = W.heap[c]? := fun W b c v hn => Below.heap_setCell W ⟨b, 0, none⟩ v c hn
  have set1 : ∀ (W : World), W.heap[w.heap.size + 1]? = some (.cells #[.int .i64 (first : Nat)] 3 (0, 0)) → (W.setCell ⟨w.heap.size + 1, 0, none⟩ (.int .i64 (f' : Nat))).heap[w.heap.size + 1]? = some (.cells #[.int .i64 (f' : Nat)] 3 (0, 0)) := fun W hW => by
    rw [Joins.block_setCell (i := 0) hW]; rfl
  have set2 : ∀ (W : World), W.heap[w.heap.size + 2]? = some (.cells #[.string ⟨data.toArray⟩] 9 (0, 0)) → (W.setCell ⟨w.heap.size + 2, 0, none⟩ (.string ⟨d'.toArray⟩)).heap[w.heap.size + 2]? = some (.cells #[.string ⟨d'.toArray⟩] 9 (0, 0)) := fun W hW => by
    rw [Joins.block_setCell (i := 0) hW]; rfl
  refine ⟨⟨?_, ?_, ?_⟩, ⟨?_, ?_, ?_⟩⟩
  · rw [far _ _ _ _ (by omega), far _ _ _ _ (by omega)]; exact h1
  · rw [far _ _ _ _ (by omega)]; exact set1 _ h2
  · exact set2 _ (by rw [far _ _ _ _ (by omega)]; exact h3)
  · rw [far _ _ _ _ (by omega), far _ _ _ _ (by omega)]; exact h1
  · exact set1 _ (by rw [far _ _ _ _ (by omega)]; exact h2)
  · rw [far _ _ _ _ (by omega)]; exact set2 _ h3
theorem JCells.setd {B : Nat} {w w1 : World} {first : Nat} {data : List UInt8} (h : JCells B w first data w1) (d' : List UInt8) : JCells B w first d' (w1.setCell ⟨w.heap.size + 2, 0, none⟩ (.string ⟨d'.toArray⟩)) := by
  obtain ⟨h1, h2, h3⟩ := h
  refine ⟨(Below.heap_setCell _ ⟨w.heap.size + 2, 0, none⟩ _ _ (by dsimp only; omega)).trans h1, (Below.heap_setCell _ ⟨w.heap.size + 2, 0, none⟩ _ _ (by dsimp only; omega)).trans h2, ?_⟩
  rw [Joins.block_setCell (i := 0) h3]; rfl
set_option maxRecDepth 100000 in
set_option maxHeartbeats 1000000 in
theorem joinEnd_any (s : JS) (w w1 : World) {B n : Nat} {O O1 : List Nat} (hn : 3 ≤ n) (hL : Loc B n O w O1 s.ns w1) (hC : JCells B w s.first s.data w1) (hf : Fit s.ns) :
    Calls Tryz.prog 100 #[.pointer (some ⟨w.heap.size + 1, 0, none⟩), .pointer (some ⟨w.heap.size, 0, none⟩), .pointer (some ⟨w.heap.size + 2, 0, none⟩)] w1 fun e w2 => e = .returned (.tuple #[]) ∧ ∃ O2, Loc B n O w O2 (jEnd s).ns w2 ∧ JCells B w 0 [] w2 ∧ ∀ b, w.heap.size ≤ b ∧ b < w.heap.size + n → b ≠ w.heap.size + 1 → b ≠ w.heap.size + 2 → w2.heap[b]? = w1.heap[b]? := by
  obtain ⟨ns, first, data⟩ := s
  dsimp only at hL hC hf
  have ca : w1.cell? ⟨w.heap.size, 0, none⟩ = some (.pointer (some ⟨B, 0, none⟩)) := by rw [cell_of_row _ _ _ _ _ _ hC.a]; rfl
  have cf : w1.cell? ⟨w.heap.size + 1, 0, none⟩ = some (.int .i64 (first : Nat)) := by rw [cell_of_row _ _ _ _ _ _ hC.f]; rfl
  have cd : w1.cell? ⟨w.heap.size + 2, 0, none⟩ = some (.string ⟨data.toArray⟩) := by rw [cell_of_row _ _ _ _ _ _ hC.d]; rfl
  have HFin := Lib.hid (fun (O2 : List Nat) (ns2 : List Nd) (w2 : World) (h2 : Loc B n O w O2 ns2 w2) (hC2 : JCells B w first data w2) =>
    show Loc B n O w O2 ns2 ((w2.setCell ⟨w.heap.size + 1, 0, none⟩ (.int .i64 0)).setCell ⟨w.heap.size + 2, 0, none⟩ (.string ⟨#[]⟩)) ∧ JCells B w 0 [] ((w2.setCell ⟨w.heap.size + 1, 0, none⟩ (.int .i64 0)).setCell ⟨w.heap.size + 2, 0, none⟩ (.string ⟨#[]⟩)) ∧ (∀ b, b ≠ w.heap.size + 1 → b ≠ w.heap.size + 2 → ((w2.setCell ⟨w.heap.size + 1, 0, none⟩ (.int .i64 0)).setCell ⟨w.heap.size + 2, 0, none⟩ (.string ⟨#[]⟩)).heap[b]? = w2.heap[b]?) from
      ⟨(h2.set _ (by omega)).set _ (by omega), (hC2.set 0 []).1, fun b h1 h2 => (Below.heap_setCell _ ⟨w.heap.size + 2, 0, none⟩ _ b h2).trans (Below.heap_setCell _ ⟨w.heap.size + 1, 0, none⟩ _ b h1)⟩)
  by_cases h0 : first = 0
  · subst h0
    have ff : w1.frozen? ⟨w.heap.size + 1, 0, none⟩ = false := Lib.frozen_of_heap hC.f 0
    have fd : w1.frozen? ⟨w.heap.size + 2, 0, none⟩ = false := Lib.frozen_of_heap hC.d 0
    have HL := Lib.hid hL; have HC := Lib.hid hC
    clear hL hC hf
    go_enter Tryz.func100, Tryz.ntmps100
    go_wp2
    go_end0
    obtain ⟨q1, q2, q3⟩ := HFin.out _ _ _ HL.out HC.out
    exact ⟨rfl, _, q1, q2, fun b _ h1 h2 => q3 b h1 h2⟩
  · have hz : ((first : Int) != 0) = true := by simpa using h0
    have H1 := Lib.hid (SetData_any first data w1 hL.ar hf.len)
    have HL := Lib.hid hL; have HC := Lib.hid hC
    clear hL hC hf
    go_enter Tryz.func100, Tryz.ntmps100
    go_wp2_with fail
    refine H1.out.mono ?_
    rintro e w2 hd
    obtain ⟨O2, hA2, hs2⟩ := hd.step HL.out.ar
    obtain ⟨rfl, -⟩ := hd
    have hL2 := HL.out.call hA2 hs2
    have HK2 := Lib.hid (fun b hb => HL.out.keep hs2 (b := b) hb)
    have hC2 := HC.out.keep fun b hb => HL.out.keep hs2 (by omega)
    have cf := hC2.f
    have ff : w2.frozen? ⟨w.heap.size + 1, 0, none⟩ = false := Lib.frozen_of_heap hC2.f 0
    have fd : w2.frozen? ⟨w.heap.size + 2, 0, none⟩ = false := Lib.frozen_of_heap hC2.d 0
    have cf2 : w2.cell? ⟨w.heap.size + 1, 0, none⟩ = some (.int .i64 (first : Nat)) := by rw [cell_of_row _ _ _ _ _ _ hC2.f]; rfl
    have cd2 : w2.cell? ⟨w.heap.size + 2, 0, none⟩ = some (.string ⟨data.toArray⟩) := by rw [cell_of_row _ _ _ _ _ _ hC2.d]; rfl
    have HF := Lib.hid (HFin.out O2 _ w2 hL2 hC2)
    clear cf
    clear hA2 hs2 hL2 hC2
    go_wp2
    go_end0
    obtain ⟨q1, q2, q3⟩ := HF.out
    refine ⟨rfl, O2, ?_, q2, fun b hb h1 h2 => (q3 b h1 h2).trans (HK2.out b hb)⟩
    rw [show (jEnd ⟨ns, first, data⟩).ns = if setDataE ns first = 0 then setNd ns first { ndAt ns first with data := data } else ns by simp [jEnd, h0, setD]]
    exact q1
set_option maxRecDepth 100000 in
set_option maxHeartbeats 4000000 in
theorem join_any (h : Int) (w : World) {B : Nat} {O : List Nat} {ns : List Nd} (hA : ArW B O ns w) (hok : JOk ⟨ns, 0, []⟩ (kidsAt ns h)) :
    Calls Tryz.prog 56 #[.pointer (some ⟨B, 0, none⟩), .int .i64 h] w fun e w' => e = .returned (.tuple #[]) ∧ ∃ O', ArW B O' (joinL ns (kidsAt ns h)) w' ∧ AStep O w O' w' := by
  have hf := hok.fit
  obtain ⟨W0, hW0⟩ : ∃ W0, ((w.alloc (.cells #[.pointer (some ⟨B, 0, none⟩)] 23)).alloc (.cells #[.int .i64 0] 3)).alloc (.cells #[.string ⟨#[]⟩] 9) = W0 := ⟨_, rfl⟩
  obtain ⟨x0, x1, x2, hs0, b0⟩ := three_newA hW0
  have hC0 : JCells B w 0 [] W0 := ⟨x0, x1, x2⟩
  have HK := Lib.hid (Kids_any h W0 (hA.later b0) hf.len (hf.kids h))
  have HW := Lib.hid hW0; have HC0 := Lib.hid hC0; have HB0 := Lib.hid b0; have HA := Lib.hid hA; have HOK := Lib.hid hok
  have ca := by have := x0; exact (show W0.cell? ⟨w.heap.size, 0, none⟩ = some (.pointer (some ⟨B, 0, none⟩)) by rw [cell_of_row _ _ _ _ _ _ this]; rfl)
  have hkl := hf.kids h
  have HSZ := Lib.hid hs0
  clear hW0 hC0 b0 hA hok x0 x1 x2 hf hs0
  have HE : Hid (joinL ns (kidsAt ns h) = (jEnd ((kidsAt ns h).foldl jStep ⟨ns, 0, []⟩)).ns) := Lib.hid rfl
  generalize kidsAt ns h = ks at *
  have hmf : ∀ (fn : Fn) (first cap : Array Value) (w : World), (Instr.makeFunc fn first cap).run Tryz.prog w = .ok (.func fn first cap) w := fun _ _ _ _ => rfl
  go_enter Tryz.func56, Tryz.ntmps56
  go_wp2_with fail
  rw [HW.out, show w.heap.size + 1 + 1 = w.heap.size + 2 from rfl]
  go_wp2_with fail
  refine HK.out.mono ?_
  rintro e w4 ⟨v, rfl, hr, b4⟩
  obtain ⟨ka, kc, rfl⟩ := ownsRow_slice hr
  have hs4 := b4.size
  obtain ⟨n, hn⟩ : ∃ n, w.heap.size + n = w4.heap.size := ⟨w4.heap.size - w.heap.size, by have := HSZ.out; omega⟩
  have hn3 : 3 ≤ n := by have := HSZ.out; omega
  have HL4 := Lib.hid (Loc.start (n := n) HA.out (bthen HB0.out HB0.out.size b4) (by omega))
  have HC4 := Lib.hid (HC0.out.keep fun b hb => b4.block b (by have := HSZ.out; omega))
  have HR := Lib.hid hr
  have HN := Lib.hid hn
  clear hr b4 hn hs4 ca HC0 HK
  go_wp2_with fail
  go_loopw [16] (fun s16 wr => ∃ (j : Nat) (s : JS) (O1 : List Nat), j ≤ ks.length ∧ s16 = .int .i64 (j : Nat) ∧ Loc B n O w O1 s.ns wr ∧ JCells B w s.first s.data wr ∧ JOk s (ks.drop j) ∧ (ks.drop j).foldl jStep s = ks.foldl jStep ⟨ns, 0, []⟩ ∧ wr.ownsRow (w.heap.size + 3) 3 1 (.slice ka ks.length kc) ks.length (kidCells ks)) (fun i _ => ks.length - (intOf i).toNat)
  case atStart => exact ⟨0, _, O, Nat.zero_le _, rfl, HL4.out, HC4.out, HOK.out, rfl, by have := HR.out; rw [HSZ.out] at this; exact this⟩
  case round =>
    obtain ⟨j, s, O1, hj, rfl, hL, hC, hok, hfold, hrow⟩ := hrel
    have hlocal : ∀ g, (Value.slice ka ks.length kc).ownBlock = some g → w.heap.size ≤ g ∧ g < w.heap.size + n := fun g hg => by
      have h1 := ownsRow_lt HR.out hg
      have h2 := HN.out
      rcases HR.out.2 with ⟨e, _⟩ | ⟨g', cap, cur, e, hge, _⟩
      · rw [e] at hg; cases hg
      · rw [e] at hg; cases hg; have := HSZ.out; dsimp only at *; omega
    have HLo := Lib.hid hlocal
    have HLo2 : Hid (∀ g, (Value.slice ka ks.length kc).ownBlock = some g → g ≠ w.heap.size + 1 ∧ g ≠ w.heap.size + 2) := Lib.hid (fun g hg => by
      have := hrow.2
      rcases this with ⟨e, _⟩ | ⟨g', cap, cur, e, hge, _⟩
      · rw [e] at hg; cases hg
      · rw [e] at hg; cases hg; dsimp only; omega)
    have HRow := Lib.hid hrow
    clear hlocal hrow HL4 HC4 HOK HA HB0 HW
    by_cases hlt : j < ks.length
    · obtain ⟨gk, rfl⟩ := row_someJ HRow.out (by omega)
      have hcell := row_at HRow.out j (natV ks[j]) (by simp [kidCells, hlt])
      have hdr : ks.drop j = ks[j] :: ks.drop (j + 1) := List.drop_eq_getElem_cons hlt
      rw [hdr] at hok hfold
      obtain ⟨hf, hdl, hcut, hok2⟩ := hok
      rw [List.foldl_cons] at hfold
      obtain ⟨k, hk⟩ : ∃ k, ks[j] = k := ⟨_, rfl⟩
      rw [hk] at hcell hdl hcut hok2 hfold
      simp only [natV] at hcell
      have hji : (j : Int) < (ks.length : Int) := by omega
      have ca : wr.cell? ⟨w.heap.size, 0, none⟩ = some (.pointer (some ⟨B, 0, none⟩)) := by rw [cell_of_row _ _ _ _ _ _ hC.a]; rfl
      have H1 := Lib.hid (NodeD_any k wr hL.ar hf)
      have HL := Lib.hid hL; have HC := Lib.hid hC; have HF := Lib.hid hf; have HDL := Lib.hid hdl; have HCU := Lib.hid hcut; have HOK2 := Lib.hid hok2; have HFO := Lib.hid hfold
      have HST : Hid (jStep s k = if (descAt s.ns k).kind = 5 then (if s.first = 0 ∧ (descAt s.ns k).data ≠ [] then ⟨s.ns, k, (descAt s.ns k).data⟩ else ⟨cutR s.ns k, s.first, s.data ++ (descAt s.ns k).data⟩) else jEnd s) := Lib.hid rfl
      clear hL hC hf hdl hcut hok2 hfold hdr hk
      generalize descAt s.ns k = d at *
      go_wp2_with fail
      refine H1.out.mono ?_
      rintro e w5 ⟨k1, k2, a1, a2, rfl, -, -, b5⟩
      have b5s := b5.size
      have HB5 := Lib.hid b5
      have hwl : w.heap.size + 3 ≤ w5.heap.size := by have := HL.out.sz; omega
      have HL6 := Lib.hid (fun o => (HL.out.below HB5.out).below (balloc w5 o))
      have HC6 := Lib.hid (fun o => HC.out.keep (w2 := w5.alloc o) fun b hb => (Below.heap_alloc _ _ _ (by omega)).trans (HB5.out.block b (by have := HL.out.sz; omega)))
      have HR6 := Lib.hid (fun o => ownsRow_below (ownsRow_below HRow.out HB5.out) (balloc w5 o))
      have ca6 : ∀ o, (w5.alloc o).cell? ⟨w.heap.size, 0, none⟩ = some (.pointer (some ⟨B, 0, none⟩)) := fun o => by rw [cell_of_row _ _ _ _ _ _ (HC6.out o).a]; rfl
      have cf6 : ∀ o, (w5.alloc o).cell? ⟨w.heap.size + 1, 0, none⟩ = some (.int .i64 (s.first : Nat)) := fun o => by rw [cell_of_row _ _ _ _ _ _ (HC6.out o).f]; rfl
      have cd6 : ∀ o, (w5.alloc o).cell? ⟨w.heap.size + 2, 0, none⟩ = some (.string ⟨s.data.toArray⟩) := fun o => by rw [cell_of_row _ _ _ _ _ _ (HC6.out o).d]; rfl
      have ff6 : ∀ o, (w5.alloc o).frozen? ⟨w.heap.size + 1, 0, none⟩ = false := fun o => Lib.frozen_of_heap (HC6.out o).f 0
      have fd6 : ∀ o, (w5.alloc o).frozen? ⟨w.heap.size + 2, 0, none⟩ = false := fun o => Lib.frozen_of_heap (HC6.out o).d 0
      -- the round's end
      have HNext := Lib.hid (fun (s2 : JS) (O2 : List Nat) (w2 : World) (he : jStep s k = s2) (hL2 : Loc B n O w O2 s2.ns w2) (hC2 : JCells B w s2.first s2.data w2) (hR2 : w2.ownsRow (w.heap.size + 3) 3 1 (.slice (some ⟨gk, 0, none⟩) ks.length kc) ks.length (kidCells ks)) =>
        show ∃ (j2 : Nat) (s : JS) (O1 : List Nat), j2 ≤ ks.length ∧ (Value.int .i64 ((j : Int) + 1)) = .int .i64 (j2 : Nat) ∧ Loc B n O w O1 s.ns w2 ∧ JCells B w s.first s.data w2 ∧ JOk s (ks.drop j2) ∧ (ks.drop j2).foldl jStep s = ks.foldl jStep ⟨ns, 0, []⟩ ∧ w2.ownsRow (w.heap.size + 3) 3 1 (.slice (some ⟨gk, 0, none⟩) ks.length kc) ks.length (kidCells ks) from
          ⟨j + 1, s2, O2, by omega, by simp, hL2, hC2, he ▸ HOK2.out, he ▸ HFO.out, hR2⟩)
      clear b5 H1 ca hcell
      cases hk5 : (d.kind != 5)
      · have hk5' : d.kind = 5 := by simpa using hk5
        have HST2 := Lib.hid (HST.out.trans (if_pos hk5'))
        clear hk5' HST
        by_cases hq : s.first = 0 ∧ d.data ≠ []
        · have HST3 := Lib.hid (HST2.out.trans (if_pos hq))
          obtain ⟨hq1, hq2⟩ := hq
          rw [hq1] at cf6
          have hde : d.data.isEmpty = false := by cases hdd : d.data with | nil => exact absurd hdd hq2 | cons a l => rfl
          clear HST2 hq1
          go_wp2
          go_region
          all_goals
            generalize hW6 : w5.alloc _ = W6
            have L6 := hW6 ▸ HL6.out _
            have C6 := hW6 ▸ HC6.out _
            have R6 := hW6 ▸ HR6.out _
            have b1 := (L6.set (b := w.heap.size + 1) (o := 0) (.int .i64 (k : Nat)) (by omega)).set (b := w.heap.size + 2) (o := 0) (.string ⟨d.data.toArray⟩) (by omega)
            have b2 := (L6.set (b := w.heap.size + 2) (o := 0) (.string ⟨d.data.toArray⟩) (by omega)).set (b := w.heap.size + 1) (o := 0) (.int .i64 (k : Nat)) (by omega)
            have HX := Lib.hid (HNext.out _ _ _ HST3.out b1 (C6.set k d.data).1 (row_keep R6 fun g hg => (Below.heap_setCell _ ⟨w.heap.size + 2, 0, none⟩ _ g (HLo2.out g hg).2).trans (Below.heap_setCell _ ⟨w.heap.size + 1, 0, none⟩ _ g (HLo2.out g hg).1)))
            have HY := Lib.hid (HNext.out _ _ _ HST3.out b2 (C6.set k d.data).2 (row_keep R6 fun g hg => (Below.heap_setCell _ ⟨w.heap.size + 1, 0, none⟩ _ g (HLo2.out g hg).1).trans (Below.heap_setCell _ ⟨w.heap.size + 2, 0, none⟩ _ g (HLo2.out g hg).2)))
            have HXd := Lib.hid (HNext.out _ _ _ HST3.out b1.drew ⟨(C6.set k d.data).1.a, (C6.set k d.data).1.f, (C6.set k d.data).1.d⟩ (row_keep R6 fun g hg => (Below.heap_setCell _ ⟨w.heap.size + 2, 0, none⟩ _ g (HLo2.out g hg).2).trans (Below.heap_setCell _ ⟨w.heap.size + 1, 0, none⟩ _ g (HLo2.out g hg).1)))
            have HYd := Lib.hid (HNext.out _ _ _ HST3.out b2.drew ⟨(C6.set k d.data).2.a, (C6.set k d.data).2.f, (C6.set k d.data).2.d⟩ (row_keep R6 fun g hg => (Below.heap_setCell _ ⟨w.heap.size + 1, 0, none⟩ _ g (HLo2.out g hg).1).trans (Below.heap_setCell _ ⟨w.heap.size + 2, 0, none⟩ _ g (HLo2.out g hg).2)))
            clear L6 C6 R6 b1 b2 hW6
            go_wp2
            go_roundw
            case rel => first | exact HX.out | exact HY.out | exact HXd.out | exact HYd.out
            case measure => simp [intOf]; omega
        · have HST3 := Lib.hid (HST2.out.trans (if_neg hq))
          have hq3 : s.first ≠ 0 ∨ (s.first = 0 ∧ d.data = []) := by
            by_cases h0 : s.first = 0
            · exact .inr ⟨h0, Classical.not_not.1 fun h => hq ⟨h0, h⟩⟩
            · exact .inl h0
          clear HST2 hq
          rcases hq3 with hq3 | ⟨hq3, hq4⟩
          · have hz : ((s.first : Int) == 0) = false := by simpa using hq3
            clear hq3
            have hsum := HDL.out
            go_wp2_with fail
            generalize hW6 : w5.alloc _ = W6
            have L6 := Lib.hid (hW6 ▸ HL6.out _)
            have C6 := Lib.hid (hW6 ▸ HC6.out _)
            have R6 := Lib.hid (hW6 ▸ HR6.out _)
            have L7 := Lib.hid (L6.out.set (b := w.heap.size + 2) (o := 0) (.string ⟨(s.data ++ d.data).toArray⟩) (by omega))
            have C7 := Lib.hid (C6.out.setd (s.data ++ d.data))
            clear hW6 cf6 cd6 ca6 ff6 fd6
            refine (Cut_any k _ L7.out.ar HF.out.len HCU.out).mono ?_
            rintro e w8 hd
            obtain ⟨O2, hA2, hs2⟩ := hd.step L7.out.ar
            obtain ⟨rfl, -⟩ := hd
            have HX := Lib.hid (HNext.out _ _ _ HST3.out (L7.out.call hA2 hs2) (C7.out.keep fun b hb => L7.out.keep hs2 (by omega)) (row_keep R6.out fun g hg => (L7.out.keep hs2 (HLo.out g hg)).trans (Below.heap_setCell _ ⟨w.heap.size + 2, 0, none⟩ _ g (HLo2.out g hg).2)))
            clear hA2 hs2
            go_wp2
            go_roundw
            case rel => exact HX.out
            case measure => simp [intOf]; omega
          · rw [hq3] at cf6
            have hsum := HDL.out
            have HST4 := Lib.hid (show jStep s k = ⟨cutR s.ns k, s.first, s.data⟩ by have := HST3.out; rwa [hq4, List.append_nil] at this)
            have hd0 : d.data = [] := hq4
            clear hq4
            go_wp2_with fail
            generalize hW6 : w5.alloc _ = W6
            have L6 := Lib.hid (hW6 ▸ HL6.out _)
            have C6 := Lib.hid (hW6 ▸ HC6.out _)
            have R6 := Lib.hid (hW6 ▸ HR6.out _)
            have L7 := Lib.hid (L6.out.set (b := w.heap.size + 2) (o := 0) (.string ⟨s.data.toArray⟩) (by omega))
            have C7 := Lib.hid (C6.out.setd s.data)
            clear hW6 cf6 cd6 ca6 ff6 fd6
            refine (Cut_any k _ L7.out.ar HF.out.len HCU.out).mono ?_
            rintro e w8 hd
            obtain ⟨O2, hA2, hs2⟩ := hd.step L7.out.ar
            obtain ⟨rfl, -⟩ := hd
            have HX := Lib.hid (HNext.out _ _ _ HST4.out (L7.out.call hA2 hs2) (C7.out.keep fun b hb => L7.out.keep hs2 (by omega)) (row_keep R6.out fun g hg => (L7.out.keep hs2 (HLo.out g hg)).trans (Below.heap_setCell _ ⟨w.heap.size + 2, 0, none⟩ _ g (HLo2.out g hg).2)))
            clear hA2 hs2
            go_wp2
            go_roundw
            case rel => exact HX.out
            case measure => simp [intOf]; omega
      · have hk5' : d.kind ≠ 5 := by simpa using hk5
        have HST2 := Lib.hid (HST.out.trans (if_neg hk5'))
        clear hk5' HST
        go_wp2_with fail
        refine (joinEnd_any s w _ hn3 (HL6.out _) (HC6.out _) HF.out).mono ?_
        rintro e w7 ⟨rfl, O2, hL7, hC7, hk7⟩
        have HX := Lib.hid (HNext.out _ O2 w7 HST2.out hL7 hC7 (row_keep (HR6.out _) fun g hg => hk7 g (HLo.out g hg) (HLo2.out g hg).1 (HLo2.out g hg).2))
        clear hL7 hC7 hk7
        go_wp2
        go_roundw
        case rel => exact HX.out
        case measure => simp [intOf]; omega
    · have hje : j = ks.length := by omega
      subst hje
      rw [List.drop_length] at hok hfold
      have hf : Fit s.ns := hok
      rw [List.foldl_nil] at hfold
      have HFO := Lib.hid hfold
      have HJE := Lib.hid (joinEnd_any s w wr hn3 hL hC hf)
      clear hL hC hok hf hfold
      go_wp2_with fail
      refine HJE.out.mono ?_
      rintro e w7 ⟨rfl, O2, hL7, -, -⟩
      have HX := Lib.hid (show ∃ O', ArW B O' (joinL ns ks) w7 ∧ AStep O w O' w7 from ⟨O2, by rw [HE.out, ← HFO.out]; exact hL7.ar, hL7.step⟩)
      clear hL7
      go_wp2
      go_end0
      exact ⟨rfl, HX.out⟩
end Go.Proofs.YtdapdadcninidaaGreatDoor
