/- The table of encodings (forms), one span's test (holds), and one piece (piece). -/
import Derived.Test.YtgjodmjegmilhaaDoorBase
namespace Go.Proofs.YtgjodmjegmilhaaDoor
open Go.RowKit

abbrev Span := Nat × Nat
def holdsS (s : Span) (c : UInt8) : Bool := decide (s.1 ≤ c.toNat) && decide (c.toNat ≤ s.2)
def formsL : List (Span × List Span) :=
  [((0, 127), []), ((194, 223), [(128, 191)]), ((224, 224), [(160, 191), (128, 191)]), ((225, 236), [(128, 191), (128, 191)]), ((237, 237), [(128, 159), (128, 191)]),
   ((238, 239), [(128, 191), (128, 191)]), ((240, 240), [(144, 191), (128, 191), (128, 191)]), ((241, 243), [(128, 191), (128, 191), (128, 191)]), ((244, 244), [(128, 143), (128, 191), (128, 191)])]
def IsRest (w : World) (v : Value) (r : List Span) : Prop :=
  (r = [] ∧ v = .slice none 0 0) ∨
  ∃ c cap, v = .slice (some ⟨c, 0, none⟩) r.length cap ∧ ∀ j (h : j < r.length), w.cell? ⟨c, j * 2, none⟩ = some (.int .u8 (r[j].1 : Int)) ∧ w.cell? ⟨c, j * 2 + 1, none⟩ = some (.int .u8 (r[j].2 : Int))
def IsForms (w : World) (v : Value) (fs : List (Span × List Span)) : Prop :=
  ∃ b cap, v = .slice (some ⟨b, 0, none⟩) fs.length cap ∧ ∀ k (h : k < fs.length), w.cell? ⟨b, k * 3, none⟩ = some (.int .u8 (fs[k].1.1 : Int)) ∧ w.cell? ⟨b, k * 3 + 1, none⟩ = some (.int .u8 (fs[k].1.2 : Int)) ∧
    ∃ r, w.cell? ⟨b, k * 3 + 2, none⟩ = some r ∧ IsRest w r fs[k].2

theorem holds_any (lo hi : Nat) (c : UInt8) (w : World) : Calls Tryd.prog 62 #[.agg #[.int .u8 lo, .int .u8 hi], .int .u8 (c.toNat : Int)] w (Ret w (.bool (holdsS (lo, hi) c))) := by
  go_enter Tryd.func62, Tryd.ntmps62
  go_wp2
  all_goals go_ret
  all_goals refine Ret.mk ?_ (by go_grown)
  all_goals simp [holdsS, *]

theorem hag_old (w : World) (o : Obj) (k : Nat) (h : k < w.heap.size) : (w.alloc o).heap[k]? = w.heap[k]? := Below.heap_alloc w o k h
theorem hag_new (w : World) (o : Obj) (k : Nat) (h : k = w.heap.size) : (w.alloc o).heap[k]? = some o := by
  subst h
  show (w.heap.push o)[w.heap.size]? = _
  simp
theorem cell_at {W : World} {b : Nat} {vs : Array Value} {t : TypeId} (h : W.heap[b]? = some (.cells vs t (0, 0))) (i : Nat) (v : Value) (hv : vs[i]? = some v) : W.cell? ⟨b, i, none⟩ = some v := by
  simp [World.cell?, h, hv]
theorem isForms_of {W : World} {n : Nat} {t1 t2 t3 t4 t5 t6 t7 t8 t9 : TypeId} (h1 : W.heap[n + 1]? = some (.cells #[.int .u8 128, .int .u8 191] t1 (0, 0)))
    (h2 : W.heap[n + 2]? = some (.cells #[.int .u8 160, .int .u8 191, .int .u8 128, .int .u8 191] t2 (0, 0)))
    (h3 : W.heap[n + 3]? = some (.cells #[.int .u8 128, .int .u8 191, .int .u8 128, .int .u8 191] t3 (0, 0)))
    (h4 : W.heap[n + 4]? = some (.cells #[.int .u8 128, .int .u8 159, .int .u8 128, .int .u8 191] t4 (0, 0)))
    (h5 : W.heap[n + 5]? = some (.cells #[.int .u8 128, .int .u8 191, .int .u8 128, .int .u8 191] t5 (0, 0)))
    (h6 : W.heap[n + 6]? = some (.cells #[.int .u8 144, .int .u8 191, .int .u8 128, .int .u8 191, .int .u8 128, .int .u8 191] t6 (0, 0)))
    (h7 : W.heap[n + 7]? = some (.cells #[.int .u8 128, .int .u8 191, .int .u8 128, .int .u8 191, .int .u8 128, .int .u8 191] t7 (0, 0)))
    (h8 : W.heap[n + 8]? = some (.cells #[.int .u8 128, .int .u8 143, .int .u8 128, .int .u8 191, .int .u8 128, .int .u8 191] t8 (0, 0)))
    (h9 : W.heap[n + 9]? = some (.cells #[.int .u8 0, .int .u8 127, .slice none 0 0, .int .u8 194, .int .u8 223, .slice (some ⟨n + 1, 0, none⟩) 1 1, .int .u8 224, .int .u8 224, .slice (some ⟨n + 2, 0, none⟩) 2 2, .int .u8 225, .int .u8 236, .slice (some ⟨n + 3, 0, none⟩) 2 2, .int .u8 237, .int .u8 237, .slice (some ⟨n + 4, 0, none⟩) 2 2, .int .u8 238, .int .u8 239, .slice (some ⟨n + 5, 0, none⟩) 2 2, .int .u8 240, .int .u8 240, .slice (some ⟨n + 6, 0, none⟩) 3 3, .int .u8 241, .int .u8 243, .slice (some ⟨n + 7, 0, none⟩) 3 3, .int .u8 244, .int .u8 244, .slice (some ⟨n + 8, 0, none⟩) 3 3] t9 (0, 0))) :
    IsForms W (.slice (some ⟨n + 9, 0, none⟩) 9 9) formsL := by
  refine ⟨_, _, rfl, fun k hk => ?_⟩
  match k, hk with
  | 0, _ => exact ⟨cell_at h9 0 _ rfl, cell_at h9 1 _ rfl, _, cell_at h9 2 _ rfl, .inl ⟨rfl, rfl⟩⟩
  | 1, _ => exact ⟨cell_at h9 3 _ rfl, cell_at h9 4 _ rfl, _, cell_at h9 5 _ rfl, .inr ⟨_, _, rfl, fun j hj => match j, hj with | 0, _ => ⟨cell_at h1 0 _ rfl, cell_at h1 1 _ rfl⟩⟩⟩
  | 2, _ => exact ⟨cell_at h9 6 _ rfl, cell_at h9 7 _ rfl, _, cell_at h9 8 _ rfl, .inr ⟨_, _, rfl, fun j hj => match j, hj with | 0, _ => ⟨cell_at h2 0 _ rfl, cell_at h2 1 _ rfl⟩ | 1, _ => ⟨cell_at h2 2 _ rfl, cell_at h2 3 _ rfl⟩⟩⟩
  | 3, _ => exact ⟨cell_at h9 9 _ rfl, cell_at h9 10 _ rfl, _, cell_at h9 11 _ rfl, .inr ⟨_, _, rfl, fun j hj => match j, hj with | 0, _ => ⟨cell_at h3 0 _ rfl, cell_at h3 1 _ rfl⟩ | 1, _ => ⟨cell_at h3 2 _ rfl, cell_at h3 3 _ rfl⟩⟩⟩
  | 4, _ => exact ⟨cell_at h9 12 _ rfl, cell_at h9 13 _ rfl, _, cell_at h9 14 _ rfl, .inr ⟨_, _, rfl, fun j hj => match j, hj with | 0, _ => ⟨cell_at h4 0 _ rfl, cell_at h4 1 _ rfl⟩ | 1, _ => ⟨cell_at h4 2 _ rfl, cell_at h4 3 _ rfl⟩⟩⟩
  | 5, _ => exact ⟨cell_at h9 15 _ rfl, cell_at h9 16 _ rfl, _, cell_at h9 17 _ rfl, .inr ⟨_, _, rfl, fun j hj => match j, hj with | 0, _ => ⟨cell_at h5 0 _ rfl, cell_at h5 1 _ rfl⟩ | 1, _ => ⟨cell_at h5 2 _ rfl, cell_at h5 3 _ rfl⟩⟩⟩
  | 6, _ => exact ⟨cell_at h9 18 _ rfl, cell_at h9 19 _ rfl, _, cell_at h9 20 _ rfl, .inr ⟨_, _, rfl, fun j hj => match j, hj with | 0, _ => ⟨cell_at h6 0 _ rfl, cell_at h6 1 _ rfl⟩ | 1, _ => ⟨cell_at h6 2 _ rfl, cell_at h6 3 _ rfl⟩ | 2, _ => ⟨cell_at h6 4 _ rfl, cell_at h6 5 _ rfl⟩⟩⟩
  | 7, _ => exact ⟨cell_at h9 21 _ rfl, cell_at h9 22 _ rfl, _, cell_at h9 23 _ rfl, .inr ⟨_, _, rfl, fun j hj => match j, hj with | 0, _ => ⟨cell_at h7 0 _ rfl, cell_at h7 1 _ rfl⟩ | 1, _ => ⟨cell_at h7 2 _ rfl, cell_at h7 3 _ rfl⟩ | 2, _ => ⟨cell_at h7 4 _ rfl, cell_at h7 5 _ rfl⟩⟩⟩
  | 8, _ => exact ⟨cell_at h9 24 _ rfl, cell_at h9 25 _ rfl, _, cell_at h9 26 _ rfl, .inr ⟨_, _, rfl, fun j hj => match j, hj with | 0, _ => ⟨cell_at h8 0 _ rfl, cell_at h8 1 _ rfl⟩ | 1, _ => ⟨cell_at h8 2 _ rfl, cell_at h8 3 _ rfl⟩ | 2, _ => ⟨cell_at h8 4 _ rfl, cell_at h8 5 _ rfl⟩⟩⟩
/-- In every memory whose blocks from lo to hi are as they are here, v holds the forms. -/
def FormsAt (lo hi : Nat) (W0 : World) (v : Value) : Prop := ∀ W, (∀ k, lo ≤ k → k < hi → W.heap[k]? = W0.heap[k]?) → IsForms W v formsL
def RetForms (w : World) (e : Ending) (w' : World) : Prop := ∃ v, e = .returned v ∧ FormsAt w.heap.size w'.heap.size w' v ∧ Below w.heap.size w w'
set_option maxHeartbeats 1000000 in
theorem forms_any (w : World) : Calls Tryd.prog 50 #[] w (RetForms w) := by
  go_enter Tryd.func50, Tryd.ntmps50
  go_wp2
  go_ret
  refine ⟨_, rfl, fun W hW => ?_, by go_grown⟩
  refine isForms_of (n := w.heap.size) (t1 := 83) (t2 := 83) (t3 := 83) (t4 := 83) (t5 := 83) (t6 := 83) (t7 := 83) (t8 := 83) (t9 := 86) ?_ ?_ ?_ ?_ ?_ ?_ ?_ ?_ ?_
  · exact (hW _ (by omega) (by simp only [World.size_alloc]; omega)).trans ((hag_old _ _ _ (by simp only [World.size_alloc]; omega)).trans ((hag_old _ _ _ (by simp only [World.size_alloc]; omega)).trans ((hag_old _ _ _ (by simp only [World.size_alloc]; omega)).trans ((hag_old _ _ _ (by simp only [World.size_alloc]; omega)).trans ((hag_old _ _ _ (by simp only [World.size_alloc]; omega)).trans ((hag_old _ _ _ (by simp only [World.size_alloc]; omega)).trans ((hag_old _ _ _ (by simp only [World.size_alloc]; omega)).trans ((hag_old _ _ _ (by simp only [World.size_alloc]; omega)).trans (hag_new _ _ _ (by simp only [World.size_alloc]))))))))))
  · exact (hW _ (by omega) (by simp only [World.size_alloc]; omega)).trans ((hag_old _ _ _ (by simp only [World.size_alloc]; omega)).trans ((hag_old _ _ _ (by simp only [World.size_alloc]; omega)).trans ((hag_old _ _ _ (by simp only [World.size_alloc]; omega)).trans ((hag_old _ _ _ (by simp only [World.size_alloc]; omega)).trans ((hag_old _ _ _ (by simp only [World.size_alloc]; omega)).trans ((hag_old _ _ _ (by simp only [World.size_alloc]; omega)).trans ((hag_old _ _ _ (by simp only [World.size_alloc]; omega)).trans (hag_new _ _ _ (by simp only [World.size_alloc])))))))))
  · exact (hW _ (by omega) (by simp only [World.size_alloc]; omega)).trans ((hag_old _ _ _ (by simp only [World.size_alloc]; omega)).trans ((hag_old _ _ _ (by simp only [World.size_alloc]; omega)).trans ((hag_old _ _ _ (by simp only [World.size_alloc]; omega)).trans ((hag_old _ _ _ (by simp only [World.size_alloc]; omega)).trans ((hag_old _ _ _ (by simp only [World.size_alloc]; omega)).trans ((hag_old _ _ _ (by simp only [World.size_alloc]; omega)).trans (hag_new _ _ _ (by simp only [World.size_alloc]))))))))
  · exact (hW _ (by omega) (by simp only [World.size_alloc]; omega)).trans ((hag_old _ _ _ (by simp only [World.size_alloc]; omega)).trans ((hag_old _ _ _ (by simp only [World.size_alloc]; omega)).trans ((hag_old _ _ _ (by simp only [World.size_alloc]; omega)).trans ((hag_old _ _ _ (by simp only [World.size_alloc]; omega)).trans ((hag_old _ _ _ (by simp only [World.size_alloc]; omega)).trans (hag_new _ _ _ (by simp only [World.size_alloc])))))))
  · exact (hW _ (by omega) (by simp only [World.size_alloc]; omega)).trans ((hag_old _ _ _ (by simp only [World.size_alloc]; omega)).trans ((hag_old _ _ _ (by simp only [World.size_alloc]; omega)).trans ((hag_old _ _ _ (by simp only [World.size_alloc]; omega)).trans ((hag_old _ _ _ (by simp only [World.size_alloc]; omega)).trans (hag_new _ _ _ (by simp only [World.size_alloc]))))))
  · exact (hW _ (by omega) (by simp only [World.size_alloc]; omega)).trans ((hag_old _ _ _ (by simp only [World.size_alloc]; omega)).trans ((hag_old _ _ _ (by simp only [World.size_alloc]; omega)).trans ((hag_old _ _ _ (by simp only [World.size_alloc]; omega)).trans (hag_new _ _ _ (by simp only [World.size_alloc])))))
  · exact (hW _ (by omega) (by simp only [World.size_alloc]; omega)).trans ((hag_old _ _ _ (by simp only [World.size_alloc]; omega)).trans ((hag_old _ _ _ (by simp only [World.size_alloc]; omega)).trans (hag_new _ _ _ (by simp only [World.size_alloc]))))
  · exact (hW _ (by omega) (by simp only [World.size_alloc]; omega)).trans ((hag_old _ _ _ (by simp only [World.size_alloc]; omega)).trans (hag_new _ _ _ (by simp only [World.size_alloc])))
  · exact (hW _ (by omega) (by simp only [World.size_alloc]; omega)).trans (hag_new _ _ _ (by simp only [World.size_alloc]))

def pieceRest : List Span → List UInt8 → Nat → Nat × Bool
  | [], _, i => (i + 1, true)
  | s :: r, b, i => match b with
    | [] => (i + 1, false)
    | c :: t => if holdsS s c then pieceRest r t (i + 1) else (i + 1, false)
def pieceF : List (Span × List Span) → List UInt8 → Nat × Bool
  | [], _ => (1, false)
  | f :: fs, b => match b with
    | [] => (1, false)
    | c :: t => if holdsS f.1 c then pieceRest f.2 t 0 else pieceF fs b
def pieceL (b : List UInt8) : Nat × Bool := pieceF formsL b
theorem IsRest.below {w w' : World} {v : Value} {r : List Span} {B : Nat} (h : IsRest w v r) (hB : ∀ k, k < w.heap.size → k < B) (hb : Below B w w') : IsRest w' v r := by
  rcases h with h | ⟨c, cap, rfl, hc⟩
  · exact .inl h
  · refine .inr ⟨c, cap, rfl, fun j hj => ?_⟩
    obtain ⟨h1, h2⟩ := hc j hj
    have hlt := hB _ (World.block_lt_of_cell? w _ h1)
    exact ⟨(hb.cell (p := ⟨c, j * 2, none⟩) hlt).trans h1, (hb.cell (p := ⟨c, j * 2 + 1, none⟩) hlt).trans h2⟩
theorem IsForms.kept {w w' : World} {v : Value} {fs : List (Span × List Span)} (h : IsForms w v fs) (hb : Below w.heap.size w w') : IsForms w' v fs := by
  obtain ⟨b, cap, rfl, hc⟩ := h
  refine ⟨b, cap, rfl, fun k hk => ?_⟩
  obtain ⟨h1, h2, r, h3, h4⟩ := hc k hk
  have hlt := World.block_lt_of_cell? w _ h1
  exact ⟨(hb.cell (p := ⟨b, k * 3, none⟩) hlt).trans h1, (hb.cell (p := ⟨b, k * 3 + 1, none⟩) hlt).trans h2, r, (hb.cell (p := ⟨b, k * 3 + 2, none⟩) hlt).trans h3, h4.below (fun _ h => h) hb⟩
end Go.Proofs.YtgjodmjegmilhaaDoor
