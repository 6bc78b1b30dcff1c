/- thicketlaw01: TextTable. -/
import Derived.Test.YtgjodmjegmilhaaDoorNit
import Derived.Test.YtgjodmjegmilhaaDoorPl8
import Derived.Test.YtgjodmjegmilhaaDoorKn
import Derived.Test.YtgjodmjegmilhaaDoorRq
namespace Go.Proofs.YtgjodmjegmilhaaDoor
open Go.RowKit
attribute [local go_sem] Oper.semAt_some
attribute [local go_sem] sext
attribute [local go_sem] sapp

theorem ltL_less : ∀ s t : List UInt8, ltL s t = true → Op.bytesLess t s = false ∧ (t == s) = false
  | [], [], h => by simp [ltL] at h
  | [], _ :: _, _ => by simp [Op.bytesLess]
  | _ :: _, [], h => by simp [ltL] at h
  | a :: s, b :: t, h => by
    have ih := ltL_less s t
    simp only [ltL, Bool.or_eq_true, decide_eq_true_eq, Bool.and_eq_true, beq_iff_eq, UInt8.lt_iff_toNat_lt] at h
    rcases h with h | ⟨rfl, h⟩
    · have hne : ¬ b = a := fun e => by subst e; omega
      have hlt : ¬ b < a := by rw [UInt8.lt_iff_toNat_lt]; omega
      refine ⟨?_, ?_⟩
      · simp [Op.bytesLess, hne, hlt]
      · simp [hne]
    · obtain ⟨h1, h2⟩ := ih h
      refine ⟨?_, ?_⟩
      · simp [Op.bytesLess, h1, UInt8.lt_irrefl]
      · simpa using h2
theorem run_leq_no {a b : List UInt8} (h : ltL b a = true) (t : TypeId) (P : Program) (W : World) : (binOp BinOp.leq t (.string ⟨a.toArray⟩) (.string ⟨b.toArray⟩)).run P W = .ok (.bool false) W := by
  obtain ⟨h1, h2⟩ := ltL_less b a h
  simp only [binOp, Op.stringOp, Lib.toList_data, h1, h2]
  rfl

structure TbJ (es : List Ent) (ns : List UInt8) (k : Int) (w : World) (i a : Nat) (lst : List UInt8) (W : World) : Prop where
  c0 : W.cell? ⟨w.heap.size, 0, none⟩ = some (.int .i64 k)
  c1 : W.cell? ⟨w.heap.size + 1, 0, none⟩ = some (.bool false)
  c2 : W.cell? ⟨w.heap.size + 2, 0, none⟩ = some (.int .i64 (a : Nat))
  c3 : W.cell? ⟨w.heap.size + 3, 0, none⟩ = some (.string ⟨lst.toArray⟩)
  c4 : W.cell? ⟨w.heap.size + 4, 0, none⟩ = some (.int .i64 (i : Nat))
  f1 : W.frozen? ⟨w.heap.size + 1, 0, none⟩ = false
  f2 : W.frozen? ⟨w.heap.size + 2, 0, none⟩ = false
  f3 : W.frozen? ⟨w.heap.size + 3, 0, none⟩ = false
  f4 : W.frozen? ⟨w.heap.size + 4, 0, none⟩ = false
  tb : TabAt es ns a i
  kk : k < 0 ∨ (i : Int) ≤ k
  pv : ∀ x, 0 < i → es[i - 1]? = some x → x.1 = lst
  bl : Below w.heap.size w W
theorem TbJ.kept {es : List Ent} {ns : List UInt8} {k : Int} {w A B : World} {i a : Nat} {lst : List UInt8} (h : TbJ es ns k w i a lst A) (hm : Mod (fun k => w.heap.size + 5 ≤ k) A B) : TbJ es ns k w i a lst B := by
  have l0 := World.block_lt_of_cell? _ _ h.c0
  have l1 := World.block_lt_of_cell? _ _ h.c1
  have l2 := World.block_lt_of_cell? _ _ h.c2
  have l3 := World.block_lt_of_cell? _ _ h.c3
  have l4 := World.block_lt_of_cell? _ _ h.c4
  exact ⟨(hm.cell (p := ⟨_, 0, none⟩) l0 (by dsimp only; omega)).trans h.c0, (hm.cell (p := ⟨_, 0, none⟩) l1 (by dsimp only; omega)).trans h.c1, (hm.cell (p := ⟨_, 0, none⟩) l2 (by dsimp only; omega)).trans h.c2, (hm.cell (p := ⟨_, 0, none⟩) l3 (by dsimp only; omega)).trans h.c3, (hm.cell (p := ⟨_, 0, none⟩) l4 (by dsimp only; omega)).trans h.c4,
    (hm.frozen (p := ⟨_, 0, none⟩) l1 (by dsimp only; omega)).trans h.f1, (hm.frozen (p := ⟨_, 0, none⟩) l2 (by dsimp only; omega)).trans h.f2, (hm.frozen (p := ⟨_, 0, none⟩) l3 (by dsimp only; omega)).trans h.f3, (hm.frozen (p := ⟨_, 0, none⟩) l4 (by dsimp only; omega)).trans h.f4,
    h.tb, h.kk, h.pv, h.bl.trans (hm.below h.bl.size fun k hk => by omega)⟩
theorem TbJ.later {es : List Ent} {ns : List UInt8} {k : Int} {w A B : World} {i a : Nat} {lst : List UInt8} (h : TbJ es ns k w i a lst A) (hb : Below A.heap.size A B) : TbJ es ns k w i a lst B := h.kept (Mod.of_below hb)
/-- The loop was left: at the entry with the number that was asked for. -/
structure TbX (k : Int) (w : World) (c : Code) (W : World) : Prop where
  rt : c = .exit 0
  kk : 0 ≤ k
  c0 : W.cell? ⟨w.heap.size, 0, none⟩ = some (.int .i64 k)
  c1 : W.cell? ⟨w.heap.size + 1, 0, none⟩ = some (.bool false)
  f1 : W.frozen? ⟨w.heap.size + 1, 0, none⟩ = false
  bl : Below w.heap.size w W
theorem TbX.kept {k : Int} {w A B : World} {c : Code} (h : TbX k w c A) (hm : Mod (fun k => w.heap.size + 5 ≤ k) A B) : TbX k w c B := by
  have l0 := World.block_lt_of_cell? _ _ h.c0
  have l1 := World.block_lt_of_cell? _ _ h.c1
  exact ⟨h.rt, h.kk, (hm.cell (p := ⟨_, 0, none⟩) l0 (by dsimp only; omega)).trans h.c0, (hm.cell (p := ⟨_, 0, none⟩) l1 (by dsimp only; omega)).trans h.c1, (hm.frozen (p := ⟨_, 0, none⟩) l1 (by dsimp only; omega)).trans h.f1, h.bl.trans (hm.below h.bl.size fun k hk => by omega)⟩
theorem tb_start (es : List Ent) (ns : List UInt8) (k : Int) (w W0 : World) (ht : TabAt es ns 0 0)
    (hW0 : ((((w.alloc (.cells #[.int .i64 k] 3)).alloc (.cells #[.bool false] 4)).alloc (.cells #[.int .i64 0] 3)).alloc (.cells #[.string ⟨#[]⟩] 9)).alloc (.cells #[.int .i64 0] 3) = W0) :
    TbJ es ns k w 0 0 [] W0 ∧ W0.heap.size = w.heap.size + 5 := by
  subst hW0
  obtain ⟨e0, e1, e2, hs, hb⟩ := three_cells w (.cells #[.int .i64 k] 3) (.cells #[.bool false] 4) (.cells #[.int .i64 0] 3)
  obtain ⟨W, hW⟩ : ∃ W, ((w.alloc (.cells #[.int .i64 k] 3)).alloc (.cells #[.bool false] 4)).alloc (.cells #[.int .i64 0] 3) = W := ⟨_, rfl⟩
  rw [hW] at e0 e1 e2 hs hb ⊢
  have e3 := World.alloc_heap_new W (.cells #[.string ⟨#[]⟩] 9)
  have k0 := (Below.heap_alloc W (.cells #[.string ⟨#[]⟩] 9) w.heap.size (by omega)).trans e0
  have k1 := (Below.heap_alloc W (.cells #[.string ⟨#[]⟩] 9) (w.heap.size + 1) (by omega)).trans e1
  have k2 := (Below.heap_alloc W (.cells #[.string ⟨#[]⟩] 9) (w.heap.size + 2) (by omega)).trans e2
  have hs4 : (W.alloc (.cells #[.string ⟨#[]⟩] 9)).heap.size = w.heap.size + 4 := by simp [hs]
  have hb4 : Below w.heap.size w (W.alloc (.cells #[.string ⟨#[]⟩] 9)) := hb.alloc hb.size _
  rw [hs] at e3
  obtain ⟨V, hV⟩ : ∃ V, W.alloc (.cells #[.string ⟨#[]⟩] 9) = V := ⟨_, rfl⟩
  rw [hV] at e3 k0 k1 k2 hs4 hb4 ⊢
  have e4 := World.alloc_heap_new V (.cells #[.int .i64 0] 3)
  rw [hs4] at e4
  have m0 := (Below.heap_alloc V (.cells #[.int .i64 0] 3) w.heap.size (by omega)).trans k0
  have m1 := (Below.heap_alloc V (.cells #[.int .i64 0] 3) (w.heap.size + 1) (by omega)).trans k1
  have m2 := (Below.heap_alloc V (.cells #[.int .i64 0] 3) (w.heap.size + 2) (by omega)).trans k2
  have m3 := (Below.heap_alloc V (.cells #[.int .i64 0] 3) (w.heap.size + 3) (by omega)).trans e3
  refine ⟨⟨?_, ?_, ?_, ?_, ?_, ?_, ?_, ?_, ?_, ht, by omega, fun _ h => absurd h (Nat.lt_irrefl _), hb4.alloc hb4.size _⟩, by simp [hs4]⟩
  · rw [Lib.cell_of_heap m0]; rfl
  · rw [Lib.cell_of_heap m1]; rfl
  · rw [Lib.cell_of_heap m2]; rfl
  · rw [Lib.cell_of_heap m3]; rfl
  · rw [Lib.cell_of_heap e4]; rfl
  · exact Lib.frozen_of_heap m1 0
  · exact Lib.frozen_of_heap m2 0
  · exact Lib.frozen_of_heap m3 0
  · exact Lib.frozen_of_heap e4 0
theorem tb_next {es : List Ent} {ns : List UInt8} {k : Int} {w W : World} {i a b : Nat} {lst nm cd : List UInt8} {z y : Int} (hz : z = (b : Nat)) (hy : y = ((i + 1 : Nat) : Int)) (h : TbJ es ns k w i a lst W) (hx : es[i]? = some (nm, cd)) (hb : TabAt es ns b (i + 1)) (hk : k < 0 ∨ (i : Int) + 1 ≤ k) :
    TbJ es ns k w (i + 1) b nm (((W.setCell ⟨w.heap.size + 2, 0, none⟩ (.int .i64 z)).setCell ⟨w.heap.size + 3, 0, none⟩ (.string ⟨nm.toArray⟩)).setCell ⟨w.heap.size + 4, 0, none⟩ (.int .i64 y)) := by
  subst hz
  subst hy
  refine ⟨?_, ?_, ?_, ?_, ?_, ?_, ?_, ?_, ?_, hb, by omega, fun x _ hx' => by rw [Nat.add_sub_cancel, hx] at hx'; cases hx'; rfl, ((h.bl.setCell (by dsimp only; omega) _).setCell (by dsimp only; omega) _).setCell (by dsimp only; omega) _⟩
  · rw [World.cell?_setCell_other _ _ _ _ (by simp), World.cell?_setCell_other _ _ _ _ (by simp), World.cell?_setCell_other _ _ _ _ (by simp)]; exact h.c0
  · rw [World.cell?_setCell_other _ _ _ _ (by simp), World.cell?_setCell_other _ _ _ _ (by simp), World.cell?_setCell_other _ _ _ _ (by simp)]; exact h.c1
  · rw [World.cell?_setCell_other _ _ _ _ (by simp), World.cell?_setCell_other _ _ _ _ (by simp)]; exact World.cell?_setCell_same' _ _ _ (by rw [h.c2]; rfl)
  · rw [World.cell?_setCell_other _ _ _ _ (by simp)]; exact World.cell?_setCell_same' _ _ _ (by rw [World.cell?_setCell_other _ _ _ _ (by simp), h.c3]; rfl)
  · exact World.cell?_setCell_same' _ _ _ (by rw [World.cell?_setCell_other _ _ _ _ (by simp), World.cell?_setCell_other _ _ _ _ (by simp), h.c4]; rfl)
  · rw [World.frozen?_setCell, World.frozen?_setCell, World.frozen?_setCell]; exact h.f1
  · rw [World.frozen?_setCell, World.frozen?_setCell, World.frozen?_setCell]; exact h.f2
  · rw [World.frozen?_setCell, World.frozen?_setCell, World.frozen?_setCell]; exact h.f3
  · rw [World.frozen?_setCell, World.frozen?_setCell, World.frozen?_setCell]; exact h.f4
theorem tb_mod {n1 : Nat} {w W0 W' V : World} {x y z : Value} (h0 : W0.heap.size ≤ w.heap.size + 5) (h1 : w.heap.size + 5 ≤ W0.heap.size) (hb : Below W'.heap.size W' V) :
    Mod (BoS W0.heap.size n1 (fun _ => False) fun k => k = 0) W' (((V.setCell ⟨w.heap.size + 2, 0, none⟩ x).setCell ⟨w.heap.size + 3, 0, none⟩ y).setCell ⟨w.heap.size + 4, 0, none⟩ z) :=
  (((Mod.of_below hb).trans (Mod.setCell _ _ ⟨fun h => h, by dsimp only; omega, by dsimp only; omega⟩)).trans (Mod.setCell _ _ ⟨fun h => h, by dsimp only; omega, by dsimp only; omega⟩)).trans (Mod.setCell _ _ ⟨fun h => h, by dsimp only; omega, by dsimp only; omega⟩)
end Go.Proofs.YtgjodmjegmilhaaDoor
