/- Package arena: once, of attributes; the search by a closure. No condition but lengths. The references' predicates on bytes. law04.SmallAttrs. Ranging over a function: an iterator's contract where what the iterator leans on is handed on by the body's own words (Pr follows from J), so that the body may write what the iterator reads.
   I: the iterator's own cells (laid before the loop); n1: the heap's size at the first call of yield. No condition. Package arena: the way up from a node, and Contains. Package arena: Contains. No condition but that the way up ends. -/
import Derived.Test.YtdapdadcninidaaGreatDoorM3
import Derived.Test.YtdapdadcninidaaGreatDoorM1
set_option linter.unusedSimpArgs false
set_option linter.unusedVariables false
namespace Go.Proofs.YtdapdadcninidaaGreatDoor
open Go.RowKit
attribute [local go_sem ↓] Go.wp_at_zero Go.wp_at_succ

def attV (a : Att) : Value := .agg #[.int .i64 a.space, .string ⟨a.name.toArray⟩, .string ⟨a.value.toArray⟩]
def sameA (x y : Att) : Bool := x.space == y.space && x.name == y.name
/-- The attributes that a slice shows, wherever in a block. -/
def AttsAt (w : World) (a : Option Addr) (l : List Att) : Prop := ∀ j y, l[j]? = some y → ∃ g o, a = some ⟨g, o, none⟩ ∧ w.cell? ⟨g, o + j * 3, none⟩ = some (.int .i64 y.space) ∧ w.cell? ⟨g, o + j * 3 + 1, none⟩ = some (.string ⟨y.name.toArray⟩) ∧ w.cell? ⟨g, o + j * 3 + 2, none⟩ = some (.string ⟨y.value.toArray⟩)
theorem attCells_at : ∀ (l : List Att) (j : Nat) (y : Att), l[j]? = some y → (attCells l)[j * 3]? = some (.int .i64 y.space) ∧ (attCells l)[j * 3 + 1]? = some (strV y.name) ∧ (attCells l)[j * 3 + 2]? = some (strV y.value)
  | [], _, _, h => by simp at h
  | x :: l, 0, y, h => by
    obtain rfl : x = y := by simpa using h
    exact ⟨rfl, rfl, rfl⟩
  | x :: l, j + 1, y, h => by
    have ih := attCells_at l j y (by simpa using h)
    rw [show (j + 1) * 3 = j * 3 + 3 by omega]
    exact ih
theorem attCells_app (l m : List Att) : attCells (l ++ m) = attCells l ++ attCells m := by simp [attCells]
theorem AttsAt.own {w : World} {b c : Nat} {a : Option Addr} {l : List Att} (h : w.ownsRow b 121 3 (.slice a l.length c) l.length (attCells l)) : AttsAt w a l := by
  intro j y hj
  have hl := (List.getElem?_eq_some_iff.1 hj).1
  obtain ⟨h1, ⟨h2, h3⟩ | ⟨g, cap, cur, h2, h3, h4, h5, h6, h7, h8⟩⟩ := h
  · omega
  · cases h2
    obtain ⟨c0, c1, c2⟩ := attCells_at l j y hj
    have hn := attCells_len l
    have get : ∀ i v, (attCells l)[i]? = some v → i < l.length * 3 → w.cell? ⟨g, i, none⟩ = some v := fun i v hv hi => by
      rw [cell_of_row w g _ cur _ _ h4, ← Array.getElem?_toList]
      rw [← h8, List.getElem?_take] at hv
      by_cases hi2 : i < l.length * 3
      · rw [if_pos (by omega)] at hv; exact hv
      · exact absurd hi hi2
    refine ⟨g, 0, rfl, ?_, ?_, ?_⟩
    · rw [Nat.zero_add]; exact get _ _ c0 (by omega)
    · rw [Nat.zero_add]; exact get _ _ c1 (by omega)
    · rw [Nat.zero_add]; exact get _ _ c2 (by omega)
theorem AttsAt.later {w w' : World} {a : Option Addr} {l : List Att} (h : AttsAt w a l) (hb : Below w.heap.size w w') : AttsAt w' a l := by
  intro j y hj
  obtain ⟨g, o, e, c0, c1, c2⟩ := h j y hj
  have hg := World.block_lt_of_cell? _ _ c0
  exact ⟨g, o, e, (hb.cell (p := ⟨g, o + j * 3, none⟩) hg).trans c0, (hb.cell (p := ⟨g, o + j * 3 + 1, none⟩) hg).trans c1, (hb.cell (p := ⟨g, o + j * 3 + 2, none⟩) hg).trans c2⟩
set_option maxRecDepth 100000 in
theorem onceF_any (x y : Att) (w : World) {bx : Nat} (c0 : w.cell? ⟨bx, 0, none⟩ = some (.int .i64 x.space)) (c1 : w.cell? ⟨bx, 1, none⟩ = some (.string ⟨x.name.toArray⟩)) :
    Calls Tryz.prog 87 #[attV y, .pointer (some ⟨bx, 0, none⟩)] w (Ret w (.bool (sameA x y))) := by
  obtain ⟨xs, xn, xv⟩ := x
  obtain ⟨ys, yn, yv⟩ := y
  dsimp only at c0 c1
  have hb := World.block_lt_of_cell? _ _ c0
  unfold attV sameA
  have HB0 := Lib.hid (fun o => balloc w o)
  dsimp only
  cases h1 : (xs == ys)
  · go_enter Tryz.func87, Tryz.ntmps87
    go_wp2
    all_goals
      go_ret
      exact Ret.mk (by simp) (HB0.out _)
  · go_enter Tryz.func87, Tryz.ntmps87
    go_wp2
    all_goals
      go_ret
      exact Ret.mk (by simp) (HB0.out _)
set_option maxRecDepth 100000 in
/-- The search by a closure. -/
theorem aIndexF_any (l : List Att) (p : Att → Bool) (F : Nat) (cap : Array Value) (w : World) {a : Option Addr} {c : Nat} (hl : l.length ≤ 1000000) (hc : AttsAt w a l)
    (eg : ∀ args w', (callFunc F args).run Tryz.prog w' = .ok (.enter F args) w') (hF : ∀ y w', Below w.heap.size w w' → Calls Tryz.prog F (#[attV y] ++ cap) w' (Ret w' (.bool (p y)))) :
    Calls Tryz.prog 137 #[.slice a l.length c, .func (.func F) #[] cap] w fun e w' => (∃ i : Int, e = .returned (.int .i64 i) ∧ decide (0 ≤ i) = l.any p ∧ -1 ≤ i ∧ i < (l.length : Int)) ∧ Below w.heap.size w w' := by
  have HC := Lib.hid hc; have HFF := Lib.hid hF
  obtain ⟨b, hb⟩ : ∃ b, l.any p = b := ⟨_, rfl⟩
  rw [hb]
  have HBV := Lib.hid hb
  clear hc hb hF
  go_enter Tryz.func137, Tryz.ntmps137
  go_wp2_with fail
  go_loopw [4, 5, 8] (fun _ _ i wr => ∃ k : Nat, k ≤ l.length ∧ i = .int .i64 k ∧ (l.take k).any p = false ∧ Below w.heap.size w wr) (fun _ _ i _ => l.length - (intOf i).toNat)
  case atStart => exact ⟨0, Nat.zero_le _, rfl, rfl, Below.refl _ _⟩
  case round =>
    obtain ⟨k, hk, rfl, hall, hbw⟩ := hrel
    have HA := Lib.hid hall; have HB := Lib.hid hbw
    clear hall hbw
    by_cases hlt : k < l.length
    · obtain ⟨g, o, rfl, c0, c1, c2⟩ := (HC.out.later HB.out) k l[k] (List.getElem?_eq_getElem hlt)
      obtain ⟨z, hz⟩ : ∃ z, l[k] = z := ⟨_, rfl⟩
      rw [hz] at c0 c1 c2
      have hki : (k : Int) < (l.length : Int) := by omega
      have H1 := HFF.out z wr HB.out
      have hN : (l.take (k + 1)).any p = p z := by
        rw [List.take_succ_eq_append_getElem hlt, hz, List.any_append, HA.out]; simp
      have hT : p z = true → b = true := fun hp => by
        rw [← HBV.out, List.any_eq_true]
        exact ⟨z, hz ▸ List.getElem_mem hlt, hp⟩
      have HN := Lib.hid hN; have HT := Lib.hid hT
      obtain ⟨q, hq⟩ : ∃ q, p z = q := ⟨_, rfl⟩
      rw [hq] at H1 HN HT
      unfold attV at H1
      have H1 := Lib.hid H1
      clear hz hN hT hq
      go_wp2_with fail
      refine H1.out.mono ?_
      rintro e w1 ⟨rfl, b1⟩
      have HB1 := Lib.hid (bthen HB.out HB.out.size b1)
      clear b1 H1
      have HT := Lib.hid (fun (h : q = true) => HT.out h)
      cases q
      · go_wp2_with fail
        go_roundw
        case rel => exact ⟨k + 1, by omega, by go_num, HN.out, HB1.out⟩
        case measure => simp [intOf]; omega
      · go_wp2_with fail
        go_ret
        exact ⟨⟨_, rfl, by have := HT.out (by simp); rw [this]; simp, by omega, hki⟩, HB1.out⟩
    · have HR : Hid (b = false) := Lib.hid (by
        have := HA.out
        rwa [List.take_of_length_le (by omega), HBV.out] at this)
      go_wp2_with fail
      go_ret
      exact ⟨⟨_, rfl, by rw [HR.out]; rfl, by omega, by omega⟩, HB.out⟩
theorem eg_once (args : Array Value) (w : World) : (callFunc 87 args).run Tryz.prog w = .ok (.enter 87 args) w := by simp [go_sem]
set_option maxRecDepth 100000 in
theorem aContF_any (l : List Att) (p : Att → Bool) (F : Nat) (cap : Array Value) (w : World) {a : Option Addr} {c : Nat} (hl : l.length ≤ 1000000) (hc : AttsAt w a l)
    (eg : ∀ args w', (callFunc F args).run Tryz.prog w' = .ok (.enter F args) w') (hF : ∀ y w', Below w.heap.size w w' → Calls Tryz.prog F (#[attV y] ++ cap) w' (Ret w' (.bool (p y)))) :
    Calls Tryz.prog 86 #[.slice a l.length c, .func (.func F) #[] cap] w (Ret w (.bool (l.any p))) := by
  have H1 := Lib.hid (aIndexF_any l p F cap w (c := c) hl hc eg hF)
  clear hc eg hF
  generalize l.any p = b at *
  go_enter Tryz.func86, Tryz.ntmps86
  go_wp2_with fail
  refine H1.out.mono ?_
  rintro e w1 ⟨⟨i, rfl, hi, -⟩, hb⟩
  have HI := Lib.hid hi; have HB := Lib.hid hb
  clear hi hb H1
  go_wp2_with fail
  go_ret
  exact Ret.mk (by simp [HI.out]) HB.out
theorem ownsRow_ge {w : World} {b n s : Nat} {e : TypeId} {v : Value} {xs : List Value} (h : w.ownsRow b e s v n xs) {g : Nat} (hg : v.ownBlock = some g) : b ≤ g := by
  rcases h.2 with ⟨rfl, _⟩ | ⟨g', cap, cur, rfl, hge, _⟩
  · simp [Value.ownBlock] at hg
  · simp [Value.ownBlock] at hg
    subst hg
    exact hge
theorem append_att {ops : Array Oper} {rest : List Oper} {o : Oper} {a : Act} {Q : Exit → Act → World → Prop} {W : World} (hgd : o.guard = none) (s x : Operand)
    (ho : o.op = .call { callee := .builtin .append, args := #[s, x], argTypes := #[40, 40] })
    (R : Nat) (v : Value) (l : List Att) (hs : a.eval s = v) (hown : W.ownsRow R 121 3 v l.length (attCells l)) (y : Att) (hx : a.eval x = .slice (some ⟨W.heap.size, 0, none⟩) 1 1)
    (hlen : l.length + 1 ≤ 1000000) (hR : R ≤ W.heap.size)
    (h : ∀ v' w', w'.ownsRow R 121 3 v' (l.length + 1) (attCells (l ++ [y])) → Below R W w' → wpList Tryz.prog ops Q rest (a.put o.dst v') w') :
    wpList Tryz.prog ops Q (o :: rest) a (W.alloc (.cells #[.int .i64 y.space, .string ⟨y.name.toArray⟩, .string ⟨y.value.toArray⟩] 121)) := by
  obtain ⟨i0, hi, hz0, hz1, hz2⟩ := info_parts infoA
  refine wpList_append_own _ hgd s x 40 ho R 121 i0 _ 3 40 Tryz.underlying40 hi hz0 hz1 hz2 rfl (by decide) v l.length (attCells l) hs (ownsRow_below hown (balloc W _)) ⟨W.heap.size, 0, none⟩ 1 1 (attCells [y]) hx rfl ?_ ?_ ?_ ?_ ?_ ?_
  · exact news_new (H := W.heap.size) (cs := attCells [y]) rfl
  · intro u hu
    simp [attCells] at hu
    rcases hu with rfl | rfl | rfl <;> rfl
  · unfold maxLen; omega
  · omega
  · simp; omega
  · intro v' w' hown' hg _
    refine h v' w' (by rw [attCells_app]; exact hown') ?_
    have hb := (balloc W (.cells #[.int .i64 y.space, .string ⟨y.name.toArray⟩, .string ⟨y.value.toArray⟩] 121))
    refine ⟨hg.os.trans hb.os, hg.tape.trans hb.tape, hg.output.trans hb.output, Nat.le_trans hb.size hg.size, fun k hk => ?_⟩
    refine (hg.block k (by simp; omega) (fun e => ?_)).trans (hb.block k (by omega))
    have := ownsRow_ge hown e.symm
    omega
/-- The first of each namespace and name. -/
def onceF : List Att → List Att → List Att × Bool
  | out, [] => (out, true)
  | out, x :: xs => if spaceOk x.space then onceF (if out.any (sameA x) then out else out ++ [x]) xs else ([], false)
theorem onceF_len : ∀ (out l : List Att), (onceF out l).1.length ≤ out.length + l.length
  | out, [] => by simp [onceF]
  | out, x :: xs => by
    rw [onceF]
    split
    · have := onceF_len (if out.any (sameA x) then out else out ++ [x]) xs
      have h2 : (if out.any (sameA x) then out else out ++ [x]).length ≤ out.length + 1 := by split <;> simp
      simp only [List.length_cons]
      omega
    · simp
set_option maxRecDepth 100000 in
set_option maxHeartbeats 2000000 in
theorem once_any (l : List Att) (w : World) {a : Option Addr} {c : Nat} (hl : l.length ≤ 100000) (hc : AttsAt w a l) :
    Calls Tryz.prog 39 #[.slice a l.length c] w fun e w' => ∃ va vc, e = .returned (.tuple #[.slice va (onceF [] l).1.length vc, .bool (onceF [] l).2]) ∧ w'.ownsRow w.heap.size 121 3 (.slice va (onceF [] l).1.length vc) (onceF [] l).1.length (attCells (onceF [] l).1) ∧ Below w.heap.size w w' := by
  have HC := Lib.hid hc
  have HSP := Lib.hid (fun s w' H c hc => spaces_one s w' (H := H) (c := c) hc)
  have hmf : ∀ (fn : Fn) (first cap : Array Value) (w : World), (Instr.makeFunc fn first cap).run Tryz.prog w = .ok (.func fn first cap) w := fun _ _ _ _ => rfl
  clear hc
  go_enter Tryz.func39, Tryz.ntmps39
  go_wp2_with fail
  go_loopw [2, 3, 4, 9] (fun _ _ o i wr => ∃ (k : Nat) (out : List Att) (va : Option Addr) (vc : Nat), k ≤ l.length ∧ i = .int .i64 k ∧ o = .slice va out.length vc ∧ out.length ≤ k ∧ wr.ownsRow w.heap.size 121 3 (.slice va out.length vc) out.length (attCells out) ∧ Below w.heap.size w wr ∧ onceF out (l.drop k) = onceF [] l) (fun _ _ _ i _ => l.length - (intOf i).toNat)
  case atStart => exact ⟨0, [], none, 0, Nat.zero_le _, rfl, rfl, Nat.zero_le _, ⟨rfl, .inl ⟨rfl, rfl⟩⟩, Below.refl _ _, rfl⟩
  case round =>
    obtain ⟨k, out, va, vc, hk, rfl, rfl, hol, hown, hbw, hfo⟩ := hrel
    have HOW := Lib.hid hown; have HB := Lib.hid hbw; have HFO := Lib.hid hfo
    clear hown hbw hfo
    by_cases hlt : k < l.length
    · obtain ⟨g, o, rfl, c0, c1, c2⟩ := (HC.out.later HB.out) k l[k] (List.getElem?_eq_getElem hlt)
      have hdr : l.drop k = l[k] :: l.drop (k + 1) := List.drop_eq_getElem_cons hlt
      have hfo := HFO.out
      rw [hdr] at hfo
      obtain ⟨z, hz⟩ : ∃ z, l[k] = z := ⟨_, rfl⟩
      rw [hz] at c0 c1 c2 hfo
      rw [onceF] at hfo
      have hki : (k : Int) < (l.length : Int) := by omega
      have HF2 := Lib.hid hfo
      clear hfo hdr hz
      obtain ⟨zs, zn, zv⟩ := z
      dsimp only at c0 c1 c2
      go_wp2_with fail
      generalize hW2 : (wr.alloc _).alloc _ = W2
      have hb2 : Below wr.heap.size wr W2 := by rw [← hW2]; exact (balloc _ _).alloc (by simp) _
      have hx2 : W2.heap[wr.heap.size]? = some (.cells #[.int .i64 zs, .string ⟨zn.toArray⟩, .string ⟨zv.toArray⟩] 121 (0, 0)) := by rw [← hW2]; exact (Below.heap_alloc _ _ _ (by simp)).trans (World.alloc_heap_new wr _)
      have hs2 : W2.cell? ⟨wr.heap.size + 1, 0, none⟩ = some (.int .i64 zs) := by
        rw [← hW2]
        have e1 := World.alloc_heap_new (wr.alloc (.cells #[.int .i64 zs, .string ⟨zn.toArray⟩, .string ⟨zv.toArray⟩] 121)) (.cells #[.int .i64 zs] 29)
        rw [World.size_alloc] at e1
        rw [cell_of_row _ _ _ _ _ _ e1]; rfl
      have HX2 := Lib.hid hx2; have HB2 := Lib.hid (bthen HB.out HB.out.size hb2); have HBW := Lib.hid hb2
      refine (HSP.out _ _ _ _ hs2).mono ?_
      clear hW2 hb2 hx2 hs2
      rintro e w3 ⟨rfl, rfl⟩
      cases hsp : spaceOk zs
      · rw [if_neg (by simp [hsp])] at HF2
        clear hsp
        go_wp2_with fail
        go_ret2
        exact ⟨none, 0, by rw [← HF2.out]; rfl, by rw [← HF2.out]; exact ⟨rfl, .inl ⟨rfl, rfl⟩⟩, HB2.out⟩
      · rw [if_pos hsp] at HF2
        have hxl := (Array.getElem?_eq_some_iff.1 HX2.out).1
        have H4 := aContF_any out (sameA ⟨zs, zn, zv⟩) 87 #[.pointer (some ⟨wr.heap.size, 0, none⟩)] W2 (a := va) (c := vc) (by omega) ((AttsAt.own HOW.out).later HBW.out) eg_once (fun y w' hb => by
          have hx := (hb.block _ hxl).trans HX2.out
          exact onceF_any ⟨zs, zn, zv⟩ y w' (bx := wr.heap.size) (by rw [cell_of_row _ _ _ _ _ _ hx]; rfl) (by rw [cell_of_row _ _ _ _ _ _ hx]; rfl))
        have H4 := Lib.hid H4
        obtain ⟨q, hq⟩ : ∃ q, out.any (sameA ⟨zs, zn, zv⟩) = q := ⟨_, rfl⟩
        rw [hq] at H4 HF2
        clear hsp c0 c1 c2 hq
        go_wp2_with fail
        refine H4.out.mono ?_
        rintro e w4 ⟨rfl, b4⟩
        have HB4 := Lib.hid (bthen HB2.out HB2.out.size b4)
        have hx4 := (b4.block _ hxl).trans HX2.out
        have HOW4 := Lib.hid (ownsRow_below (ownsRow_below HOW.out HBW.out) b4)
        have e0 : w4.cell? ⟨wr.heap.size, 0, none⟩ = some (.int .i64 zs) := by rw [cell_of_row _ _ _ _ _ _ hx4]; rfl
        have e1 : w4.cell? ⟨wr.heap.size, 1, none⟩ = some (.string ⟨zn.toArray⟩) := by rw [cell_of_row _ _ _ _ _ _ hx4]; rfl
        have e2 : w4.cell? ⟨wr.heap.size, 2, none⟩ = some (.string ⟨zv.toArray⟩) := by rw [cell_of_row _ _ _ _ _ _ hx4]; rfl
        clear b4 hx4 H4 hxl
        cases q
        · rw [if_neg (by simp)] at HF2
          go_wp2_with (at_builtin; refine append_att rfl _ _ rfl w.heap.size _ out rfl (by exact HOW4.out) ⟨zs, zn, zv⟩ rfl (by omega) (by exact HB4.out.size) ?_; intro v' w5 hown5 hb5; obtain ⟨va5, vc5, rfl⟩ := ownsRow_slice hown5)
          have HOW5 := Lib.hid hown5; have HB5 := Lib.hid (HB4.out.trans hb5)
          clear hown5 hb5
          go_roundw
          case rel => exact ⟨k + 1, out ++ [⟨zs, zn, zv⟩], va5, vc5, by omega, by go_num, by simp, by simp; omega, by simpa using HOW5.out, HB5.out, HF2.out⟩
          case measure => simp [intOf]; omega
        · rw [if_pos rfl] at HF2
          go_wp2_with fail
          go_roundw
          case rel => exact ⟨k + 1, out, va, vc, by omega, by go_num, rfl, by omega, HOW4.out, HB4.out, HF2.out⟩
          case measure => simp [intOf]; omega
    · have hke : k = l.length := by omega
      subst hke
      have hfo := HFO.out
      rw [List.drop_length, onceF] at hfo
      have HF2 := Lib.hid hfo
      clear hfo
      go_wp2_with fail
      go_ret2
      exact ⟨va, vc, by rw [← HF2.out]; rfl, by rw [← HF2.out]; exact HOW.out, HB.out⟩
end Go.Proofs.YtdapdadcninidaaGreatDoor
namespace Go.Proofs.YtdapdadcninidaaGreatDoor
open Go.RowKit
attribute [local go_sem] sgetr

/-- The call returns v and leaves the world alone. -/
def Same (w : World) (v : Value) (e : Ending) (w' : World) : Prop := e = .returned v ∧ w = w'
theorem Same.mk {w : World} {v u : Value} (h : u = v) : Same w v (.returned u) w := ⟨by rw [h], rfl⟩
theorem Same.ret {w : World} {v : Value} {e : Ending} {w' : World} (h : Same w v e w') : Ret w v e w' := by
  obtain ⟨rfl, rfl⟩ := h; exact Ret.mk rfl (Below.refl _ _)
/-- A search through a string, at the byte that it first meets. -/
def hasB (l : List UInt8) (c : UInt8) : Bool := l.any fun x => x == c
end Go.Proofs.YtdapdadcninidaaGreatDoor
namespace Go.Proofs.YtdapdadcninidaaGreatDoor
open Go.RowKit
attribute [local go_sem ↓] Go.wp_at_zero Go.wp_at_succ

/-- These attributes lie there, wherever in a block. -/
abbrev AttsIn (w : World) (a : Option Addr) (l : List Att) : Prop := AttsAt w a l
def shortA (y : Att) : Bool := decide (y.name.length ≤ 400) && decide (y.value.length ≤ 400)
def smallA (l : List Att) : Bool := l.all shortA && decide (l.length ≤ 20)
set_option maxRecDepth 100000 in
set_option maxHeartbeats 2000000 in
theorem SmallAttrs_any (l : List Att) (w : World) {a : Option Addr} {c : Nat} (hl : l.length ≤ 9223372036854775807) (hc : AttsIn w a l) :
    Calls Tryz.prog 18 #[.slice a l.length c] w (Same w (.bool (smallA l))) := by
  have HC := Lib.hid hc
  clear hc
  go_enter Tryz.func18, Tryz.ntmps18
  go_wp2_with fail
  go_loopw [3] (fun s3 wr => ∃ k : Nat, k ≤ l.length ∧ k ≤ 21 ∧ s3 = .int .i64 k ∧ (l.take k).all shortA = true ∧ wr = w) (fun s3 _ => 21 - (intOf s3).toNat)
  case atStart => exact ⟨0, Nat.zero_le _, by omega, rfl, rfl, rfl⟩
  case round =>
    obtain ⟨k, hk, hk2, rfl, hal, rfl⟩ := hrel
    have HAL := Lib.hid hal
    clear hal
    by_cases hlt : k < l.length
    · by_cases h20 : k ≤ 20
      · obtain ⟨g, o, rfl, c0, c1, c2⟩ := HC.out k l[k] (List.getElem?_eq_getElem hlt)
        have HT : Hid ((l.take (k + 1)).all shortA = ((l.take k).all shortA && shortA l[k])) := Lib.hid (by rw [List.take_succ_eq_append_getElem hlt, List.all_append, List.all_cons, List.all_nil, Bool.and_true])
        have HF : Hid (shortA l[k] = false → l.all shortA = false) := Lib.hid (fun h => by
          rw [Bool.eq_false_iff]; intro h2
          rw [List.all_eq_true] at h2
          rw [h2 _ (List.getElem_mem hlt)] at h
          cases h)
        obtain ⟨y, hy⟩ : ∃ y, l[k] = y := ⟨_, rfl⟩
        rw [hy] at c0 c1 c2 HT HF
        clear hy
        obtain ⟨ys, yn, yv⟩ := y
        dsimp only at c0 c1 c2
        have hki : (k : Int) < (l.length : Int) := by omega
        by_cases h1 : yn.length ≤ 400
        · by_cases h2 : yv.length ≤ 400
          · have e1 : ¬ (400 : Int) < (yn.length : Int) := by omega
            have e2 : ¬ (400 : Int) < (yv.length : Int) := by omega
            have HR : Hid ((l.take (k + 1)).all shortA = true) := Lib.hid (by rw [HT.out, HAL.out]; simp [shortA, h1, h2])
            go_wp2_with fail
            go_roundw
            case rel => exact ⟨k + 1, by omega, by omega, by go_num, HR.out, trivial⟩
            case measure => simp [intOf]; omega
          · have e1 : ¬ (400 : Int) < (yn.length : Int) := by omega
            have e2 : (400 : Int) < (yv.length : Int) := by omega
            have HR : Hid (smallA l = false) := Lib.hid (by rw [smallA, HF.out (by simp [shortA]; omega)]; rfl)
            go_wp2_with fail
            go_ret
            exact Same.mk (by first | (rw [HR.out]; done) | (rw [HR.out]; simp; done) | (rw [HR.out]; simp; omega))
        · have e1 : (400 : Int) < (yn.length : Int) := by omega
          have HR : Hid (smallA l = false) := Lib.hid (by rw [smallA, HF.out (by simp [shortA]; omega)]; rfl)
          go_wp2_with fail
          go_ret
          exact Same.mk (by first | (rw [HR.out]; done) | (rw [HR.out]; simp; done) | (rw [HR.out]; simp; omega))
      · have hki : (k : Int) < (l.length : Int) := by omega
        have e1 : ¬ (k : Int) ≤ 20 := by omega
        have e2 : ¬ (l.length : Int) ≤ 20 := by omega
        have HR : Hid (smallA l = false) := Lib.hid (by rw [smallA]; simp; omega)
        go_wp2_with fail
        go_ret
        exact Same.mk (by rw [HR.out]; simp [*])
    · obtain rfl : k = l.length := by omega
      have HR : Hid (smallA l = decide (l.length ≤ 20)) := Lib.hid (by
        have := HAL.out
        rw [List.take_length] at this
        rw [smallA, this, Bool.true_and])
      have e3 : decide ((l.length : Int) ≤ 20) = decide (l.length ≤ 20) := by rw [decide_eq_decide]; omega
      go_wp2_with fail
      go_ret
      exact Same.mk (by first | (rw [HR.out, ← e3]; done) | (rw [HR.out]; simp; done) | (rw [HR.out]; simp; omega))
end Go.Proofs.YtdapdadcninidaaGreatDoor
namespace Go.Proofs.YtdapdadcninidaaGreatDoor
open Go.RowKit

/-- What the loop's body may turn. -/
def BoP (m n1 : Nat) (I : Nat → Prop) (k : Nat) : Prop := ¬ I k ∧ ¬ (m ≤ k ∧ k < n1)
/-- THE ITERATOR's CONTRACT: it hands xs to yield, one after the other, as long as yield says yes. -/
def IterP {α : Type} (F : Fence) (n : Nat) (P : Program) (g : Nat) (lb : Array Value) (encs : α → Array Value) (xs : List α) (I : Nat → Prop) (Pr : World → Prop) (w : World) : Prop :=
  ∀ (l : Nat) (J Jx : Nat → Nat → World → Prop) (W : World), Below w.heap.size w W →
    (∀ n1 i A B, J n1 i A → Mod (ItS W.heap.size n1 I) A B → J n1 i B) → (∀ n1 i A B, Jx n1 i A → Mod (ItS W.heap.size n1 I) A B → Jx n1 i B) →
    (∀ n1 i A, J n1 i A → Pr A) →
    (∀ n1 i x W1, xs[i]? = some x → J n1 i W1 → W.heap.size ≤ n1 → n1 ≤ W1.heap.size → YieldAt F (n - 1) P l (encs x) W1 fun e W' =>
      ((e = .returned (.bool true) ∧ J n1 (i + 1) W') ∨ (e = .returned (.bool false) ∧ Jx n1 (i + 1) W')) ∧ Mod (BoP W.heap.size n1 I) W1 W') →
    (∀ n1, W.heap.size ≤ n1 → J n1 0 W) →
    CallsIn F n P g (#[.func (.yield l) #[] #[]] ++ lb) W fun e W' => (∃ v, e = .returned v) ∧ ∃ n1, W.heap.size ≤ n1 ∧ n1 ≤ W'.heap.size ∧ (J n1 xs.length W' ∨ ∃ i, i ≤ xs.length ∧ Jx n1 i W')

variable {F : Fence} {n : Nat} {P : Program}
theorem wpIn_rangeFunc_itp {α : Type} {g : Operand} {ps : Array Tmp} {assign body : Code} {Q : Exit → Act → World → Prop} {a : Act} {w : World}
    (hro : F.round = none) (h1 : 1 ≤ n) {gf : Nat} {lb : Array Value} (hg : a.eval g = .func (.func gf) #[] lb) (hFg : F.fn gf) (eg : ∀ args w, (callFunc gf args).run P w = .ok (.enter gf args) w)
    {encs : α → Array Value} {xs : List α} {I : Nat → Prop} {Pr : World → Prop} (hseq : IterP F (n - 1) P gf lb encs xs I Pr w)
    (hI : ∀ k, I k → k < w.heap.size) (hps : ∀ x, (encs x).size = ps.size)
    (J : Nat → Nat → World → Prop) (Jx : Nat → Code → Nat → World → Prop)
    (hJ : ∀ n1 i A B, J n1 i A → Mod (ItS w.heap.size n1 I) A B → J n1 i B) (hJx : ∀ n1 c i A B, Jx n1 c i A → Mod (ItS w.heap.size n1 I) A B → Jx n1 c i B)
    (hP : ∀ n1 i A, J n1 i A → Pr A)
    (h0 : ∀ n1, w.heap.size ≤ n1 → J n1 0 w)
    (hround : ∀ (l : Nat) (x : α) (W : World),
      assign.wpIn (F.inRound l) (n - 1 - 1) P (Exit.then (fun a₁ W₁ => W₁ = W ∧ ∀ (n1 i : Nat) (W' : World), xs[i]? = some x → J n1 i W' → w.heap.size + 2 ≤ n1 → n1 ≤ W'.heap.size →
        body.wpIn (F.inRound l) (n - 1 - 1) P (bodyPostI (J n1) (Jx n1) (BoP w.heap.size n1 I) i W') a₁ W') (fun _ _ _ => False)) { tmps := (ps.zip (encs x)).foldl (fun t (p, v) => t.setIfInBounds p v) a.tmps, defers := [] } W)
    (hdone : ∀ (D n1 : Nat) (W : World), w.heap.size + 2 ≤ n1 → n1 ≤ W.heap.size → J n1 xs.length W → D = w.heap.size → W.heap[D]? = some (.deferred (some [])) → Q .normal { a with defers := { target := .collected D, args := #[] } :: a.defers } W)
    (hstop : ∀ (D n1 : Nat) (c : Code) (i : Nat) (W : World), w.heap.size + 2 ≤ n1 → n1 ≤ W.heap.size → i ≤ xs.length → Jx n1 c i W → D = w.heap.size → W.heap[D]? = some (.deferred (some [])) → c.wpIn F n P Q { a with defers := { target := .collected D, args := #[] } :: a.defers } W) :
    (Code.rangeFunc g ps assign body).wpIn F n P Q a w := by
  refine wpIn_rangeFunc ?_
  intro fn hfn
  rw [hro]
  obtain ⟨rec, hrec⟩ : ∃ rec : LoopState → Option Code → Loop, rec = fun st pe => { state := st, pending := pe, fn, tmps := a.tmps, params := ps, assign, body, defers := w.heap.size } := ⟨_, rfl⟩
  obtain ⟨W1, hW1⟩ : ∃ W1, (w.alloc (.deferred (some []))).alloc (.loop (rec .ready none)) = W1 := ⟨_, rfl⟩
  have hL1 : W1.heap[w.heap.size + 1]? = some (.loop (rec .ready none)) := by
    rw [← hW1]; have := World.alloc_heap_new (w.alloc (.deferred (some []))) (.loop (rec .ready none)); rwa [World.size_alloc] at this
  have hK1 : W1.heap[w.heap.size]? = some (.deferred (some [])) := by
    rw [← hW1]; exact (Below.heap_alloc _ _ _ (by simp)).trans (World.alloc_heap_new w _)
  have hs1 : W1.heap.size = w.heap.size + 2 := by rw [← hW1]; simp
  have hM1 : ∀ S, Mod S w W1 := fun S => by rw [← hW1]; exact (Mod.alloc S w _).trans (Mod.alloc S _ _)
  -- a step of the iterator is one of those that the caller's words abide
  have up : ∀ n1 k, ItS W1.heap.size n1 I k → ItS w.heap.size n1 I k := fun n1 k h => by
    rcases h with h | h
    · exact .inl h
    · exact .inr ⟨by omega, h.2⟩
  have nI : ∀ k, I k → k < w.heap.size := hI
  refine ⟨w.heap.size + 1, [{ target := .collected w.heap.size, args := #[] }], W1, { target := .fn (.func gf) lb, args := #[.func (.yield (w.heap.size + 1)) #[] #[]] }, W1, gf,
    #[.func (.yield (w.heap.size + 1)) #[] #[]] ++ lb, W1, ?_, ?_, ?_, ?_, fun _ => h1, ?_⟩
  · rw [← hW1, hrec]; exact run_enterLoop_outer _ _ _ _ _
  · simp only [resolve, hg]
    simp [go_sem]
  · intro f' hf'; simp [Target.leads] at hf'; subst hf'; exact hFg
  · simp [invoke, go_sem, eg]
  · have book : ∀ {n1 k}, k = w.heap.size ∨ k = w.heap.size + 1 → ¬ ItS W1.heap.size n1 I k := fun {n1 k} hk h => by
      rcases h with h | h
      · have := nI k h; omega
      · omega
    refine (hseq (w.heap.size + 1)
      (fun n1 i W => J n1 i W ∧ W.heap[w.heap.size + 1]? = some (.loop (rec .ready none)) ∧ W.heap[w.heap.size]? = some (.deferred (some [])))
      (fun n1 i W => i ≤ xs.length ∧ ∃ c, Jx n1 c i W ∧ W.heap[w.heap.size + 1]? = some (.loop (rec .done (some c))) ∧ W.heap[w.heap.size]? = some (.deferred (some [])))
      W1 ((hM1 (fun _ => False)).below (Nat.le_refl _) (fun _ _ h => h)) ?_ ?_ (fun n1 i A h => hP n1 i A h.1) ?_ ?_).mono ?_
    · rintro n1 i A B ⟨hj, hl, hk⟩ hm
      refine ⟨hJ n1 i A B hj (hm.mono fun k _ => up n1 k), (hm.block _ (Array.getElem?_eq_some_iff.1 hl).1 (book (.inr rfl))).trans hl, (hm.block _ (Array.getElem?_eq_some_iff.1 hk).1 (book (.inl rfl))).trans hk⟩
    · rintro n1 i A B ⟨hi, c, hj, hl, hk⟩ hm
      exact ⟨hi, c, hJx n1 c i A B hj (hm.mono fun k _ => up n1 k), (hm.block _ (Array.getElem?_eq_some_iff.1 hl).1 (book (.inr rfl))).trans hl, (hm.block _ (Array.getElem?_eq_some_iff.1 hk).1 (book (.inl rfl))).trans hk⟩
    · rintro n1 i x W hx ⟨hj, hl, hk⟩ hn1 hn1'
      have hlt : w.heap.size + 1 < W.heap.size := (Array.getElem?_eq_some_iff.1 hl).1
      have hi : i < xs.length := (List.getElem?_eq_some_iff.1 hx).1
      have hy := run_yield (P := P) (args := encs x) hl (by rw [hrec]; exact hps x)
      rw [hrec] at hy
      refine ⟨fn, _, assign, body, hy, roundIn_of_wpIn hfn (wpIn_mono (hround _ x W) ?_)⟩
      rintro (_ | _ | _ | _ | _ | _) a₁ W₁ hW₁ <;> first | exact hW₁.elim | skip
      obtain ⟨hWe, hbody⟩ := hW₁
      have hWe' := hWe.symm
      subst hWe'
      refine ⟨_, run_beginRound hl (by rw [hrec]), ?_⟩
      have inI : ItS w.heap.size n1 I (w.heap.size + 1) := .inr ⟨by omega, by omega⟩
      have inB : BoP W1.heap.size n1 I (w.heap.size + 1) := ⟨fun h => by have := nI _ h; omega, by omega⟩
      have hl2 : (W.putObj (w.heap.size + 1) (.loop { rec .ready none with state := .busy })).heap[w.heap.size + 1]? = some (.loop { rec .ready none with state := .busy }) := World.putObj_heap_same hlt
      have hk2 : (W.putObj (w.heap.size + 1) (.loop { rec .ready none with state := .busy })).heap[w.heap.size]? = some (.deferred (some [])) := (World.putObj_heap_other (by omega)).trans hk
      refine wpIn_mono (hbody n1 i _ hx (hJ n1 i _ _ hj (Mod.putObj _ _ inI)) (by omega) (by simp; omega)) ?_
      have fin : ∀ (jump : Option Code) (W3 : World), Mod (BoP w.heap.size n1 I) (W.putObj (w.heap.size + 1) (.loop { rec .ready none with state := .busy })) W3 →
          (Instr.endRound (w.heap.size + 1) jump).run P W3 = .ok (.bool jump.isNone) (W3.putObj (w.heap.size + 1) (.loop (rec (if jump.isNone then .ready else .done) jump))) ∧
          Mod (BoP W1.heap.size n1 I) W (W3.putObj (w.heap.size + 1) (.loop (rec (if jump.isNone then .ready else .done) jump))) ∧
          (W3.putObj (w.heap.size + 1) (.loop (rec (if jump.isNone then .ready else .done) jump))).heap[w.heap.size + 1]? = some (.loop (rec (if jump.isNone then .ready else .done) jump)) ∧
          (W3.putObj (w.heap.size + 1) (.loop (rec (if jump.isNone then .ready else .done) jump))).heap[w.heap.size]? = some (.deferred (some [])) := fun jump W3 hm3 => by
        have hl3 := (hm3.block _ (Array.getElem?_eq_some_iff.1 hl2).1 (fun h => h.2 ⟨by omega, by omega⟩)).trans hl2
        have hk3 := (hm3.block _ (Array.getElem?_eq_some_iff.1 hk2).1 (fun h => h.2 ⟨by omega, by omega⟩)).trans hk2
        have := run_endRound (P := P) jump hl3
        rw [hrec] at this ⊢
        refine ⟨this, ?_, World.putObj_heap_same (Array.getElem?_eq_some_iff.1 hl3).1, (World.putObj_heap_other (by omega)).trans hk3⟩
        exact ((Mod.putObj W _ inB).trans (hm3.mono fun k _ h => ⟨h.1, fun h' => h.2 ⟨by omega, h'.2⟩⟩)).trans (Mod.putObj W3 _ inB)
      rintro e a3 W3 hp
      cases e with
      | normal =>
        obtain ⟨hj3, hm3⟩ := hp
        obtain ⟨hr, hmm, hl4, hk4⟩ := fin none W3 hm3
        exact ⟨_, _, hr, .inl ⟨rfl, hJ n1 (i + 1) _ _ hj3 (Mod.putObj W3 _ inI), hl4, hk4⟩, hmm⟩
      | ret =>
        obtain ⟨hj3, hm3⟩ := hp
        obtain ⟨hr, hmm, hl4, hk4⟩ := fin (some .ret) W3 hm3
        exact ⟨_, _, hr, .inr ⟨rfl, by omega, .ret, hJx n1 _ (i + 1) _ _ hj3 (Mod.putObj W3 _ inI), hl4, hk4⟩, hmm⟩
      | exit id =>
        obtain ⟨hj3, hm3⟩ := hp
        obtain ⟨hr, hmm, hl4, hk4⟩ := fin (some (.exit id)) W3 hm3
        exact ⟨_, _, hr, .inr ⟨rfl, by omega, .exit id, hJx n1 _ (i + 1) _ _ hj3 (Mod.putObj W3 _ inI), hl4, hk4⟩, hmm⟩
      | goto t =>
        obtain ⟨hj3, hm3⟩ := hp
        obtain ⟨hr, hmm, hl4, hk4⟩ := fin (some (.goto t)) W3 hm3
        exact ⟨_, _, hr, .inr ⟨rfl, by omega, .goto t, hJx n1 _ (i + 1) _ _ hj3 (Mod.putObj W3 _ inI), hl4, hk4⟩, hmm⟩
      | panic ch => exact hp.elim
      | outgrown => exact hp.elim
    · intro n1 hn1
      exact ⟨hJ n1 0 _ _ (h0 n1 (by omega)) (hM1 _), hL1, hK1⟩
    · rintro e W2 ⟨⟨v, rfl⟩, n1, hn1, hn2, (⟨hj, hl, hk⟩ | ⟨i, hi', hi, c, hj, hl, hk⟩)⟩
      · have inI : ItS w.heap.size n1 I (w.heap.size + 1) := .inr ⟨by omega, by omega⟩
        exact ⟨none, _, by have := run_endLoop (P := P) hl (by rw [hrec]; simp); rw [hrec] at this; exact this, hdone _ n1 _ (by omega) (by simp; omega) (hJ n1 _ _ _ hj (Mod.putObj W2 _ inI)) rfl ((World.putObj_heap_other (by omega)).trans hk)⟩
      · have inI : ItS w.heap.size n1 I (w.heap.size + 1) := .inr ⟨by omega, by omega⟩
        exact ⟨some c, _, by have := run_endLoop (P := P) hl (by rw [hrec]; simp); rw [hrec] at this; exact this, hstop _ n1 c i _ (by omega) (by simp; omega) hi (hJx n1 c i _ _ hj (Mod.putObj W2 _ inI)) rfl ((World.putObj_heap_other (by omega)).trans hk)⟩
end Go.Proofs.YtdapdadcninidaaGreatDoor
namespace Go.Proofs.YtdapdadcninidaaGreatDoor
open Go.RowKit
attribute [local go_sem] Oper.semAt_some

/-- The next node on the way up. -/
def upN (ns : List Nd) (ho : Bool) (h : Int) : Int := if (ndAt ns h).parent = 0 ∧ ho = true then (ndAt ns h).host else (ndAt ns h).parent
/-- The way up from a node, which ends. -/
inductive Up (ns : List Nd) (ho : Bool) : Int → List Int → Prop
  | done : Up ns ho 0 []
  | more {h : Int} {xs : List Int} : isH ns.length h = true → Up ns ho (upN ns ho h) xs → Up ns ho h (h :: xs)
theorem Up.zero {ns : List Nd} {ho : Bool} {xs : List Int} (h : Up ns ho 0 xs) : xs = [] := by
  cases h with
  | done => rfl
  | more h1 _ => simp [isH] at h1
theorem Up.step {ns : List Nd} {ho : Bool} {h : Int} {xs : List Int} (hU : Up ns ho h xs) (hz : h ≠ 0) : isH ns.length h = true ∧ ∃ ys, xs = h :: ys ∧ Up ns ho (upN ns ho h) ys := by
  cases hU with
  | done => exact absurd rfl hz
  | more h1 h2 => exact ⟨h1, _, rfl, h2⟩
theorem Up.one {ns : List Nd} {ho : Bool} {h : Int} {xs ys : List Int} (hU : Up ns ho h xs) (hV : Up ns ho h ys) : xs = ys := by
  induction hU generalizing ys with
  | done => exact hV.zero.symm
  | more h1 _ ih => cases hV with
    | done => simp [isH] at h1
    | more _ h2 => rw [ih h2]
open Classical in
/-- The length of the way up. -/
noncomputable def upLen (ns : List Nd) (ho : Bool) (h : Int) : Nat := if e : ∃ ys, Up ns ho h ys then e.choose.length else 0
theorem upLen_of {ns : List Nd} {ho : Bool} {h : Int} {xs : List Int} (hU : Up ns ho h xs) : upLen ns ho h = xs.length := by
  have e : ∃ ys, Up ns ho h ys := ⟨xs, hU⟩
  rw [upLen, dif_pos e, hU.one e.choose_spec]
/-- Only its own blocks count. -/
theorem ArW.same {B : AB} {O : List Nat} {ns : List Nd} {w W : World} (h : ArW B O ns w) (hs : w.heap.size ≤ W.heap.size) (hb : ∀ k ∈ O, W.heap[k]? = w.heap[k]?) : ArW B O ns W := by
  have hm : Mod (fun k => k ∉ O) w { w with heap := W.heap } := ⟨rfl, rfl, rfl, hs, fun k _ hk => hb k (Classical.not_not.1 hk)⟩
  obtain ⟨tab, L, h1, h2, h3⟩ := h.kept hm fun k hk hn => hn hk
  exact ⟨tab, L, ⟨h1.hd, h1.row, h1.kid, h1.att, h1.nd⟩, h2, h3⟩
set_option maxRecDepth 100000 in
set_option maxHeartbeats 400000 in
theorem up_iter (ho : Bool) (h : Int) (xs : List Int) (n : Nat) (hn : 3 ≤ n) (w : World) {B : AB} {hb ab sb : Nat} {O : List Nat} {ns : List Nd} (_ : ArW B O ns w) (hl : ns.length ≤ 1000000) (hU : Up ns ho h xs)
    (c1 : w.heap[hb]? = some (.cells #[.int .i64 h] 3 (0, 0))) (_ : w.cell? ⟨ab, 0, none⟩ = some (.pointer (some ⟨B, 0, none⟩))) (_ : w.cell? ⟨sb, 0, none⟩ = some (.bool ho)) (hbO : hb ∉ O) (_ : hb ≠ ab) (hbs : hb ≠ sb) :
    IterP Fence.wide n Tryz.prog 138 #[.pointer (some ⟨hb, 0, none⟩), .pointer (some ⟨ab, 0, none⟩), .pointer (some ⟨sb, 0, none⟩)] (fun x : Int => #[.int .i64 x]) xs (fun k => k = hb)
      (fun W => ArW B O ns W ∧ W.cell? ⟨ab, 0, none⟩ = some (.pointer (some ⟨B, 0, none⟩)) ∧ W.cell? ⟨sb, 0, none⟩ = some (.bool ho)) w := by
  intro lp J Jx W hsz hJ hJx hP hY h0
  have hbl : hb < w.heap.size := (Array.getElem?_eq_some_iff.1 c1).1
  have e1 : W.heap[hb]? = some (.cells #[.int .i64 h] 3 (0, 0)) := (hsz.block hb hbl).trans c1
  have hs0 := hsz.size
  have HJ := Lib.hid hJ; have HJX := Lib.hid hJx; have HY := Lib.hid hY; have H0 := Lib.hid (h0 W.heap.size (Nat.le_refl _)); have HP := Lib.hid hP
  clear hJ hJx hY h0 c1 hP hsz
  obtain ⟨n1, hn1⟩ : ∃ n1, n1 = W.heap.size := ⟨_, rfl⟩
  rw [← hn1] at H0
  refine callsIn_of_wp Tryz.func138 rfl trivial ?_ rfl
  simp only [Tryz.ntmps138, List.size_toArray, List.length_cons, List.length_nil, Nat.reduceAdd, Nat.reduceSub, Array.replicate_succ, Array.replicate_zero, List.push_toArray, List.append_toArray, List.nil_append, List.cons_append]
  gi_wp2_with fail
  gi_loopw [5] (fun _ wr => ∃ (i : Nat) (hc : Int), i ≤ xs.length ∧ Up ns ho hc (xs.drop i) ∧ n1 ≤ wr.heap.size ∧ wr.heap[hb]? = some (.cells #[.int .i64 hc] 3 (0, 0)) ∧ J n1 i wr)
    (fun _ wr => match wr.cell? ⟨hb, 0, none⟩ with | some (.int .i64 z) => upLen ns ho z | _ => 0)
  case atStart => exact ⟨0, h, Nat.zero_le _, hU, by omega, e1, H0.out⟩
  case round =>
    obtain ⟨i, hc, hi, hu, hs1, e4, hj⟩ := hrel
    obtain ⟨hA1, e5, e6⟩ := HP.out _ _ _ hj
    have e7 : wr.cell? ⟨hb, 0, none⟩ = some (.int .i64 hc) := by rw [cell_of_row _ _ _ _ _ _ e4]; rfl
    have e7x := e7
    by_cases hz : hc = 0
    · subst hz
      have hie : i = xs.length := by
        have := congrArg List.length hu.zero
        simp at this
        omega
      have HF := Lib.hid (hie ▸ hj)
      clear hu hA1 hj H0 e1 hie
      gi_wp2_with fail
      refine ⟨by simp, ?_⟩
      gi_wp2_with fail
      go_end0
      exact ⟨⟨_, rfl⟩, n1, by omega, hs1, .inl HF.out⟩
    · have HN : (hc != 0) = true := by simpa using hz
      obtain ⟨hh, ys, hxe, hu2⟩ := hu.step hz
      have hxi : xs[i]? = some hc := by
        have h1 : (List.drop i xs)[0]? = some hc := by rw [hxe]; rfl
        simpa using h1
      have hil : i < xs.length := (List.getElem?_eq_some_iff.1 hxi).1
      have hdi : xs.drop (i + 1) = ys := by rw [← List.drop_drop, hxe]; rfl
      obtain ⟨fn, tmps, assign, body, hy, hR⟩ := HY.out n1 i _ wr hxi hj (by omega) (by omega)
      have HR := Lib.hid hR
      rw [← hdi] at hu2
      have hm1 : upLen ns ho (upN ns ho hc) < upLen ns ho hc := by
        rw [upLen_of hu2, upLen_of hu, hxe, hdi]; simp
      have HU2 := Lib.hid hu2; have HM1 := Lib.hid hm1
      clear hR e1 H0 hj hxi hxe hu hu2 hdi hm1
      have hbl2 : hb < wr.heap.size := (Array.getElem?_eq_some_iff.1 e4).1
      gi_wp2_with fail
      refine ⟨fun _ => by omega, ?_⟩
      refine HR.out.mono ?_
      rintro e W3 ⟨(⟨rfl, hj3⟩ | ⟨rfl, hj3⟩), hm3⟩
      · obtain ⟨hA3, k5, k6⟩ := HP.out _ _ _ hj3
        have k4 : W3.heap[hb]? = some (.cells #[.int .i64 hc] 3 (0, 0)) := (hm3.block hb hbl2 (fun h => h.1 rfl)).trans e4
        have k7 : W3.cell? ⟨hb, 0, none⟩ = some (.int .i64 hc) := by rw [cell_of_row _ _ _ _ _ _ k4]; rfl
        have hs3 := hm3.size
        obtain ⟨g, cap, kv, av, ix, -, hx, c0, hn, -, -, hat⟩ := atW_any hc W3 hA3 hh hl
        have n1c := hn.c1
        have n12 := hn.c12
        have hgO : g ∈ O := by
          obtain ⟨tab, L, h1, h2, h3⟩ := hA3
          rw [← h2]
          rw [h1.c0] at c0
          cases c0
          exact mem_blocks.2 (.inr (.inl rfl))
        have hgb : ¬ (g = hb) := fun e => hbO (e ▸ hgO)
        have f7 : W3.frozen? ⟨hb, 0, none⟩ = false := Lib.frozen_of_heap k4 0
        have H2 := Lib.hid (hat W3 rfl)
        have HJ3 := Lib.hid hj3; have K4 := Lib.hid k4
        have HD : Hid (∀ p q, (ndAt ns hc).parent = p → (ndAt ns hc).host = q → upN ns ho hc = if p = 0 ∧ ho = true then (q : Int) else p) := Lib.hid (by rintro p q rfl rfl; rfl)
        obtain ⟨p, hp⟩ : ∃ p, (ndAt ns hc).parent = p := ⟨_, rfl⟩
        obtain ⟨q, hq⟩ : ∃ q, (ndAt ns hc).host = q := ⟨_, rfl⟩
        have HE := Lib.hid (HD.out p q hp hq)
        rw [hp] at n1c
        rw [hq] at n12
        clear hj3 hm3 hy HR hA1 hA3 hat hx hn e7 e6 e5 k4 c0 hp hq HD
        have HMU : Hid (∀ u, wr.cell? ⟨hb, 0, none⟩ = some (.int .i64 u) → (match wr.cell? ⟨hb, 0, none⟩ with | some (.int .i64 z) => upLen ns ho z | _ => 0) = upLen ns ho u) := Lib.hid (fun u e => by rw [e])
        have HME := Lib.hid (HMU.out hc (e7x))
        have HREL : Hid (∀ (z : Int) (W4 : World), W4.heap[hb]? = some (.cells #[.int .i64 z] 3 (0, 0)) → z = upN ns ho hc → Mod (fun k => k = hb) W3 W4 →
            (∃ (i : Nat) (hc : Int), i ≤ xs.length ∧ Up ns ho hc (xs.drop i) ∧ n1 ≤ W4.heap.size ∧ W4.heap[hb]? = some (.cells #[.int .i64 hc] 3 (0, 0)) ∧ J n1 i W4) ∧
            (match W4.cell? ⟨hb, 0, none⟩ with | some (.int .i64 z) => upLen ns ho z | _ => 0) < (match wr.cell? ⟨hb, 0, none⟩ with | some (.int .i64 z) => upLen ns ho z | _ => 0)) := Lib.hid (by
          rintro z W4 h4 rfl hm
          refine ⟨⟨i + 1, _, by omega, HU2.out, by have := hm.size; omega, h4, HJ.out _ _ _ _ HJ3.out (hm.mono fun k _ h => .inl h)⟩, ?_⟩
          have h5 : W4.cell? ⟨hb, 0, none⟩ = some (.int .i64 (upN ns ho hc)) := by rw [cell_of_row _ _ _ _ _ _ h4]; rfl
          rw [HME.out, h5]
          exact HM1.out)
        clear HMU HME e7x
        have hset : ∀ z, (W3.setCell ⟨hb, 0, none⟩ (.int .i64 z)).heap[hb]? = some (.cells #[.int .i64 z] 3 (0, 0)) := fun z => by rw [Joins.block_setCell (i := 0) K4.out]; rfl
        have hset2 : ∀ z y, ((W3.setCell ⟨hb, 0, none⟩ (.int .i64 z)).setCell ⟨hb, 0, none⟩ (.int .i64 y)).heap[hb]? = some (.cells #[.int .i64 y] 3 (0, 0)) := fun z y => by rw [Joins.block_setCell (i := 0) (hset z)]; rfl
        have HS := Lib.hid hset; have HS2 := Lib.hid hset2
        clear hset hset2 HJ3 HJ HU2 HM1
        by_cases hp0 : p = 0
        · subst hp0
          cases ho
          · have HV : Hid (upN ns false hc = 0) := Lib.hid (by rw [HE.out]; rfl)
            gi_wp2_with (refine call_wide H2.out ?_ (by omega); rintro e w4 ⟨rfl, rfl⟩)
            go_roundw
            case rel => exact (HREL.out 0 _ (HS.out _) HV.out.symm (Mod.setCell _ _ rfl)).1
            case measure => exact (HREL.out 0 _ (HS.out _) HV.out.symm (Mod.setCell _ _ rfl)).2
          · have HV : Hid (upN ns true hc = (q : Int)) := Lib.hid (by rw [HE.out]; rfl)
            gi_wp2_with (refine call_wide H2.out ?_ (by omega); rintro e w4 ⟨rfl, rfl⟩)
            go_roundw
            case rel => exact (HREL.out q _ (HS2.out _ _) HV.out.symm (Mod.trans (S := fun k => k = hb) (Mod.setCell _ _ rfl) (Mod.setCell _ _ rfl))).1
            case measure => exact (HREL.out q _ (HS2.out _ _) HV.out.symm (Mod.trans (S := fun k => k = hb) (Mod.setCell _ _ rfl) (Mod.setCell _ _ rfl))).2
        · have HV : Hid (upN ns ho hc = (p : Int)) := Lib.hid (by rw [HE.out, if_neg (fun h => hp0 h.1)])
          have hpz : ((p : Int) == 0) = false := by simpa using hp0
          gi_wp2_with (refine call_wide H2.out ?_ (by omega); rintro e w4 ⟨rfl, rfl⟩)
          go_roundw
          case rel => exact (HREL.out p _ (HS.out _) HV.out.symm (Mod.setCell _ _ rfl)).1
          case measure => exact (HREL.out p _ (HS.out _) HV.out.symm (Mod.setCell _ _ rfl)).2
      · have HJ3 := Lib.hid hj3
        have hs3 := hm3.size
        clear hj3 hm3 hy
        gi_wp2_with fail
        go_end0
        exact ⟨⟨_, rfl⟩, n1, by omega, by omega, .inr ⟨i + 1, by omega, HJ3.out⟩⟩
end Go.Proofs.YtdapdadcninidaaGreatDoor
namespace Go.Proofs.YtdapdadcninidaaGreatDoor
open Go.RowKit
attribute [local go_sem] Oper.semAt_some

theorem below_putA {n D : Nat} {w W : World} {o : Obj} (h : Below n w W) (hD : n ≤ D) : Below n w (W.putObj D o) :=
  ⟨h.os, h.tape, h.output, by simpa using h.size, fun k hk => (World.putObj_heap_other (by omega)).trans (h.block k hk)⟩
theorem putObj_cellA {W : World} {D b o : Nat} {x : Obj} {v : Value} (h : W.cell? ⟨b, o, none⟩ = some v) (hne : b ≠ D) : (W.putObj D x).cell? ⟨b, o, none⟩ = some v :=
  (World.cell?_of_block (w := W) (World.putObj_heap_other hne)).trans h
open Classical in
/-- The way up from a node. -/
noncomputable def upOf (ns : List Nd) (ho : Bool) (h : Int) : List Int := if e : ∃ ys, Up ns ho h ys then e.choose else []
theorem upOf_of {ns : List Nd} {ho : Bool} {h : Int} {xs : List Int} (hU : Up ns ho h xs) : upOf ns ho h = xs := by
  have e : ∃ ys, Up ns ho h ys := ⟨xs, hU⟩
  rw [upOf, dif_pos e, hU.one e.choose_spec]
noncomputable def containsL (ns : List Nd) (up h : Int) : Bool := isH ns.length up && (isH ns.length h && (upOf ns true h).contains up)
/-- The iterator's boxes. -/
def upBoxes (w : World) (B : Nat) (h : Int) (ho : Bool) : World := ((w.alloc (.cells #[.pointer (some ⟨B, 0, none⟩)] 23)).alloc (.cells #[.int .i64 h] 3)).alloc (.cells #[.bool ho] 4)
set_option maxRecDepth 100000 in
theorem up_any (h : Int) (ho : Bool) (w : World) (B : Nat) : Calls Tryz.prog 88 #[.pointer (some ⟨B, 0, none⟩), .int .i64 h, .bool ho] w fun e w' =>
    e = .returned (.func (.func 138) #[] #[.pointer (some ⟨w.heap.size + 1, 0, none⟩), .pointer (some ⟨w.heap.size, 0, none⟩), .pointer (some ⟨w.heap.size + 2, 0, none⟩)]) ∧ w' = upBoxes w B h ho := by
  unfold upBoxes
  have hmf : ∀ (fn : Fn) (first cap : Array Value) (w : World), (Instr.makeFunc fn first cap).run Tryz.prog w = .ok (.func fn first cap) w := fun _ _ _ _ => rfl
  go_enter Tryz.func88, Tryz.ntmps88
  go_wp2
  go_ret
  exact ⟨rfl, rfl⟩
theorem three_newA {w W0 : World} {o0 o1 o2 : Obj} (h : ((w.alloc o0).alloc o1).alloc o2 = W0) :
    W0.heap[w.heap.size]? = some o0 ∧ W0.heap[w.heap.size + 1]? = some o1 ∧ W0.heap[w.heap.size + 2]? = some o2 ∧ W0.heap.size = w.heap.size + 3 ∧ Below w.heap.size w W0 := by
  subst h
  have e0 := World.alloc_heap_new w o0
  have e1 := World.alloc_heap_new (w.alloc o0) o1
  have e2 := World.alloc_heap_new ((w.alloc o0).alloc o1) o2
  rw [World.size_alloc] at e1
  rw [World.size_alloc, World.size_alloc] at e2
  refine ⟨?_, ?_, e2, by simp, ((balloc w _).alloc (by simp) _).alloc (by simp; omega) _⟩
  · rw [Below.heap_alloc _ _ _ (by simp; omega), Below.heap_alloc _ _ _ (by simp)]; exact e0
  · rw [Below.heap_alloc _ _ _ (by simp)]; exact e1
structure CtJ (B : AB) (O : List Nat) (ns : List Nd) (xs : List Int) (up : Int) (w : World) (i : Nat) (W : World) : Prop where
  no : ∀ j y, j < i → xs[j]? = some y → y ≠ up
  c0 : W.cell? ⟨w.heap.size, 0, none⟩ = some (.int .i64 up)
  c1 : W.cell? ⟨w.heap.size + 1, 0, none⟩ = some (.bool false)
  f1 : W.frozen? ⟨w.heap.size + 1, 0, none⟩ = false
  ar : ArW B O ns W
  ab : W.cell? ⟨w.heap.size + 2, 0, none⟩ = some (.pointer (some ⟨B, 0, none⟩))
  sb : W.cell? ⟨w.heap.size + 4, 0, none⟩ = some (.bool true)
  bl : Below w.heap.size w W
structure CtX (xs : List Int) (up : Int) (w : World) (c : Code) (W : World) : Prop where
  rt : c = .ret
  c1 : W.cell? ⟨w.heap.size + 1, 0, none⟩ = some (.bool true)
  hv : up ∈ xs
  bl : Below w.heap.size w W
theorem CtJ.kept {B : AB} {O : List Nat} {ns : List Nd} {xs : List Int} {up : Int} {w A C : World} {i : Nat} (hO : ∀ k ∈ O, k < w.heap.size) (h : CtJ B O ns xs up w i A) (hm : Mod (fun k => k = w.heap.size + 3 ∨ w.heap.size + 5 ≤ k) A C) : CtJ B O ns xs up w i C := by
  obtain ⟨h0, h1, h2, h3, h4, h5, h6, h7⟩ := h
  have l1 := World.block_lt_of_cell? _ _ h1
  have l2 := World.block_lt_of_cell? _ _ h2
  have l5 := World.block_lt_of_cell? _ _ h5
  have l6 := World.block_lt_of_cell? _ _ h6
  exact ⟨h0, (hm.cell (p := ⟨_, 0, none⟩) l1 (by dsimp only; omega)).trans h1, (hm.cell (p := ⟨_, 0, none⟩) l2 (by dsimp only; omega)).trans h2, (hm.frozen (p := ⟨_, 0, none⟩) l2 (by dsimp only; omega)).trans h3,
    h4.kept hm fun k hk => by have := hO k hk; omega, (hm.cell (p := ⟨_, 0, none⟩) l5 (by dsimp only; omega)).trans h5, (hm.cell (p := ⟨_, 0, none⟩) l6 (by dsimp only; omega)).trans h6, h7.trans (hm.below h7.size fun k hk => by omega)⟩
theorem CtX.kept {xs : List Int} {up : Int} {w A C : World} {c : Code} (h : CtX xs up w c A) (hm : Mod (fun k => k = w.heap.size + 3 ∨ w.heap.size + 5 ≤ k) A C) : CtX xs up w c C := by
  obtain ⟨h0, h2, h3, h6⟩ := h
  have l2 := World.block_lt_of_cell? _ _ h2
  exact ⟨h0, (hm.cell (p := ⟨_, 0, none⟩) l2 (by dsimp only; omega)).trans h2, h3, h6.trans (hm.below h6.size fun k hk => by omega)⟩
theorem CtJ.next {B : AB} {O : List Nat} {ns : List Nd} {xs : List Int} {up x : Int} {w A : World} {i : Nat} (h : CtJ B O ns xs up w i A) (hx : xs[i]? = some x) (hne : x ≠ up) : CtJ B O ns xs up w (i + 1) A := by
  obtain ⟨h0, h1, h2, h3, h4, h5, h6, h7⟩ := h
  refine ⟨fun j y hj hy => ?_, h1, h2, h3, h4, h5, h6, h7⟩
  by_cases e : j = i
  · subst e
    rw [hx] at hy
    cases hy
    exact hne
  · exact h0 j y (by omega) hy
theorem enter_up1 (args : Array Value) (W : World) : (callFunc 138 args).run Tryz.prog W = .ok (.enter 138 args) W := by simp [go_sem]

set_option maxRecDepth 100000 in
set_option maxHeartbeats 1000000 in
theorem Contains_any (up h : Int) (w : World) {B : AB} {O : List Nat} {ns : List Nd} (hA : ArW B O ns w) (hl : ns.length ≤ 1000000) (hup : isH ns.length h = true → ∃ xs, Up ns true h xs) :
    Calls Tryz.prog 46 #[.pointer (some ⟨B, 0, none⟩), .int .i64 up, .int .i64 h] w (Ret w (.bool (containsL ns up h))) := by
  obtain ⟨W0, hW0⟩ : ∃ W0, (w.alloc (.cells #[.int .i64 up] 3)).alloc (.cells #[.bool false] 4) = W0 := ⟨_, rfl⟩
  obtain ⟨hb0, hbx, hs0, b0⟩ := two_new hW0
  have hA0 := hA.later b0
  have H1 := isH_any up W0 hA0
  have H2 := isH_any h W0 hA0
  have z0 : W0.cell? ⟨w.heap.size, 0, none⟩ = some (.int .i64 up) := by rw [cell_of_row _ _ _ _ _ _ hb0]; rfl
  have z1 : W0.cell? ⟨w.heap.size + 1, 0, none⟩ = some (.bool false) := by rw [cell_of_row _ _ _ _ _ _ hbx]; rfl
  have y1 : W0.frozen? ⟨w.heap.size + 1, 0, none⟩ = false := Lib.frozen_of_heap hbx _
  have HW := Lib.hid hW0
  have no : isH ns.length up = false ∨ isH ns.length h = false → Ret w (.bool (containsL ns up h)) (.returned (.bool false)) (W0.setCell ⟨w.heap.size + 1, 0, none⟩ (.bool false)) := fun e => Ret.mk (by
    rcases e with e | e <;> simp [containsL, e]) (b0.setCell (by simp) _)
  have NO := Lib.hid no
  clear no
  cases hu : isH ns.length up
  · rw [hu] at H1
    have H1 := Lib.hid H1
    have HF := Lib.hid (NO.out (.inl hu))
    have hr1 : (W0.setCell ⟨w.heap.size + 1, 0, none⟩ (.bool false)).cell? ⟨w.heap.size + 1, 0, none⟩ = some (.bool false) := World.cell?_setCell_same' _ _ _ (by rw [z1]; rfl)
    clear hA0 hA hW0 hup H2 hu NO hb0 hbx b0
    go_enter Tryz.func46, Tryz.ntmps46
    go_wp2_with fail
    rw [HW.out]
    go_wp2_with (refine H1.out.mono ?_; rintro e w1 ⟨rfl, rfl⟩)
    exact bodyPost_ret (v := .bool false) (by simp [results, Tryz.results46, go_sem, hr1]) rfl HF.out
  · rw [hu] at H1
    have H1 := Lib.hid H1
    cases hh : isH ns.length h
    · rw [hh] at H2
      have H2 := Lib.hid H2
      have HF := Lib.hid (NO.out (.inr hh))
      have hr1 : (W0.setCell ⟨w.heap.size + 1, 0, none⟩ (.bool false)).cell? ⟨w.heap.size + 1, 0, none⟩ = some (.bool false) := World.cell?_setCell_same' _ _ _ (by rw [z1]; rfl)
      clear hA0 hA hW0 hup hh NO hb0 hbx b0 hu
      go_enter Tryz.func46, Tryz.ntmps46
      go_wp2_with fail
      rw [HW.out]
      go_wp2_with fail
      refine H1.out.mono ?_
      rintro e w1 ⟨rfl, rfl⟩
      go_wp2_with fail
      refine H2.out.mono ?_
      rintro e w1 ⟨rfl, rfl⟩
      go_wp2_with fail
      exact bodyPost_ret (v := .bool false) (by simp [results, Tryz.results46, go_sem, hr1]) rfl HF.out
    · rw [hh] at H2
      have H2 := Lib.hid H2
      obtain ⟨xs, hU⟩ := hup hh
      have hcv : containsL ns up h = xs.contains up := by simp [containsL, hu, hh, upOf_of hU]
      rw [hcv]
      have hO : ∀ k ∈ O, k < w.heap.size := fun k hk => hA.lt hk
      have hBw : B < w.heap.size := hO B hA.hasB
      -- the boxes of the iterator
      have H3 := Lib.hid (up_any h true W0 B)
      obtain ⟨W1, hW1⟩ : ∃ W1, upBoxes W0 B h true = W1 := ⟨_, rfl⟩
      obtain ⟨x0, x1, x2, hs1, b1⟩ := three_newA (w := W0) (W0 := W1) hW1
      have hA1 := hA0.later b1
      have hsz : W0.heap.size = w.heap.size + 2 := hs0
      have b01 : Below w.heap.size w W1 := bthen b0 b0.size b1
      have hit := fun n hn => up_iter true h xs n hn W1 (hb := W0.heap.size + 1) (ab := W0.heap.size) (sb := W0.heap.size + 2) hA1 hl hU x1 (by rw [cell_of_row _ _ _ _ _ _ x0]; rfl) (by rw [cell_of_row _ _ _ _ _ _ x2]; rfl) (fun hk => by have := hO _ hk; omega) (by omega) (by omega)
      rw [hsz] at hit x0 x1 x2
      have hJ0 : CtJ B O ns xs up w 0 W1 := ⟨fun _ _ h => absurd h (Nat.not_lt_zero _), (b1.cell (p := ⟨w.heap.size, 0, none⟩) (by dsimp only; omega)).trans z0, (b1.cell (p := ⟨w.heap.size + 1, 0, none⟩) (by dsimp only; omega)).trans z1,
        (b1.frozen (p := ⟨w.heap.size + 1, 0, none⟩) (by dsimp only; omega)).trans y1, hA1, by rw [cell_of_row _ _ _ _ _ _ x0]; rfl, by rw [cell_of_row _ _ _ _ _ _ x2]; rfl, b01⟩
      have hs1' : W1.heap.size = w.heap.size + 5 := by omega
      have HIT := Lib.hid hit; have HJ0 := Lib.hid hJ0; have HO := Lib.hid hO; have HW1 := Lib.hid hW1
      clear hA0 hA hW0 hup hh NO hb0 hbx b0 hu hcv x0 x1 x2 hs1 b1 hA1 b01 hit hJ0 hO hW1
      rw [hsz] at H3
      obtain ⟨n, hn⟩ : ∃ n, 9 ≤ n := ⟨9, Nat.le_refl _⟩
      refine (callsIn_wide (n := n)).1 ?_
      refine callsIn_of_wp_marks Tryz.func46 rfl trivial ?_ rfl
      simp only [Tryz.ntmps46, List.size_toArray, List.length_cons, List.length_nil, Nat.reduceAdd, Nat.reduceSub, Array.replicate_succ, Array.replicate_zero, List.push_toArray, List.append_toArray, List.nil_append, List.cons_append]
      gi_wp2_with fail
      rw [HW.out]
      refine call_wide H1.out ?_ (by omega)
      rintro e w1 ⟨rfl, rfl⟩
      gi_wp2_with fail
      refine call_wide H2.out ?_ (by omega)
      rintro e w1 ⟨rfl, rfl⟩
      gi_wp2_with fail
      refine call_wide H3.out ?_ (by omega)
      rintro e w1 ⟨rfl, rfl⟩
      rw [HW1.out]
      clear H1 H2 H3
      gi_wp2_with fail
      have HS := Lib.hid (HIT.out (n - 1) (by omega))
      refine wpIn_rangeFunc_itp rfl (by omega) (gf := 138) rfl trivial enter_up1 HS.out (fun k h => by subst h; omega) (fun x => rfl)
        (fun _ i W => CtJ B O ns xs up w i W) (fun _ c _ W => CtX xs up w c W) ?keep ?keepx ?pr ?start ?round ?done ?stop
      case keep => exact fun n1 i A C h hm => h.kept HO.out (hm.mono fun k _ h => h.elim (fun h => .inl h) fun h => .inr (by omega))
      case keepx => exact fun n1 c i A C h hm => h.kept (hm.mono fun k _ h => h.elim (fun h => .inl h) fun h => .inr (by omega))
      case pr => exact fun n1 i A h => ⟨h.ar, h.ab, h.sb⟩
      case start => exact fun _ _ => HJ0.out
      case round =>
        rintro lp x W
        gi_wp2_with fail
        refine ⟨trivial, ?_⟩
        rintro n1 i W' hx hj hn1 hn1'
        have hc0 := hj.c0
        have hc1 := hj.c1
        have hf1 := hj.f1
        have HJ := Lib.hid hj; have HX := Lib.hid hx
        clear hj hx HJ0 HS HIT HW HW1
        cases he : x == up
        · have HE := Lib.hid he
          gi_wp2_with fail
          exact ⟨HJ.out.next HX.out (by simpa using HE.out), Mod.refl _ _⟩
        · have HE := Lib.hid he
          gi_wp2_with fail
          refine ⟨⟨rfl, ?_, ?_, HJ.out.bl.setCell (by simp) _⟩, Mod.setCell _ _ ⟨by dsimp only; omega, by dsimp only; omega⟩⟩
          · exact World.cell?_setCell_same' _ _ _ (by rw [hc1]; rfl)
          · have e : x = up := by simpa using HE.out
            exact e ▸ List.mem_of_getElem? HX.out
      case done =>
        rintro D n1 W hn1 hn2 hj hD hK
        have HV := Lib.hid (show xs.contains up = false by
          rw [← Bool.not_eq_true, List.contains_iff_mem]
          intro hm
          obtain ⟨j, hj1, hj2⟩ := List.getElem_of_mem hm
          exact hj.no j up hj1 (by rw [List.getElem?_eq_getElem hj1, hj2]) rfl)
        obtain ⟨-, h0, h1, h2, -, -, -, h4⟩ := hj
        have hr1 : (W.setCell ⟨w.heap.size + 1, 0, none⟩ (.bool false)).cell? ⟨w.heap.size + 1, 0, none⟩ = some (.bool false) := World.cell?_setCell_same' _ _ _ (by rw [h1]; rfl)
        have hbl : Below w.heap.size w (W.setCell ⟨w.heap.size + 1, 0, none⟩ (.bool false)) := h4.setCell (by simp) _
        have hK' := (Below.heap_setCell W ⟨w.heap.size + 1, 0, none⟩ (.bool false) D (by dsimp only; omega)).trans hK
        have HB := Lib.hid hbl; have HK := Lib.hid hK'
        clear h0 h4 hbl hK' hK HJ0 HS HIT HW HW1
        gi_wp2_with fail
        refine ⟨by simp, .inl ⟨_, _, rfl, run_takeDeferred HK.out, ?_⟩⟩
        have hq1 := putObj_cellA (D := D) (x := .deferred none) hr1 (by omega)
        rw [HV.out]
        exact ⟨.bool false, by simp [results, Tryz.results46, go_sem, hq1], Ret.mk rfl (below_putA HB.out (by omega))⟩
      case stop =>
        rintro D n1 c i W hn1 hn2 hi ⟨rfl, h1, h2, h3⟩ hD hK
        have HV := Lib.hid (show xs.contains up = true by rw [List.contains_iff_mem]; exact h2)
        have HB := Lib.hid h3; have HK := Lib.hid hK
        clear h2 h3 hK HJ0 HS HIT HW HW1
        gi_wp2_with fail
        refine ⟨by simp, .inl ⟨_, _, rfl, run_takeDeferred HK.out, ?_⟩⟩
        have hr1 := putObj_cellA (D := D) (x := .deferred none) h1 (by omega)
        rw [HV.out]
        exact ⟨.bool true, by simp [results, Tryz.results46, go_sem, hr1], Ret.mk rfl (below_putA HB.out (by omega))⟩
end Go.Proofs.YtdapdadcninidaaGreatDoor
