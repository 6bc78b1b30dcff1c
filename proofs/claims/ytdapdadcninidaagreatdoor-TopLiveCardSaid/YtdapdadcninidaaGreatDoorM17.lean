/- Package arena: preorder, and the iterator of Walk. No condition but that the nodes are linked well. Package arena: Walk, and its iterator. No condition but that the nodes are linked well. TopLive: what its loops keep. Plain. strings.Replacer as the dump uses it: build lays the table of three bytes. No condition. sync.Once: Do, at a function that has not been called yet. -/
import Derived.Test.YtdapdadcninidaaGreatDoorM13
import Derived.Test.YtdapdadcninidaaGreatDoorM9
import Derived.Test.YtdapdadcninidaaGreatDoorM16
import Derived.Test.YtdapdadcninidaaGreatDoorM1
import Derived.Test.YtdapdadcninidaaGreatDoorShelf
import Derived.Deep.WholeRow
import Derived.Lib.BufferMore
import Derived.Deep.DrawnRows
import Derived.Tactics
import Derived.Tactics2
import Derived.Defers
import Derived.Laws.Pointers
import Derived.Laws.LoneSync
import Derived.RegionTactic
import Derived.RegionCalls
import Derived.ChangeAlike
set_option linter.unusedSimpArgs false
set_option linter.unusedVariables false
namespace Go.Proofs.YtdapdadcninidaaGreatDoor
open Go.RowKit
attribute [local go_sem ↓] Go.wp_at_zero Go.wp_at_succ

theorem append_intL {ops : Array Oper} {rest : List Oper} {o : Oper} {a : Go.Act} {Q : Exit → Go.Act → World → Prop} {W : World} (hgd : o.guard = none) (sl x : Operand)
    (ho : o.op = .call { callee := .builtin .append, args := #[sl, x], argTypes := #[53, 53] })
    (R : Nat) (v : Value) (xs : List Value) (u : Value) (T : TypeId) (hs : a.eval sl = v) (hown : W.ownsRow R 3 1 v xs.length xs) (hu : u.oneCell' = true) (hx : a.eval x = .slice (some ⟨W.heap.size, 0, none⟩) 1 1) (hlen : xs.length + 1 ≤ 1000000000) (hR : R ≤ W.heap.size)
    (h : ∀ g cap w', w'.ownsRow R 3 1 (.slice (some ⟨g, 0, none⟩) (xs.length + 1) cap) (xs.length + 1) (xs ++ [u]) → Mod (fun k => v.ownBlock = some k) W w' → (v.ownBlock = some g ∨ W.heap.size ≤ g) → wpList Tryz.prog ops Q rest (a.put o.dst (.slice (some ⟨g, 0, none⟩) (xs.length + 1) cap)) w') :
    wpList Tryz.prog ops Q (o :: rest) a (W.alloc (.cells #[u] T)) := by
  obtain ⟨i0, hi, hz0, hz1, hz2⟩ := info_parts infoI
  have hown2 : (W.alloc (.cells #[u] T)).ownsRow R 3 1 v xs.length xs := ownsRow_below hown (balloc W _)
  refine wpList_append_lies _ hgd sl x 53 ho R 3 i0 (.int .i64 0) 1 8 Tryz.underlying53 hi hz0 hz1 hz2 rfl (by decide) v xs.length xs hs hown2 ⟨W.heap.size, 0, none⟩ 1 1 [u] hx rfl
    (news_new (H := W.heap.size) (cs := [u]) rfl) (by intro y hy; simp at hy; subst hy; exact hu) (by decide) (by unfold maxLen; omega) (by omega) (by simp; omega) (W.heap.size + 1) (by simp) ?_
  intro g cap w' h2 h3 h4 h5
  refine h g cap w' h2 ((Mod.alloc _ W _).trans (Mod.of_grown h3 fun k hk => hk.symm ▸ rfl)) ?_
  rcases h4 with h4 | h4
  · exact .inl h4
  · exact .inr (by omega)
/-- What preorder has appended so far, in memory of its own. -/
structure PreO (w0 : World) (l : List Nat) (a : Option Addr) (c : Nat) (W : World) : Prop where
  bl : Below w0.heap.size w0 W
  row : W.ownsRow w0.heap.size 3 1 (.slice a l.length c) l.length (kidCells l)
theorem PreO.one {w0 : World} {l : List Nat} {a : Option Addr} {c g cap x : Nat} {W w' : World} (h : PreO w0 l a c W) (hr : w'.ownsRow w0.heap.size 3 1 (.slice (some ⟨g, 0, none⟩) ((kidCells l).length + 1) cap) ((kidCells l).length + 1) (kidCells l ++ [.int .i64 (x : Nat)])) (hm : Mod (fun k => (Value.slice a l.length c).ownBlock = some k) W w') :
    PreO w0 (l ++ [x]) (some ⟨g, 0, none⟩) cap w' := by
  refine ⟨h.bl.trans (hm.below h.bl.size fun k hk e => by have := ownsRow_ge h.row e; omega), ?_⟩
  rw [show kidCells (l ++ [x]) = kidCells l ++ [.int .i64 (x : Nat)] by simp [kidCells, natV], List.length_append, List.length_cons, List.length_nil]
  rw [kidCells_len] at hr
  exact hr
/-- preorder's contract at a node; xs: what stands below it. -/
def PAt (B : Nat) (w0 : World) (h : Nat) (xs : List Nat) : Prop := ∀ (l : List Nat) (a : Option Addr) (c : Nat) (W : World), l.length + xs.length < 1000000 → PreO w0 l a c W →
  Calls Tryz.prog 80 #[.pointer (some ⟨B, 0, none⟩), .int .i64 (h : Nat), .slice a l.length c] W fun e W' => ∃ a' c', e = .returned (.slice a' (l ++ h :: xs).length c') ∧ PreO w0 (l ++ h :: xs) a' c' W'
set_option maxRecDepth 100000 in
set_option maxHeartbeats 2000000 in
/-- .. behind what stands before the children. -/
theorem pre_step {B : AB} {O : List Nat} {ns : List Nd} {w0 : World} (hA : ArW B O ns w0) (hl : ns.length ≤ 1000000) {x : Nat} (hx : inR ns x) (hkl : (nd ns x).kids.length ≤ 1000000) (x1 : List Nat) (ps : List (List Nat)) (hpl : ps.length = (nd ns x).kids.length)
    (hct : ((nd ns x).contents = 0 ∧ x1 = []) ∨ ∃ p, (nd ns x).contents ≠ 0 ∧ x1 = (nd ns x).contents :: p ∧ PAt B w0 (nd ns x).contents p)
    (IH : ∀ (j c : Nat) (p : List Nat), (nd ns x).kids[j]? = some c → ps[j]? = some p → PAt B w0 c p) : PAt B w0 x (x1 ++ (items (nd ns x).kids ps).flatten) := by
  intro l a c W hlen hO
  have hAW := hA.later hO.bl
  obtain ⟨g, cap, kv, av, i, hi, -, c0, hn, hkr, -, hat⟩ := atW_any ((x : Nat) : Int) w0 hA (inR_isH.2 hx) hl
  have k2 := hn.c2
  have k11 := hn.c11
  rw [show ndAt ns ((x : Nat) : Int) = nd ns x from rfl] at k11 hkr
  obtain ⟨ka, kc, rfl⟩ := ownsRow_slice hkr
  have lB := World.block_lt_of_cell? _ _ c0
  have lg := World.block_lt_of_cell? _ _ k2
  have H1 := Lib.hid (fun w' (hb : Below w0.heap.size w0 w') => (hat w' (hb.cell (p := ⟨B, 0, none⟩) lB)))
  have HK2 := Lib.hid (fun w' (hb : Below w0.heap.size w0 w') => (hb.cell (p := ⟨g, i * 13 + 2, none⟩) lg).trans k2)
  have HK11 := Lib.hid (fun w' (hb : Below w0.heap.size w0 w') => (hb.cell (p := ⟨g, i * 13 + 11, none⟩) lg).trans k11)
  have HKR := Lib.hid (fun w' (hb : Below w0.heap.size w0 w') => ownsRow_below hkr hb)
  have HO := Lib.hid hO; have HIH := Lib.hid IH; have HCT := Lib.hid hct; have HPL := Lib.hid hpl
  generalize (nd ns x).kids = ks at *
  generalize (nd ns x).contents = ct at *
  clear hA hAW hn hkr hat hO IH hct c0 k2 k11 lB lg hi hx hl hpl
  rw [List.length_append] at hlen
  have hol := HO.out.bl.size
  have hlk : (kidCells l).length = l.length := kidCells_len l
  go_enter Tryz.func80, Tryz.ntmps80
  go_wp2_with (at_builtin; refine append_intL rfl _ _ rfl w0.heap.size (.slice a l.length c) (kidCells l) (.int .i64 (x : Nat)) _ rfl (by rw [kidCells_len]; exact HO.out.row) rfl rfl (by rw [kidCells_len]; omega) (by exact hol) ?_; intro ga ca w1 hr1 hm1 hg1; have HO1 := Lib.hid (HO.out.one hr1 hm1); clear hr1 hm1 hg1)
  refine (H1.out _ HO1.out.bl).mono ?_
  rintro e w2 ⟨rfl, rfl⟩
  have c11 := HK11.out _ HO1.out.bl
  have c2 := HK2.out _ HO1.out.bl
  rw [show l.length + 1 = (l ++ [x]).length by simp]
  rcases HCT.out with ⟨hc, hx1⟩ | ⟨p, hc, hx1, hp⟩
  · subst hc
    subst hx1
    obtain ⟨cur0, hcur0⟩ : ∃ cur0, l ++ [x] = cur0 := ⟨_, rfl⟩
    rw [hcur0] at HO1 ⊢
    have HS : Hid (cur0 = l ++ x :: ([] ++ ((items ks ps).take 0).flatten)) := Lib.hid (by rw [← hcur0]; simp)
    have HO2 := HO1
    have c11' : w1.cell? ⟨g, i * 13 + 11, none⟩ = some (.int .i64 0) := c11
    clear hcur0 HO1 HCT HO H1 HK11 HK2 c11
    go_wp2_with fail
    go_loopw [2, 37] (fun o i wr => ∃ (j : Nat) (cur : List Nat) (a' : Option Addr) (c' : Nat), j ≤ ks.length ∧ i = .int .i64 (j : Nat) ∧ o = .slice a' cur.length c' ∧ cur = l ++ x :: (([] : List Nat) ++ ((items ks ps).take j).flatten) ∧ PreO w0 cur a' c' wr) (fun _ i _ => ks.length - (intOf i).toNat)
    case atStart => exact ⟨0, cur0, _, _, Nat.zero_le _, rfl, rfl, HS.out, HO2.out⟩
    case round =>
      obtain ⟨j, cur, a', c', hj, rfl, rfl, hcur, hO⟩ := hrel
      have HOr := Lib.hid hO; have HCU := Lib.hid hcur
      clear hO HO2 HS
      by_cases hlt : j < ks.length
      · have hR := HKR.out _ HOr.out.bl
        obtain ⟨gk, rfl⟩ := row_someA hR (by omega)
        have hcell := row_at hR j (natV ks[j]) (by simp [kidCells, hlt])
        have hpj : j < ps.length := by rw [HPL.out]; exact hlt
        have hfl := (items_at (ks := ks) (ps := ps) hlt hpj).2.2
        have hnx := items_take_succ (ks := ks) (ps := ps) hlt hpj
        have hcl : cur.length = l.length + 1 + ([] : List Nat).length + ((items ks ps).take j).flatten.length := by rw [hcur]; simp; omega
        have H6 := HIH.out j _ ps[j] (List.getElem?_eq_getElem hlt) (List.getElem?_eq_getElem hpj) cur a' c' wr (by simp only [List.length_cons, List.length_nil] at hlen hcl ⊢; omega) HOr.out
        have HNX : Hid (cur ++ ks[j] :: ps[j] = l ++ x :: (([] : List Nat) ++ ((items ks ps).take (j + 1)).flatten)) := Lib.hid (by rw [hnx, hcur]; simp)
        obtain ⟨cur2, hcur2⟩ : ∃ cur2, cur ++ ks[j] :: ps[j] = cur2 := ⟨_, rfl⟩
        rw [hcur2] at H6 HNX
        obtain ⟨k, hk⟩ : ∃ k, ks[j] = k := ⟨_, rfl⟩
        rw [hk] at H6 hcell
        have hji : (j : Int) < (ks.length : Int) := by omega
        simp only [natV] at hcell
        have H6 := Lib.hid H6
        clear hk hcur2 hcl hnx hfl hpj hcur hR
        go_wp2_with fail
        refine H6.out.mono ?_
        rintro e w5 ⟨a5, c5, rfl, hO5⟩
        have HO5 := Lib.hid hO5
        clear hO5 H6
        go_wp2_with fail
        go_roundw
        case rel => exact ⟨j + 1, cur2, a5, c5, by omega, by go_num, rfl, HNX.out, HO5.out⟩
        case measure => simp [intOf]; omega
      · have hje : j = ks.length := by omega
        have hcur2 : cur = l ++ x :: (([] : List Nat) ++ (items ks ps).flatten) := by
          rw [hcur, hje, List.take_of_length_le (by simp [items]; omega)]
        have HC2 := Lib.hid hcur2
        clear hcur hcur2 hje
        go_wp2_with fail
        go_ret
        exact ⟨a', c', by rw [← HC2.out]; rfl, by rw [← HC2.out]; exact HOr.out⟩
  · have hcb : (((ct : Nat) : Int) != 0) = true := by simpa using hc
    subst hx1
    have H5 := hp (l ++ [x]) (some ⟨ga, 0, none⟩) ca w1 (by simp at hlen ⊢; omega) HO1.out
    obtain ⟨cur1, hcur1⟩ : ∃ cur1, l ++ [x] = cur1 := ⟨_, rfl⟩
    obtain ⟨cur0, hcur0⟩ : ∃ cur0, (l ++ [x]) ++ ct :: p = cur0 := ⟨_, rfl⟩
    have HS : Hid (cur0 = l ++ x :: ((ct :: p) ++ ((items ks ps).take 0).flatten)) := Lib.hid (by rw [← hcur0]; simp)
    rw [hcur0, hcur1] at H5
    rw [hcur1]
    have H5 := Lib.hid H5
    clear hcur1 hcur0 HCT HO H1 hp hc
    go_wp2_with fail
    refine H5.out.mono ?_
    rintro e w3 ⟨a3, c3, rfl, hO3⟩
    have HO2 := Lib.hid hO3
    have c2 := HK2.out _ hO3.bl
    clear hO3 H5 HO1 c11 HK11 HK2
    go_wp2_with fail
    go_loopw [2, 37] (fun o i wr => ∃ (j : Nat) (cur : List Nat) (a' : Option Addr) (c' : Nat), j ≤ ks.length ∧ i = .int .i64 (j : Nat) ∧ o = .slice a' cur.length c' ∧ cur = l ++ x :: ((ct :: p) ++ ((items ks ps).take j).flatten) ∧ PreO w0 cur a' c' wr) (fun _ i _ => ks.length - (intOf i).toNat)
    case atStart => exact ⟨0, cur0, _, _, Nat.zero_le _, rfl, rfl, HS.out, HO2.out⟩
    case round =>
      obtain ⟨j, cur, a', c', hj, rfl, rfl, hcur, hO⟩ := hrel
      have HOr := Lib.hid hO; have HCU := Lib.hid hcur
      clear hO HO2 HS
      by_cases hlt : j < ks.length
      · have hR := HKR.out _ HOr.out.bl
        obtain ⟨gk, rfl⟩ := row_someA hR (by omega)
        have hcell := row_at hR j (natV ks[j]) (by simp [kidCells, hlt])
        have hpj : j < ps.length := by rw [HPL.out]; exact hlt
        have hfl := (items_at (ks := ks) (ps := ps) hlt hpj).2.2
        have hnx := items_take_succ (ks := ks) (ps := ps) hlt hpj
        have hcl : cur.length = l.length + 1 + (ct :: p).length + ((items ks ps).take j).flatten.length := by rw [hcur]; simp; omega
        have H6 := HIH.out j _ ps[j] (List.getElem?_eq_getElem hlt) (List.getElem?_eq_getElem hpj) cur a' c' wr (by simp only [List.length_cons, List.length_nil] at hlen hcl ⊢; omega) HOr.out
        have HNX : Hid (cur ++ ks[j] :: ps[j] = l ++ x :: ((ct :: p) ++ ((items ks ps).take (j + 1)).flatten)) := Lib.hid (by rw [hnx, hcur]; simp)
        obtain ⟨cur2, hcur2⟩ : ∃ cur2, cur ++ ks[j] :: ps[j] = cur2 := ⟨_, rfl⟩
        rw [hcur2] at H6 HNX
        obtain ⟨k, hk⟩ : ∃ k, ks[j] = k := ⟨_, rfl⟩
        rw [hk] at H6 hcell
        have hji : (j : Int) < (ks.length : Int) := by omega
        simp only [natV] at hcell
        have H6 := Lib.hid H6
        clear hk hcur2 hcl hnx hfl hpj hcur hR
        go_wp2_with fail
        refine H6.out.mono ?_
        rintro e w5 ⟨a5, c5, rfl, hO5⟩
        have HO5 := Lib.hid hO5
        clear hO5 H6
        go_wp2_with fail
        go_roundw
        case rel => exact ⟨j + 1, cur2, a5, c5, by omega, by go_num, rfl, HNX.out, HO5.out⟩
        case measure => simp [intOf]; omega
      · have hje : j = ks.length := by omega
        have hcur2 : cur = l ++ x :: ((ct :: p) ++ (items ks ps).flatten) := by
          rw [hcur, hje, List.take_of_length_le (by simp [items]; omega)]
        have HC2 := Lib.hid hcur2
        clear hcur hcur2 hje
        go_wp2_with fail
        go_ret
        exact ⟨a', c', by rw [← HC2.out]; rfl, by rw [← HC2.out]; exact HOr.out⟩
theorem pre_all {B : AB} {O : List Nat} {ns : List Nd} {w0 : World} (hA : ArW B O ns w0) {r : Nat → Nat} (hs : Snd ns r) (hf : Fit ns) {ks xs : List Nat} (h : Sub (kdW ns) ks xs) : (∀ k ∈ ks, inR ns k) → ∃ ps : List (List Nat), ps.length = ks.length ∧ xs = (items ks ps).flatten ∧ ∀ (j c : Nat) (p : List Nat), ks[j]? = some c → ps[j]? = some p → PAt B w0 c p := by
  induction h with
  | nil => exact fun _ => ⟨[], rfl, rfl, fun j c p h _ => by simp at h⟩
  | @cons k ks xs ys _ _ ih1 ih2 =>
    intro hk
    have hkr := hk k List.mem_cons_self
    have hdn := hs.downW.dn k hkr
    obtain ⟨ps1, e1, f1, g1⟩ := ih1 fun y hy => (hdn y hy).1
    obtain ⟨ps2, e2, f2, g2⟩ := ih2 fun y hy => hk y (List.mem_cons_of_mem _ hy)
    refine ⟨xs :: ps2, by simp [e2], by simp [items, f2], fun j c p h1 h2 => ?_⟩
    match j, h1, h2 with
    | 0, h1, h2 =>
      simp at h1 h2
      subst h1
      subst h2
      rw [f1]
      rw [kdW_at hkr] at e1 g1 ⊢
      have hkl := hf.kid _ (nd_mem hkr)
      by_cases hc : (nd ns k).contents = 0
      · have e : ctL (nd ns k) = [] := by unfold ctL; rw [if_pos hc]
        rw [e, List.nil_append] at e1 g1 ⊢
        exact pre_step hA hf.len hkr hkl [] ps1 e1 (.inl ⟨hc, rfl⟩) g1
      · have e : ctL (nd ns k) = [(nd ns k).contents] := by unfold ctL; rw [if_neg hc]
        rw [e, List.cons_append, List.nil_append] at e1 g1 ⊢
        match ps1, e1, g1 with
        | p0 :: ps', e1, g1 =>
          have := pre_step hA hf.len hkr hkl ((nd ns k).contents :: p0) ps' (by simpa using e1) (.inr ⟨p0, hc, rfl, g1 0 _ _ rfl rfl⟩) fun j c p h1 h2 => g1 (j + 1) c p (by simpa using h1) (by simpa using h2)
          simpa [items] using this
    | j + 1, h1, h2 => exact g2 j c p (by simpa using h1) (by simpa using h2)
theorem preorder_any {B : AB} {O : List Nat} {ns : List Nd} {w0 : World} (hA : ArW B O ns w0) {r : Nat → Nat} (hs : Snd ns r) (hf : Fit ns) {x : Nat} {xs : List Nat} (hx : inR ns x) (h : Sub (kdW ns) (kdW ns ((x : Nat) : Int)) xs) : PAt B w0 x xs := by
  obtain ⟨ps, e1, f1, g1⟩ := pre_all hA hs hf (Sub.cons h .nil) fun k hk => by rw [List.mem_singleton.1 hk]; exact hx
  match ps, e1, f1, g1 with
  | [p], e1, f1, g1 =>
    have e : xs = p := by simpa [items] using f1
    rw [e]
    exact g1 0 x p rfl rfl
end Go.Proofs.YtdapdadcninidaaGreatDoor
namespace Go.Proofs.YtdapdadcninidaaGreatDoor
open Go.RowKit
attribute [local go_sem] Oper.semAt_some

set_option maxRecDepth 100000 in
theorem Walk_any (h : Int) (w : World) (B : Nat) : Calls Tryz.prog 31 #[.pointer (some ⟨B, 0, none⟩), .int .i64 h] w fun e w' =>
    e = .returned (.func (.func 79) #[] #[.pointer (some ⟨w.heap.size, 0, none⟩), .pointer (some ⟨w.heap.size + 1, 0, none⟩)]) ∧ w' = (w.alloc (.cells #[.pointer (some ⟨B, 0, none⟩)] 23)).alloc (.cells #[.int .i64 h] 3) := by
  have hmf : ∀ (fn : Fn) (first cap : Array Value) (w : World), (Instr.makeFunc fn first cap).run Tryz.prog w = .ok (.func fn first cap) w := fun _ _ _ _ => rfl
  go_enter Tryz.func31, Tryz.ntmps31
  go_wp2
  go_ret
  exact ⟨rfl, rfl⟩
theorem enter_walk1 (args : Array Value) (W : World) : (callFunc 79 args).run Tryz.prog W = .ok (.enter 79 args) W := by simp [go_sem]
/-- What Walk yields. -/
def WlkL (ns : List Nd) (h : Int) (xs : List Nat) : Prop := (isH ns.length h = false ∧ xs = []) ∨ ∃ (x : Nat) (ys : List Nat), h = ((x : Nat) : Int) ∧ inR ns x ∧ xs = x :: ys ∧ Sub (kdW ns) (kdW ns ((x : Nat) : Int)) ys
set_option maxRecDepth 100000 in
set_option maxHeartbeats 2000000 in
theorem walk_iter (h : Int) (xs : List Nat) (n : Nat) (hn : 9 ≤ n) (w : World) {B : AB} {ab hb : Nat} {O : List Nat} {ns : List Nd} {r : Nat → Nat} (hA : ArW B O ns w) (hs : Snd ns r) (hf : Fit ns) (hx : WlkL ns h xs) (hxl : xs.length ≤ 900000)
    (c1 : w.cell? ⟨ab, 0, none⟩ = some (.pointer (some ⟨B, 0, none⟩))) (c2 : w.cell? ⟨hb, 0, none⟩ = some (.int .i64 h)) :
    IterF Fence.wide n Tryz.prog 79 #[.pointer (some ⟨ab, 0, none⟩), .pointer (some ⟨hb, 0, none⟩)] (fun x : Nat => #[.int .i64 (x : Nat)]) xs (fun _ => False) (fun _ => True) w := by
  intro lp J Jx W hb0 hJ hJx _ hY h0
  have q1 : W.cell? ⟨ab, 0, none⟩ = some (.pointer (some ⟨B, 0, none⟩)) := (hb0.cell (p := ⟨ab, 0, none⟩) (World.block_lt_of_cell? _ _ c1)).trans c1
  have q2 : W.cell? ⟨hb, 0, none⟩ = some (.int .i64 h) := (hb0.cell (p := ⟨hb, 0, none⟩) (World.block_lt_of_cell? _ _ c2)).trans c2
  have hAW := hA.later hb0
  have H1 := isH_any h W hAW
  have HJ := Lib.hid hJ; have HJX := Lib.hid hJx; have HY := Lib.hid hY; have H0 := Lib.hid h0
  clear hJ hJx hY h0 c1 c2 hb0 hA
  rcases hx with ⟨hh, rfl⟩ | ⟨x, ys, rfl, hxr, rfl, hS⟩
  · rw [hh] at H1
    have H1 := Lib.hid H1
    clear hh hs hf hAW
    refine callsIn_of_wp Tryz.func79 rfl trivial ?_ rfl
    simp only [Tryz.ntmps79, List.size_toArray, List.length_cons, List.length_nil, Nat.reduceAdd, Nat.reduceSub, Array.replicate_succ, Array.replicate_zero, List.push_toArray, List.append_toArray, List.nil_append, List.cons_append]
    gi_wp2_with fail
    refine call_wide H1.out ?_ (by omega)
    rintro e w1 ⟨rfl, rfl⟩
    gi_wp2_with fail
    first
      | (refine bodyPost_ret (results_none rfl _ _ _) rfl ?_
         exact ⟨⟨_, rfl⟩, _, .inl H0.out⟩)
      | (unfold bodyPostM
         exact ⟨_, by simp [results, Tryz.results79, go_sem], ⟨_, rfl⟩, _, .inl H0.out⟩)
  · rw [inR_isH.2 hxr] at H1
    have hP := preorder_any hAW hs hf hxr hS [] none 0 W (by simp at hxl ⊢; omega) ⟨Below.refl _ _, rfl, .inl ⟨rfl, rfl⟩⟩
    rw [List.nil_append] at hP
    obtain ⟨xs, hxs⟩ : ∃ xs, x :: ys = xs := ⟨_, rfl⟩
    rw [hxs] at hP HY hxl ⊢
    have H1 := Lib.hid H1; have HP := Lib.hid hP
    clear hs hf hAW hS hP hxs hxr
    refine callsIn_of_wp Tryz.func79 rfl trivial ?_ rfl
    simp only [Tryz.ntmps79, List.size_toArray, List.length_cons, List.length_nil, Nat.reduceAdd, Nat.reduceSub, Array.replicate_succ, Array.replicate_zero, List.push_toArray, List.append_toArray, List.nil_append, List.cons_append]
    gi_wp2_with fail
    refine call_wide H1.out ?_ (by omega)
    rintro e w1 ⟨rfl, rfl⟩
    gi_wp2_with fail
    refine call_wide HP.out ?_ (by omega)
    rintro e w1 ⟨ka, kc, rfl, hO⟩
    have hr := hO.row
    obtain ⟨G1, hG1⟩ : ∃ G1 : Nat → Prop, ∀ k, G1 k ↔ (Value.slice ka xs.length kc).ownBlock = some k := ⟨_, fun _ => Iff.rfl⟩
    have hJ1 : J G1 0 w1 := HJ.out _ G1 0 W w1 H0.out (Mod.of_below hO.bl) fun k hk => .inr ⟨ownsRow_ge hr ((hG1 k).1 hk), ownsRow_lt hr ((hG1 k).1 hk)⟩
    have HJ1 := Lib.hid hJ1; have HR := Lib.hid hr; have HG1 := Lib.hid hG1
    clear hO hr hJ1 hG1 q1 q2 HP H1 H0
    gi_wp2_with fail
    gi_loopw [14] (fun i wr => ∃ j : Nat, j ≤ xs.length ∧ i = .int .i64 (j : Nat) ∧ J G1 j wr ∧ Mod (fun k => ¬ G1 k) w1 wr) (fun i _ => xs.length - (intOf i).toNat)
    case atStart => exact ⟨0, Nat.zero_le _, rfl, HJ1.out, Mod.refl _ _⟩
    case round =>
      obtain ⟨j, hj, rfl, hjj, hm⟩ := hrel
      have HJJ := Lib.hid hjj; have HM := Lib.hid hm
      clear hjj hm HJ1
      by_cases hlt : j < xs.length
      · obtain ⟨gk, rfl⟩ := row_someA HR.out (by omega)
        have hcell := row_at (ownsRow_mod HR.out HM.out fun g hg h => h ((HG1.out g).2 hg)) j (natV xs[j]) (by simp [kidCells, hlt])
        obtain ⟨fn, tmps, assign, body, hy, hR⟩ := HY.out G1 j xs[j] wr (List.getElem?_eq_getElem hlt) HJJ.out (fun k hk => hk.elim)
        obtain ⟨c, hc⟩ : ∃ c, xs[j] = c := ⟨_, rfl⟩
        rw [hc] at hcell hy
        have hji : (j : Int) < (xs.length : Int) := by omega
        have HRy := Lib.hid hR
        simp only [natV] at hcell
        clear hR hc
        gi_wp2_with fail
        refine ⟨fun _ => by omega, ?_⟩
        refine roundIn_any HRy.out ?_
        rintro e W3 ⟨(⟨rfl, hj3⟩ | ⟨rfl, hj3⟩), hm3⟩
        · have HJ3 := Lib.hid hj3; have HM3 := Lib.hid (HM.out.trans hm3)
          clear hj3 hm3 HM HRy HJJ hy hcell
          gi_wp2_with fail
          go_roundw
          case rel => exact ⟨j + 1, by omega, by go_num, HJ3.out, HM3.out⟩
          case measure => simp [intOf]; omega
        · have HX3 := Lib.hid hj3
          clear hj3 hm3 HRy HJJ hy hcell
          gi_wp2_with fail
          first
            | (refine bodyPost_ret (results_none rfl _ _ _) rfl ?_
               exact ⟨⟨_, rfl⟩, _, .inr ⟨j + 1, by omega, HX3.out⟩⟩)
            | (unfold bodyPostM
               exact ⟨_, by simp [results, Tryz.results79, go_sem], ⟨_, rfl⟩, _, .inr ⟨j + 1, by omega, HX3.out⟩⟩)
      · have hje : j = xs.length := by omega
        subst hje
        have HF := HJJ
        gi_wp2_with fail
        go_end0
        exact ⟨⟨_, rfl⟩, _, .inl HF.out⟩
end Go.Proofs.YtdapdadcninidaaGreatDoor
namespace Go.Proofs.YtdapdadcninidaaGreatDoor
open Go.RowKit

theorem LimK.step {i c : Nat} {L : Lim} (h : LimK i c L) (x : Opn) : LimK (i + 1) (c + (if isCopy x then 1 else 0)) (doLim x.kind L) := by
  unfold doLim isCopy
  by_cases h1 : x.kind = 31 ∨ x.kind = 32
  · rw [if_pos h1, if_pos (by rcases h1 with e | e <;> rw [e] <;> rfl)]
    exact h.copy
  · rw [if_neg h1, if_neg (by rw [not_or] at h1; simp [h1.1, h1.2])]
    by_cases h2 : x.kind = 34
    · rw [if_pos h2]; exact h.norm
    · rw [if_neg h2]; exact h.up
/-- The blocks of the law's variables, the arena and its last description, behind w. -/
structure LvB (w : World) (T rb ab lb : Nat) (O : List Nat) (s : St) (Lv : List Nv) (va : Option Addr) (vc : Nat) (W : World) : Prop where
  ar : ArM T O s W
  rbk : Kp rb O W (.cells #[.bool false] 4 (0, 0))
  abk : Kp ab O W (.cells #[.pointer (some ⟨T, 0, none⟩)] 23 (0, 0))
  lbk : Kp lb O W (.cells #[.slice va Lv.length vc] 77 (0, 0))
  row : W.ownsRow w.heap.size 55 13 (.slice va Lv.length vc) Lv.length (rowCells Lv)
  rn : ∀ g, (Value.slice va Lv.length vc).ownBlock = some g → g ∉ O
  bl : Below w.heap.size w W
  lo : ∀ k ∈ O, w.heap.size ≤ k
  bs : w.heap.size ≤ rb ∧ rb < ab ∧ ab < lb
theorem LvB.step {w : World} {T rb ab lb : Nat} {O O2 : List Nat} {s s2 : St} {Lv : List Nv} {va : Option Addr} {vc : Nat} {W W2 : World} (h : LvB w T rb ab lb O s Lv va vc W) (hA : ArM T O2 s2 W2) (hs : AStep O W O2 W2) : LvB w T rb ab lb O2 s2 Lv va vc W2 :=
  ⟨hA, h.rbk.step hs, h.abk.step hs, h.lbk.step hs, ownsRow_mod h.row hs.mod h.rn, fun g hg hb => by
    rcases hs.own g hb with h1 | h1
    · exact h.rn g hg h1
    · have := ownsRow_lt h.row hg; omega, h.bl.trans (hs.below h.bl.size h.lo), fun k hk => by
    rcases hs.own k hk with h1 | h1
    · exact h.lo k h1
    · have := h.bl.size; omega, h.bs⟩
theorem LvB.later {w : World} {T rb ab lb : Nat} {O : List Nat} {s : St} {Lv : List Nv} {va : Option Addr} {vc : Nat} {W W2 : World} (h : LvB w T rb ab lb O s Lv va vc W) (hb : Below W.heap.size W W2) : LvB w T rb ab lb O s Lv va vc W2 := h.step (h.ar.later hb) (astep_below hb)
/-- The new description is the last one now. -/
theorem LvB.put {w : World} {T rb ab lb : Nat} {O : List Nat} {s : St} {Lv L2 : List Nv} {va va2 : Option Addr} {vc vc2 R : Nat} {W : World} (h : LvB w T rb ab lb O s Lv va vc W) (hR : lb < R) (hO : ∀ k ∈ O, k < R) (hr : W.ownsRow R 55 13 (.slice va2 L2.length vc2) L2.length (rowCells L2)) :
    LvB w T rb ab lb O s L2 va2 vc2 (W.setCell ⟨lb, 0, none⟩ (.slice va2 L2.length vc2)) := by
  have hm : Mod (fun k => k = lb) W (W.setCell ⟨lb, 0, none⟩ (.slice va2 L2.length vc2)) := Mod.setCell _ _ rfl
  obtain ⟨b1, b2, b3⟩ := h.bs
  have hlb := h.lbk.c
  have hwR : w.heap.size ≤ R := by omega
  refine ⟨h.ar.kept hm fun k hk e => h.lbk.n (e ▸ hk), ⟨(hm.block rb h.rbk.lt (by omega)).trans h.rbk.c, h.rbk.n⟩, ⟨(hm.block ab h.abk.lt (by omega)).trans h.abk.c, h.abk.n⟩, ⟨by rw [Joins.block_setCell (i := 0) hlb]; rfl, h.lbk.n⟩, ?_, fun g hg hb => ?_, h.bl.trans (hm.below h.bl.size fun k hk e => by omega), h.lo, h.bs⟩
  · exact ownsRow_base hwR (ownsRow_mod hr hm fun g hg e => by have := ownsRow_ge hr hg; omega)
  · have := ownsRow_ge hr hg
    have := hO g hb
    omega
/-- What the loop over the calls keeps. -/
structure LvI (w : World) (T rb ab lb : Nat) (l : List Opn) (i : Nat) (O : List Nat) (s : St) (L : Lim) (Lv : List Nv) (va : Option Addr) (vc : Nat) (W : World) : Prop where
  b : LvB w T rb ab lb O s Lv va vc W
  gd : Gd L s
  tm : Tm s.ns
  lk : LimK i (copies (l.take i)) L
  nds : Lv.map (·.nd) = s.ns
theorem LvI.next {w : World} {T rb ab lb : Nat} {l : List Opn} {i : Nat} {O O1 : List Nat} {s s1 : St} {L : Lim} {Lv L2 : List Nv} {va va2 : Option Addr} {vc vc2 : Nat} {W w1 w2 : World} (h : LvI w T rb ab lb l i O s L Lv va vc W) (hi : i < l.length) (hA : ArM T O1 s1 w1) (hs : AStep O W O1 w1) (hF : Fw (doLim l[i].kind L) s s1) (hb : Below w1.heap.size w1 w2)
    (hL2 : L2.map (·.nd) = s1.ns) (hr : w2.ownsRow w1.heap.size 55 13 (.slice va2 L2.length vc2) L2.length (rowCells L2)) :
    LvI w T rb ab lb l (i + 1) O1 s1 (doLim l[i].kind L) L2 va2 vc2 (w2.setCell ⟨lb, 0, none⟩ (.slice va2 L2.length vc2)) := by
  have h1 := h.b.step hA hs
  have h2 := h1.later hb
  refine ⟨h2.put h1.lbk.lt (fun k hk => hA.lt k hk) hr, hF.gd, hF.kt.tm h.tm, ?_, hL2⟩
  rw [copies_next hi]
  exact h.lk.step _
/-- What the loop over the walk keeps. -/
structure LvS (w : World) (T rb ab lb sb sg n : Nat) (xs : List Nat) (L : Lim) (va : Option Addr) (vc : Nat) (G : Nat → Prop) (i : Nat) (W : World) : Prop where
  ar : ∃ O s, ArM T O s W ∧ Gd L s ∧ s.ns.length = n ∧ (∀ y ∈ xs.take i, (nd s.ns y).parent = 0) ∧ (∀ k ∈ O, ¬ G k ∧ w.heap.size ≤ k) ∧ rb ∉ O ∧ ab ∉ O ∧ lb ∉ O ∧ sb ∉ O ∧ sg ∉ O
  rbk : W.heap[rb]? = some (.cells #[.bool false] 4 (0, 0))
  abk : W.heap[ab]? = some (.cells #[.pointer (some ⟨T, 0, none⟩)] 23 (0, 0))
  lbk : W.heap[lb]? = some (.cells #[.slice va n vc] 77 (0, 0))
  sbk : W.heap[sb]? = some (.cells #[.slice (some ⟨sg, 0, none⟩) (n + 1) (n + 1)] 82 (0, 0))
  sgk : ∃ cur : Array Value, W.heap[sg]? = some (.cells cur 4 (0, 0)) ∧ cur.size = n + 1 ∧ ∀ y, y < n + 1 → cur[y]? = some (.bool (decide (y ∈ xs.take i)))
  ng : ¬ G rb ∧ ¬ G ab ∧ ¬ G lb ∧ ¬ G sb ∧ ¬ G sg
  bl : Below w.heap.size w W
  fg : ∀ k, G k → w.heap.size ≤ k ∧ k < W.heap.size
  ds : w.heap.size ≤ rb ∧ rb < ab ∧ ab < lb ∧ lb < sg ∧ sg < sb
theorem LvS.kept {w : World} {T rb ab lb sb sg n : Nat} {xs : List Nat} {L : Lim} {va : Option Addr} {vc : Nat} {G G' : Nat → Prop} {i : Nat} {A C : World} (h : LvS w T rb ab lb sb sg n xs L va vc G i A) (hm : Mod G A C) (hg : ∀ k, G' k → G k ∨ (A.heap.size ≤ k ∧ k < C.heap.size)) : LvS w T rb ab lb sb sg n xs L va vc G' i C := by
  obtain ⟨⟨O, s, h1, h2, h3, h4, h5, h6⟩, hrb, hab, hlb, hsb, ⟨cur, hsg, hc1, hc2⟩, ⟨n1, n2, n3, n4, n5⟩, hbl, hfg, hds⟩ := h
  have l1 := (Array.getElem?_eq_some_iff.1 hrb).1
  have l2 := (Array.getElem?_eq_some_iff.1 hab).1
  have l3 := (Array.getElem?_eq_some_iff.1 hlb).1
  have l4 := (Array.getElem?_eq_some_iff.1 hsb).1
  have l5 := (Array.getElem?_eq_some_iff.1 hsg).1
  refine ⟨⟨O, s, h1.kept hm fun k hk => (h5 k hk).1, h2, h3, h4, fun k hk => ⟨fun hG => (hg k hG).elim (h5 k hk).1 (by have := h1.lt k hk; omega), (h5 k hk).2⟩, h6⟩, (hm.block rb l1 n1).trans hrb, (hm.block ab l2 n2).trans hab, (hm.block lb l3 n3).trans hlb, (hm.block sb l4 n4).trans hsb, ⟨cur, (hm.block sg l5 n5).trans hsg, hc1, hc2⟩,
    ⟨fun hG => (hg _ hG).elim n1 (by omega), fun hG => (hg _ hG).elim n2 (by omega), fun hG => (hg _ hG).elim n3 (by omega), fun hG => (hg _ hG).elim n4 (by omega), fun hG => (hg _ hG).elim n5 (by omega)⟩,
    hbl.trans (hm.below hbl.size fun k hk hG => by have := hfg k hG; omega), fun k hG => (hg k hG).elim (fun h => by have := hfg k h; have := hm.size; omega) (fun h => by have := hbl.size; omega), hds⟩
/-- A node of the walk is marked and cut. -/
theorem LvS.go {w : World} {T rb ab lb sb sg n : Nat} {xs : List Nat} {L : Lim} {va : Option Addr} {vc : Nat} {G : Nat → Prop} {i x : Nat} {W : World} (h : LvS w T rb ab lb sb sg n xs L va vc G i W) (hx : xs[i]? = some x) (hxs : ∀ y ∈ xs, 1 ≤ y ∧ y ≤ n) :
    ∃ O s, ArM T O s (W.setCell ⟨sg, x, none⟩ (.bool true)) ∧ Gd L s ∧
      ∀ s2 O2 w2, s2 = cutS s x → ArM T O2 s2 w2 → AStep O (W.setCell ⟨sg, x, none⟩ (.bool true)) O2 w2 → LvS w T rb ab lb sb sg n xs L va vc G (i + 1) w2 ∧ Mod (fun k => ¬ G k) W w2 := by
  obtain ⟨⟨O, s, h1, h2, h3, h4, h5, r1, r2, r3, r4, r5⟩, hrb, hab, hlb, hsb, ⟨cur, hsg, hc1, hc2⟩, ⟨n1, n2, n3, n4, n5⟩, hbl, hfg, hds⟩ := h
  have l1 := (Array.getElem?_eq_some_iff.1 hrb).1
  have l2 := (Array.getElem?_eq_some_iff.1 hab).1
  have l3 := (Array.getElem?_eq_some_iff.1 hlb).1
  have l4 := (Array.getElem?_eq_some_iff.1 hsb).1
  have l5 := (Array.getElem?_eq_some_iff.1 hsg).1
  have hm : Mod (fun k => k = sg) W (W.setCell ⟨sg, x, none⟩ (.bool true)) := Mod.setCell _ _ rfl
  obtain ⟨hi, he⟩ := List.getElem?_eq_some_iff.1 hx
  have hxn := hxs x (List.mem_of_getElem? hx)
  have htk : ∀ y, (y ∈ xs.take (i + 1)) ↔ (y ∈ xs.take i ∨ y = x) := fun y => by
    rw [List.take_succ_eq_append_getElem hi, he, List.mem_append, List.mem_singleton]
  refine ⟨O, s, h1.kept hm fun k hk e => r5 (e ▸ hk), h2, ?_⟩
  rintro s2 O2 w2 rfl hA2 hs
  have hz := hm.size
  have keep : ∀ b, b < W.heap.size → b ∉ O → b ≠ sg → w2.heap[b]? = W.heap[b]? := fun b hb hO hne => (hs.mod.block b (by omega) hO).trans (hm.block b hb hne)
  have own : ∀ b, b < W.heap.size → b ∉ O → b ∉ O2 := fun b hb hO hk => by
    rcases hs.own b hk with h | h
    · exact hO h
    · omega
  have hm2 : Mod (fun k => ¬ G k) W w2 := (hm.mono fun k _ e => e ▸ n5).trans (hs.mod.mono fun k _ hk => (h5 k hk).1)
  obtain ⟨r, hr⟩ := h2.snd
  have hxr : inR s.ns x := ⟨hxn.1, by omega⟩
  obtain ⟨c1, c2, c3⟩ := cutS_old hr hxr
  have hcl : (cutS s x).ns.length = s.ns.length := cutQ_len _ _
  refine ⟨⟨⟨O2, _, hA2, h2.cutS x, by rw [hcl]; exact h3, fun y hy => ?_, fun k hk => ?_, own _ l1 r1, own _ l2 r2, own _ l3 r3, own _ l4 r4, own _ l5 r5⟩, (keep rb l1 r1 (by omega)).trans hrb, (keep ab l2 r2 (by omega)).trans hab, (keep lb l3 r3 (by omega)).trans hlb, (keep sb l4 r4 (by omega)).trans hsb, ?_, ⟨n1, n2, n3, n4, n5⟩, hbl.trans ((hm.below hbl.size fun k hk e => by omega).trans (hs.below (by have := hbl.size; omega) fun k hk => (h5 k hk).2)), fun k hG => by have := hfg k hG; have := hm2.size; omega, hds⟩, hm2⟩
  · by_cases e : y = x
    · rw [e]; exact c2
    · have hyt := ((htk y).1 hy).resolve_right e
      have hyr : inR s.ns y := by
        have := hxs y (List.mem_of_mem_take hyt)
        exact ⟨this.1, by omega⟩
      rw [c3 y hyr e]; exact h4 y hyt
  · rcases hs.own k hk with h | h
    · exact h5 k h
    · refine ⟨fun hG => ?_, ?_⟩
      · have := hfg k hG; omega
      · have := hbl.size; omega
  · refine ⟨cur.setIfInBounds x (.bool true), (hs.mod.block sg (by omega) r5).trans (Joins.block_setCell (i := x) hsg _), by rw [Array.size_setIfInBounds]; exact hc1, fun y hy => ?_⟩
    rw [Array.getElem?_setIfInBounds]
    by_cases e : x = y
    · rw [if_pos e, if_pos (by omega)]
      have : y ∈ xs.take (i + 1) := (htk y).2 (.inr e.symm)
      rw [decide_eq_true this]
    · rw [if_neg e, hc2 y hy]
      congr 2
      rw [decide_eq_decide, htk y]
      exact ⟨.inl, fun h => h.resolve_right (Ne.symm e)⟩
end Go.Proofs.YtdapdadcninidaaGreatDoor
namespace Go.Proofs.YtdapdadcninidaaGreatDoor
open Go.RowKit
attribute [local go_sem ↓] Go.wp_at_zero Go.wp_at_succ

def oldNew : List (List UInt8) := [[34], [92, 34], [92], [92, 92], [10], [92, 110]]
theorem infoS : (Tryz.prog.info? 9).map (fun i => (i.zero, i.size, i.bytes)) = some (some (.string ⟨#[]⟩), 1, 16) := by kernel_rfl
theorem two_newR {w W0 : World} {o1 o2 : Obj} (h : (w.alloc o1).alloc o2 = W0) : W0.heap[w.heap.size]? = some o1 ∧ W0.heap[w.heap.size + 1]? = some o2 ∧ W0.heap.size = w.heap.size + 2 ∧ Below w.heap.size w W0 := by
  subst h
  have e1 := World.alloc_heap_new (w.alloc o1) o2
  rw [World.size_alloc] at e1
  exact ⟨(Below.heap_alloc _ _ _ (by simp)).trans (World.alloc_heap_new w o1), e1, by simp, (balloc w o1).alloc (by simp) o2⟩
theorem mk3 (w : World) : (Instr.makeSlice 39 (.int .i64 0) (.int .i64 3)).run Tryz.prog w = .ok (.slice (some ⟨w.heap.size, 0, none⟩) 0 3) (w.alloc (.cells #[.string ⟨#[]⟩, .string ⟨#[]⟩, .string ⟨#[]⟩] 9)) := by
  obtain ⟨i, hi, hz0, hz1, hz2⟩ := info_parts infoS
  rw [run_makeSlice w 39 9 i _ Tryz.underlying39 hi hz0 .i64 .i64 0 3 (by decide) (by decide) (by rw [hz1]; decide) (by rw [hz2]; decide) (by decide), hz1]
  simp [madeCells, Array.range, Value.cells]
  rfl
theorem zc_eq : Tryz.zeroCells284 = Array.replicate 257 (.slice none 0 0) := by kernel_rfl
theorem zc_info : (Tryz.prog.info? 284).map (·.size) = some 257 := by kernel_rfl
def zc0 (v : Value) : Array Value := (Array.replicate 257 (.slice none 0 0)).setIfInBounds 256 v
theorem st257 (W : World) (v : Value) (hv : v.oneCell' = true) : (storeCells ⟨W.heap.size, 0, none⟩ (Tryz.zeroCells284.toList.set 256 v) 0).run Tryz.prog (W.alloc (.cells Tryz.zeroCells284 284)) = .ok () (W.alloc (.cells (zc0 v) 284)) := by
  rw [zc_eq]
  have hs : (zc0 v).size = 257 := by simp [zc0]
  have := run_storeCells_new (P := Tryz.prog) W 284 (Array.replicate 257 (.slice none 0 0)) (zc0 v) (by rw [zc_info, hs]) (by rw [hs]; simp) (by
    rw [Array.all_eq_true']
    intro x hx
    rcases Array.mem_or_eq_of_mem_setIfInBounds hx with h | rfl
    · rw [Array.eq_of_mem_replicate h]; rfl
    · exact hv)
  rw [show (zc0 v).toList = (Array.replicate 257 (.slice none 0 0)).toList.set 256 v by unfold zc0; rw [Array.toList_setIfInBounds]] at this
  exact this
/-- The bytes that are replaced, in the order in which build lays them, and what stands for them. -/
def repKey : Nat → Nat
  | 0 => 10
  | 1 => 92
  | _ => 34
def repOut : Nat → List UInt8
  | 0 => [92, 110]
  | 1 => [92, 92]
  | _ => [92, 34]
def repKs (k : Nat) : Value := .string ⟨[UInt8.ofNat (repKey k)].toArray⟩
theorem repKey_inj : ∀ k, k < 3 → ∀ j, j < k → repKey j ≠ repKey k := by decide
theorem repKey_lt (k : Nat) : repKey k < 256 := by
  match k with
  | 0 => decide
  | 1 => decide
  | _ + 2 => show 34 < 256; decide
/-- build's table behind k of its three rounds: it lies at q, its list of bytes at r. -/
structure RepT (r q k : Nat) (w : World) : Prop where
  row : ∃ rc : Array Value, w.heap[r]? = some (.cells rc 9 (0, 0)) ∧ rc.size = 3 ∧ ∀ j, j < k → rc[j]? = some (repKs j)
  blk : ∃ cur : Array Value, w.heap[q]? = some (.cells cur 284 (0, 0)) ∧ cur.size = 257
  tr : w.cell? ⟨q, 256, none⟩ = some (.slice (some ⟨r, 0, none⟩) k 3)
  nil : ∀ b, b < 256 → (∀ j, j < k → b ≠ repKey j) → w.cell? ⟨q, b, none⟩ = some (.slice none 0 0)
  ent : ∀ j, j < k → ∃ g c n, w.cell? ⟨q, repKey j, none⟩ = some (.slice (some ⟨g, 0, none⟩) 2 c) ∧ RowAt w g n (repOut j) ∧ g ≠ r ∧ q < g
theorem RepT.frz {r q k : Nat} {w : World} (h : RepT r q k w) (o : Nat) : w.frozen? ⟨q, o, none⟩ = false := by
  obtain ⟨cur, h, _⟩ := h.blk
  exact Lib.frozen_of_heap h o
theorem RowAt.mod {S : Nat → Prop} {A B : World} {D n : Nat} {bs : List UInt8} (h : RowAt A D n bs) (hm : Mod S A B) (hS : ¬ S D) : RowAt B D n bs := by
  obtain ⟨pad, h, hn⟩ := h
  exact ⟨pad, (hm.block D (Array.getElem?_eq_some_iff.1 h).1 hS).trans h, hn⟩
/-- One round: the list grows in place and its head is stored (W2); the bytes that stand for the key are laid (at the end of memory) and stored. -/
theorem RepT.next {r q k : Nat} {w W2 W3 : World} (h : RepT r q k w) (hk : k < 3) (hrq : r ≠ q) (hm : Mod (fun k => k = r ∨ k = q) w W2)
    (hrow : ∀ rc, w.heap[r]? = some (.cells rc 9 (0, 0)) → W2.heap[r]? = some (.cells (rc.setIfInBounds k (repKs k)) 9 (0, 0)))
    (hq : ∀ cur, w.heap[q]? = some (.cells cur 284 (0, 0)) → W2.heap[q]? = some (.cells (cur.setIfInBounds 256 (.slice (some ⟨r, 0, none⟩) (k + 1) 3)) 284 (0, 0)))
    (hW3 : Lib.bytesWorld W2 5 ⟨(repOut k).toArray⟩ = W3) :
    W3.cell? ⟨q, repKey k, none⟩ = some (.slice none 0 0) ∧ W3.frozen? ⟨q, repKey k, none⟩ = false ∧ Below W2.heap.size W2 W3 ∧ ∀ c, RepT r q (k + 1) (W3.setCell ⟨q, repKey k, none⟩ (.slice (some ⟨W2.heap.size, 0, none⟩) 2 c)) := by
  obtain ⟨⟨rc, hr0, hr1, hr2⟩, ⟨cur, h2, h2s⟩, h3, h4, h5⟩ := h
  have hql : q < w.heap.size := (Array.getElem?_eq_some_iff.1 h2).1
  have hrl : r < w.heap.size := (Array.getElem?_eq_some_iff.1 hr0).1
  have hr3 := hrow rc hr0
  have hq2 := hq cur h2
  have hs1 := hm.size
  have b3 : Below W2.heap.size W2 W3 := by rw [← hW3]; exact bytesWorld_below _ _
  obtain ⟨nf, hfresh⟩ := RowAt.fresh W2 (repOut k)
  rw [hW3] at hfresh
  have hq3 : W3.heap[q]? = some (.cells (cur.setIfInBounds 256 (.slice (some ⟨r, 0, none⟩) (k + 1) 3)) 284 (0, 0)) := (b3.block q (by omega)).trans hq2
  have hkl : repKey k < 256 := repKey_lt k
  have hkinj : ∀ j, j < k → repKey j ≠ repKey k := repKey_inj k hk
  have curq : ∀ o v, o < 256 → w.cell? ⟨q, o, none⟩ = some v → W3.cell? ⟨q, o, none⟩ = some v := by
    intro o v ho hv
    rw [cell_of_row _ _ _ _ _ _ h2] at hv
    rw [cell_of_row _ _ _ _ _ _ hq3, Array.getElem?_setIfInBounds_ne (by omega)]
    exact hv
  refine ⟨curq _ _ hkl (h4 _ hkl fun j hj => (hkinj j hj).symm), Lib.frozen_of_heap hq3 _, b3, fun c => ?_⟩
  have hq4 := Joins.block_setCell (i := repKey k) hq3 (.slice (some ⟨W2.heap.size, 0, none⟩) 2 c)
  have mAll : Mod (fun k => k = r ∨ k = q) w (W3.setCell ⟨q, repKey k, none⟩ (.slice (some ⟨W2.heap.size, 0, none⟩) 2 c)) :=
    (hm.trans (Mod.of_below b3)).trans (Mod.setCell _ _ (.inr rfl))
  have cellq : ∀ o v, o < 256 → o ≠ repKey k → w.cell? ⟨q, o, none⟩ = some v → (W3.setCell ⟨q, repKey k, none⟩ (.slice (some ⟨W2.heap.size, 0, none⟩) 2 c)).cell? ⟨q, o, none⟩ = some v := by
    intro o v ho hne hv
    have n1 : (⟨q, repKey k, none⟩ : Addr) ≠ ⟨q, o, none⟩ := fun h => hne (by injection h with _ h; exact h.symm)
    rw [World.cell?_setCell_other _ _ _ _ n1]
    exact curq o v ho hv
  refine ⟨⟨rc.setIfInBounds k (repKs k), (Below.heap_setCell _ _ _ _ hrq).trans ((b3.block r (by omega)).trans hr3), by simpa using hr1, fun j hj => ?_⟩, ⟨_, hq4, by simp [h2s]⟩, ?_, fun b hb hne => ?_, fun j hj => ?_⟩
  · by_cases e : j = k
    · subst e; rw [Array.getElem?_setIfInBounds_self_of_lt (by omega)]
    · rw [Array.getElem?_setIfInBounds_ne (Ne.symm e)]; exact hr2 j (by omega)
  · rw [cell_of_row _ _ _ _ _ _ hq4, Array.getElem?_setIfInBounds_ne (by omega), Array.getElem?_setIfInBounds_self_of_lt (by omega)]
  · exact cellq b _ hb (hne k (by omega)) (h4 b hb fun j hj => hne j (by omega))
  · by_cases e : j = k
    · subst e
      refine ⟨W2.heap.size, c, nf, ?_, hfresh.mod (S := fun k => k = q) (Mod.setCell _ _ rfl) (by omega), by omega, by omega⟩
      rw [cell_of_row _ _ _ _ _ _ hq4, Array.getElem?_setIfInBounds_self_of_lt (by simp [h2s]; omega)]
    · obtain ⟨g, c', n', e1, e2, e3, e4⟩ := h5 j (by omega)
      exact ⟨g, c', n', cellq _ _ (repKey_lt j) (hkinj j (by omega)) e1, e2.mod mAll (fun h => h.elim e3 (fun h => by omega)), e3, e4⟩
theorem bytes_one (w : World) (c : UInt8) : Lib.Bytes (w.alloc (.cells #[.int .u8 (c.toNat : Int)] 5)) w.heap.size 0 ⟨#[c]⟩ := by
  intro i hi
  have : i = 0 := by have : (⟨#[c]⟩ : ByteArray).size = 1 := rfl; omega
  subst this
  rw [Nat.zero_add, cell_of_row _ _ _ _ _ _ (World.alloc_heap_new w _)]
  rfl
theorem rep_two {w W2 : World} {r q k : Nat} (hrq : r ≠ q) (hr : r < w.heap.size) (hq : q < w.heap.size)
    (hW2 : (((w.setCell ⟨r, k, none⟩ (repKs k)).setCell ⟨q, 256, none⟩ (.slice (some ⟨r, 0, none⟩) (k + 1) 3)).alloc (.cells #[.int .u8 (repKey k : Nat)] 5)).alloc (.cells #[repKs k] 9) = W2) :
    Mod (fun k => k = r ∨ k = q) w W2 ∧ (∀ rc, w.heap[r]? = some (.cells rc 9 (0, 0)) → W2.heap[r]? = some (.cells (rc.setIfInBounds k (repKs k)) 9 (0, 0))) ∧
      (∀ cur, w.heap[q]? = some (.cells cur 284 (0, 0)) → W2.heap[q]? = some (.cells (cur.setIfInBounds 256 (.slice (some ⟨r, 0, none⟩) (k + 1) 3)) 284 (0, 0))) := by
  subst hW2
  refine ⟨(((Mod.setCell _ _ (.inl rfl)).trans (Mod.setCell _ _ (.inr rfl))).trans (Mod.alloc _ _ _)).trans (Mod.alloc _ _ _), fun rc h => ?_, fun cur h => ?_⟩
  · rw [Below.heap_alloc _ _ _ (by simp [World.setCell]; omega), Below.heap_alloc _ _ _ (by simp [World.setCell]; omega), Below.heap_setCell _ _ _ _ hrq]
    exact Joins.block_setCell (i := k) h _
  · rw [Below.heap_alloc _ _ _ (by simp [World.setCell]; omega), Below.heap_alloc _ _ _ (by simp [World.setCell]; omega)]
    exact Joins.block_setCell (i := 256) ((Below.heap_setCell _ _ _ _ (Ne.symm hrq)).trans h) _
theorem rep_start (w : World) : RepT w.heap.size (w.heap.size + 1) 0 ((w.alloc (.cells #[.string ⟨#[]⟩, .string ⟨#[]⟩, .string ⟨#[]⟩] 9)).alloc (.cells (zc0 (.slice (some ⟨w.heap.size, 0, none⟩) 0 3)) 284)) := by
  obtain ⟨e0, e1, hs, hb⟩ := two_newR (w := w) (o1 := .cells #[.string ⟨#[]⟩, .string ⟨#[]⟩, .string ⟨#[]⟩] 9) (o2 := .cells (zc0 (.slice (some ⟨w.heap.size, 0, none⟩) 0 3)) 284) rfl
  refine ⟨⟨_, e0, rfl, fun j hj => absurd hj (Nat.not_lt_zero _)⟩, ⟨_, e1, by simp [zc0]⟩, ?_, fun b hb _ => ?_, fun j hj => absurd hj (Nat.not_lt_zero _)⟩
  · rw [cell_of_row _ _ _ _ _ _ e1, zc0, Array.getElem?_setIfInBounds_self_of_lt (by rw [Array.size_replicate]; decide)]
  · rw [cell_of_row _ _ _ _ _ _ e1, zc0, Array.getElem?_setIfInBounds_ne (by omega), Array.getElem?_replicate, if_pos (by omega)]
set_option maxRecDepth 100000 in
set_option maxHeartbeats 4000000 in
theorem build_any (w : World) {R on cap : Nat} (c4 : w.cell? ⟨R, 4, none⟩ = some (.slice (some ⟨on, 0, none⟩) 6 cap)) (hon : ∀ j s, oldNew[j]? = some s → w.cell? ⟨on, j, none⟩ = some (.string ⟨s.toArray⟩)) :
    Calls Tryz.prog 215 #[.pointer (some ⟨R, 0, none⟩)] w fun e w' => e = .returned (.iface 285 (.pointer (some ⟨w.heap.size + 1, 0, none⟩))) ∧ RepT w.heap.size (w.heap.size + 1) 3 w' ∧ Below w.heap.size w w' := by
  have o0 := hon 0 _ rfl
  have o1 := hon 1 _ rfl
  have o2 := hon 2 _ rfl
  have o3 := hon 3 _ rfl
  have o4 := hon 4 _ rfl
  have o5 := hon 5 _ rfl
  clear hon
  have hol := World.block_lt_of_cell? _ _ o0
  have hmk := mk3
  have hst := fun v hv => st257 (w.alloc (.cells #[.string ⟨#[]⟩, .string ⟨#[]⟩, .string ⟨#[]⟩] 9)) v hv
  have hst := hst (.slice (some ⟨w.heap.size, 0, none⟩) 0 3) rfl
  rw [World.size_alloc] at hst
  have HS0 := Lib.hid (rep_start w)
  obtain ⟨isS, hi, hz0, hz1, hz2⟩ := info_parts infoS
  have HI := Lib.hid hi; have HZ1 := Lib.hid hz1
  clear hi hz0 hz1 hz2
  go_enter Tryz.func215, Tryz.ntmps215
  go_wp2
  go_loop [4, 5] (fun s4 s5 => ∃ k : Nat, k ≤ 3 ∧ s5 = .int .i64 (2 * k : Nat) ∧ s4 = .bool (decide (k = 0))) (fun _ i => 6 - (intOf i).toNat)
  case atStart => exact ⟨0, by omega, rfl, rfl⟩
  case round =>
    obtain ⟨k, hk, rfl, rfl⟩ := hrel
    match k, hk with
    | 0, _ =>
      go_wp2
      go_round
      case rel => exact ⟨1, by omega, rfl, rfl⟩
      case measure => simp [intOf]
    | 1, _ =>
      go_wp2
      go_round
      case rel => exact ⟨2, by omega, rfl, rfl⟩
      case measure => simp [intOf]
    | 2, _ =>
      go_wp2
      go_round
      case rel => exact ⟨3, by omega, rfl, rfl⟩
      case measure => simp [intOf]
    | 3, _ =>
      go_wp2
      go_loopw [12] (fun s12 wr => ∃ k : Nat, k ≤ 3 ∧ s12 = .int .i64 (4 - 2 * (k : Int)) ∧ RepT w.heap.size (w.heap.size + 1) k wr ∧ Below w.heap.size w wr) (fun s12 _ => (intOf s12 + 2).toNat)
      case atStart => exact ⟨0, by omega, rfl, HS0.out, (balloc w _).alloc (by simp) _⟩
      case round =>
        obtain ⟨k, hk, rfl, hT, hb⟩ := hrel
        replace o0 := (hb.cell (p := ⟨on, 0, none⟩) hol).trans o0
        replace o1 := (hb.cell (p := ⟨on, 1, none⟩) hol).trans o1
        replace o2 := (hb.cell (p := ⟨on, 2, none⟩) hol).trans o2
        replace o3 := (hb.cell (p := ⟨on, 3, none⟩) hol).trans o3
        replace o4 := (hb.cell (p := ⟨on, 4, none⟩) hol).trans o4
        replace o5 := (hb.cell (p := ⟨on, 5, none⟩) hol).trans o5
        have hqs : w.heap.size + 1 < wr.heap.size := World.block_lt_of_cell? _ _ hT.tr
        have hbs := hb.size
        have HB := Lib.hid hb
        clear hst hmk HS0 hb c4
        match k, hk with
        | 0, _ =>
          have kc : (convert 110 9 (.slice (some ⟨wr.heap.size, 0, none⟩) 1 1)).run Tryz.prog (wr.alloc (.cells #[.int .u8 10] 5)) = .ok (.string ⟨#[10]⟩) (wr.alloc (.cells #[.int .u8 10] 5)) :=
            Lib.run_convert_whole (P := Tryz.prog) (wr.alloc (.cells #[.int .u8 10] 5)) 110 5 9 Tryz.underlying110 Tryz.underlying5 Tryz.underlying9 wr.heap.size 0 ⟨#[10]⟩ (bytes_one wr 10) 1
          have hix : ∀ h, (((⟨#[10]⟩ : ByteArray)[0]'h).toNat : Int) = 10 := fun _ => rfl
          have heq : ∀ W, (binOp .eql 110 (.slice none 0 0) (.slice none 0 0)).run Tryz.prog W = .ok (.bool true) W := fun W => Lib.run_eql_slice_nil_nil W _ _ Tryz.underlying110
          obtain ⟨rc, hrc, hrs, -⟩ := hT.row
          have hcr : wr.cell? ⟨w.heap.size, 0, none⟩ = some (rc[0]'(by omega)) := by rw [cell_of_row _ _ _ _ _ _ hrc]; exact Array.getElem?_eq_getElem _
          have hfr : wr.frozen? ⟨w.heap.size, 0, none⟩ = false := Lib.frozen_of_heap hrc 0
          generalize rc[0]'(by omega) = u0 at hcr
          clear hrc hrs
          have hrl : w.heap.size < wr.heap.size := by omega
          have hcr2 : ∀ o1 o2, ((wr.alloc o1).alloc o2).cell? ⟨w.heap.size, 0, none⟩ = some u0 := fun o1 o2 => by rw [World.cell?_alloc_past _ _ _ (by simp; omega), World.cell?_alloc_past _ _ _ hrl, hcr]
          have hfr2 : ∀ o1 o2, ((wr.alloc o1).alloc o2).frozen? ⟨w.heap.size, 0, none⟩ = false := fun o1 o2 => by rw [World.frozen?_alloc_past _ _ _ (by simp; omega), World.frozen?_alloc_past _ _ _ hrl, hfr]
          have htr := hT.tr
          have hnl := hT.nil 10 (by decide) (fun j hj => by match j, hj with | _, h => exact absurd h (Nat.not_lt_zero _))
          have hfz := hT.frz
          have hz256 := hfz 256
          have HT := Lib.hid hT
          clear hT hfz
          go_wp2
          obtain ⟨W2, hW2⟩ : ∃ W2, (((wr.setCell ⟨w.heap.size, 0, none⟩ (.string ⟨#[10]⟩)).setCell ⟨w.heap.size + 1, 256, none⟩ (.slice (some ⟨w.heap.size, 0, none⟩) 1 3)).alloc (.cells #[.int .u8 10] 5)).alloc (.cells #[.string ⟨#[10]⟩] 9) = W2 := ⟨_, rfl⟩
          rw [hW2, Lib.run_convert_string_bytes (P := Tryz.prog) W2 9 110 5 ⟨#[92, 110]⟩ Tryz.underlying9 Tryz.underlying110 Tryz.underlying5]
          obtain ⟨hM2, hrow2, hq2⟩ := rep_two (w := wr) (r := w.heap.size) (q := w.heap.size + 1) (k := 0) (W2 := W2) (by omega) (by omega) (by omega) hW2
          generalize hW3 : Lib.bytesWorld W2 5 ⟨#[92, 110]⟩ = W3
          obtain ⟨n1, n2, n3, n4⟩ := HT.out.next (k := 0) (by decide) (by omega) hM2 hrow2 hq2 hW3
          have HN4 := Lib.hid n4
          have HB3 := Lib.hid (((HB.out.trans (hM2.below hbs (fun k hk h => by omega))).trans (n3.mono (by have := hM2.size; omega))))
          have hW2s := hM2.size
          clear n3 n4 hW3 hW2 hM2 hrow2 hq2 hcr hfr hcr2 hfr2 htr hnl hz256 HT HB
          rw [show repKey 0 = 10 from rfl] at n1 n2
          go_wp2
          go_roundw
          case rel => exact ⟨1, by omega, by go_num, HN4.out _, HB3.out.setCell (by dsimp only; omega) _⟩
          case measure => simp [intOf]
        | 1, _ =>
          have kc : (convert 110 9 (.slice (some ⟨wr.heap.size, 0, none⟩) 1 1)).run Tryz.prog (wr.alloc (.cells #[.int .u8 92] 5)) = .ok (.string ⟨#[92]⟩) (wr.alloc (.cells #[.int .u8 92] 5)) :=
            Lib.run_convert_whole (P := Tryz.prog) (wr.alloc (.cells #[.int .u8 92] 5)) 110 5 9 Tryz.underlying110 Tryz.underlying5 Tryz.underlying9 wr.heap.size 0 ⟨#[92]⟩ (bytes_one wr 92) 1
          have hix : ∀ h, (((⟨#[92]⟩ : ByteArray)[0]'h).toNat : Int) = 92 := fun _ => rfl
          have heq : ∀ W, (binOp .eql 110 (.slice none 0 0) (.slice none 0 0)).run Tryz.prog W = .ok (.bool true) W := fun W => Lib.run_eql_slice_nil_nil W _ _ Tryz.underlying110
          obtain ⟨rc, hrc, hrs, -⟩ := hT.row
          have hcr : wr.cell? ⟨w.heap.size, 1, none⟩ = some (rc[1]'(by omega)) := by rw [cell_of_row _ _ _ _ _ _ hrc]; exact Array.getElem?_eq_getElem _
          have hfr : wr.frozen? ⟨w.heap.size, 1, none⟩ = false := Lib.frozen_of_heap hrc 1
          generalize rc[1]'(by omega) = u0 at hcr
          clear hrc hrs
          have hrl : w.heap.size < wr.heap.size := by omega
          have hcr2 : ∀ o1 o2, ((wr.alloc o1).alloc o2).cell? ⟨w.heap.size, 1, none⟩ = some u0 := fun o1 o2 => by rw [World.cell?_alloc_past _ _ _ (by simp; omega), World.cell?_alloc_past _ _ _ hrl, hcr]
          have hfr2 : ∀ o1 o2, ((wr.alloc o1).alloc o2).frozen? ⟨w.heap.size, 1, none⟩ = false := fun o1 o2 => by rw [World.frozen?_alloc_past _ _ _ (by simp; omega), World.frozen?_alloc_past _ _ _ hrl, hfr]
          have htr := hT.tr
          have hnl := hT.nil 92 (by decide) (fun j hj => by match j, hj with | 0, _ => decide)
          have hfz := hT.frz
          have hz256 := hfz 256
          have HT := Lib.hid hT
          clear hT hfz
          go_wp2
          obtain ⟨W2, hW2⟩ : ∃ W2, (((wr.setCell ⟨w.heap.size, 1, none⟩ (.string ⟨#[92]⟩)).setCell ⟨w.heap.size + 1, 256, none⟩ (.slice (some ⟨w.heap.size, 0, none⟩) 2 3)).alloc (.cells #[.int .u8 92] 5)).alloc (.cells #[.string ⟨#[92]⟩] 9) = W2 := ⟨_, rfl⟩
          rw [hW2, Lib.run_convert_string_bytes (P := Tryz.prog) W2 9 110 5 ⟨#[92, 92]⟩ Tryz.underlying9 Tryz.underlying110 Tryz.underlying5]
          obtain ⟨hM2, hrow2, hq2⟩ := rep_two (w := wr) (r := w.heap.size) (q := w.heap.size + 1) (k := 1) (W2 := W2) (by omega) (by omega) (by omega) hW2
          generalize hW3 : Lib.bytesWorld W2 5 ⟨#[92, 92]⟩ = W3
          obtain ⟨n1, n2, n3, n4⟩ := HT.out.next (k := 1) (by decide) (by omega) hM2 hrow2 hq2 hW3
          have HN4 := Lib.hid n4
          have HB3 := Lib.hid (((HB.out.trans (hM2.below hbs (fun k hk h => by omega))).trans (n3.mono (by have := hM2.size; omega))))
          have hW2s := hM2.size
          clear n3 n4 hW3 hW2 hM2 hrow2 hq2 hcr hfr hcr2 hfr2 htr hnl hz256 HT HB
          rw [show repKey 1 = 92 from rfl] at n1 n2
          go_wp2
          go_roundw
          case rel => exact ⟨2, by omega, by go_num, HN4.out _, HB3.out.setCell (by dsimp only; omega) _⟩
          case measure => simp [intOf]
        | 2, _ =>
          have kc : (convert 110 9 (.slice (some ⟨wr.heap.size, 0, none⟩) 1 1)).run Tryz.prog (wr.alloc (.cells #[.int .u8 34] 5)) = .ok (.string ⟨#[34]⟩) (wr.alloc (.cells #[.int .u8 34] 5)) :=
            Lib.run_convert_whole (P := Tryz.prog) (wr.alloc (.cells #[.int .u8 34] 5)) 110 5 9 Tryz.underlying110 Tryz.underlying5 Tryz.underlying9 wr.heap.size 0 ⟨#[34]⟩ (bytes_one wr 34) 1
          have hix : ∀ h, (((⟨#[34]⟩ : ByteArray)[0]'h).toNat : Int) = 34 := fun _ => rfl
          have heq : ∀ W, (binOp .eql 110 (.slice none 0 0) (.slice none 0 0)).run Tryz.prog W = .ok (.bool true) W := fun W => Lib.run_eql_slice_nil_nil W _ _ Tryz.underlying110
          obtain ⟨rc, hrc, hrs, -⟩ := hT.row
          have hcr : wr.cell? ⟨w.heap.size, 2, none⟩ = some (rc[2]'(by omega)) := by rw [cell_of_row _ _ _ _ _ _ hrc]; exact Array.getElem?_eq_getElem _
          have hfr : wr.frozen? ⟨w.heap.size, 2, none⟩ = false := Lib.frozen_of_heap hrc 2
          generalize rc[2]'(by omega) = u0 at hcr
          clear hrc hrs
          have hrl : w.heap.size < wr.heap.size := by omega
          have hcr2 : ∀ o1 o2, ((wr.alloc o1).alloc o2).cell? ⟨w.heap.size, 2, none⟩ = some u0 := fun o1 o2 => by rw [World.cell?_alloc_past _ _ _ (by simp; omega), World.cell?_alloc_past _ _ _ hrl, hcr]
          have hfr2 : ∀ o1 o2, ((wr.alloc o1).alloc o2).frozen? ⟨w.heap.size, 2, none⟩ = false := fun o1 o2 => by rw [World.frozen?_alloc_past _ _ _ (by simp; omega), World.frozen?_alloc_past _ _ _ hrl, hfr]
          have htr := hT.tr
          have hnl := hT.nil 34 (by decide) (fun j hj => by match j, hj with | 0, _ => decide | 1, _ => decide)
          have hfz := hT.frz
          have hz256 := hfz 256
          have HT := Lib.hid hT
          clear hT hfz
          go_wp2
          obtain ⟨W2, hW2⟩ : ∃ W2, (((wr.setCell ⟨w.heap.size, 2, none⟩ (.string ⟨#[34]⟩)).setCell ⟨w.heap.size + 1, 256, none⟩ (.slice (some ⟨w.heap.size, 0, none⟩) 3 3)).alloc (.cells #[.int .u8 34] 5)).alloc (.cells #[.string ⟨#[34]⟩] 9) = W2 := ⟨_, rfl⟩
          rw [hW2, Lib.run_convert_string_bytes (P := Tryz.prog) W2 9 110 5 ⟨#[92, 34]⟩ Tryz.underlying9 Tryz.underlying110 Tryz.underlying5]
          obtain ⟨hM2, hrow2, hq2⟩ := rep_two (w := wr) (r := w.heap.size) (q := w.heap.size + 1) (k := 2) (W2 := W2) (by omega) (by omega) (by omega) hW2
          generalize hW3 : Lib.bytesWorld W2 5 ⟨#[92, 34]⟩ = W3
          obtain ⟨n1, n2, n3, n4⟩ := HT.out.next (k := 2) (by decide) (by omega) hM2 hrow2 hq2 hW3
          have HN4 := Lib.hid n4
          have HB3 := Lib.hid (((HB.out.trans (hM2.below hbs (fun k hk h => by omega))).trans (n3.mono (by have := hM2.size; omega))))
          have hW2s := hM2.size
          clear n3 n4 hW3 hW2 hM2 hrow2 hq2 hcr hfr hcr2 hfr2 htr hnl hz256 HT HB
          rw [show repKey 2 = 34 from rfl] at n1 n2
          go_wp2
          go_roundw
          case rel => exact ⟨3, by omega, by go_num, HN4.out _, HB3.out.setCell (by dsimp only; omega) _⟩
          case measure => simp [intOf]
        | 3, _ =>
          have HT := Lib.hid hT
          clear hT
          go_wp2
          go_ret
          exact ⟨rfl, HT.out, HB.out⟩
end Go.Proofs.YtdapdadcninidaaGreatDoor
namespace Go.Proofs.YtdapdadcninidaaGreatDoor
open Go.RowKit

theorem on_disable (w : World) : (callFunc 238 #[]).run Tryz.prog w = .ok (.value (.tuple #[])) w := run_call_mark0 Tryz.func238 (by kernel_rfl) (by kernel_rfl) (by kernel_rfl) .disable (by kernel_rfl) w
theorem on_enable (w : World) : (callFunc 240 #[]).run Tryz.prog w = .ok (.value (.tuple #[])) w := run_call_mark0 Tryz.func240 (by kernel_rfl) (by kernel_rfl) (by kernel_rfl) .enable (by kernel_rfl) w
theorem on_acquire (a : Addr) (w : World) : (callFunc 241 #[.pointer (some a)]).run Tryz.prog w = .ok (.value (.tuple #[])) w := run_call_marked Tryz.func241 (by kernel_rfl) (by kernel_rfl) (by kernel_rfl) .acquire (by kernel_rfl) a w
theorem on_release (a : Addr) (w : World) : (callFunc 243 #[.pointer (some a)]).run Tryz.prog w = .ok (.value (.tuple #[])) w := run_call_marked Tryz.func243 (by kernel_rfl) (by kernel_rfl) (by kernel_rfl) .releaseMerge (by kernel_rfl) a w

theorem store_deferred (a : Addr) (x : Value) (u : FrameMode) (w : World) (hc : w.cell? a = some x) (hz : w.frozen? a = false) :
    CallsD Tryz.prog 225 #[.pointer (some a), .bool true] u w fun e u' w' => u' = u ∧ (e = .returned (.tuple #[]) ∧ w' = w.drew.setCell a (.int .u32 1)) := by
  have hc' : w.drew.cell? a = some x := by go_simp
  have hz' : w.drew.frozen? a = false := by go_simp
  have hst := run_call_store (P := Tryz.prog) Tryz.func232 (by kernel_rfl) (by kernel_rfl) (by kernel_rfl) (by kernel_rfl) (k := .u32) (y := 1) hc' hz'
  go_enter_d Tryz.func225, Tryz.ntmps225
  go_wp2
  go_region_calls
  all_goals (go_end0; exact ⟨rfl, rfl⟩)
set_option maxRecDepth 100000 in
set_option maxHeartbeats 1000000 in
theorem unlock_deferred (a : Addr) (u : FrameMode) (w : World) (hc : w.cell? a = some (.int .i32 1)) (hz : w.frozen? a = false) :
    CallsD Tryz.prog 224 #[.pointer (some a)] u w fun e u' w' => u' = u ∧ (e = .returned (.tuple #[]) ∧ w' = w.setCell a (.int .i32 0)) := by
  have hd := on_disable
  have he := on_enable
  have hr := on_release
  have hadd := run_call_add (P := Tryz.prog) Tryz.func244 (by kernel_rfl) (by kernel_rfl) (by kernel_rfl) .i32 (by kernel_rfl) (y := -1) (s := 0) hc hz (by simp [go_sem]; rfl)
  have hcv := run_convert_to_unsafe (P := Tryz.prog) (src := 319) (dst := 215) Tryz.underlying319 Tryz.underlying215 (by kernel_rfl) hc
  go_enter_d Tryz.func224, Tryz.ntmps224
  go_wp2
  go_end0
  go_wp2
set_option maxRecDepth 100000 in
set_option maxHeartbeats 1000000 in
theorem lock_free (a : Addr) (w : World) (hc : w.cell? a = some (.int .i32 0)) (hz : w.frozen? a = false) :
    Calls Tryz.prog 223 #[.pointer (some a)] w fun e w' => e = .returned (.tuple #[]) ∧ w' = w.setCell a (.int .i32 1) := by
  have hd := on_disable
  have he := on_enable
  have ha := on_acquire
  have hcas := run_call_cas_hit (P := Tryz.prog) Tryz.func239 (by kernel_rfl) (by kernel_rfl) (by kernel_rfl) .i32 (by kernel_rfl) (y := 1) hc hz
  have hc' : (w.setCell a (.int .i32 1)).cell? a = some (.int .i32 1) := World.cell?_setCell_same w a _ hc
  have hcv := run_convert_to_unsafe (P := Tryz.prog) (src := 319) (dst := 215) Tryz.underlying319 Tryz.underlying215 (by kernel_rfl) hc'
  go_enter Tryz.func223, Tryz.ntmps223
  go_wp2
  first | go_end0 | (simp only [Exit.inBlock, Exit.then]; refine bodyPost_ret (results_none rfl _ _ _) rfl ?_) | refine bodyPost_ret (results_none rfl _ _ _) rfl ?_
  go_wp2
set_option maxRecDepth 100000 in
theorem done_any (a : Addr) (d : Int) (w : World) (h0 : w.cell? a = some (.int .u32 d)) :
    Calls Tryz.prog 213 #[.pointer (some a)] w fun e w' => e = .returned (.bool (d != 0)) ∧ w' = w := by
  have hl := run_call_load (P := Tryz.prog) Tryz.func222 (by kernel_rfl) (by kernel_rfl) (by kernel_rfl) .u32 (by kernel_rfl) h0
  go_enter Tryz.func213, Tryz.ntmps213
  go_wp2
  go_ret
  exact ⟨rfl, rfl⟩
set_option maxRecDepth 100000 in
set_option maxHeartbeats 1600000 in
/-- doSlow, the lock free and nothing done: the function (f, bound to p) is called; then 'done' is stored and the lock let go. -/
theorem slow_any (b f : Nat) (p : Value) (Q : World → Prop) (w : World)
    (h0 : w.cell? ⟨b, 0, none⟩ = some (.int .u32 0)) (h1 : w.cell? ⟨b, 1, none⟩ = some (.int .i32 0))
    (_ : w.frozen? ⟨b, 0, none⟩ = false) (f1 : w.frozen? ⟨b, 1, none⟩ = false) (hmk : ∀ W, (callFunc f #[p]).run Tryz.prog W = .ok (.enter f #[p]) W)
    (hf : Calls Tryz.prog f #[p] (w.setCell ⟨b, 1, none⟩ (.int .i32 1)) fun e w2 => e = .returned (.tuple #[]) ∧ Q w2 ∧ w2.cell? ⟨b, 0, none⟩ = some (.int .u32 0) ∧ w2.cell? ⟨b, 1, none⟩ = some (.int .i32 1) ∧ w2.frozen? ⟨b, 0, none⟩ = false ∧ w2.frozen? ⟨b, 1, none⟩ = false) :
    Calls Tryz.prog 214 #[.pointer (some ⟨b, 0, none⟩), .func (.func f) #[p] #[]] w fun e w' => e = .returned (.tuple #[]) ∧ ∃ w2, Q w2 ∧ w' = (w2.drew.setCell ⟨b, 0, none⟩ (.int .u32 1)).setCell ⟨b, 1, none⟩ (.int .i32 0) := by
  have hl := done_any ⟨b, 0, none⟩ 0 (w.setCell ⟨b, 1, none⟩ (.int .i32 1)) ((World.cell?_setCell_other _ ⟨b, 1, none⟩ ⟨b, 0, none⟩ _ (by simp)).trans h0)
  have hnot : ∀ (x : Bool) (w : World), (Op.unary .not (.bool x)).run Tryz.prog w = .ok (.bool (!x)) w := fun _ _ => rfl
  have HF := Lib.hid hf
  clear hf
  go_enter_defers Tryz.func214, Tryz.ntmps214
  go_wp2_with (go_at_call 223; refine (lock_free ⟨b, 1, none⟩ _ (by go_simp) (by go_simp)).mono ?_; rintro e w' ⟨rfl, rfl⟩)
  refine hl.mono ?_
  rintro e w1 ⟨rfl, rfl⟩
  go_wp2_with fail
  refine HF.out.mono ?_
  rintro e w2 ⟨rfl, hq, k0, k1, k2, k3⟩
  have HQ := Lib.hid hq
  clear hq
  go_wp2
  refine leaves_cons (f := 225) (args := #[.pointer (some ⟨b, 0, none⟩), .bool true]) (by simp) (by simp [go_sem]) ?_
  refine (store_deferred ⟨b, 0, none⟩ (.int .u32 0) .returning _ k0 k2).mono ?_
  rintro e u' w'' ⟨rfl, rfl, rfl⟩
  refine leaves_cons (f := 224) (args := #[.pointer (some ⟨b, 1, none⟩)]) (by simp [settle]) (by simp [go_sem]) ?_
  refine (unlock_deferred ⟨b, 1, none⟩ _ _ ?_ (by simp [k3])).mono ?_
  · refine (World.cell?_setCell_other _ ⟨b, 0, none⟩ ⟨b, 1, none⟩ _ (by simp)).trans ?_
    rw [World.cell?_drew]
    exact k1
  rintro e u' w'' ⟨rfl, rfl, rfl⟩
  simp [Leaves, settle, results, Tryz.results214]
  exact ⟨w2, HQ.out, rfl⟩
set_option maxRecDepth 100000 in
set_option maxHeartbeats 1600000 in
/-- Do, nothing done. -/
theorem do_any (b f : Nat) (p : Value) (Q : World → Prop) (w : World)
    (h0 : w.cell? ⟨b, 0, none⟩ = some (.int .u32 0)) (h1 : w.cell? ⟨b, 1, none⟩ = some (.int .i32 0))
    (f0 : w.frozen? ⟨b, 0, none⟩ = false) (f1 : w.frozen? ⟨b, 1, none⟩ = false) (hmk : ∀ W, (callFunc f #[p]).run Tryz.prog W = .ok (.enter f #[p]) W)
    (hf : Calls Tryz.prog f #[p] (w.setCell ⟨b, 1, none⟩ (.int .i32 1)) fun e w2 => e = .returned (.tuple #[]) ∧ Q w2 ∧ w2.cell? ⟨b, 0, none⟩ = some (.int .u32 0) ∧ w2.cell? ⟨b, 1, none⟩ = some (.int .i32 1) ∧ w2.frozen? ⟨b, 0, none⟩ = false ∧ w2.frozen? ⟨b, 1, none⟩ = false) :
    Calls Tryz.prog 199 #[.pointer (some ⟨b, 0, none⟩), .func (.func f) #[p] #[]] w fun e w' => e = .returned (.tuple #[]) ∧ ∃ w2, Q w2 ∧ w' = (w2.drew.setCell ⟨b, 0, none⟩ (.int .u32 1)).setCell ⟨b, 1, none⟩ (.int .i32 0) := by
  have hl := done_any ⟨b, 0, none⟩ 0 w h0
  have hnot : ∀ (x : Bool) (w : World), (Op.unary .not (.bool x)).run Tryz.prog w = .ok (.bool (!x)) w := fun _ _ => rfl
  have H1 := Lib.hid (slow_any b f p Q w h0 h1 f0 f1 hmk hf)
  have HL := Lib.hid hl
  clear hf hl
  go_enter Tryz.func199, Tryz.ntmps199
  go_wp2_with fail
  refine HL.out.mono ?_
  rintro e w1 ⟨rfl, rfl⟩
  go_wp2_with fail
  refine H1.out.mono ?_
  rintro e w1 ⟨rfl, hq⟩
  have HQ := Lib.hid hq
  clear hq
  go_wp2
  go_end0
  exact ⟨rfl, HQ.out⟩
end Go.Proofs.YtdapdadcninidaaGreatDoor
