/- Package dom: visit, and the iterator of below. No condition but that the tree below the node ends. -/
import Derived.Test.YtdapdadcninidaaGreatDoorItf
import Derived.Test.YtdapdadcninidaaGreatDoorDm2
namespace Go.Proofs.YtdapdadcninidaaGreatDoor
open Go.RowKit
attribute [local go_sem] Oper.semAt_some

theorem YieldAt.any {n m : Nat} {P : Program} {l : Nat} {args : Array Value} {W : World} {R : Ending → World → Prop} (h : YieldAt Fence.wide n P l args W R) : YieldAt Fence.wide m P l args W R := by
  obtain ⟨fn, tmps, assign, body, hy, hR⟩ := h
  exact ⟨fn, tmps, assign, body, hy, hR.1, fun c cs _ => hR.2 c cs (room_wide _)⟩
/-- The preorder of a forest. -/
inductive Sub (kd : Int → List Nat) : List Nat → List Nat → Prop
  | nil : Sub kd [] []
  | cons {k : Nat} {ks xs ys : List Nat} : Sub kd (kd k) xs → Sub kd ks ys → Sub kd (k :: ks) (k :: (xs ++ ys))
/-- What the iterator leans on: an arena with these children. -/
def PrK (B : Nat) (kd : Int → List Nat) (A : World) : Prop := ∃ O' ns', ArW B O' ns' A ∧ Fit ns' ∧ ∀ h, kidsAt ns' h = kd h
/-- The contract of visit at a node: what is yielded below it. -/
def VAt (B : Nat) (kd : Int → List Nat) (h : Int) (xs : List Nat) : Prop := ∀ (l : Nat) (zs : List Nat) (J Jx : (Nat → Prop) → Nat → World → Prop) (G : Nat → Prop) (i0 : Nat) (W : World),
  (∀ G G' i A B, J G i A → Mod G A B → (∀ k, G' k → G k ∨ (A.heap.size ≤ k ∧ k < B.heap.size)) → J G' i B) → (∀ G G' i A B, Jx G i A → Mod G A B → (∀ k, G' k → G k ∨ (A.heap.size ≤ k ∧ k < B.heap.size)) → Jx G' i B) →
  (∀ G i A, J G i A → PrK B kd A) →
  (∀ G' i x W1, zs[i]? = some x → J G' i W1 → (∀ k, G k → G' k) → YieldAt Fence.wide 0 Tryz.prog l #[.int .i64 (x : Nat)] W1 fun e W' =>
    ((e = .returned (.bool true) ∧ J G' (i + 1) W') ∨ (e = .returned (.bool false) ∧ Jx G' (i + 1) W')) ∧ Mod (fun k => ¬ G' k) W1 W') →
  (∀ j x, xs[j]? = some x → zs[i0 + j]? = some x) → i0 + xs.length ≤ zs.length → J G i0 W →
  Calls Tryz.prog 99 #[.pointer (some ⟨B, 0, none⟩), .int .i64 h, .func (.yield l) #[] #[]] W fun e W' =>
    (e = .returned (.bool true) ∧ J G (i0 + xs.length) W' ∧ Mod (fun k => ¬ G k) W W') ∨ (e = .returned (.bool false) ∧ ∃ i, i ≤ zs.length ∧ Jx G i W')
/-- What a child and its own give. -/
def items (ks : List Nat) (ps : List (List Nat)) : List (List Nat) := List.zipWith (fun k p => k :: p) ks ps
theorem items_take_succ {ks : List Nat} {ps : List (List Nat)} {j : Nat} (hk : j < ks.length) (hp : j < ps.length) : (items ks ps).take (j + 1) = (items ks ps).take j ++ [ks[j] :: ps[j]] := by
  have hl : j < (items ks ps).length := by simp [items]; omega
  rw [List.take_succ_eq_append_getElem hl]
  simp [items]
theorem roundIn_any {n m : Nat} {P : Program} {k : Nat} {f : FuncId} {tmps : Array Value} {assign body : Code} {w : World} {R R' : Ending → World → Prop} (h : RoundIn Fence.wide n P k f tmps assign body w R) (hr : ∀ e w', R e w' → R' e w') :
    RoundIn Fence.wide m P k f tmps assign body w R' :=
  RoundIn.mono (F := Fence.wide) ⟨h.1, fun c cs _ => h.2 c cs (room_wide _)⟩ hr
theorem items_at {ks : List Nat} {ps : List (List Nat)} {j : Nat} (hk : j < ks.length) (hp : j < ps.length) : (items ks ps).flatten[((items ks ps).take j).flatten.length]? = some ks[j] ∧
    (∀ q x, ps[j][q]? = some x → (items ks ps).flatten[((items ks ps).take j).flatten.length + 1 + q]? = some x) ∧ ((items ks ps).take j).flatten.length + 1 + ps[j].length ≤ (items ks ps).flatten.length := by
  have h : (items ks ps).flatten = ((items ks ps).take j).flatten ++ ((ks[j] :: ps[j]) ++ ((items ks ps).drop (j + 1)).flatten) := by
    have h1 : ((items ks ps).take (j + 1) ++ (items ks ps).drop (j + 1)).flatten = (items ks ps).flatten := by rw [List.take_append_drop]
    rw [← h1, items_take_succ hk hp]
    simp
  obtain ⟨A, hA⟩ : ∃ A, ((items ks ps).take j).flatten = A := ⟨_, rfl⟩
  rw [hA] at h ⊢
  rw [h]
  refine ⟨by simp, fun q x hq => ?_, by simp; omega⟩
  have hl := (List.getElem?_eq_some_iff.1 hq).1
  rw [List.getElem?_append_right (by omega), show A.length + 1 + q - A.length = q + 1 by omega, List.cons_append, List.getElem?_cons_succ, List.getElem?_append_left hl]
  exact hq
set_option maxRecDepth 100000 in
set_option maxHeartbeats 1000000 in
theorem visit_step {B : Nat} {kd : Int → List Nat} (h : Int) (ps : List (List Nat)) (hpl : ps.length = (kd h).length) (IH : ∀ (j c : Nat) (p : List Nat), (kd h)[j]? = some c → ps[j]? = some p → VAt B kd c p) :
    VAt B kd h (items (kd h) ps).flatten := by
  intro l zs J Jx G i0 W hJ hJx hP hY hz hzl h0
  obtain ⟨O0, ns0, hA0, hf0, hk0⟩ := hP _ _ _ h0
  have HK := Kids_any h W hA0 hf0.len (hf0.kids h)
  rw [hk0 h] at HK
  have HK := Lib.hid HK
  have HJ := Lib.hid hJ; have HJX := Lib.hid hJx; have HY := Lib.hid hY; have HP := Lib.hid hP; have HZ := Lib.hid hz; have H0 := Lib.hid h0; have HIH := Lib.hid IH; have HPL := Lib.hid hpl; have HZL := Lib.hid hzl
  have hkl : (kd h).length ≤ 1000000 := by rw [← hk0 h]; exact hf0.kids h
  clear hJ hJx hY hP hz h0 IH hpl hzl hA0 hf0 hk0
  generalize hks : kd h = ks at *
  clear hks
  obtain ⟨n, hn⟩ : ∃ n, 9 ≤ n := ⟨9, Nat.le_refl _⟩
  refine (callsIn_wide (n := n)).1 ?_
  refine callsIn_of_wp Tryz.func99 rfl trivial ?_ rfl
  simp only [Tryz.ntmps99, List.size_toArray, List.length_cons, List.length_nil, Nat.reduceAdd, Nat.reduceSub, Array.replicate_succ, Array.replicate_zero, List.push_toArray, List.append_toArray, List.nil_append, List.cons_append]
  gi_wp2_with fail
  refine call_wide HK.out ?_ (by omega)
  rintro e w1 ⟨v, rfl, hr, b1⟩
  obtain ⟨ka, kc, rfl⟩ := ownsRow_slice hr
  obtain ⟨G1, hG1⟩ : ∃ G1 : Nat → Prop, ∀ k, G1 k ↔ (G k ∨ (Value.slice ka ks.length kc).ownBlock = some k) := ⟨_, fun _ => Iff.rfl⟩
  have hr0 := hr
  have hJ1 : J G1 i0 w1 := HJ.out G G1 i0 W w1 H0.out (Mod.of_below b1) fun k hk => by
    rcases (hG1 k).1 hk with hk | hk
    · exact .inl hk
    · rcases hr.2 with ⟨e, _⟩ | ⟨g, cap, cur, e, hg, _⟩
      · rw [e] at hk; cases hk
      · have hlt := ownsRow_lt hr (g := g) (by rw [e]; rfl)
        rw [e] at hk; cases hk; exact .inr ⟨hg, hlt⟩
  have HJ1 := Lib.hid hJ1; have HR := Lib.hid hr; have HB1 := Lib.hid b1; have HG1 := Lib.hid hG1
  clear hr hr0 b1 hJ1 H0 HK hG1
  gi_wp2_with fail
  gi_loopw [13] (fun s13 wr => ∃ j : Nat, j ≤ ks.length ∧ s13 = .int .i64 (j : Nat) ∧ J G1 (i0 + ((items ks ps).take j).flatten.length) wr ∧ Mod (fun k => ¬ G1 k) w1 wr) (fun i _ => ks.length - (intOf i).toNat)
  case atStart => exact ⟨0, Nat.zero_le _, rfl, by simpa using HJ1.out, Mod.refl _ _⟩
  case round =>
    obtain ⟨j, hj, rfl, hjj, hm⟩ := hrel
    have HJJ := Lib.hid hjj; have HM := Lib.hid hm
    clear hjj hm HJ1
    by_cases hlt : j < ks.length
    · obtain ⟨gk, rfl⟩ := row_someA HR.out (by omega)
      have hcell := row_at (ownsRow_mod HR.out HM.out fun g hg h => h ((HG1.out g).2 (.inr hg))) j (natV ks[j]) (by simp [kidCells, hlt])
      have hpj : j < ps.length := by rw [HPL.out]; exact hlt
      have hfl := items_at (ks := ks) (ps := ps) hlt hpj
      have hnx : Hid (((items ks ps).take (j + 1)).flatten.length = ((items ks ps).take j).flatten.length + 1 + ps[j].length) := Lib.hid (by rw [items_take_succ hlt hpj]; simp; omega)
      have hzx := HZ.out _ _ hfl.1
      have hzr : ∀ q x, ps[j][q]? = some x → zs[i0 + ((items ks ps).take j).flatten.length + 1 + q]? = some x := fun q x hq => by
        have := HZ.out _ _ (hfl.2.1 q x hq)
        rwa [show i0 + (((items ks ps).take j).flatten.length + 1 + q) = i0 + ((items ks ps).take j).flatten.length + 1 + q by omega] at this
      have hle := hfl.2.2
      have hzl2 := HZL.out
      obtain ⟨P, hP2⟩ : ∃ P, i0 + ((items ks ps).take j).flatten.length = P := ⟨_, rfl⟩
      rw [hP2] at hzx hzr HJJ
      have HIHj := Lib.hid (HIH.out j _ ps[j] (List.getElem?_eq_getElem hlt) (List.getElem?_eq_getElem hpj))
      obtain ⟨c, hc⟩ : ∃ c, ks[j] = c := ⟨_, rfl⟩
      rw [hc] at hcell hzx HIHj
      have hji : (j : Int) < (ks.length : Int) := by omega
      obtain ⟨pj, hpj2⟩ : ∃ pj, ps[j] = pj := ⟨_, rfl⟩
      rw [hpj2] at hnx hzr HIHj hle
      have HL := Lib.hid (show P + 1 + pj.length ≤ zs.length by omega)
      have HZR := Lib.hid hzr; have HP2 := Lib.hid hP2
      obtain ⟨fn, tmps, assign, body, hy, hR⟩ := HY.out G1 P _ wr hzx HJJ.out (fun k hk => (HG1.out k).2 (.inl hk))
      have HRy := Lib.hid hR
      simp only [natV] at hcell
      clear hR hzx hzr hP2 hfl hle hzl2 hc hpj2 hpj
      gi_wp2_with fail
      refine ⟨fun _ => by omega, ?_⟩
      refine roundIn_any HRy.out ?_
      rintro e W3 ⟨(⟨rfl, hj3⟩ | ⟨rfl, hj3⟩), hm3⟩
      · have HV := Lib.hid (HIHj.out l zs J Jx G1 (P + 1) W3 HJ.out HJX.out HP.out (fun G' i x W1 h1 h2 h3 => HY.out G' i x W1 h1 h2 fun k hk => h3 k ((HG1.out k).2 (.inl hk))) HZR.out HL.out hj3)
        have HM3 := Lib.hid (HM.out.trans hm3)
        clear hj3 hm3 HM HRy HJJ HIHj hy hcell
        gi_wp2_with fail
        refine call_wide HV.out ?_ (by omega)
        rintro e W4 (⟨rfl, hj4, hm4⟩ | ⟨rfl, i, hi, hx4⟩)
        · have HJ4 := Lib.hid hj4; have HM4 := Lib.hid (HM3.out.trans hm4)
          clear hj4 hm4 HV HM3
          gi_wp2_with fail
          go_roundw
          case rel => exact ⟨j + 1, by omega, by go_num, by
            have h1 := hnx.out
            have h2 := HP2.out
            have : i0 + ((items ks ps).take (j + 1)).flatten.length = P + 1 + pj.length := by omega
            rw [this]; exact HJ4.out, HM4.out⟩
          case measure => simp [intOf]; omega
        · have HX4 := Lib.hid (HJX.out G1 G i W4 W4 hx4 (Mod.refl _ _) fun k hk => .inl ((HG1.out k).2 (.inl hk)))
          clear hx4 HV HM3
          gi_wp2_with fail
          go_ret
          exact .inr ⟨rfl, i, hi, HX4.out⟩
      · have HX3 := Lib.hid (HJX.out G1 G (P + 1) W3 W3 hj3 (Mod.refl _ _) fun k hk => .inl ((HG1.out k).2 (.inl hk)))
        clear hj3 hm3 HRy HJJ HIHj hy hcell
        gi_wp2_with fail
        refine ⟨trivial, ?_⟩
        gi_wp2_with fail
        go_ret
        exact .inr ⟨rfl, P + 1, by have := HL.out; omega, HX3.out⟩
    · have hje : j = ks.length := by omega
      subst hje
      have hfull : (items ks ps).take ks.length = items ks ps := List.take_of_length_le (by simp [items]; omega)
      rw [hfull] at HJJ
      have HF := Lib.hid (HJ.out G1 G _ wr wr HJJ.out (Mod.refl _ _) fun k hk => .inl ((HG1.out k).2 (.inl hk)))
      have HMF := Lib.hid (show Mod (fun k => ¬ G k) W wr from (Mod.of_below HB1.out).trans (HM.out.mono fun k _ h hg => h ((HG1.out k).2 (.inl hg))))
      clear hfull
      gi_wp2_with fail
      go_ret
      exact .inl ⟨rfl, HF.out, HMF.out⟩
theorem visit_all {B : Nat} {kd : Int → List Nat} {ks xs : List Nat} (h : Sub kd ks xs) : ∃ ps : List (List Nat), ps.length = ks.length ∧ xs = (items ks ps).flatten ∧ ∀ (j c : Nat) (p : List Nat), ks[j]? = some c → ps[j]? = some p → VAt B kd c p := by
  induction h with
  | nil => exact ⟨[], rfl, rfl, fun j c p h _ => by simp at h⟩
  | @cons k ks xs ys _ _ ih1 ih2 =>
    obtain ⟨ps1, e1, f1, g1⟩ := ih1
    obtain ⟨ps2, e2, f2, g2⟩ := ih2
    refine ⟨xs :: ps2, by simp [e2], by simp [items, f2], fun j c p h1 h2 => ?_⟩
    match j, h1, h2 with
    | 0, h1, h2 =>
      simp at h1 h2
      subst h1
      subst h2
      rw [f1]
      exact visit_step (k : Int) ps1 e1 g1
    | j + 1, h1, h2 => exact g2 j c p (by simpa using h1) (by simpa using h2)
theorem visit_any {B : Nat} {kd : Int → List Nat} {h : Int} {xs : List Nat} (hS : Sub kd (kd h) xs) : VAt B kd h xs := by
  obtain ⟨ps, e1, f1, g1⟩ := visit_all (B := B) hS
  rw [f1]
  exact visit_step h ps e1 g1
set_option maxRecDepth 100000 in
theorem below_any (h : Int) (w : World) (B : Nat) : Calls Tryz.prog 55 #[.pointer (some ⟨B, 0, none⟩), .int .i64 h] w fun e w' =>
    e = .returned (.func (.func 98) #[] #[.pointer (some ⟨w.heap.size, 0, none⟩), .pointer (some ⟨w.heap.size + 1, 0, none⟩)]) ∧ w' = (w.alloc (.cells #[.pointer (some ⟨B, 0, none⟩)] 23)).alloc (.cells #[.int .i64 h] 3) := by
  have hmf : ∀ (fn : Fn) (first cap : Array Value) (w : World), (Instr.makeFunc fn first cap).run Tryz.prog w = .ok (.func fn first cap) w := fun _ _ _ _ => rfl
  go_enter Tryz.func55, Tryz.ntmps55
  go_wp2
  go_ret
  exact ⟨rfl, rfl⟩
set_option maxRecDepth 100000 in
/-- The iterator of below. -/
theorem below_iter (h : Int) (xs : List Nat) (n : Nat) (hn : 3 ≤ n) (w : World) {B ab hb : Nat} {kd : Int → List Nat} (hS : Sub kd (kd h) xs)
    (c1 : w.cell? ⟨ab, 0, none⟩ = some (.pointer (some ⟨B, 0, none⟩))) (c2 : w.cell? ⟨hb, 0, none⟩ = some (.int .i64 h)) :
    IterF Fence.wide n Tryz.prog 98 #[.pointer (some ⟨ab, 0, none⟩), .pointer (some ⟨hb, 0, none⟩)] (fun x : Nat => #[.int .i64 (x : Nat)]) xs (fun _ => False) (PrK B kd) w := by
  intro lp J Jx W hb0 hJ hJx hP hY h0
  have k1 : W.cell? ⟨ab, 0, none⟩ = some (.pointer (some ⟨B, 0, none⟩)) := (hb0.cell (p := ⟨ab, 0, none⟩) (World.block_lt_of_cell? _ _ c1)).trans c1
  have k2 : W.cell? ⟨hb, 0, none⟩ = some (.int .i64 h) := (hb0.cell (p := ⟨hb, 0, none⟩) (World.block_lt_of_cell? _ _ c2)).trans c2
  have HV := Lib.hid (visit_any (B := B) hS lp xs J Jx (fun _ => False) 0 W hJ hJx hP (fun G' i x W1 h1 h2 h3 => by
    obtain ⟨fn, tmps, assign, body, hy, hR⟩ := hY G' i x W1 h1 h2 h3
    exact ⟨fn, tmps, assign, body, hy, hR.1, fun c cs _ => hR.2 c cs (room_wide _)⟩) (fun j x hj => by rw [Nat.zero_add]; exact hj) (by omega) h0)
  clear hJ hJx hP hY h0 c1 c2 hb0
  refine callsIn_of_wp Tryz.func98 rfl trivial ?_ rfl
  simp only [Tryz.ntmps98, List.size_toArray, List.length_cons, List.length_nil, Nat.reduceAdd, Nat.reduceSub, Array.replicate_succ, Array.replicate_zero, List.push_toArray, List.append_toArray, List.nil_append, List.cons_append]
  gi_wp2_with fail
  refine call_wide HV.out ?_ (by omega)
  rintro e W4 hr
  have HR := Lib.hid hr
  obtain ⟨v, rfl⟩ : ∃ v, e = .returned v := by rcases hr with ⟨h, _⟩ | ⟨h, _⟩ <;> exact ⟨_, h⟩
  clear hr HV
  gi_wp2_with fail
  go_end0
  refine ⟨⟨_, rfl⟩, ?_⟩
  rcases HR.out with ⟨_, h1, _⟩ | ⟨_, i, hi, h1⟩
  · exact ⟨_, .inl (by simpa using h1)⟩
  · exact ⟨_, .inr ⟨i, hi, h1⟩⟩
theorem enter_below1 (args : Array Value) (W : World) : (callFunc 98 args).run Tryz.prog W = .ok (.enter 98 args) W := by simp [go_sem]
end Go.Proofs.YtdapdadcninidaaGreatDoor
