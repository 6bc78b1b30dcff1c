/- Package arena: Put. No condition but that the nodes are linked well at the parent and the node. -/
import Derived.Test.YtdapdadcninidaaGreatDoorCt
import Derived.Test.YtdapdadcninidaaGreatDoorDm1
namespace Go.Proofs.YtdapdadcninidaaGreatDoor
open Go.RowKit
attribute [local go_sem ↓] Go.wp_at_zero Go.wp_at_succ

def mayParent (k : Int) : Prop := k = 1 ∨ k = 2 ∨ k = 4
instance (k : Int) : Decidable (mayParent k) := by unfold mayParent; infer_instance
/-- The error of Put. -/
noncomputable def putE (ns : List Nd) (p n b : Int) : Int :=
  if isH ns.length p = false ∨ isH ns.length n = false then 3 else
  if b ≠ 0 ∧ isH ns.length b = false then 3 else
  if ¬ mayParent (ndAt ns p).kind ∨ (ndAt ns n).kind = 1 ∨ (ndAt ns n).kind = 2 ∨ containsL ns n p = true then 4 else
  if b ≠ 0 ∧ (b = n ∨ ((ndAt ns b).parent : Int) ≠ p) then 5 else 0
def insAt (ks : List Nat) (b : Int) : Nat := if b = 0 then ks.length else ks.idxOf b.toNat
/-- The nodes with n put into p ahead of b; c: with n cut. -/
def putC (c : List Nd) (p n b : Int) : List Nd :=
  setNd (setNd c p { ndAt c p with kids := insK (ndAt c p).kids (insAt (ndAt c p).kids b) n.toNat }) n
    { ndAt (setNd c p { ndAt c p with kids := insK (ndAt c p).kids (insAt (ndAt c p).kids b) n.toNat }) n with parent := p.toNat }
def putL (ns : List Nd) (p n b : Int) : List Nd := putC (cutL ns n) p n b
theorem setNd_len (ns : List Nd) (h : Int) (d : Nd) : (setNd ns h d).length = ns.length := by simp [setNd]
theorem ndAt_setNd_self {ns : List Nd} {h : Int} {d : Nd} (hh : isH ns.length h = true) : ndAt (setNd ns h d) h = d := by
  obtain ⟨i, hi, rfl⟩ := isH_iff.1 hh
  rw [setNd, show (((i + 1 : Nat) : Int) - 1).toNat = i by omega, ndAt_at (List.getElem?_set_self hi)]
theorem ndAt_setNd_ne {ns : List Nd} {h k : Int} {d : Nd} (hh : isH ns.length h = true) (hk : isH ns.length k = true) (hne : h ≠ k) : ndAt (setNd ns h d) k = ndAt ns k := by
  obtain ⟨i, hi, rfl⟩ := isH_iff.1 hh
  obtain ⟨j, hj, rfl⟩ := isH_iff.1 hk
  unfold ndAt setNd
  rw [show (((i + 1 : Nat) : Int) - 1).toNat = i by omega, show (((j + 1 : Nat) : Int) - 1).toNat = j by omega, List.getD_eq_getElem?_getD, List.getElem?_set_ne (by omega), ← List.getD_eq_getElem?_getD]
theorem cutL_len (ns : List Nd) (h : Int) : (cutL ns h).length = ns.length := by
  unfold cutL
  split
  · rfl
  · rw [setNd_len, setNd_len]
/-- What a cut does to a node's children. -/
theorem cutL_kids {ns : List Nd} {n p : Int} (hc : CutOk ns n) (hp : isH ns.length p = true) (hne : p ≠ n) :
    (ndAt (cutL ns n) p).kids = if (ndAt ns n).parent ≠ 0 ∧ ((ndAt ns n).parent : Int) = p then (ndAt ns p).kids.erase n.toNat else (ndAt ns p).kids := by
  unfold cutL
  obtain ⟨h1, h2⟩ := hc
  split
  · rename_i h0
    rw [if_neg (fun h => h.1 h0)]
  · rename_i h0
    obtain ⟨h3, h4, h5, h6⟩ := h2 h0
    rw [ndAt_setNd_ne (by rw [setNd_len]; exact h1) (by rw [setNd_len]; exact hp) (Ne.symm hne)]
    by_cases e : ((ndAt ns n).parent : Int) = p
    · rw [if_pos ⟨h0, e⟩, e, ndAt_setNd_self hp]
    · rw [if_neg (fun h => e h.2), ndAt_setNd_ne h3 hp e]
/-- What Put leans on. -/
structure PutOk (ns : List Nd) (p n b : Int) : Prop where
  up : isH ns.length p = true → ∃ xs, Up ns true p xs
  cut : isH ns.length n = true → CutOk ns n
  bef : b ≠ 0 → isH ns.length b = true → ((ndAt ns b).parent : Int) = p → b.toNat ∈ (ndAt ns p).kids
theorem insAt_ok {ks : List Nat} {b : Int} (hb : b ≠ 0 → b.toNat ∈ ks) : insAt ks b ≤ ks.length := by
  unfold insAt
  split
  · exact Nat.le_refl _
  · exact List.idxOf_le_length
/-- The end of Put, as one step of the arena. -/
theorem put_end {w w1 w2 : World} {B g cap m ip jn : Nat} {O : List Nat} {c : List Nd} {p n b : Int} {kv v' : Value} (hA : ArW B O c w) (hp : isH c.length p = true) (hn : isH c.length n = true) (hip : p = ((ip + 1 : Nat) : Int)) (hjn : n = ((jn + 1 : Nat) : Int))
    (hc : w.cell? ⟨B, 0, none⟩ = some (.slice (some ⟨g, 0, none⟩) m cap)) (hk : w.cell? ⟨g, ip * 13 + 2, none⟩ = some kv)
    (hm1 : Below w.heap.size w w1) (hm : Mod (fun k => kv.ownBlock = some k) w1 w2) (hr : w2.ownsRow 0 3 1 v' (insK (ndAt c p).kids (insAt (ndAt c p).kids b) n.toNat).length (kidCells (insK (ndAt c p).kids (insAt (ndAt c p).kids b) n.toNat)))
    (hb : v'.ownBlock = kv.ownBlock ∨ ∃ k, v'.ownBlock = some k ∧ w1.heap.size ≤ k) :
    ∃ O', ArW B O' (putC c p n b) ((w2.setCell ⟨g, ip * 13 + 2, none⟩ v').setCell ⟨g, jn * 13 + 1, none⟩ (.int .i64 p)) ∧ AStep O w O' ((w2.setCell ⟨g, ip * 13 + 2, none⟩ v').setCell ⟨g, jn * 13 + 1, none⟩ (.int .i64 p)) := by
  have hA1 := hA.later hm1
  have hipl : ip < c.length := by obtain ⟨i, hi, e⟩ := isH_iff.1 hp; omega
  have hjnl : jn < c.length := by obtain ⟨i, hi, e⟩ := isH_iff.1 hn; omega
  have hBw : B < w.heap.size := World.block_lt_of_cell? _ _ hc
  have hgw : g < w.heap.size := World.block_lt_of_cell? _ _ hk
  have hc1 : w1.cell? ⟨B, 0, none⟩ = some (.slice (some ⟨g, 0, none⟩) m cap) := (hm1.cell (p := ⟨B, 0, none⟩) hBw).trans hc
  have hk1 : w1.cell? ⟨g, ip * 13 + 2, none⟩ = some kv := (hm1.cell (p := ⟨g, _, none⟩) hgw).trans hk
  have hxp : c[ip]? = some (ndAt c p) := by rw [List.getElem?_eq_getElem hipl, hip, ndAt_at (List.getElem?_eq_getElem hipl)]
  obtain ⟨far1, far2, far3⟩ := hA1.far hipl hc1 hk1
  obtain ⟨O2, hA2, hS2⟩ := hA1.kids hxp hc1 hk1 hm hr hb
  have hs1 : c.set ip { ndAt c p with kids := insK (ndAt c p).kids (insAt (ndAt c p).kids b) n.toNat } = setNd c p { ndAt c p with kids := insK (ndAt c p).kids (insAt (ndAt c p).kids b) n.toNat } := by rw [setNd, hip]; congr 1; omega
  rw [hs1] at hA2
  unfold putC
  generalize hN : setNd c p { ndAt c p with kids := insK (ndAt c p).kids (insAt (ndAt c p).kids b) n.toNat } = N at *
  have hNl : jn < N.length := by rw [← hN, setNd_len]; exact hjnl
  have hxn : N[jn]? = some (ndAt N n) := by rw [List.getElem?_eq_getElem hNl, hjn, ndAt_at (List.getElem?_eq_getElem hNl)]
  have hc2 : (w2.setCell ⟨g, ip * 13 + 2, none⟩ v').cell? ⟨B, 0, none⟩ = some (.slice (some ⟨g, 0, none⟩) m cap) := by
    rw [World.cell?_setCell_far _ _ _ _ far3]
    exact (hm.cell (p := ⟨B, 0, none⟩) (Nat.lt_of_lt_of_le hBw hm1.size) far2).trans hc1
  have hq := hA2.put (j := 1) (d' := { ndAt N n with parent := p.toNat }) (v := .int .i64 p) hxn hc2 (by omega) (fun _ _ => by simp only [ndCells, List.set_cons_succ, List.set_cons_zero]; rw [natV, hip]; rfl) rfl rfl
  have hs2 : N.set jn { ndAt N n with parent := p.toNat } = setNd N n { ndAt N n with parent := p.toNat } := by rw [setNd, hjn]; congr 1; omega
  rw [hs2] at hq
  exact ⟨O2, hq.1, astep_pre (hm1.mono (Nat.le_refl _)) (hS2.trans hq.2)⟩
/-- What the walk meets behind the cut. -/
structure PutMid (w : World) (B : Nat) (O : List Nat) (c : List Nd) (p n b : Int) (g ip jn : Nat) (ka : Option Addr) (kc : Nat) : Prop where
  c2 : w.cell? ⟨g, ip * 13 + 2, none⟩ = some (.slice ka (ndAt c p).kids.length kc)
  ix : b ≠ 0 → Calls Tryz.prog 48 #[.slice ka (ndAt c p).kids.length kc, .int .i64 b] w fun e w' => e = .returned (.int .i64 (insAt (ndAt c p).kids b : Nat)) ∧ w = w'
  ins : Calls Tryz.prog 49 #[.slice ka (ndAt c p).kids.length kc, .int .i64 (insAt (ndAt c p).kids b : Nat), .slice (some ⟨w.heap.size, 0, none⟩) 1 1] (w.alloc (.cells #[.int .i64 n] 3)) fun e w' =>
    ∃ v1 v2 v3 pa, e = .returned (.slice v1 v2 v3) ∧ w'.cell? ⟨g, ip * 13 + 2, none⟩ = some (.slice ka (ndAt c p).kids.length kc) ∧ w'.frozen? ⟨g, ip * 13 + 2, none⟩ = false ∧ w'.cell? ⟨g, jn * 13 + 1, none⟩ = some (.int .i64 pa) ∧ w'.frozen? ⟨g, jn * 13 + 1, none⟩ = false ∧
      ∃ O', ArW B O' (putC c p n b) ((w'.setCell ⟨g, ip * 13 + 2, none⟩ (.slice v1 v2 v3)).setCell ⟨g, jn * 13 + 1, none⟩ (.int .i64 p)) ∧ AStep O w O' ((w'.setCell ⟨g, ip * 13 + 2, none⟩ (.slice v1 v2 v3)).setCell ⟨g, jn * 13 + 1, none⟩ (.int .i64 p))
theorem put_mid {w : World} {B g cap m ip jn : Nat} {O : List Nat} {c : List Nd} {p n b : Int} (hA : ArW B O c w) (hp : isH c.length p = true) (hn : isH c.length n = true) (hip : p = ((ip + 1 : Nat) : Int)) (hjn : n = ((jn + 1 : Nat) : Int))
    (hc : w.cell? ⟨B, 0, none⟩ = some (.slice (some ⟨g, 0, none⟩) m cap)) (hkl : (ndAt c p).kids.length ≤ 1000000) (hb : b ≠ 0 → 0 ≤ b ∧ b.toNat ∈ (ndAt c p).kids) : ∃ ka kc, PutMid w B O c p n b g ip jn ka kc := by
  have hipl : ip < c.length := by obtain ⟨i, hi, e⟩ := isH_iff.1 hp; omega
  have hjnl : jn < c.length := by obtain ⟨i, hi, e⟩ := isH_iff.1 hn; omega
  have hxp : c[ip]? = some (ndAt c p) := by rw [List.getElem?_eq_getElem hipl, hip, ndAt_at (List.getElem?_eq_getElem hipl)]
  have hxn : c[jn]? = some (ndAt c n) := by rw [List.getElem?_eq_getElem hjnl, hjn, ndAt_at (List.getElem?_eq_getElem hjnl)]
  obtain ⟨g', cap', kv, av, c0', hnp, hkr, -⟩ := hA.node hxp
  obtain ⟨g'', cap'', kvn, avn, c0'', hnn, -, -⟩ := hA.node hxn
  have e1 : g' = g := by rw [c0'] at hc; injection hc with hc; injection hc with e1 e2 e3; injection e1 with e1; injection e1 with e1
  have e2 : g'' = g := by rw [c0''] at hc; injection hc with hc; injection hc with e1 e2 e3; injection e1 with e1; injection e1 with e1
  subst e1
  subst e2
  obtain ⟨far1, far2, far3⟩ := hA.far hipl c0' hnp.c2
  obtain ⟨ka, kc, rfl⟩ := ownsRow_slice hkr
  have hgw : g'' < w.heap.size := World.block_lt_of_cell? _ _ hnp.c2
  refine ⟨ka, kc, hnp.c2, fun h0 => ?_, ?_⟩
  · obtain ⟨h1, h2⟩ := hb h0
    obtain ⟨q, hq1, hq2, hq3⟩ := kidIdx_mem h2
    have := kidIndex_any _ b _ w hkr
    have hbt : ((b.toNat : Nat) : Int) = b := by omega
    rw [hbt] at hq2
    refine this.mono fun e w' ⟨h3, h4⟩ => ⟨?_, h4⟩
    rw [h3, insAt, if_neg h0]
    have hq : kidIdx (ndAt c p).kids b = (((ndAt c p).kids.idxOf b.toNat : Nat) : Int) := by
      have hl := List.idxOf_lt_length_of_mem h2
      have := Lib.idxFrom_hit ((b.toNat : Nat) : Int) (kInts (ndAt c p).kids) ((ndAt c p).kids.idxOf b.toNat) 0 (by rw [kInts_len]; exact hl) (by simp [kInts, hl]) (fun j hj => ?_)
      · rw [Nat.zero_add, hbt] at this
        exact this
      · have hjl : j < (ndAt c p).kids.length := by omega
        have hne : ((ndAt c p).kids[j] == b.toNat) = false := by
          have := List.not_of_lt_findIdx (p := (· == b.toNat)) (xs := (ndAt c p).kids) hj
          simpa using this
        have hne : (ndAt c p).kids[j] ≠ b.toNat := by simpa using hne
        simp [kInts, hjl]
        omega
    rw [hq]
  · have hnt : ((n.toNat : Nat) : Int) = n := by omega
    have hvb : (w.alloc (.cells #[.int .i64 n] 3)).heap[w.heap.size]? = some (.cells #[natV n.toNat] 3 (0, 0)) := by
      rw [natV, hnt]; exact World.alloc_heap_new w _
    have hne : (Value.slice ka (ndAt c p).kids.length kc).ownBlock ≠ some w.heap.size := fun e => by have := ownsRow_lt hkr e; omega
    have hba : Below w.heap.size w (w.alloc (.cells #[.int .i64 n] 3)) := balloc w _
    have := kidInsert_any (ndAt c p).kids (insAt (ndAt c p).kids b) n.toNat _ w.heap.size _ (ownsRow_below hkr hba) hvb hne (insAt_ok fun h => (hb h).2) (by omega)
    refine this.mono fun e w' ⟨v', h1, h2, h3, h4⟩ => ?_
    obtain ⟨v1, v3, rfl⟩ := ownsRow_slice h2
    have hga : g'' < (w.alloc (.cells #[.int .i64 n] 3)).heap.size := Nat.lt_of_lt_of_le hgw hba.size
    have fp2 := hnp.fz 2 (by omega)
    have fi1 := hnn.fz 1 (by omega)
    refine ⟨v1, _, v3, ((ndAt c n).parent : Nat), h1, ?_, ?_, ?_, ?_, put_end hA hp hn hip hjn c0' hnp.c2 hba h4 h2 h3⟩
    · exact (h4.cell (p := ⟨g'', _, none⟩) hga far1).trans ((hba.cell (p := ⟨g'', _, none⟩) hgw).trans hnp.c2)
    · exact (h4.frozen (p := ⟨g'', _, none⟩) hga far1).trans ((hba.frozen (p := ⟨g'', _, none⟩) hgw).trans fp2)
    · exact (h4.cell (p := ⟨g'', _, none⟩) hga far1).trans ((hba.cell (p := ⟨g'', _, none⟩) hgw).trans hnn.c1)
    · exact (h4.frozen (p := ⟨g'', _, none⟩) hga far1).trans ((hba.frozen (p := ⟨g'', _, none⟩) hgw).trans fi1)
set_option maxRecDepth 100000 in
set_option maxHeartbeats 4000000 in
theorem Put_any (p n b : Int) (w : World) {B : Nat} {O : List Nat} {ns : List Nd} (hA : ArW B O ns w) (hf : Fit ns) (hok : PutOk ns p n b) :
    Calls Tryz.prog 12 #[.pointer (some ⟨B, 0, none⟩), .int .i64 p, .int .i64 n, .int .i64 b] w (Did B O w (putE ns p n b) (putL ns p n b)) := by
  obtain ⟨W0, hW0⟩ : ∃ W0, w.alloc (.cells #[.int .i64 p, .int .i64 n] 3) = W0 := ⟨_, rfl⟩
  have b0 : Below w.heap.size w W0 := by rw [← hW0]; exact balloc w _
  have hbx : W0.heap[w.heap.size]? = some (.cells #[.int .i64 p, .int .i64 n] 3) := by rw [← hW0]; exact World.alloc_heap_new w _
  have hA0 := hA.later b0
  have H1 := check_any (B := B) (H := w.heap.size) (c := 2) [p, n] W0 hA0 (by intro j v hj; match j, hj with | 0, hj => simp at hj; subst hj; rw [cell_of_row _ _ _ _ _ _ hbx]; rfl | 1, hj => simp at hj; subst hj; rw [cell_of_row _ _ _ _ _ _ hbx]; rfl) (by simp)
  have HW := Lib.hid hW0
  by_cases hpn : isH ns.length p = true ∧ isH ns.length n = true
  · obtain ⟨hp, hn⟩ := hpn
    rw [show chkH ns.length [p, n] = 0 by simp [chkH, hp, hn]] at H1
    have H1 := Lib.hid H1
    have PE : putE ns p n b = if b ≠ 0 ∧ isH ns.length b = false then 3 else if ¬ mayParent (ndAt ns p).kind ∨ (ndAt ns n).kind = 1 ∨ (ndAt ns n).kind = 2 ∨ containsL ns n p = true then 4 else if b ≠ 0 ∧ (b = n ∨ ((ndAt ns b).parent : Int) ≠ p) then 5 else 0 := by
      rw [putE, if_neg (by simp [hp, hn])]
    by_cases hbb : b ≠ 0 ∧ isH ns.length b = false
    · rw [if_pos hbb] at PE
      have H2 := isH_any b W0 hA0
      rw [hbb.2] at H2
      have H2 := Lib.hid H2
      have hbz : (b != 0) = true := by simpa using hbb.1
      have HF := Lib.hid (show Did B O w (putE ns p n b) (putL ns p n b) (.returned (.int .i64 3)) W0 from ⟨by rw [PE], .inl ⟨by rw [PE]; decide, b0⟩⟩)
      clear hp hn PE hbb hA hA0 hf hok hbx b0 hW0
      go_enter Tryz.func12, Tryz.ntmps12
      go_wp2_with fail
      rw [HW.out]
      go_wp2_with (first | (go_at_call 44; refine H1.out.mono ?_; rintro e w1 ⟨rfl, rfl⟩) | (go_at_call 45; refine H2.out.mono ?_; rintro e w1 ⟨rfl, rfl⟩))
      go_ret
      exact HF.out
    · rw [if_neg hbb] at PE
      obtain ⟨g, cap, kvp, avp, ip, hip, hxp, c0, hnp, -, -, hatp⟩ := atW_any p W0 hA0 hp hf.len
      obtain ⟨g', cap', kvn, avn, jn, hjn, hxn, c0', hnn, -, -, hatn⟩ := atW_any n W0 hA0 hn hf.len
      have hgg : g' = g ∧ cap' = cap := by
        rw [c0] at c0'
        injection c0' with c0'
        injection c0' with e1 e2 e3
        injection e1 with e1
        injection e1 with e1
        exact ⟨e1.symm, e3.symm⟩
      obtain ⟨rfl, rfl⟩ := hgg
      have kp := hnp.c0
      have kn := hnn.c0
      obtain ⟨pk, hpk⟩ : ∃ k, (ndAt ns p).kind = k := ⟨_, rfl⟩
      obtain ⟨nk, hnk⟩ : ∃ k, (ndAt ns n).kind = k := ⟨_, rfl⟩
      rw [hpk] at kp PE
      rw [hnk] at kn PE
      have H3 := Lib.hid (hatp W0 rfl)
      have H4 := Lib.hid (hatn W0 rfl)
      have H5 := Lib.hid (Contains_any n p W0 hA0 hf.len hok.up)
      -- a refusal
      have HNo := Lib.hid (fun (er : Int) (w1 : World) (he : putE ns p n b = er) (hne : er ≠ 0) (hb : Below W0.heap.size W0 w1) => show Did B O w (putE ns p n b) (putL ns p n b) (.returned (.int .i64 er)) w1 from
        ⟨by rw [he], .inl ⟨by rw [he]; exact hne, bthen b0 b0.size hb⟩⟩)
      -- the end
      have hpn2 : containsL ns n p = false → p ≠ n := by
        rintro hc rfl
        obtain ⟨xs, hU⟩ := hok.up hp
        have hz : p ≠ 0 := by rintro rfl; simp [isH] at hp
        obtain ⟨_, ys, rfl, _⟩ := hU.step hz
        rw [containsL, hp, upOf_of hU] at hc
        simp at hc
      have HEnd := Lib.hid (fun (w1 : World) (hb : Below W0.heap.size W0 w1) (hc : containsL ns n p = false) (h5 : ¬ (b ≠ 0 ∧ (b = n ∨ ((ndAt ns b).parent : Int) ≠ p))) (he : putE ns p n b = 0) =>
        show Calls Tryz.prog 47 #[.pointer (some ⟨B, 0, none⟩), .int .i64 n] w1 fun e w2 => e = .returned (.tuple #[]) ∧ ∃ O' ka kc, PutMid w2 B O' (cutL ns n) p n b g' ip jn ka kc ∧
          ∀ w3, (∃ O'', ArW B O'' (putL ns p n b) w3 ∧ AStep O' w2 O'' w3) → Did B O w (putE ns p n b) (putL ns p n b) (.returned (.int .i64 0)) w3 from by
        refine (cut_any n w1 (hA0.later hb) hf.len (hok.cut hn)).mono ?_
        rintro e w2 ⟨rfl, hc0, O', hA2, hS2⟩
        have hcl := cutL_len ns n
        have hk2 := cutL_kids (hok.cut hn) hp (hpn2 hc)
        obtain ⟨ka, kc, hpm⟩ := put_mid (b := b) hA2 (by rw [hcl]; exact hp) (by rw [hcl]; exact hn) hip hjn (hc0.trans ((hb.cell (p := ⟨B, 0, none⟩) (World.block_lt_of_cell? _ _ c0)).trans c0)) (by
            rw [hk2]
            have := hf.kid1 p
            split
            · have := List.length_erase_le (a := n.toNat) (l := (ndAt ns p).kids); omega
            · exact this) (by
            intro h0
            have hb1 : isH ns.length b = true := by
              cases e : isH ns.length b
              · exact absurd ⟨h0, e⟩ hbb
              · rfl
            obtain ⟨q, hq, hq2⟩ := isH_iff.1 hb1
            obtain ⟨qn, hqn, hqn2⟩ := isH_iff.1 hn
            refine ⟨by omega, ?_⟩
            have hpar : ((ndAt ns b).parent : Int) = p := Classical.not_not.1 fun h => h5 ⟨h0, .inr h⟩
            have hbn : b ≠ n := fun h => h5 ⟨h0, .inl h⟩
            have hmem := hok.bef h0 hb1 hpar
            rw [hk2]
            split
            · exact (List.mem_erase_of_ne (by omega)).2 hmem
            · exact hmem)
        exact ⟨rfl, O', ka, kc, hpm, fun w3 ⟨O'', h1, h2⟩ => ⟨by rw [he], .inr ⟨he, O'', h1, astep_pre b0 ((astep_pre hb hS2).trans h2)⟩⟩⟩)
      have hBW : B < W0.heap.size := World.block_lt_of_cell? _ _ c0
      have HP := Lib.hid PE
      clear PE
      have H2 : Hid (b ≠ 0 → Calls Tryz.prog 45 #[.pointer (some ⟨B, 0, none⟩), .int .i64 b] W0 fun e w' => e = .returned (.bool true) ∧ W0 = w') := Lib.hid (fun h0 => by
        have := isH_any b W0 hA0
        cases e : isH ns.length b
        · exact absurd ⟨h0, e⟩ hbb
        · rw [e] at this; exact this)
      have H6 : Hid (b ≠ 0 → ∃ o pb, (ndAt ns b).parent = pb ∧ W0.cell? ⟨g', o * 13 + 1, none⟩ = some (.int .i64 (pb : Nat)) ∧ ∀ w', w'.cell? ⟨B, 0, none⟩ = W0.cell? ⟨B, 0, none⟩ → Calls Tryz.prog 37 #[.pointer (some ⟨B, 0, none⟩), .int .i64 b] w' fun e w'' => e = .returned (.pointer (some ⟨g', o * 13, none⟩)) ∧ w' = w'') := Lib.hid (fun h0 => by
        have hb1 : isH ns.length b = true := by
          cases e : isH ns.length b
          · exact absurd ⟨h0, e⟩ hbb
          · rfl
        obtain ⟨g'', cap'', kvb, avb, ob, -, -, c0'', hnb, -, -, hatb⟩ := atW_any b W0 hA0 hb1 hf.len
        have hg : g'' = g' := by rw [c0] at c0''; injection c0'' with c0''; injection c0'' with e1 e2 e3; injection e1 with e1; injection e1 with e1; exact e1.symm
        subst hg
        exact ⟨ob, _, rfl, hnb.c1, hatb⟩)
      have hgW : g' < W0.heap.size := World.block_lt_of_cell? _ _ hnp.c0
      clear hp hn hA hA0 hf hok hbx b0 hW0 hatp hatn hnp hnn c0 c0' hxp hxn hpk hnk hpn2 hip hjn hbb
      have HM : Hid (¬ mayParent pk ∨ ((pk != 1) = false ∨ ((pk != 1) = true ∧ (pk != 2) = false) ∨ ((pk != 1) = true ∧ (pk != 2) = true ∧ (pk != 4) = false))) := Lib.hid (by
        by_cases hm : mayParent pk
        · rcases hm with rfl | rfl | rfl
          · exact .inr (.inl rfl)
          · exact .inr (.inr (.inl ⟨rfl, rfl⟩))
          · exact .inr (.inr (.inr ⟨rfl, rfl, rfl⟩))
        · exact .inl hm)
      have HB : Hid ((b != 0) = false ∨ (b != 0) = true) := Lib.hid (by cases (b != 0) <;> simp)
      have HN : Hid ((nk == 1) = true ∨ ((nk == 1) = false ∧ (nk == 2) = true) ∨ ((nk == 1) = false ∧ (nk == 2) = false)) := Lib.hid (by cases (nk == 1) <;> cases (nk == 2) <;> simp)
      rcases HB.out with hb0 | hb0
      · clear HB
        rcases HM.out with hm | hm
        · have hm1 : (pk != 1) = true := by simp only [mayParent] at hm; simp; omega
          have hm2 : (pk != 2) = true := by simp only [mayParent] at hm; simp; omega
          have hm3 : (pk != 4) = true := by simp only [mayParent] at hm; simp; omega
          have HF := Lib.hid (HNo.out 4 W0 (HP.out.trans (if_pos (.inl hm))) (by decide) (Below.refl _ _))
          clear hm HM HN HP HEnd H5 H6 HNo
          go_enter Tryz.func12, Tryz.ntmps12
          go_wp2_with fail
          rw [HW.out]
          refine H1.out.mono ?_
          rintro e w1 ⟨rfl, rfl⟩
          go_wp2_with fail
          refine H3.out.mono ?_
          rintro e w1 ⟨rfl, rfl⟩
          go_wp2_with fail
          refine H4.out.mono ?_
          rintro e w1 ⟨rfl, rfl⟩
          go_wp2_with fail
          go_ret
          exact HF.out
        · clear HM
          rcases HN.out with h1 | ⟨h1, h2⟩ | ⟨h1, h2⟩
          · have HF := Lib.hid (HNo.out 4 W0 (HP.out.trans (if_pos (.inr (.inl (by simpa using h1))))) (by decide) (Below.refl _ _))
            clear HN HP HEnd H5 H6 HNo
            rcases hm with hm1 | ⟨hm1, hm2⟩ | ⟨hm1, hm2, hm3⟩
            all_goals
              go_enter Tryz.func12, Tryz.ntmps12
              go_wp2_with fail
              rw [HW.out]
              refine H1.out.mono ?_
              rintro e w1 ⟨rfl, rfl⟩
              go_wp2_with fail
              refine H3.out.mono ?_
              rintro e w1 ⟨rfl, rfl⟩
              go_wp2_with fail
              refine H4.out.mono ?_
              rintro e w1 ⟨rfl, rfl⟩
              go_wp2_with fail
              go_ret
              exact HF.out
          · have HF := Lib.hid (HNo.out 4 W0 (HP.out.trans (if_pos (.inr (.inr (.inl (by simpa using h2)))))) (by decide) (Below.refl _ _))
            clear HN HP HEnd H5 H6 HNo
            rcases hm with hm1 | ⟨hm1, hm2⟩ | ⟨hm1, hm2, hm3⟩
            all_goals
              go_enter Tryz.func12, Tryz.ntmps12
              go_wp2_with fail
              rw [HW.out]
              refine H1.out.mono ?_
              rintro e w1 ⟨rfl, rfl⟩
              go_wp2_with fail
              refine H3.out.mono ?_
              rintro e w1 ⟨rfl, rfl⟩
              go_wp2_with fail
              refine H4.out.mono ?_
              rintro e w1 ⟨rfl, rfl⟩
              go_wp2_with fail
              go_ret
              exact HF.out
          · have hm0 : mayParent pk := by
              rcases hm with hm1 | ⟨hm1, hm2⟩ | ⟨hm1, hm2, hm3⟩
              · exact .inl (by simpa using hm1)
              · exact .inr (.inl (by simpa using hm2))
              · exact .inr (.inr (by simpa using hm3))
            have HM := Lib.hid hm0
            clear HN hm0
            cases hc : containsL ns n p
            · rw [hc] at H5
              obtain rfl : b = 0 := by simpa using hb0
              have he : putE ns p n 0 = 0 := (HP.out.trans ((if_neg (by simp only [not_or]; exact ⟨fun h => h HM.out, by simpa using h1, by simpa using h2, by rw [hc]; decide⟩)).trans (if_neg (by simp))))
              have HE := Lib.hid (fun w1 hb => HEnd.out w1 hb hc (by simp) he)
              clear he hc HM HP HEnd H6 HNo H2 hb0
              rcases hm with hm1 | ⟨hm1, hm2⟩ | ⟨hm1, hm2, hm3⟩
              all_goals
                go_enter Tryz.func12, Tryz.ntmps12
                go_wp2_with fail
                rw [HW.out]
                refine H1.out.mono ?_
                rintro e w1 ⟨rfl, rfl⟩
                go_wp2_with fail
                refine H3.out.mono ?_
                rintro e w1 ⟨rfl, rfl⟩
                go_wp2_with fail
                refine H4.out.mono ?_
                rintro e w1 ⟨rfl, rfl⟩
                go_wp2_with fail
                refine H5.out.mono ?_
                rintro e w1 ⟨rfl, b1⟩
                go_wp2_with fail
                refine (HE.out w1 b1).mono ?_
                rintro e w2 ⟨rfl, O', ka, kc, hpm, hfin⟩
                have c2 := hpm.c2
                have hin := hpm.ins
                rw [show insAt (ndAt (cutL ns n) p).kids 0 = (ndAt (cutL ns n) p).kids.length from rfl] at hin
                have HIN := Lib.hid hin; have HFI := Lib.hid hfin
                clear hpm hin hfin b1
                go_wp2_with fail
                refine HIN.out.mono ?_
                rintro e w3 ⟨v1, v2, v3, pa, rfl, k1, k2, k3, k4, k5⟩
                have HF := Lib.hid (HFI.out _ k5)
                clear k5 HIN HFI
                have hslot : ¬ (jn * 13 + 1 = ip * 13 + 2) := by omega
                go_wp2_with fail
                go_ret
                exact HF.out
            · rw [hc] at H5
              have HF := Lib.hid (fun w1 hb => HNo.out 4 w1 (HP.out.trans (if_pos (.inr (.inr (.inr hc))))) (by decide) hb)
              clear hc HM HP HEnd H6 HNo
              rcases hm with hm1 | ⟨hm1, hm2⟩ | ⟨hm1, hm2, hm3⟩
              all_goals
                go_enter Tryz.func12, Tryz.ntmps12
                go_wp2_with fail
                rw [HW.out]
                refine H1.out.mono ?_
                rintro e w1 ⟨rfl, rfl⟩
                go_wp2_with fail
                refine H3.out.mono ?_
                rintro e w1 ⟨rfl, rfl⟩
                go_wp2_with fail
                refine H4.out.mono ?_
                rintro e w1 ⟨rfl, rfl⟩
                go_wp2_with fail
                refine H5.out.mono ?_
                rintro e w1 ⟨rfl, b1⟩
                go_wp2_with fail
                go_ret
                exact HF.out w1 b1
      · clear HB
        replace H2 := Lib.hid (H2.out (by simpa using hb0))
        rcases HM.out with hm | hm
        · have hm1 : (pk != 1) = true := by simp only [mayParent] at hm; simp; omega
          have hm2 : (pk != 2) = true := by simp only [mayParent] at hm; simp; omega
          have hm3 : (pk != 4) = true := by simp only [mayParent] at hm; simp; omega
          have HF := Lib.hid (HNo.out 4 W0 (HP.out.trans (if_pos (.inl hm))) (by decide) (Below.refl _ _))
          clear hm HM HN HP HEnd H5 H6 HNo
          go_enter Tryz.func12, Tryz.ntmps12
          go_wp2_with fail
          rw [HW.out]
          refine H1.out.mono ?_
          rintro e w1 ⟨rfl, rfl⟩
          go_wp2_with fail
          refine H2.out.mono ?_
          rintro e w1 ⟨rfl, rfl⟩
          go_wp2_with fail
          refine H3.out.mono ?_
          rintro e w1 ⟨rfl, rfl⟩
          go_wp2_with fail
          refine H4.out.mono ?_
          rintro e w1 ⟨rfl, rfl⟩
          go_wp2_with fail
          go_ret
          exact HF.out
        · clear HM
          rcases HN.out with h1 | ⟨h1, h2⟩ | ⟨h1, h2⟩
          · have HF := Lib.hid (HNo.out 4 W0 (HP.out.trans (if_pos (.inr (.inl (by simpa using h1))))) (by decide) (Below.refl _ _))
            clear HN HP HEnd H5 H6 HNo
            rcases hm with hm1 | ⟨hm1, hm2⟩ | ⟨hm1, hm2, hm3⟩
            all_goals
              go_enter Tryz.func12, Tryz.ntmps12
              go_wp2_with fail
              rw [HW.out]
              refine H1.out.mono ?_
              rintro e w1 ⟨rfl, rfl⟩
              go_wp2_with fail
              refine H2.out.mono ?_
              rintro e w1 ⟨rfl, rfl⟩
              go_wp2_with fail
              refine H3.out.mono ?_
              rintro e w1 ⟨rfl, rfl⟩
              go_wp2_with fail
              refine H4.out.mono ?_
              rintro e w1 ⟨rfl, rfl⟩
              go_wp2_with fail
              go_ret
              exact HF.out
          · have HF := Lib.hid (HNo.out 4 W0 (HP.out.trans (if_pos (.inr (.inr (.inl (by simpa using h2)))))) (by decide) (Below.refl _ _))
            clear HN HP HEnd H5 H6 HNo
            rcases hm with hm1 | ⟨hm1, hm2⟩ | ⟨hm1, hm2, hm3⟩
            all_goals
              go_enter Tryz.func12, Tryz.ntmps12
              go_wp2_with fail
              rw [HW.out]
              refine H1.out.mono ?_
              rintro e w1 ⟨rfl, rfl⟩
              go_wp2_with fail
              refine H2.out.mono ?_
              rintro e w1 ⟨rfl, rfl⟩
              go_wp2_with fail
              refine H3.out.mono ?_
              rintro e w1 ⟨rfl, rfl⟩
              go_wp2_with fail
              refine H4.out.mono ?_
              rintro e w1 ⟨rfl, rfl⟩
              go_wp2_with fail
              go_ret
              exact HF.out
          · have hm0 : mayParent pk := by
              rcases hm with hm1 | ⟨hm1, hm2⟩ | ⟨hm1, hm2, hm3⟩
              · exact .inl (by simpa using hm1)
              · exact .inr (.inl (by simpa using hm2))
              · exact .inr (.inr (by simpa using hm3))
            have HM := Lib.hid hm0
            clear HN hm0
            cases hc : containsL ns n p
            · rw [hc] at H5
              obtain ⟨ob, pb, hpb, kb, hatb⟩ := H6.out (by simpa using hb0)
              have HPB := Lib.hid hpb; have HAB := Lib.hid hatb
              clear hpb hatb H6
              cases hbn : (b == n)
              · cases hpp : ((pb : Int) != p)
                · have h5 : ¬ (b ≠ 0 ∧ (b = n ∨ ((ndAt ns b).parent : Int) ≠ p)) := by
                    rintro ⟨_, h | h⟩
                    · simp [h] at hbn
                    · rw [HPB.out] at h; simp at hpp; exact h hpp
                  have he : putE ns p n b = 0 := (HP.out.trans ((if_neg (by simp only [not_or]; exact ⟨fun h => h HM.out, by simpa using h1, by simpa using h2, by rw [hc]; decide⟩)).trans (if_neg h5)))
                  have HE := Lib.hid (fun w1 hb => HEnd.out w1 hb hc h5 he)
                  have hbz : b ≠ 0 := by simpa using hb0
                  clear he h5 hc HM HP HEnd HNo HPB
                  rcases hm with hm1 | ⟨hm1, hm2⟩ | ⟨hm1, hm2, hm3⟩
                  all_goals
                    go_enter Tryz.func12, Tryz.ntmps12
                    go_wp2_with fail
                    rw [HW.out]
                    refine H1.out.mono ?_
                    rintro e w1 ⟨rfl, rfl⟩
                    go_wp2_with fail
                    refine H2.out.mono ?_
                    rintro e w1 ⟨rfl, rfl⟩
                    go_wp2_with fail
                    refine H3.out.mono ?_
                    rintro e w1 ⟨rfl, rfl⟩
                    go_wp2_with fail
                    refine H4.out.mono ?_
                    rintro e w1 ⟨rfl, rfl⟩
                    go_wp2_with fail
                    refine H5.out.mono ?_
                    rintro e w1 ⟨rfl, b1⟩
                    have kb1 := (b1.cell (p := ⟨g', _, none⟩) hgW).trans kb
                    have HA1 := Lib.hid (HAB.out w1 (b1.cell (p := ⟨B, 0, none⟩) hBW))
                    go_wp2_with fail
                    refine HA1.out.mono ?_
                    rintro e w2 ⟨rfl, rfl⟩
                    go_wp2_with fail
                    refine (HE.out w1 b1).mono ?_
                    rintro e w2 ⟨rfl, O', ka, kc, hpm, hfin⟩
                    have c2 := hpm.c2
                    have HIX := Lib.hid (hpm.ix hbz)
                    have HIN := Lib.hid hpm.ins; have HFI := Lib.hid hfin
                    clear hpm hfin b1 HA1 hbz
                    go_wp2_with fail
                    refine HIX.out.mono ?_
                    rintro e w3 ⟨rfl, rfl⟩
                    go_wp2_with fail
                    refine HIN.out.mono ?_
                    rintro e w3 ⟨v1, v2, v3, pa, rfl, k1, k2, k3, k4, k5⟩
                    have HF := Lib.hid (HFI.out _ k5)
                    clear k5 HIN HFI
                    have hslot : ¬ (jn * 13 + 1 = ip * 13 + 2) := by omega
                    go_wp2_with fail
                    go_ret
                    exact HF.out
                · have HF := Lib.hid (fun w1 hb => HNo.out 5 w1 (HP.out.trans ((if_neg (by simp only [not_or]; exact ⟨fun h => h HM.out, by simpa using h1, by simpa using h2, by rw [hc]; decide⟩)).trans (if_pos ⟨by simpa using hb0, .inr (by rw [HPB.out]; simpa using hpp)⟩))) (by decide) hb)
                  clear hc HM HP HEnd HNo HPB
                  rcases hm with hm1 | ⟨hm1, hm2⟩ | ⟨hm1, hm2, hm3⟩
                  all_goals
                    go_enter Tryz.func12, Tryz.ntmps12
                    go_wp2_with fail
                    rw [HW.out]
                    refine H1.out.mono ?_
                    rintro e w1 ⟨rfl, rfl⟩
                    go_wp2_with fail
                    refine H2.out.mono ?_
                    rintro e w1 ⟨rfl, rfl⟩
                    go_wp2_with fail
                    refine H3.out.mono ?_
                    rintro e w1 ⟨rfl, rfl⟩
                    go_wp2_with fail
                    refine H4.out.mono ?_
                    rintro e w1 ⟨rfl, rfl⟩
                    go_wp2_with fail
                    refine H5.out.mono ?_
                    rintro e w1 ⟨rfl, b1⟩
                    have kb1 := (b1.cell (p := ⟨g', _, none⟩) hgW).trans kb
                    have HA1 := Lib.hid (HAB.out w1 (b1.cell (p := ⟨B, 0, none⟩) hBW))
                    go_wp2_with fail
                    refine HA1.out.mono ?_
                    rintro e w2 ⟨rfl, rfl⟩
                    go_wp2_with fail
                    go_ret
                    exact HF.out w1 b1
              · have HF := Lib.hid (fun w1 hb => HNo.out 5 w1 (HP.out.trans ((if_neg (by simp only [not_or]; exact ⟨fun h => h HM.out, by simpa using h1, by simpa using h2, by rw [hc]; decide⟩)).trans (if_pos ⟨by simpa using hb0, .inl (by simpa using hbn)⟩))) (by decide) hb)
                clear hc HM HP HEnd HNo HPB HAB kb
                rcases hm with hm1 | ⟨hm1, hm2⟩ | ⟨hm1, hm2, hm3⟩
                all_goals
                  go_enter Tryz.func12, Tryz.ntmps12
                  go_wp2_with fail
                  rw [HW.out]
                  refine H1.out.mono ?_
                  rintro e w1 ⟨rfl, rfl⟩
                  go_wp2_with fail
                  refine H2.out.mono ?_
                  rintro e w1 ⟨rfl, rfl⟩
                  go_wp2_with fail
                  refine H3.out.mono ?_
                  rintro e w1 ⟨rfl, rfl⟩
                  go_wp2_with fail
                  refine H4.out.mono ?_
                  rintro e w1 ⟨rfl, rfl⟩
                  go_wp2_with fail
                  refine H5.out.mono ?_
                  rintro e w1 ⟨rfl, b1⟩
                  go_wp2_with fail
                  go_ret
                  exact HF.out w1 b1
            · rw [hc] at H5
              have HF := Lib.hid (fun w1 hb => HNo.out 4 w1 (HP.out.trans (if_pos (.inr (.inr (.inr hc))))) (by decide) hb)
              clear hc HM HP HEnd H6 HNo
              rcases hm with hm1 | ⟨hm1, hm2⟩ | ⟨hm1, hm2, hm3⟩
              all_goals
                go_enter Tryz.func12, Tryz.ntmps12
                go_wp2_with fail
                rw [HW.out]
                refine H1.out.mono ?_
                rintro e w1 ⟨rfl, rfl⟩
                go_wp2_with fail
                refine H2.out.mono ?_
                rintro e w1 ⟨rfl, rfl⟩
                go_wp2_with fail
                refine H3.out.mono ?_
                rintro e w1 ⟨rfl, rfl⟩
                go_wp2_with fail
                refine H4.out.mono ?_
                rintro e w1 ⟨rfl, rfl⟩
                go_wp2_with fail
                refine H5.out.mono ?_
                rintro e w1 ⟨rfl, b1⟩
                go_wp2_with fail
                go_ret
                exact HF.out w1 b1
  · rw [show chkH ns.length [p, n] = 3 by cases h1 : isH ns.length p <;> cases h2 : isH ns.length n <;> first | (simp [chkH, h1, h2]; done) | exact absurd ⟨h1, h2⟩ hpn] at H1
    have PE : putE ns p n b = 3 := by
      rw [putE, if_pos]
      cases h1 : isH ns.length p
      · exact .inl rfl
      · cases h2 : isH ns.length n
        · exact .inr rfl
        · exact absurd ⟨h1, h2⟩ hpn
    have HF := Lib.hid (show Did B O w (putE ns p n b) (putL ns p n b) (.returned (.int .i64 3)) W0 from ⟨by rw [PE], .inl ⟨by rw [PE]; decide, b0⟩⟩)
    have H1 := Lib.hid H1
    clear PE hpn hA hA0 hf hok hbx b0 hW0
    go_enter Tryz.func12, Tryz.ntmps12
    go_wp2_with fail
    rw [HW.out]
    go_wp2_with (refine H1.out.mono ?_; rintro e w1 ⟨rfl, rfl⟩)
    go_ret
    exact HF.out
end Go.Proofs.YtdapdadcninidaaGreatDoor
