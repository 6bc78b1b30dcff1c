/- Package arena: Put. No condition but that the nodes are linked well at the parent and the node. Nodes that are linked well: the plain theory. A node's place in its parent's children, contents and hosts, and that every way up ends. Nodes that are linked well: a node put into a parent; new nodes. Plain. -/
import Derived.Test.YtdapdadcninidaaGreatDoorM4
import Derived.Test.YtdapdadcninidaaGreatDoorM3
set_option linter.unusedSimpArgs false
set_option linter.unusedVariables false
namespace Go.Proofs.YtdapdadcninidaaGreatDoor
open Go.RowKit
attribute [local go_sem ↓] Go.wp_at_zero Go.wp_at_succ

def mayParent (k : Int) : Prop := k = 1 ∨ k = 2 ∨ k = 4
instance (k : Int) : Decidable (mayParent k) := by unfold mayParent; infer_instance
/-- The error of Put. -/
noncomputable def putE (ns : List Nd) (p n b : Int) : Int :=
  if isH ns.length p = false ∨ isH ns.length n = false then 3 else
  if b ≠ 0 ∧ isH ns.length b = false then 3 else
  if ¬ mayParent (ndAt ns p).kind ∨ (ndAt ns n).kind = 1 ∨ (ndAt ns n).kind = 2 ∨ containsL ns n p = true then 4 else
  if b ≠ 0 ∧ (b = n ∨ ((ndAt ns b).parent : Int) ≠ p) then 5 else 0
def insAt (ks : List Nat) (b : Int) : Nat := if b = 0 then ks.length else ks.idxOf b.toNat
/-- The nodes with n put into p ahead of b; c: with n cut. -/
def putC (c : List Nd) (p n b : Int) : List Nd :=
  setNd (setNd c p { ndAt c p with kids := insK (ndAt c p).kids (insAt (ndAt c p).kids b) n.toNat }) n
    { ndAt (setNd c p { ndAt c p with kids := insK (ndAt c p).kids (insAt (ndAt c p).kids b) n.toNat }) n with parent := p.toNat }
def putL (ns : List Nd) (p n b : Int) : List Nd := putC (cutL ns n) p n b
theorem setNd_len (ns : List Nd) (h : Int) (d : Nd) : (setNd ns h d).length = ns.length := by simp [setNd]
theorem ndAt_setNd_self {ns : List Nd} {h : Int} {d : Nd} (hh : isH ns.length h = true) : ndAt (setNd ns h d) h = d := by
  obtain ⟨i, hi, rfl⟩ := isH_iff.1 hh
  rw [setNd, show (((i + 1 : Nat) : Int) - 1).toNat = i by omega, ndAt_at (List.getElem?_set_self hi)]
theorem ndAt_setNd_ne {ns : List Nd} {h k : Int} {d : Nd} (hh : isH ns.length h = true) (hk : isH ns.length k = true) (hne : h ≠ k) : ndAt (setNd ns h d) k = ndAt ns k := by
  obtain ⟨i, hi, rfl⟩ := isH_iff.1 hh
  obtain ⟨j, hj, rfl⟩ := isH_iff.1 hk
  unfold ndAt setNd
  rw [show (((i + 1 : Nat) : Int) - 1).toNat = i by omega, show (((j + 1 : Nat) : Int) - 1).toNat = j by omega, List.getD_eq_getElem?_getD, List.getElem?_set_ne (by omega), ← List.getD_eq_getElem?_getD]
theorem cutL_len (ns : List Nd) (h : Int) : (cutL ns h).length = ns.length := by
  unfold cutL
  split
  · rfl
  · rw [setNd_len, setNd_len]
/-- What a cut does to a node's children. -/
theorem cutL_kids {ns : List Nd} {n p : Int} (hc : CutOk ns n) (hp : isH ns.length p = true) (hne : p ≠ n) :
    (ndAt (cutL ns n) p).kids = if (ndAt ns n).parent ≠ 0 ∧ ((ndAt ns n).parent : Int) = p then (ndAt ns p).kids.erase n.toNat else (ndAt ns p).kids := by
  unfold cutL
  obtain ⟨h1, h2⟩ := hc
  split
  · rename_i h0
    rw [if_neg (fun h => h.1 h0)]
  · rename_i h0
    obtain ⟨h3, h4, h5, h6⟩ := h2 h0
    rw [ndAt_setNd_ne (by rw [setNd_len]; exact h1) (by rw [setNd_len]; exact hp) (Ne.symm hne)]
    by_cases e : ((ndAt ns n).parent : Int) = p
    · rw [if_pos ⟨h0, e⟩, e, ndAt_setNd_self hp]
    · rw [if_neg (fun h => e h.2), ndAt_setNd_ne h3 hp e]
/-- What Put leans on. -/
structure PutOk (ns : List Nd) (p n b : Int) : Prop where
  up : isH ns.length p = true → ∃ xs, Up ns true p xs
  cut : isH ns.length n = true → CutOk ns n
  bef : b ≠ 0 → isH ns.length b = true → ((ndAt ns b).parent : Int) = p → isH ns.length p = true → b.toNat ∈ (ndAt ns p).kids
theorem insAt_ok {ks : List Nat} {b : Int} (_ : b ≠ 0 → b.toNat ∈ ks) : insAt ks b ≤ ks.length := by
  unfold insAt
  split
  · exact Nat.le_refl _
  · exact List.idxOf_le_length
/-- The end of Put, as one step of the arena. -/
theorem put_end {w w1 w2 : World} {B : AB} {g cap m ip jn : Nat} {O : List Nat} {c : List Nd} {p n b : Int} {kv v' : Value} (hA : ArW B O c w) (hp : isH c.length p = true) (hn : isH c.length n = true) (hip : p = ((ip + 1 : Nat) : Int)) (hjn : n = ((jn + 1 : Nat) : Int))
    (hc : w.cell? ⟨B, 0, none⟩ = some (.slice (some ⟨g, 0, none⟩) m cap)) (hk : w.cell? ⟨g, ip * 13 + 2, none⟩ = some kv)
    (hm1 : Below w.heap.size w w1) (hm : Mod (fun k => kv.ownBlock = some k) w1 w2) (hr : w2.ownsRow 0 3 1 v' (insK (ndAt c p).kids (insAt (ndAt c p).kids b) n.toNat).length (kidCells (insK (ndAt c p).kids (insAt (ndAt c p).kids b) n.toNat)))
    (hb : v'.ownBlock = kv.ownBlock ∨ ∃ k, v'.ownBlock = some k ∧ w1.heap.size ≤ k) :
    ∃ O', ArW B O' (putC c p n b) ((w2.setCell ⟨g, ip * 13 + 2, none⟩ v').setCell ⟨g, jn * 13 + 1, none⟩ (.int .i64 p)) ∧ AStep O w O' ((w2.setCell ⟨g, ip * 13 + 2, none⟩ v').setCell ⟨g, jn * 13 + 1, none⟩ (.int .i64 p)) := by
  have hA1 := hA.later hm1
  have hipl : ip < c.length := by obtain ⟨i, hi, e⟩ := isH_iff.1 hp; omega
  have hjnl : jn < c.length := by obtain ⟨i, hi, e⟩ := isH_iff.1 hn; omega
  have hBw : B < w.heap.size := World.block_lt_of_cell? _ _ hc
  have hgw : g < w.heap.size := World.block_lt_of_cell? _ _ hk
  have hc1 : w1.cell? ⟨B, 0, none⟩ = some (.slice (some ⟨g, 0, none⟩) m cap) := (hm1.cell (p := ⟨B, 0, none⟩) hBw).trans hc
  have hk1 : w1.cell? ⟨g, ip * 13 + 2, none⟩ = some kv := (hm1.cell (p := ⟨g, _, none⟩) hgw).trans hk
  have hxp : c[ip]? = some (ndAt c p) := by rw [List.getElem?_eq_getElem hipl, hip, ndAt_at (List.getElem?_eq_getElem hipl)]
  obtain ⟨far1, far2, far3⟩ := hA1.far hipl hc1 hk1
  obtain ⟨O2, hA2, hS2⟩ := hA1.kids hxp hc1 hk1 hm hr hb
  have hs1 : c.set ip { ndAt c p with kids := insK (ndAt c p).kids (insAt (ndAt c p).kids b) n.toNat } = setNd c p { ndAt c p with kids := insK (ndAt c p).kids (insAt (ndAt c p).kids b) n.toNat } := by rw [setNd, hip]; congr 1; omega
  rw [hs1] at hA2
  unfold putC
  generalize hN : setNd c p { ndAt c p with kids := insK (ndAt c p).kids (insAt (ndAt c p).kids b) n.toNat } = N at *
  have hNl : jn < N.length := by rw [← hN, setNd_len]; exact hjnl
  have hxn : N[jn]? = some (ndAt N n) := by rw [List.getElem?_eq_getElem hNl, hjn, ndAt_at (List.getElem?_eq_getElem hNl)]
  have hc2 : (w2.setCell ⟨g, ip * 13 + 2, none⟩ v').cell? ⟨B, 0, none⟩ = some (.slice (some ⟨g, 0, none⟩) m cap) := by
    rw [World.cell?_setCell_far _ _ _ _ far3]
    exact (hm.cell (p := ⟨B, 0, none⟩) (Nat.lt_of_lt_of_le hBw hm1.size) far2).trans hc1
  have hq := hA2.put (j := 1) (d' := { ndAt N n with parent := p.toNat }) (v := .int .i64 p) hxn hc2 (by omega) (fun _ _ => by simp only [ndCells, List.set_cons_succ, List.set_cons_zero]; rw [natV, hip]; rfl) rfl rfl
  have hs2 : N.set jn { ndAt N n with parent := p.toNat } = setNd N n { ndAt N n with parent := p.toNat } := by rw [setNd, hjn]; congr 1; omega
  rw [hs2] at hq
  exact ⟨O2, hq.1, astep_pre (hm1.mono (Nat.le_refl _)) (hS2.trans hq.2)⟩
/-- What the walk meets behind the cut. -/
structure PutMid (w : World) (B : AB) (O : List Nat) (c : List Nd) (p n b : Int) (g ip jn : Nat) (ka : Option Addr) (kc : Nat) : Prop where
  c2 : w.cell? ⟨g, ip * 13 + 2, none⟩ = some (.slice ka (ndAt c p).kids.length kc)
  ix : b ≠ 0 → Calls Tryz.prog 48 #[.slice ka (ndAt c p).kids.length kc, .int .i64 b] w fun e w' => e = .returned (.int .i64 (insAt (ndAt c p).kids b : Nat)) ∧ w = w'
  ins : Calls Tryz.prog 49 #[.slice ka (ndAt c p).kids.length kc, .int .i64 (insAt (ndAt c p).kids b : Nat), .slice (some ⟨w.heap.size, 0, none⟩) 1 1] (w.alloc (.cells #[.int .i64 n] 3)) fun e w' =>
    ∃ v1 v2 v3 pa, e = .returned (.slice v1 v2 v3) ∧ w'.cell? ⟨g, ip * 13 + 2, none⟩ = some (.slice ka (ndAt c p).kids.length kc) ∧ w'.frozen? ⟨g, ip * 13 + 2, none⟩ = false ∧ w'.cell? ⟨g, jn * 13 + 1, none⟩ = some (.int .i64 pa) ∧ w'.frozen? ⟨g, jn * 13 + 1, none⟩ = false ∧
      ∃ O', ArW B O' (putC c p n b) ((w'.setCell ⟨g, ip * 13 + 2, none⟩ (.slice v1 v2 v3)).setCell ⟨g, jn * 13 + 1, none⟩ (.int .i64 p)) ∧ AStep O w O' ((w'.setCell ⟨g, ip * 13 + 2, none⟩ (.slice v1 v2 v3)).setCell ⟨g, jn * 13 + 1, none⟩ (.int .i64 p))
theorem put_mid {w : World} {B : AB} {g cap m ip jn : Nat} {O : List Nat} {c : List Nd} {p n b : Int} (hA : ArW B O c w) (hp : isH c.length p = true) (hn : isH c.length n = true) (hip : p = ((ip + 1 : Nat) : Int)) (hjn : n = ((jn + 1 : Nat) : Int))
    (hc : w.cell? ⟨B, 0, none⟩ = some (.slice (some ⟨g, 0, none⟩) m cap)) (hkl : (ndAt c p).kids.length ≤ 1000000) (hb : b ≠ 0 → 0 ≤ b ∧ b.toNat ∈ (ndAt c p).kids) : ∃ ka kc, PutMid w B O c p n b g ip jn ka kc := by
  have hipl : ip < c.length := by obtain ⟨i, hi, e⟩ := isH_iff.1 hp; omega
  have hjnl : jn < c.length := by obtain ⟨i, hi, e⟩ := isH_iff.1 hn; omega
  have hxp : c[ip]? = some (ndAt c p) := by rw [List.getElem?_eq_getElem hipl, hip, ndAt_at (List.getElem?_eq_getElem hipl)]
  have hxn : c[jn]? = some (ndAt c n) := by rw [List.getElem?_eq_getElem hjnl, hjn, ndAt_at (List.getElem?_eq_getElem hjnl)]
  obtain ⟨g', cap', kv, av, c0', hnp, hkr, -⟩ := hA.node hxp
  obtain ⟨g'', cap'', kvn, avn, c0'', hnn, -, -⟩ := hA.node hxn
  have e1 : g' = g := by rw [c0'] at hc; injection hc with hc; injection hc with e1 e2 e3; injection e1 with e1; injection e1 with e1
  have e2 : g'' = g := by rw [c0''] at hc; injection hc with hc; injection hc with e1 e2 e3; injection e1 with e1; injection e1 with e1
  subst e1
  subst e2
  obtain ⟨far1, far2, far3⟩ := hA.far hipl c0' hnp.c2
  obtain ⟨ka, kc, rfl⟩ := ownsRow_slice hkr
  have hgw : g'' < w.heap.size := World.block_lt_of_cell? _ _ hnp.c2
  refine ⟨ka, kc, hnp.c2, fun h0 => ?_, ?_⟩
  · obtain ⟨h1, h2⟩ := hb h0
    obtain ⟨q, hq1, hq2, hq3⟩ := kidIdx_mem h2
    have := kidIndex_any _ b _ w hkr
    have hbt : ((b.toNat : Nat) : Int) = b := by omega
    rw [hbt] at hq2
    refine this.mono fun e w' ⟨h3, h4⟩ => ⟨?_, h4⟩
    rw [h3, insAt, if_neg h0]
    have hq : kidIdx (ndAt c p).kids b = (((ndAt c p).kids.idxOf b.toNat : Nat) : Int) := by
      have hl := List.idxOf_lt_length_of_mem h2
      have := Lib.idxFrom_hit ((b.toNat : Nat) : Int) (kInts (ndAt c p).kids) ((ndAt c p).kids.idxOf b.toNat) 0 (by rw [kInts_len]; exact hl) (by simp [kInts, hl]) (fun j hj => ?_)
      · rw [Nat.zero_add, hbt] at this
        exact this
      · have hjl : j < (ndAt c p).kids.length := by omega
        have hne : ((ndAt c p).kids[j] == b.toNat) = false := by
          have := List.not_of_lt_findIdx (p := (· == b.toNat)) (xs := (ndAt c p).kids) hj
          simpa using this
        have hne : (ndAt c p).kids[j] ≠ b.toNat := by simpa using hne
        simp [kInts, hjl]
        omega
    rw [hq]
  · have hnt : ((n.toNat : Nat) : Int) = n := by omega
    have hvb : (w.alloc (.cells #[.int .i64 n] 3)).heap[w.heap.size]? = some (.cells #[natV n.toNat] 3 (0, 0)) := by
      rw [natV, hnt]; exact World.alloc_heap_new w _
    have hne : (Value.slice ka (ndAt c p).kids.length kc).ownBlock ≠ some w.heap.size := fun e => by have := ownsRow_lt hkr e; omega
    have hba : Below w.heap.size w (w.alloc (.cells #[.int .i64 n] 3)) := balloc w _
    have := kidInsert_any (ndAt c p).kids (insAt (ndAt c p).kids b) n.toNat _ w.heap.size _ (ownsRow_below hkr hba) hvb hne (insAt_ok fun h => (hb h).2) (by omega)
    refine this.mono fun e w' ⟨v', h1, h2, h3, h4⟩ => ?_
    obtain ⟨v1, v3, rfl⟩ := ownsRow_slice h2
    have hga : g'' < (w.alloc (.cells #[.int .i64 n] 3)).heap.size := Nat.lt_of_lt_of_le hgw hba.size
    have fp2 := hnp.fz 2 (by omega)
    have fi1 := hnn.fz 1 (by omega)
    refine ⟨v1, _, v3, ((ndAt c n).parent : Nat), h1, ?_, ?_, ?_, ?_, put_end hA hp hn hip hjn c0' hnp.c2 hba h4 h2 h3⟩
    · exact (h4.cell (p := ⟨g'', _, none⟩) hga far1).trans ((hba.cell (p := ⟨g'', _, none⟩) hgw).trans hnp.c2)
    · exact (h4.frozen (p := ⟨g'', _, none⟩) hga far1).trans ((hba.frozen (p := ⟨g'', _, none⟩) hgw).trans fp2)
    · exact (h4.cell (p := ⟨g'', _, none⟩) hga far1).trans ((hba.cell (p := ⟨g'', _, none⟩) hgw).trans hnn.c1)
    · exact (h4.frozen (p := ⟨g'', _, none⟩) hga far1).trans ((hba.frozen (p := ⟨g'', _, none⟩) hgw).trans fi1)
set_option maxRecDepth 100000 in
set_option maxHeartbeats 4000000 in
theorem Put_any (p n b : Int) (w : World) {B : AB} {O : List Nat} {ns : List Nd} (hA : ArW B O ns w) (hf : Fit ns) (hok : PutOk ns p n b) :
    Calls Tryz.prog 12 #[.pointer (some ⟨B, 0, none⟩), .int .i64 p, .int .i64 n, .int .i64 b] w (Did B O w (putE ns p n b) (putL ns p n b)) := by
  obtain ⟨W0, hW0⟩ : ∃ W0, w.alloc (.cells #[.int .i64 p, .int .i64 n] 3) = W0 := ⟨_, rfl⟩
  have b0 : Below w.heap.size w W0 := by rw [← hW0]; exact balloc w _
  have hbx : W0.heap[w.heap.size]? = some (.cells #[.int .i64 p, .int .i64 n] 3) := by rw [← hW0]; exact World.alloc_heap_new w _
  have hA0 := hA.later b0
  have H1 := check_any (B := B) (H := w.heap.size) (c := 2) [p, n] W0 hA0 (by intro j v hj; match j, hj with | 0, hj => simp at hj; subst hj; rw [cell_of_row _ _ _ _ _ _ hbx]; rfl | 1, hj => simp at hj; subst hj; rw [cell_of_row _ _ _ _ _ _ hbx]; rfl) (by simp)
  have HW := Lib.hid hW0
  by_cases hpn : isH ns.length p = true ∧ isH ns.length n = true
  · obtain ⟨hp, hn⟩ := hpn
    rw [show chkH ns.length [p, n] = 0 by simp [chkH, hp, hn]] at H1
    have H1 := Lib.hid H1
    have PE : putE ns p n b = if b ≠ 0 ∧ isH ns.length b = false then 3 else if ¬ mayParent (ndAt ns p).kind ∨ (ndAt ns n).kind = 1 ∨ (ndAt ns n).kind = 2 ∨ containsL ns n p = true then 4 else if b ≠ 0 ∧ (b = n ∨ ((ndAt ns b).parent : Int) ≠ p) then 5 else 0 := by
      rw [putE, if_neg (by simp [hp, hn])]
    by_cases hbb : b ≠ 0 ∧ isH ns.length b = false
    · rw [if_pos hbb] at PE
      have H2 := isH_any b W0 hA0
      rw [hbb.2] at H2
      have H2 := Lib.hid H2
      have hbz : (b != 0) = true := by simpa using hbb.1
      have HF := Lib.hid (show Did B O w (putE ns p n b) (putL ns p n b) (.returned (.int .i64 3)) W0 from ⟨by rw [PE], .inl ⟨by rw [PE]; decide, b0⟩⟩)
      clear hp hn PE hbb hA hA0 hf hok hbx b0 hW0
      go_enter Tryz.func12, Tryz.ntmps12
      go_wp2_with fail
      rw [HW.out]
      go_wp2_with (first | (go_at_call 44; refine H1.out.mono ?_; rintro e w1 ⟨rfl, rfl⟩) | (go_at_call 45; refine H2.out.mono ?_; rintro e w1 ⟨rfl, rfl⟩))
      go_ret
      exact HF.out
    · rw [if_neg hbb] at PE
      obtain ⟨g, cap, kvp, avp, ip, hip, hxp, c0, hnp, -, -, hatp⟩ := atW_any p W0 hA0 hp hf.len
      obtain ⟨g', cap', kvn, avn, jn, hjn, hxn, c0', hnn, -, -, hatn⟩ := atW_any n W0 hA0 hn hf.len
      have hgg : g' = g ∧ cap' = cap := by
        rw [c0] at c0'
        injection c0' with c0'
        injection c0' with e1 e2 e3
        injection e1 with e1
        injection e1 with e1
        exact ⟨e1.symm, e3.symm⟩
      obtain ⟨rfl, rfl⟩ := hgg
      have kp := hnp.c0
      have kn := hnn.c0
      obtain ⟨pk, hpk⟩ : ∃ k, (ndAt ns p).kind = k := ⟨_, rfl⟩
      obtain ⟨nk, hnk⟩ : ∃ k, (ndAt ns n).kind = k := ⟨_, rfl⟩
      rw [hpk] at kp PE
      rw [hnk] at kn PE
      have H3 := Lib.hid (hatp W0 rfl)
      have H4 := Lib.hid (hatn W0 rfl)
      have H5 := Lib.hid (Contains_any n p W0 hA0 hf.len hok.up)
      -- a refusal
      have HNo := Lib.hid (fun (er : Int) (w1 : World) (he : putE ns p n b = er) (hne : er ≠ 0) (hb : Below W0.heap.size W0 w1) => show Did B O w (putE ns p n b) (putL ns p n b) (.returned (.int .i64 er)) w1 from
        ⟨by rw [he], .inl ⟨by rw [he]; exact hne, bthen b0 b0.size hb⟩⟩)
      -- the end
      have hpn2 : containsL ns n p = false → p ≠ n := by
        rintro hc rfl
        obtain ⟨xs, hU⟩ := hok.up hp
        have hz : p ≠ 0 := by rintro rfl; simp [isH] at hp
        obtain ⟨_, ys, rfl, _⟩ := hU.step hz
        rw [containsL, hp, upOf_of hU] at hc
        simp at hc
      have HEnd := Lib.hid (fun (w1 : World) (hb : Below W0.heap.size W0 w1) (hc : containsL ns n p = false) (h5 : ¬ (b ≠ 0 ∧ (b = n ∨ ((ndAt ns b).parent : Int) ≠ p))) (he : putE ns p n b = 0) =>
        show Calls Tryz.prog 47 #[.pointer (some ⟨B, 0, none⟩), .int .i64 n] w1 fun e w2 => e = .returned (.tuple #[]) ∧ ∃ O' ka kc, PutMid w2 B O' (cutL ns n) p n b g' ip jn ka kc ∧
          ∀ w3, (∃ O'', ArW B O'' (putL ns p n b) w3 ∧ AStep O' w2 O'' w3) → Did B O w (putE ns p n b) (putL ns p n b) (.returned (.int .i64 0)) w3 from by
        refine (cut_any n w1 (hA0.later hb) hf.len (hok.cut hn)).mono ?_
        rintro e w2 ⟨rfl, hc0, O', hA2, hS2⟩
        have hcl := cutL_len ns n
        have hk2 := cutL_kids (hok.cut hn) hp (hpn2 hc)
        obtain ⟨ka, kc, hpm⟩ := put_mid (b := b) hA2 (by rw [hcl]; exact hp) (by rw [hcl]; exact hn) hip hjn (hc0.trans ((hb.cell (p := ⟨B, 0, none⟩) (World.block_lt_of_cell? _ _ c0)).trans c0)) (by
            rw [hk2]
            have := hf.kid1 p
            split
            · have := List.length_erase_le (a := n.toNat) (l := (ndAt ns p).kids); omega
            · exact this) (by
            intro h0
            have hb1 : isH ns.length b = true := by
              cases e : isH ns.length b
              · exact absurd ⟨h0, e⟩ hbb
              · rfl
            obtain ⟨q, hq, hq2⟩ := isH_iff.1 hb1
            obtain ⟨qn, hqn, hqn2⟩ := isH_iff.1 hn
            refine ⟨by omega, ?_⟩
            have hpar : ((ndAt ns b).parent : Int) = p := Classical.not_not.1 fun h => h5 ⟨h0, .inr h⟩
            have hbn : b ≠ n := fun h => h5 ⟨h0, .inl h⟩
            have hmem := hok.bef h0 hb1 hpar hp
            rw [hk2]
            split
            · exact (List.mem_erase_of_ne (by omega)).2 hmem
            · exact hmem)
        exact ⟨rfl, O', ka, kc, hpm, fun w3 ⟨O'', h1, h2⟩ => ⟨by rw [he], .inr ⟨he, O'', h1, astep_pre b0 ((astep_pre hb hS2).trans h2)⟩⟩⟩)
      have hBW : B < W0.heap.size := World.block_lt_of_cell? _ _ c0
      have HP := Lib.hid PE
      clear PE
      have H2 : Hid (b ≠ 0 → Calls Tryz.prog 45 #[.pointer (some ⟨B, 0, none⟩), .int .i64 b] W0 fun e w' => e = .returned (.bool true) ∧ W0 = w') := Lib.hid (fun h0 => by
        have := isH_any b W0 hA0
        cases e : isH ns.length b
        · exact absurd ⟨h0, e⟩ hbb
        · rw [e] at this; exact this)
      have H6 : Hid (b ≠ 0 → ∃ o pb, (ndAt ns b).parent = pb ∧ W0.cell? ⟨g', o * 13 + 1, none⟩ = some (.int .i64 (pb : Nat)) ∧ ∀ w', w'.cell? ⟨B, 0, none⟩ = W0.cell? ⟨B, 0, none⟩ → Calls Tryz.prog 37 #[.pointer (some ⟨B, 0, none⟩), .int .i64 b] w' fun e w'' => e = .returned (.pointer (some ⟨g', o * 13, none⟩)) ∧ w' = w'') := Lib.hid (fun h0 => by
        have hb1 : isH ns.length b = true := by
          cases e : isH ns.length b
          · exact absurd ⟨h0, e⟩ hbb
          · rfl
        obtain ⟨g'', cap'', kvb, avb, ob, -, -, c0'', hnb, -, -, hatb⟩ := atW_any b W0 hA0 hb1 hf.len
        have hg : g'' = g' := by rw [c0] at c0''; injection c0'' with c0''; injection c0'' with e1 e2 e3; injection e1 with e1; injection e1 with e1; exact e1.symm
        subst hg
        exact ⟨ob, _, rfl, hnb.c1, hatb⟩)
      have hgW : g' < W0.heap.size := World.block_lt_of_cell? _ _ hnp.c0
      clear hp hn hA hA0 hf hok hbx b0 hW0 hatp hatn hnp hnn c0 c0' hxp hxn hpk hnk hpn2 hip hjn hbb
      have HM : Hid (¬ mayParent pk ∨ ((pk != 1) = false ∨ ((pk != 1) = true ∧ (pk != 2) = false) ∨ ((pk != 1) = true ∧ (pk != 2) = true ∧ (pk != 4) = false))) := Lib.hid (by
        by_cases hm : mayParent pk
        · rcases hm with rfl | rfl | rfl
          · exact .inr (.inl rfl)
          · exact .inr (.inr (.inl ⟨rfl, rfl⟩))
          · exact .inr (.inr (.inr ⟨rfl, rfl, rfl⟩))
        · exact .inl hm)
      have HB : Hid ((b != 0) = false ∨ (b != 0) = true) := Lib.hid (by cases (b != 0) <;> simp)
      have HN : Hid ((nk == 1) = true ∨ ((nk == 1) = false ∧ (nk == 2) = true) ∨ ((nk == 1) = false ∧ (nk == 2) = false)) := Lib.hid (by cases (nk == 1) <;> cases (nk == 2) <;> simp)
      rcases HB.out with hb0 | hb0
      · clear HB
        rcases HM.out with hm | hm
        · have hm1 : (pk != 1) = true := by simp only [mayParent] at hm; simp; omega
          have hm2 : (pk != 2) = true := by simp only [mayParent] at hm; simp; omega
          have hm3 : (pk != 4) = true := by simp only [mayParent] at hm; simp; omega
          have HF := Lib.hid (HNo.out 4 W0 (HP.out.trans (if_pos (.inl hm))) (by decide) (Below.refl _ _))
          clear hm HM HN HP HEnd H5 H6 HNo
          go_enter Tryz.func12, Tryz.ntmps12
          go_wp2_with fail
          rw [HW.out]
          refine H1.out.mono ?_
          rintro e w1 ⟨rfl, rfl⟩
          go_wp2_with fail
          refine H3.out.mono ?_
          rintro e w1 ⟨rfl, rfl⟩
          go_wp2_with fail
          refine H4.out.mono ?_
          rintro e w1 ⟨rfl, rfl⟩
          go_wp2_with fail
          go_ret
          exact HF.out
        · clear HM
          rcases HN.out with h1 | ⟨h1, h2⟩ | ⟨h1, h2⟩
          · have HF := Lib.hid (HNo.out 4 W0 (HP.out.trans (if_pos (.inr (.inl (by simpa using h1))))) (by decide) (Below.refl _ _))
            clear HN HP HEnd H5 H6 HNo
            rcases hm with hm1 | ⟨hm1, hm2⟩ | ⟨hm1, hm2, hm3⟩
            all_goals
              go_enter Tryz.func12, Tryz.ntmps12
              go_wp2_with fail
              rw [HW.out]
              refine H1.out.mono ?_
              rintro e w1 ⟨rfl, rfl⟩
              go_wp2_with fail
              refine H3.out.mono ?_
              rintro e w1 ⟨rfl, rfl⟩
              go_wp2_with fail
              refine H4.out.mono ?_
              rintro e w1 ⟨rfl, rfl⟩
              go_wp2_with fail
              go_ret
              exact HF.out
          · have HF := Lib.hid (HNo.out 4 W0 (HP.out.trans (if_pos (.inr (.inr (.inl (by simpa using h2)))))) (by decide) (Below.refl _ _))
            clear HN HP HEnd H5 H6 HNo
            rcases hm with hm1 | ⟨hm1, hm2⟩ | ⟨hm1, hm2, hm3⟩
            all_goals
              go_enter Tryz.func12, Tryz.ntmps12
              go_wp2_with fail
              rw [HW.out]
              refine H1.out.mono ?_
              rintro e w1 ⟨rfl, rfl⟩
              go_wp2_with fail
              refine H3.out.mono ?_
              rintro e w1 ⟨rfl, rfl⟩
              go_wp2_with fail
              refine H4.out.mono ?_
              rintro e w1 ⟨rfl, rfl⟩
              go_wp2_with fail
              go_ret
              exact HF.out
          · have hm0 : mayParent pk := by
              rcases hm with hm1 | ⟨hm1, hm2⟩ | ⟨hm1, hm2, hm3⟩
              · exact .inl (by simpa using hm1)
              · exact .inr (.inl (by simpa using hm2))
              · exact .inr (.inr (by simpa using hm3))
            have HM := Lib.hid hm0
            clear HN hm0
            cases hc : containsL ns n p
            · rw [hc] at H5
              obtain rfl : b = 0 := by simpa using hb0
              have he : putE ns p n 0 = 0 := (HP.out.trans ((if_neg (by simp only [not_or]; exact ⟨fun h => h HM.out, by simpa using h1, by simpa using h2, by rw [hc]; decide⟩)).trans (if_neg (by simp))))
              have HE := Lib.hid (fun w1 hb => HEnd.out w1 hb hc (by simp) he)
              clear he hc HM HP HEnd H6 HNo H2 hb0
              rcases hm with hm1 | ⟨hm1, hm2⟩ | ⟨hm1, hm2, hm3⟩
              all_goals
                go_enter Tryz.func12, Tryz.ntmps12
                go_wp2_with fail
                rw [HW.out]
                refine H1.out.mono ?_
                rintro e w1 ⟨rfl, rfl⟩
                go_wp2_with fail
                refine H3.out.mono ?_
                rintro e w1 ⟨rfl, rfl⟩
                go_wp2_with fail
                refine H4.out.mono ?_
                rintro e w1 ⟨rfl, rfl⟩
                go_wp2_with fail
                refine H5.out.mono ?_
                rintro e w1 ⟨rfl, b1⟩
                go_wp2_with fail
                refine (HE.out w1 b1).mono ?_
                rintro e w2 ⟨rfl, O', ka, kc, hpm, hfin⟩
                have c2 := hpm.c2
                have hin := hpm.ins
                rw [show insAt (ndAt (cutL ns n) p).kids 0 = (ndAt (cutL ns n) p).kids.length from rfl] at hin
                have HIN := Lib.hid hin; have HFI := Lib.hid hfin
                clear hpm hin hfin b1
                go_wp2_with fail
                refine HIN.out.mono ?_
                rintro e w3 ⟨v1, v2, v3, pa, rfl, k1, k2, k3, k4, k5⟩
                have HF := Lib.hid (HFI.out _ k5)
                clear k5 HIN HFI
                have hslot : ¬ (jn * 13 + 1 = ip * 13 + 2) := by omega
                go_wp2_with fail
                go_ret
                exact HF.out
            · rw [hc] at H5
              have HF := Lib.hid (fun w1 hb => HNo.out 4 w1 (HP.out.trans (if_pos (.inr (.inr (.inr hc))))) (by decide) hb)
              clear hc HM HP HEnd H6 HNo
              rcases hm with hm1 | ⟨hm1, hm2⟩ | ⟨hm1, hm2, hm3⟩
              all_goals
                go_enter Tryz.func12, Tryz.ntmps12
                go_wp2_with fail
                rw [HW.out]
                refine H1.out.mono ?_
                rintro e w1 ⟨rfl, rfl⟩
                go_wp2_with fail
                refine H3.out.mono ?_
                rintro e w1 ⟨rfl, rfl⟩
                go_wp2_with fail
                refine H4.out.mono ?_
                rintro e w1 ⟨rfl, rfl⟩
                go_wp2_with fail
                refine H5.out.mono ?_
                rintro e w1 ⟨rfl, b1⟩
                go_wp2_with fail
                go_ret
                exact HF.out w1 b1
      · clear HB
        replace H2 := Lib.hid (H2.out (by simpa using hb0))
        rcases HM.out with hm | hm
        · have hm1 : (pk != 1) = true := by simp only [mayParent] at hm; simp; omega
          have hm2 : (pk != 2) = true := by simp only [mayParent] at hm; simp; omega
          have hm3 : (pk != 4) = true := by simp only [mayParent] at hm; simp; omega
          have HF := Lib.hid (HNo.out 4 W0 (HP.out.trans (if_pos (.inl hm))) (by decide) (Below.refl _ _))
          clear hm HM HN HP HEnd H5 H6 HNo
          go_enter Tryz.func12, Tryz.ntmps12
          go_wp2_with fail
          rw [HW.out]
          refine H1.out.mono ?_
          rintro e w1 ⟨rfl, rfl⟩
          go_wp2_with fail
          refine H2.out.mono ?_
          rintro e w1 ⟨rfl, rfl⟩
          go_wp2_with fail
          refine H3.out.mono ?_
          rintro e w1 ⟨rfl, rfl⟩
          go_wp2_with fail
          refine H4.out.mono ?_
          rintro e w1 ⟨rfl, rfl⟩
          go_wp2_with fail
          go_ret
          exact HF.out
        · clear HM
          rcases HN.out with h1 | ⟨h1, h2⟩ | ⟨h1, h2⟩
          · have HF := Lib.hid (HNo.out 4 W0 (HP.out.trans (if_pos (.inr (.inl (by simpa using h1))))) (by decide) (Below.refl _ _))
            clear HN HP HEnd H5 H6 HNo
            rcases hm with hm1 | ⟨hm1, hm2⟩ | ⟨hm1, hm2, hm3⟩
            all_goals
              go_enter Tryz.func12, Tryz.ntmps12
              go_wp2_with fail
              rw [HW.out]
              refine H1.out.mono ?_
              rintro e w1 ⟨rfl, rfl⟩
              go_wp2_with fail
              refine H2.out.mono ?_
              rintro e w1 ⟨rfl, rfl⟩
              go_wp2_with fail
              refine H3.out.mono ?_
              rintro e w1 ⟨rfl, rfl⟩
              go_wp2_with fail
              refine H4.out.mono ?_
              rintro e w1 ⟨rfl, rfl⟩
              go_wp2_with fail
              go_ret
              exact HF.out
          · have HF := Lib.hid (HNo.out 4 W0 (HP.out.trans (if_pos (.inr (.inr (.inl (by simpa using h2)))))) (by decide) (Below.refl _ _))
            clear HN HP HEnd H5 H6 HNo
            rcases hm with hm1 | ⟨hm1, hm2⟩ | ⟨hm1, hm2, hm3⟩
            all_goals
              go_enter Tryz.func12, Tryz.ntmps12
              go_wp2_with fail
              rw [HW.out]
              refine H1.out.mono ?_
              rintro e w1 ⟨rfl, rfl⟩
              go_wp2_with fail
              refine H2.out.mono ?_
              rintro e w1 ⟨rfl, rfl⟩
              go_wp2_with fail
              refine H3.out.mono ?_
              rintro e w1 ⟨rfl, rfl⟩
              go_wp2_with fail
              refine H4.out.mono ?_
              rintro e w1 ⟨rfl, rfl⟩
              go_wp2_with fail
              go_ret
              exact HF.out
          · have hm0 : mayParent pk := by
              rcases hm with hm1 | ⟨hm1, hm2⟩ | ⟨hm1, hm2, hm3⟩
              · exact .inl (by simpa using hm1)
              · exact .inr (.inl (by simpa using hm2))
              · exact .inr (.inr (by simpa using hm3))
            have HM := Lib.hid hm0
            clear HN hm0
            cases hc : containsL ns n p
            · rw [hc] at H5
              obtain ⟨ob, pb, hpb, kb, hatb⟩ := H6.out (by simpa using hb0)
              have HPB := Lib.hid hpb; have HAB := Lib.hid hatb
              clear hpb hatb H6
              cases hbn : (b == n)
              · cases hpp : ((pb : Int) != p)
                · have h5 : ¬ (b ≠ 0 ∧ (b = n ∨ ((ndAt ns b).parent : Int) ≠ p)) := by
                    rintro ⟨_, h | h⟩
                    · simp [h] at hbn
                    · rw [HPB.out] at h; simp at hpp; exact h hpp
                  have he : putE ns p n b = 0 := (HP.out.trans ((if_neg (by simp only [not_or]; exact ⟨fun h => h HM.out, by simpa using h1, by simpa using h2, by rw [hc]; decide⟩)).trans (if_neg h5)))
                  have HE := Lib.hid (fun w1 hb => HEnd.out w1 hb hc h5 he)
                  have hbz : b ≠ 0 := by simpa using hb0
                  clear he h5 hc HM HP HEnd HNo HPB
                  rcases hm with hm1 | ⟨hm1, hm2⟩ | ⟨hm1, hm2, hm3⟩
                  all_goals
                    go_enter Tryz.func12, Tryz.ntmps12
                    go_wp2_with fail
                    rw [HW.out]
                    refine H1.out.mono ?_
                    rintro e w1 ⟨rfl, rfl⟩
                    go_wp2_with fail
                    refine H2.out.mono ?_
                    rintro e w1 ⟨rfl, rfl⟩
                    go_wp2_with fail
                    refine H3.out.mono ?_
                    rintro e w1 ⟨rfl, rfl⟩
                    go_wp2_with fail
                    refine H4.out.mono ?_
                    rintro e w1 ⟨rfl, rfl⟩
                    go_wp2_with fail
                    refine H5.out.mono ?_
                    rintro e w1 ⟨rfl, b1⟩
                    have kb1 := (b1.cell (p := ⟨g', _, none⟩) hgW).trans kb
                    have HA1 := Lib.hid (HAB.out w1 (b1.cell (p := ⟨B, 0, none⟩) hBW))
                    go_wp2_with fail
                    refine HA1.out.mono ?_
                    rintro e w2 ⟨rfl, rfl⟩
                    go_wp2_with fail
                    refine (HE.out w1 b1).mono ?_
                    rintro e w2 ⟨rfl, O', ka, kc, hpm, hfin⟩
                    have c2 := hpm.c2
                    have HIX := Lib.hid (hpm.ix hbz)
                    have HIN := Lib.hid hpm.ins; have HFI := Lib.hid hfin
                    clear hpm hfin b1 HA1 hbz
                    go_wp2_with fail
                    refine HIX.out.mono ?_
                    rintro e w3 ⟨rfl, rfl⟩
                    go_wp2_with fail
                    refine HIN.out.mono ?_
                    rintro e w3 ⟨v1, v2, v3, pa, rfl, k1, k2, k3, k4, k5⟩
                    have HF := Lib.hid (HFI.out _ k5)
                    clear k5 HIN HFI
                    have hslot : ¬ (jn * 13 + 1 = ip * 13 + 2) := by omega
                    go_wp2_with fail
                    go_ret
                    exact HF.out
                · have HF := Lib.hid (fun w1 hb => HNo.out 5 w1 (HP.out.trans ((if_neg (by simp only [not_or]; exact ⟨fun h => h HM.out, by simpa using h1, by simpa using h2, by rw [hc]; decide⟩)).trans (if_pos ⟨by simpa using hb0, .inr (by rw [HPB.out]; simpa using hpp)⟩))) (by decide) hb)
                  clear hc HM HP HEnd HNo HPB
                  rcases hm with hm1 | ⟨hm1, hm2⟩ | ⟨hm1, hm2, hm3⟩
                  all_goals
                    go_enter Tryz.func12, Tryz.ntmps12
                    go_wp2_with fail
                    rw [HW.out]
                    refine H1.out.mono ?_
                    rintro e w1 ⟨rfl, rfl⟩
                    go_wp2_with fail
                    refine H2.out.mono ?_
                    rintro e w1 ⟨rfl, rfl⟩
                    go_wp2_with fail
                    refine H3.out.mono ?_
                    rintro e w1 ⟨rfl, rfl⟩
                    go_wp2_with fail
                    refine H4.out.mono ?_
                    rintro e w1 ⟨rfl, rfl⟩
                    go_wp2_with fail
                    refine H5.out.mono ?_
                    rintro e w1 ⟨rfl, b1⟩
                    have kb1 := (b1.cell (p := ⟨g', _, none⟩) hgW).trans kb
                    have HA1 := Lib.hid (HAB.out w1 (b1.cell (p := ⟨B, 0, none⟩) hBW))
                    go_wp2_with fail
                    refine HA1.out.mono ?_
                    rintro e w2 ⟨rfl, rfl⟩
                    go_wp2_with fail
                    go_ret
                    exact HF.out w1 b1
              · have HF := Lib.hid (fun w1 hb => HNo.out 5 w1 (HP.out.trans ((if_neg (by simp only [not_or]; exact ⟨fun h => h HM.out, by simpa using h1, by simpa using h2, by rw [hc]; decide⟩)).trans (if_pos ⟨by simpa using hb0, .inl (by simpa using hbn)⟩))) (by decide) hb)
                clear hc HM HP HEnd HNo HPB HAB kb
                rcases hm with hm1 | ⟨hm1, hm2⟩ | ⟨hm1, hm2, hm3⟩
                all_goals
                  go_enter Tryz.func12, Tryz.ntmps12
                  go_wp2_with fail
                  rw [HW.out]
                  refine H1.out.mono ?_
                  rintro e w1 ⟨rfl, rfl⟩
                  go_wp2_with fail
                  refine H2.out.mono ?_
                  rintro e w1 ⟨rfl, rfl⟩
                  go_wp2_with fail
                  refine H3.out.mono ?_
                  rintro e w1 ⟨rfl, rfl⟩
                  go_wp2_with fail
                  refine H4.out.mono ?_
                  rintro e w1 ⟨rfl, rfl⟩
                  go_wp2_with fail
                  refine H5.out.mono ?_
                  rintro e w1 ⟨rfl, b1⟩
                  go_wp2_with fail
                  go_ret
                  exact HF.out w1 b1
            · rw [hc] at H5
              have HF := Lib.hid (fun w1 hb => HNo.out 4 w1 (HP.out.trans (if_pos (.inr (.inr (.inr hc))))) (by decide) hb)
              clear hc HM HP HEnd H6 HNo
              rcases hm with hm1 | ⟨hm1, hm2⟩ | ⟨hm1, hm2, hm3⟩
              all_goals
                go_enter Tryz.func12, Tryz.ntmps12
                go_wp2_with fail
                rw [HW.out]
                refine H1.out.mono ?_
                rintro e w1 ⟨rfl, rfl⟩
                go_wp2_with fail
                refine H2.out.mono ?_
                rintro e w1 ⟨rfl, rfl⟩
                go_wp2_with fail
                refine H3.out.mono ?_
                rintro e w1 ⟨rfl, rfl⟩
                go_wp2_with fail
                refine H4.out.mono ?_
                rintro e w1 ⟨rfl, rfl⟩
                go_wp2_with fail
                refine H5.out.mono ?_
                rintro e w1 ⟨rfl, b1⟩
                go_wp2_with fail
                go_ret
                exact HF.out w1 b1
  · rw [show chkH ns.length [p, n] = 3 by cases h1 : isH ns.length p <;> cases h2 : isH ns.length n <;> first | (simp [chkH, h1, h2]; done) | exact absurd ⟨h1, h2⟩ hpn] at H1
    have PE : putE ns p n b = 3 := by
      rw [putE, if_pos]
      cases h1 : isH ns.length p
      · exact .inl rfl
      · cases h2 : isH ns.length n
        · exact .inr rfl
        · exact absurd ⟨h1, h2⟩ hpn
    have HF := Lib.hid (show Did B O w (putE ns p n b) (putL ns p n b) (.returned (.int .i64 3)) W0 from ⟨by rw [PE], .inl ⟨by rw [PE]; decide, b0⟩⟩)
    have H1 := Lib.hid H1
    clear PE hpn hA hA0 hf hok hbx b0 hW0
    go_enter Tryz.func12, Tryz.ntmps12
    go_wp2_with fail
    rw [HW.out]
    go_wp2_with (refine H1.out.mono ?_; rintro e w1 ⟨rfl, rfl⟩)
    go_ret
    exact HF.out
end Go.Proofs.YtdapdadcninidaaGreatDoor
namespace Go.Proofs.YtdapdadcninidaaGreatDoor
open Go.RowKit

def nd (ns : List Nd) (x : Nat) : Nd := ndAt ns ((x : Nat) : Int)
def inR (ns : List Nd) (x : Nat) : Prop := 1 ≤ x ∧ x ≤ ns.length
theorem inR_isH {ns : List Nd} {x : Nat} : isH ns.length ((x : Nat) : Int) = true ↔ inR ns x := by
  rw [isH_iff]
  constructor
  · rintro ⟨i, hi, e⟩
    exact ⟨by omega, by omega⟩
  · rintro ⟨h1, h2⟩
    exact ⟨x - 1, by omega, by omega⟩
theorem isH_nat {ns : List Nd} {h : Int} (hh : isH ns.length h = true) : ∃ x : Nat, h = (x : Int) ∧ inR ns x := by
  obtain ⟨i, hi, rfl⟩ := isH_iff.1 hh
  exact ⟨i + 1, rfl, by omega, by omega⟩
theorem nd_get {ns : List Nd} {x : Nat} (h : inR ns x) : ns[x - 1]? = some (nd ns x) := by
  obtain ⟨h1, h2⟩ := h
  have hx : x - 1 < ns.length := by omega
  rw [nd, ndAt, List.getD_eq_getElem?_getD, show (((x : Nat) : Int) - 1).toNat = x - 1 by omega, List.getElem?_eq_getElem hx]
  rfl
theorem nd_of {ns : List Nd} {i : Nat} {d : Nd} (h : ns[i]? = some d) : inR ns (i + 1) ∧ nd ns (i + 1) = d := by
  have hl := (List.getElem?_eq_some_iff.1 h).1
  exact ⟨⟨by omega, by omega⟩, ndAt_at h⟩
theorem nd_mem {ns : List Nd} {x : Nat} (h : inR ns x) : nd ns x ∈ ns := List.mem_of_getElem? (nd_get h)
theorem mem_nd {ns : List Nd} {d : Nd} (h : d ∈ ns) : ∃ x, inR ns x ∧ nd ns x = d := by
  obtain ⟨i, hi⟩ := List.mem_iff_getElem?.1 h
  exact ⟨i + 1, nd_of hi⟩
theorem inR_set {ns : List Nd} {h : Int} {d : Nd} {x : Nat} : inR (setNd ns h d) x ↔ inR ns x := by unfold inR; rw [setNd_len]
theorem nd_set {ns : List Nd} {h x : Nat} (hh : inR ns h) (hx : inR ns x) (d : Nd) : nd (setNd ns ((h : Nat) : Int) d) x = if x = h then d else nd ns x := by
  by_cases e : x = h
  · subst e
    rw [if_pos rfl]
    exact ndAt_setNd_self (inR_isH.2 hh)
  · rw [if_neg e]
    exact ndAt_setNd_ne (inR_isH.2 hh) (inR_isH.2 hx) (by omega)
theorem nd_app {ns ms : List Nd} {x : Nat} (hx : inR ns x) : nd (ns ++ ms) x = nd ns x := by
  have h1 := nd_get hx
  have h2 : (ns ++ ms)[x - 1]? = some (nd ns x) := by rw [List.getElem?_append_left (by have := hx.1; have := hx.2; omega)]; exact h1
  have h3 := (nd_of h2).2
  rwa [show x - 1 + 1 = x by have := hx.1; omega] at h3
theorem inR_app {ns ms : List Nd} {x : Nat} (hx : inR ns x) : inR (ns ++ ms) x := ⟨hx.1, by have := hx.2; simp; omega⟩
theorem nd_app_new {ns ms : List Nd} {j : Nat} {d : Nd} (h : ms[j]? = some d) : inR (ns ++ ms) (ns.length + j + 1) ∧ nd (ns ++ ms) (ns.length + j + 1) = d :=
  nd_of (by rw [List.getElem?_append_right (by omega), show ns.length + j - ns.length = j by omega]; exact h)
/-- What the links are made of. -/
structure Sk where
  kind : Int
  parent : Nat
  kids : List Nat
  contents : Nat
  host : Nat
def sk (d : Nd) : Sk := ⟨d.kind, d.parent, d.kids, d.contents, d.host⟩
/-- Nodes that are linked well; r falls on every way up. -/
structure Snd (ns : List Nd) (r : Nat → Nat) : Prop where
  kid : ∀ x k, inR ns x → k ∈ (nd ns x).kids → inR ns k ∧ (nd ns k).parent = x
  par : ∀ x, inR ns x → (nd ns x).parent ≠ 0 → inR ns (nd ns x).parent ∧ x ∈ (nd ns (nd ns x).parent).kids
  nod : ∀ x, inR ns x → (nd ns x).kids.Nodup
  cts : ∀ x, inR ns x → (nd ns x).contents ≠ 0 → inR ns (nd ns x).contents ∧ (nd ns (nd ns x).contents).host = x ∧ (nd ns (nd ns x).contents).kind = 2
  hst : ∀ x, inR ns x → (nd ns x).host ≠ 0 → inR ns (nd ns x).host ∧ (nd ns (nd ns x).host).contents = x ∧ (nd ns x).kind = 2
  top : ∀ x, inR ns x → (nd ns x).kind = 1 ∨ (nd ns x).kind = 2 → (nd ns x).parent = 0
  may : ∀ x, inR ns x → (nd ns x).kids ≠ [] → mayParent (nd ns x).kind
  rp : ∀ x, inR ns x → (nd ns x).parent ≠ 0 → r (nd ns x).parent < r x
  rh : ∀ x, inR ns x → (nd ns x).host ≠ 0 → r (nd ns x).host < r x
/-- The links alone count. -/
theorem Snd.same {ns ms : List Nd} {r : Nat → Nat} (h : Snd ns r) (hl : ms.length = ns.length) (hs : ∀ x, inR ns x → sk (nd ms x) = sk (nd ns x)) : Snd ms r := by
  have hi : ∀ x, inR ms x ↔ inR ns x := fun x => by unfold inR; rw [hl]
  have e1 : ∀ x, inR ns x → (nd ms x).kind = (nd ns x).kind := fun x hx => congrArg Sk.kind (hs x hx)
  have e2 : ∀ x, inR ns x → (nd ms x).parent = (nd ns x).parent := fun x hx => congrArg Sk.parent (hs x hx)
  have e3 : ∀ x, inR ns x → (nd ms x).kids = (nd ns x).kids := fun x hx => congrArg Sk.kids (hs x hx)
  have e4 : ∀ x, inR ns x → (nd ms x).contents = (nd ns x).contents := fun x hx => congrArg Sk.contents (hs x hx)
  have e5 : ∀ x, inR ns x → (nd ms x).host = (nd ns x).host := fun x hx => congrArg Sk.host (hs x hx)
  refine ⟨fun x k hx hk => ?_, fun x hx hp => ?_, fun x hx => ?_, fun x hx hc => ?_, fun x hx hh => ?_, fun x hx hk => ?_, fun x hx hk => ?_, fun x hx hp => ?_, fun x hx hp => ?_⟩
  all_goals have hx' := (hi x).1 hx
  · rw [e3 x hx'] at hk
    obtain ⟨h1, h2⟩ := h.kid x k hx' hk
    exact ⟨(hi k).2 h1, by rw [e2 k h1]; exact h2⟩
  · rw [e2 x hx'] at hp ⊢
    obtain ⟨h1, h2⟩ := h.par x hx' hp
    exact ⟨(hi _).2 h1, by rw [e3 _ h1]; exact h2⟩
  · rw [e3 x hx']; exact h.nod x hx'
  · rw [e4 x hx'] at hc ⊢
    obtain ⟨h1, h2, h3⟩ := h.cts x hx' hc
    exact ⟨(hi _).2 h1, by rw [e5 _ h1]; exact h2, by rw [e1 _ h1]; exact h3⟩
  · rw [e5 x hx'] at hh ⊢
    obtain ⟨h1, h2, h3⟩ := h.hst x hx' hh
    exact ⟨(hi _).2 h1, by rw [e4 _ h1]; exact h2, by rw [e1 x hx']; exact h3⟩
  · rw [e1 x hx'] at hk
    rw [e2 x hx']; exact h.top x hx' hk
  · rw [e3 x hx'] at hk
    rw [e1 x hx']; exact h.may x hx' hk
  · rw [e2 x hx'] at hp ⊢; exact h.rp x hx' hp
  · rw [e5 x hx'] at hp ⊢; exact h.rh x hx' hp
/-- The next node on the way up. -/
def upS (ns : List Nd) (x : Nat) : Nat := if (nd ns x).parent = 0 then (nd ns x).host else (nd ns x).parent
theorem upS_upN (ns : List Nd) (x : Nat) : upN ns true ((x : Nat) : Int) = ((upS ns x : Nat) : Int) := by
  unfold upN upS nd
  by_cases h : (ndAt ns (x : Int)).parent = 0
  · rw [if_pos ⟨h, rfl⟩, if_pos h]
  · rw [if_neg (fun e => h e.1), if_neg h]
theorem Snd.upS_lt {ns : List Nd} {r : Nat → Nat} (h : Snd ns r) {x : Nat} (hx : inR ns x) (hu : upS ns x ≠ 0) : inR ns (upS ns x) ∧ r (upS ns x) < r x := by
  unfold upS at hu ⊢
  split at hu
  · rename_i hp
    rw [if_pos hp]
    exact ⟨(h.hst x hx hu).1, h.rh x hx hu⟩
  · rename_i hp
    rw [if_neg hp]
    exact ⟨(h.par x hx hp).1, h.rp x hx hp⟩
/-- Every way up ends. -/
theorem Snd.up {ns : List Nd} {r : Nat → Nat} (h : Snd ns r) : ∀ n x, inR ns x → r x ≤ n → ∃ xs, Up ns true ((x : Nat) : Int) xs := by
  intro n
  induction n with
  | zero =>
    intro x hx hr
    refine ⟨[(x : Int)], .more (inR_isH.2 hx) ?_⟩
    rw [upS_upN]
    by_cases h0 : upS ns x = 0
    · rw [h0]; exact .done
    · have := (h.upS_lt hx h0).2; omega
  | succ n ih =>
    intro x hx hr
    by_cases h0 : upS ns x = 0
    · refine ⟨[(x : Int)], .more (inR_isH.2 hx) ?_⟩
      rw [upS_upN, h0]; exact .done
    · obtain ⟨h1, h2⟩ := h.upS_lt hx h0
      obtain ⟨xs, hu⟩ := ih _ h1 (by omega)
      refine ⟨(x : Int) :: xs, .more (inR_isH.2 hx) ?_⟩
      rw [upS_upN]; exact hu
theorem Snd.upOk {ns : List Nd} {r : Nat → Nat} (h : Snd ns r) {p : Int} (hp : isH ns.length p = true) : ∃ xs, Up ns true p xs := by
  obtain ⟨x, rfl, hx⟩ := isH_nat hp
  exact h.up _ x hx (Nat.le_refl _)
/-- a stands on the way up from x. -/
inductive Anc (ns : List Nd) (a : Nat) : Nat → Prop
  | here : Anc ns a a
  | up {x : Nat} : upS ns x ≠ 0 → Anc ns a (upS ns x) → Anc ns a x
theorem Up.anc {ns : List Nd} {x : Nat} {xs : List Int} (hU : Up ns true ((x : Nat) : Int) xs) (hx : x ≠ 0) {a : Nat} (ha : Anc ns a x) : ((a : Nat) : Int) ∈ xs := by
  induction ha generalizing xs with
  | here =>
    obtain ⟨_, ys, rfl, _⟩ := hU.step (by omega)
    exact List.mem_cons_self
  | @up y h1 _ ih =>
    obtain ⟨_, ys, rfl, h2⟩ := hU.step (by omega)
    rw [upS_upN] at h2
    exact List.mem_cons_of_mem _ (ih h2 h1)
theorem containsL_anc {ns : List Nd} {r : Nat → Nat} (h : Snd ns r) {n p : Nat} (hn : inR ns n) (hp : inR ns p) (hc : containsL ns ((n : Nat) : Int) ((p : Nat) : Int) = false) : ¬ Anc ns n p := by
  intro ha
  obtain ⟨xs, hU⟩ := h.up _ p hp (Nat.le_refl _)
  have := hU.anc (by have := hp.1; omega) ha
  rw [containsL, upOf_of hU, inR_isH.2 hn, inR_isH.2 hp, Bool.true_and, Bool.true_and] at hc
  rw [Bool.eq_false_iff] at hc
  exact hc (by simpa using this)
theorem Snd.cutOk {ns : List Nd} {r : Nat → Nat} (h : Snd ns r) (hf : Fit ns) {n : Nat} (hn : inR ns n) : CutOk ns ((n : Nat) : Int) := by
  refine ⟨inR_isH.2 hn, fun hp => ?_⟩
  have hp' : (nd ns n).parent ≠ 0 := hp
  obtain ⟨h1, h2⟩ := h.par n hn hp'
  refine ⟨inR_isH.2 h1, by rw [Int.toNat_natCast]; exact h2, hf.kid1 _, fun e => ?_⟩
  have := h.rp n hn hp'
  have e' : (nd ns n).parent = n := by
    have : (((ndAt ns ((n : Nat) : Int)).parent : Nat) : Int) = ((n : Nat) : Int) := e
    unfold nd; omega
  rw [e'] at this
  omega
theorem Snd.putOk {ns : List Nd} {r : Nat → Nat} (h : Snd ns r) (hf : Fit ns) (p n b : Int) : PutOk ns p n b := by
  refine ⟨fun hp => h.upOk hp, fun hn => ?_, fun _ hb hpb hp => ?_⟩
  · obtain ⟨x, rfl, hx⟩ := isH_nat hn
    exact h.cutOk hf hx
  · obtain ⟨x, rfl, hx⟩ := isH_nat hb
    obtain ⟨q, rfl, hq⟩ := isH_nat hp
    have hpq : (nd ns x).parent = q := by
      have : (((ndAt ns ((x : Nat) : Int)).parent : Nat) : Int) = ((q : Nat) : Int) := hpb
      unfold nd; omega
    obtain ⟨_, h2⟩ := h.par x hx (by rw [hpq]; have := hq.1; omega)
    rw [hpq] at h2
    rw [Int.toNat_natCast]
    exact h2
/-- What a cut does to each node. -/
theorem nd_cut {ns : List Nd} {r : Nat → Nat} (h : Snd ns r) {n x : Nat} (hn : inR ns n) (hx : inR ns x) :
    nd (cutL ns ((n : Nat) : Int)) x = if x = n then { nd ns n with parent := 0 } else if (nd ns n).parent ≠ 0 ∧ x = (nd ns n).parent then { nd ns x with kids := (nd ns x).kids.erase n } else nd ns x := by
  unfold cutL
  by_cases h0 : (nd ns n).parent = 0
  · have h0' : (ndAt ns ((n : Nat) : Int)).parent = 0 := h0
    rw [if_pos h0']
    by_cases e : x = n
    · rw [if_pos e, e]
      have : ({ nd ns n with parent := 0 } : Nd) = { nd ns n with parent := (nd ns n).parent } := by rw [h0]
      rw [this]
    · rw [if_neg e, if_neg (fun h => h.1 h0)]
  · have h0' : ¬ (ndAt ns ((n : Nat) : Int)).parent = 0 := h0
    rw [if_neg h0']
    obtain ⟨hp, hm⟩ := h.par n hn h0
    have hlt := h.rp n hn h0
    have hne : n ≠ (nd ns n).parent := fun e => by rw [← e] at hlt; omega
    show nd (setNd (setNd ns (((nd ns n).parent : Nat) : Int) { nd ns (nd ns n).parent with kids := (nd ns (nd ns n).parent).kids.erase ((n : Nat) : Int).toNat }) ((n : Nat) : Int)
      { nd (setNd ns (((nd ns n).parent : Nat) : Int) { nd ns (nd ns n).parent with kids := (nd ns (nd ns n).parent).kids.erase ((n : Nat) : Int).toNat }) n with parent := 0 }) x = _
    rw [Int.toNat_natCast, nd_set (inR_set.2 hn) (inR_set.2 hx), nd_set hp hn, if_neg hne, nd_set hp hx]
    by_cases e : x = n
    · rw [if_pos e, if_pos e]
    · rw [if_neg e, if_neg e]
      by_cases e2 : x = (nd ns n).parent
      · rw [if_pos e2, if_pos ⟨h0, e2⟩, e2]
      · rw [if_neg e2, if_neg (fun h => e2 h.2)]
theorem inR_cut {ns : List Nd} {h : Int} {x : Nat} : inR (cutL ns h) x ↔ inR ns x := by unfold inR; rw [cutL_len]
theorem Snd.cut {ns : List Nd} {r : Nat → Nat} (h : Snd ns r) {n : Nat} (hn : inR ns n) : Snd (cutL ns ((n : Nat) : Int)) r := by
  have hc : ∀ x, inR ns x → nd (cutL ns ((n : Nat) : Int)) x = if x = n then { nd ns n with parent := 0 } else if (nd ns n).parent ≠ 0 ∧ x = (nd ns n).parent then { nd ns x with kids := (nd ns x).kids.erase n } else nd ns x := fun x hx => nd_cut h hn hx
  generalize hcl : cutL ns ((n : Nat) : Int) = c at *
  have hi : ∀ x, inR c x ↔ inR ns x := fun x => by rw [← hcl]; exact inR_cut
  have ek : ∀ x, inR ns x → (nd c x).kind = (nd ns x).kind := fun x hx => by
    rw [hc x hx]; split
    · rename_i e; rw [e]
    · split <;> rfl
  have ec : ∀ x, inR ns x → (nd c x).contents = (nd ns x).contents := fun x hx => by
    rw [hc x hx]; split
    · rename_i e; rw [e]
    · split <;> rfl
  have eh : ∀ x, inR ns x → (nd c x).host = (nd ns x).host := fun x hx => by
    rw [hc x hx]; split
    · rename_i e; rw [e]
    · split <;> rfl
  have ep : ∀ x, inR ns x → (nd c x).parent = if x = n then 0 else (nd ns x).parent := fun x hx => by
    rw [hc x hx]
    by_cases e : x = n
    · rw [if_pos e, if_pos e]
    · rw [if_neg e, if_neg e]; split <;> rfl
  have ed : ∀ x, inR ns x → ∀ k, k ∈ (nd c x).kids ↔ k ∈ (nd ns x).kids ∧ k ≠ n := fun x hx k => by
    have hnn : n ∈ (nd ns x).kids → (nd ns n).parent = x := fun hm => (h.kid x n hx hm).2
    rw [hc x hx]
    by_cases e : x = n
    · rw [if_pos e]
      subst e
      refine ⟨fun hk => ⟨hk, fun e => ?_⟩, fun hk => hk.1⟩
      rw [e] at hk
      have h1 := hnn hk
      have h2 := h.rp x hx (by rw [h1]; have := hx.1; omega)
      rw [h1] at h2; omega
    · rw [if_neg e]
      by_cases e2 : (nd ns n).parent ≠ 0 ∧ x = (nd ns n).parent
      · rw [if_pos e2]
        show k ∈ (nd ns x).kids.erase n ↔ _
        rw [(h.nod x hx).mem_erase_iff]
        exact ⟨fun hk => ⟨hk.2, hk.1⟩, fun hk => ⟨hk.2, hk.1⟩⟩
      · rw [if_neg e2]
        refine ⟨fun hk => ⟨hk, fun e3 => e2 ?_⟩, fun hk => hk.1⟩
        rw [e3] at hk
        have := hnn hk
        exact ⟨by rw [this]; have := hx.1; omega, this.symm⟩
  refine ⟨fun x k hx hk => ?_, fun x hx hp => ?_, fun x hx => ?_, fun x hx hcc => ?_, fun x hx hh => ?_, fun x hx hk => ?_, fun x hx hk => ?_, fun x hx hp => ?_, fun x hx hp => ?_⟩
  all_goals have hx' := (hi x).1 hx
  · obtain ⟨h1, h2⟩ := (ed x hx' k).1 hk
    obtain ⟨h3, h4⟩ := h.kid x k hx' h1
    exact ⟨(hi k).2 h3, by rw [ep k h3, if_neg h2]; exact h4⟩
  · rw [ep x hx'] at hp ⊢
    by_cases e : x = n
    · rw [if_pos e] at hp; exact absurd rfl hp
    · rw [if_neg e] at hp ⊢
      obtain ⟨h1, h2⟩ := h.par x hx' hp
      exact ⟨(hi _).2 h1, (ed _ h1 x).2 ⟨h2, e⟩⟩
  · rw [hc x hx']
    split
    · rename_i e; rw [e] at hx'; exact h.nod n hx'
    · split
      · exact (h.nod x hx').erase n
      · exact h.nod x hx'
  · rw [ec x hx'] at hcc ⊢
    obtain ⟨h1, h2, h3⟩ := h.cts x hx' hcc
    exact ⟨(hi _).2 h1, by rw [eh _ h1]; exact h2, by rw [ek _ h1]; exact h3⟩
  · rw [eh x hx'] at hh ⊢
    obtain ⟨h1, h2, h3⟩ := h.hst x hx' hh
    exact ⟨(hi _).2 h1, by rw [ec _ h1]; exact h2, by rw [ek x hx']; exact h3⟩
  · rw [ek x hx'] at hk
    rw [ep x hx']
    split
    · rfl
    · exact h.top x hx' hk
  · rw [ek x hx']
    refine h.may x hx' fun e => hk ?_
    cases hl : (nd c x).kids with
    | nil => rfl
    | cons y l =>
      have := ((ed x hx' y).1 (by rw [hl]; exact List.mem_cons_self)).1
      rw [e] at this; cases this
  · rw [ep x hx'] at hp ⊢
    by_cases e : x = n
    · rw [if_pos e] at hp; exact absurd rfl hp
    · rw [if_neg e] at hp ⊢; exact h.rp x hx' hp
  · rw [eh x hx'] at hp ⊢; exact h.rh x hx' hp
end Go.Proofs.YtdapdadcninidaaGreatDoor
namespace Go.Proofs.YtdapdadcninidaaGreatDoor
open Go.RowKit

theorem mem_insK {ks : List Nat} {i x k : Nat} : k ∈ insK ks i x ↔ k = x ∨ k ∈ ks := by
  unfold insK
  rw [List.mem_append, List.mem_cons]
  constructor
  · rintro (h | h | h)
    · exact .inr (List.mem_of_mem_take h)
    · exact .inl h
    · exact .inr (List.mem_of_mem_drop h)
  · rintro (h | h)
    · exact .inr (.inl h)
    · rw [← List.take_append_drop i ks, List.mem_append] at h
      exact h.imp id .inr
theorem nodup_insK {ks : List Nat} {i x : Nat} (h : ks.Nodup) (hx : x ∉ ks) : (insK ks i x).Nodup := by
  have hp : (insK ks i x).Perm (x :: ks) := by
    unfold insK
    refine List.perm_middle.trans ?_
    rw [List.take_append_drop]
  exact hp.nodup_iff.2 (List.nodup_cons.2 ⟨hx, h⟩)
/-- What putting does to each node. -/
theorem nd_put {c : List Nd} {p n x : Nat} (b : Int) (hp : inR c p) (hn : inR c n) (hx : inR c x) (hne : p ≠ n) :
    nd (putC c ((p : Nat) : Int) ((n : Nat) : Int) b) x = if x = n then { nd c n with parent := p } else if x = p then { nd c p with kids := insK (nd c p).kids (insAt (nd c p).kids b) n } else nd c x := by
  show nd (setNd (setNd c ((p : Nat) : Int) { nd c p with kids := insK (nd c p).kids (insAt (nd c p).kids b) ((n : Nat) : Int).toNat }) ((n : Nat) : Int)
    { nd (setNd c ((p : Nat) : Int) { nd c p with kids := insK (nd c p).kids (insAt (nd c p).kids b) ((n : Nat) : Int).toNat }) n with parent := ((p : Nat) : Int).toNat }) x = _
  rw [Int.toNat_natCast, Int.toNat_natCast, nd_set (inR_set.2 hn) (inR_set.2 hx), nd_set hp hn, if_neg (Ne.symm hne), nd_set hp hx]
theorem putC_len (c : List Nd) (p n b : Int) : (putC c p n b).length = c.length := by unfold putC; rw [setNd_len, setNd_len]
open Classical in
/-- The new rank: what hangs below n is raised above p. -/
noncomputable def rankP (c : List Nd) (r : Nat → Nat) (n p : Nat) (x : Nat) : Nat := if Anc c n x then r x + r p + 1 else r x
theorem Anc.step {c : List Nd} {n x : Nat} (h : Anc c n x) (hne : x ≠ n) : Anc c n (upS c x) := by
  cases h with
  | here => exact absurd rfl hne
  | up _ h => exact h
theorem rank_step {c : List Nd} {r : Nat → Nat} {n p x : Nat} (hx : x ≠ n) (h0 : upS c x ≠ 0) (hlt : r (upS c x) < r x) : rankP c r n p (upS c x) < rankP c r n p x := by
  unfold rankP
  by_cases h1 : Anc c n x
  · rw [if_pos h1, if_pos (h1.step hx)]; omega
  · rw [if_neg h1, if_neg (fun h => h1 (.up h0 h))]; exact hlt
theorem Snd.putC {c : List Nd} {r : Nat → Nat} (h : Snd c r) {p n : Nat} (b : Int) (hp : inR c p) (hn : inR c n) (h0 : (nd c n).parent = 0) (hm : mayParent (nd c p).kind) (hk1 : (nd c n).kind ≠ 1) (hk2 : (nd c n).kind ≠ 2) (hcy : ¬ Anc c n p) :
    Snd (Proofs.YtdapdadcninidaaGreatDoor.putC c ((p : Nat) : Int) ((n : Nat) : Int) b) (rankP c r n p) := by
  have hne : p ≠ n := fun e => hcy (e ▸ .here)
  have hpz : p ≠ 0 := by have := hp.1; omega
  have hnp : ∀ x, inR c x → n ∉ (nd c x).kids := fun x hx hm => by
    have := (h.kid x n hx hm).2
    rw [h0] at this
    have := hx.1; omega
  have hnh : (nd c n).host = 0 := by
    by_cases e : (nd c n).host = 0
    · exact e
    · exact absurd (h.hst n hn e).2.2 hk2
  have hc : ∀ x, inR c x → nd (Proofs.YtdapdadcninidaaGreatDoor.putC c ((p : Nat) : Int) ((n : Nat) : Int) b) x = if x = n then { nd c n with parent := p } else if x = p then { nd c p with kids := insK (nd c p).kids (insAt (nd c p).kids b) n } else nd c x := fun x hx => nd_put b hp hn hx hne
  have hl := putC_len c ((p : Nat) : Int) ((n : Nat) : Int) b
  generalize Proofs.YtdapdadcninidaaGreatDoor.putC c ((p : Nat) : Int) ((n : Nat) : Int) b = m at *
  have hi : ∀ x, inR m x ↔ inR c x := fun x => by unfold inR; rw [hl]
  have ek : ∀ x, inR c x → (nd m x).kind = (nd c x).kind := fun x hx => by
    rw [hc x hx]; split
    · rename_i e; rw [e]
    · split
      · rename_i e; rw [e]
      · rfl
  have ec : ∀ x, inR c x → (nd m x).contents = (nd c x).contents := fun x hx => by
    rw [hc x hx]; split
    · rename_i e; rw [e]
    · split
      · rename_i e; rw [e]
      · rfl
  have eh : ∀ x, inR c x → (nd m x).host = (nd c x).host := fun x hx => by
    rw [hc x hx]; split
    · rename_i e; rw [e]
    · split
      · rename_i e; rw [e]
      · rfl
  have ep : ∀ x, inR c x → (nd m x).parent = if x = n then p else (nd c x).parent := fun x hx => by
    rw [hc x hx]
    by_cases e : x = n
    · rw [if_pos e, if_pos e]
    · rw [if_neg e, if_neg e]; split
      · rename_i e; rw [e]
      · rfl
  have ed : ∀ x, inR c x → ∀ k, k ∈ (nd m x).kids ↔ (x = p ∧ k = n) ∨ k ∈ (nd c x).kids := fun x hx k => by
    rw [hc x hx]
    by_cases e : x = n
    · rw [if_pos e, e]
      exact ⟨.inr, fun h => h.elim (fun h => absurd h.1.symm hne) id⟩
    · rw [if_neg e]
      by_cases e2 : x = p
      · rw [if_pos e2, e2]
        show k ∈ insK _ _ _ ↔ _
        rw [mem_insK]
        exact ⟨fun h => h.imp (fun h => ⟨rfl, h⟩) id, fun h => h.imp (fun h => h.2) id⟩
      · rw [if_neg e2]
        exact ⟨.inr, fun h => h.elim (fun h => absurd h.1 e2) id⟩
  refine ⟨fun x k hx hk => ?_, fun x hx hpp => ?_, fun x hx => ?_, fun x hx hcc => ?_, fun x hx hh => ?_, fun x hx hk => ?_, fun x hx hk => ?_, fun x hx hpp => ?_, fun x hx hpp => ?_⟩
  all_goals have hx' := (hi x).1 hx
  · rcases (ed x hx' k).1 hk with ⟨rfl, rfl⟩ | h1
    · exact ⟨(hi k).2 hn, by rw [ep k hn, if_pos rfl]⟩
    · obtain ⟨h3, h4⟩ := h.kid x k hx' h1
      have hkn : k ≠ n := fun e => hnp x hx' (e ▸ h1)
      exact ⟨(hi k).2 h3, by rw [ep k h3, if_neg hkn]; exact h4⟩
  · rw [ep x hx'] at hpp ⊢
    by_cases e : x = n
    · rw [if_pos e]
      exact ⟨(hi p).2 hp, (ed p hp x).2 (.inl ⟨rfl, e⟩)⟩
    · rw [if_neg e] at hpp ⊢
      obtain ⟨h1, h2⟩ := h.par x hx' hpp
      exact ⟨(hi _).2 h1, (ed _ h1 x).2 (.inr h2)⟩
  · rw [hc x hx']
    split
    · exact h.nod n hn
    · split
      · exact nodup_insK (h.nod p hp) (hnp p hp)
      · exact h.nod x hx'
  · rw [ec x hx'] at hcc ⊢
    obtain ⟨h1, h2, h3⟩ := h.cts x hx' hcc
    exact ⟨(hi _).2 h1, by rw [eh _ h1]; exact h2, by rw [ek _ h1]; exact h3⟩
  · rw [eh x hx'] at hh ⊢
    obtain ⟨h1, h2, h3⟩ := h.hst x hx' hh
    exact ⟨(hi _).2 h1, by rw [ec _ h1]; exact h2, by rw [ek x hx']; exact h3⟩
  · rw [ek x hx'] at hk
    rw [ep x hx']
    by_cases e : x = n
    · rw [e] at hk
      exact absurd hk (fun h => h.elim hk1 hk2)
    · rw [if_neg e]; exact h.top x hx' hk
  · rw [ek x hx']
    by_cases e : x = p
    · rw [e]; exact hm
    · refine h.may x hx' fun e2 => hk ?_
      cases hl : (nd m x).kids with
      | nil => rfl
      | cons y l =>
        rcases (ed x hx' y).1 (by rw [hl]; exact List.mem_cons_self) with h1 | h1
        · exact absurd h1.1 e
        · rw [e2] at h1; cases h1
  · rw [ep x hx'] at hpp ⊢
    by_cases e : x = n
    · rw [if_pos e, e]
      unfold rankP
      rw [if_neg hcy, if_pos .here]; omega
    · rw [if_neg e] at hpp ⊢
      have hu : upS c x = (nd c x).parent := by unfold upS; rw [if_neg hpp]
      rw [← hu] at hpp ⊢
      exact rank_step e hpp (h.upS_lt hx' hpp).2
  · rw [eh x hx'] at hpp ⊢
    have e : x ≠ n := fun e => by rw [e, hnh] at hpp; exact hpp rfl
    have hk : (nd c x).parent = 0 := h.top x hx' (.inr (h.hst x hx' hpp).2.2)
    have hu : upS c x = (nd c x).host := by unfold upS; rw [if_pos hk]
    rw [← hu] at hpp ⊢
    exact rank_step e hpp (h.upS_lt hx' hpp).2
/-- A way up among the nodes with n cut is one among all. -/
theorem anc_cut {ns : List Nd} {r : Nat → Nat} (h : Snd ns r) {n : Nat} (hn : inR ns n) {x : Nat} (hx : inR ns x) (ha : Anc (cutL ns ((n : Nat) : Int)) n x) : Anc ns n x := by
  have key : ∀ m x, inR ns x → r x ≤ m → Anc (cutL ns ((n : Nat) : Int)) n x → Anc ns n x := by
    intro m
    induction m with
    | zero =>
      intro x hx hr ha
      by_cases e : x = n
      · rw [e]; exact .here
      · cases ha with
        | here => exact absurd rfl e
        | up h1 h2 =>
          have hu : upS (cutL ns ((n : Nat) : Int)) x = upS ns x := by
            unfold upS
            rw [nd_cut h hn hx, if_neg e]
            split <;> rfl
          rw [hu] at h1
          have := (h.upS_lt hx h1).2
          omega
    | succ m ih =>
      intro x hx hr ha
      by_cases e : x = n
      · rw [e]; exact .here
      · cases ha with
        | here => exact absurd rfl e
        | up h1 h2 =>
          have hu : upS (cutL ns ((n : Nat) : Int)) x = upS ns x := by
            unfold upS
            rw [nd_cut h hn hx, if_neg e]
            split <;> rfl
          rw [hu] at h1 h2
          obtain ⟨h3, h4⟩ := h.upS_lt hx h1
          exact .up h1 (ih _ h3 (by omega) h2)
  exact key _ x hx (Nat.le_refl _) ha
/-- Put leaves nodes that are linked well. -/
theorem Snd.put {ns : List Nd} {r : Nat → Nat} (h : Snd ns r) (p n b : Int) (he : putE ns p n b = 0) : ∃ r', Snd (putL ns p n b) r' := by
  unfold putE at he
  split at he
  · cases he
  · rename_i h1
    split at he
    · cases he
    · split at he
      · cases he
      · rename_i h3
        have hpi : isH ns.length p = true := by
          cases hh : isH ns.length p
          · exact absurd (.inl hh) h1
          · rfl
        have hni : isH ns.length n = true := by
          cases hh : isH ns.length n
          · exact absurd (.inr hh) h1
          · rfl
        obtain ⟨p, rfl, hp⟩ := isH_nat hpi
        obtain ⟨n, rfl, hn⟩ := isH_nat hni
        have g1 : mayParent (nd ns p).kind := Classical.not_not.1 fun g => h3 (.inl g)
        have g2 : (nd ns n).kind ≠ 1 := fun g => h3 (.inr (.inl g))
        have g3 : (nd ns n).kind ≠ 2 := fun g => h3 (.inr (.inr (.inl g)))
        have g4 : containsL ns ((n : Nat) : Int) ((p : Nat) : Int) = false := by
          cases hh : containsL ns ((n : Nat) : Int) ((p : Nat) : Int)
          · rfl
          · exact absurd (.inr (.inr (.inr hh))) h3
        have hcut := fun {x : Nat} (hx : inR ns x) => nd_cut (x := x) h hn hx
        have ek : ∀ x, inR ns x → (nd (cutL ns ((n : Nat) : Int)) x).kind = (nd ns x).kind := fun x hx => by
          rw [hcut hx]; split
          · rename_i e; rw [e]
          · split <;> rfl
        exact ⟨_, (h.cut hn).putC b (inR_cut.2 hp) (inR_cut.2 hn) (by rw [hcut hn, if_pos rfl]) (by rw [ek p hp]; exact g1) (by rw [ek n hn]; exact g2) (by rw [ek n hn]; exact g3)
          fun ha => containsL_anc h hn hp g4 (anc_cut h hn hp ha)⟩
/-- A new node that hangs nowhere. -/
theorem Snd.add {ns : List Nd} {r : Nat → Nat} (h : Snd ns r) {d : Nd} (hp : d.parent = 0) (hk : d.kids = []) (hc : d.contents = 0) (hh : d.host = 0) : Snd (ns ++ [d]) r := by
  have hd := nd_app_new (ns := ns) (ms := [d]) (j := 0) rfl
  have hi : ∀ x, inR (ns ++ [d]) x → inR ns x ∨ x = ns.length + 1 := fun x hx => by
    obtain ⟨h1, h2⟩ := hx
    simp only [List.length_append, List.length_cons, List.length_nil] at h2
    by_cases e : x ≤ ns.length
    · exact .inl ⟨h1, e⟩
    · exact .inr (by omega)
  have ho : ∀ x, inR ns x → nd (ns ++ [d]) x = nd ns x := fun x hx => nd_app hx
  have hn : nd (ns ++ [d]) (ns.length + 1) = d := hd.2
  refine ⟨fun x k hx hkk => ?_, fun x hx hpp => ?_, fun x hx => ?_, fun x hx hcc => ?_, fun x hx hhh => ?_, fun x hx hkk => ?_, fun x hx hkk => ?_, fun x hx hpp => ?_, fun x hx hpp => ?_⟩
  all_goals rcases hi x hx with hx' | rfl
  · rw [ho x hx'] at hkk
    obtain ⟨h1, h2⟩ := h.kid x k hx' hkk
    exact ⟨inR_app h1, by rw [ho k h1]; exact h2⟩
  · rw [hn, hk] at hkk; cases hkk
  · rw [ho x hx'] at hpp ⊢
    obtain ⟨h1, h2⟩ := h.par x hx' hpp
    exact ⟨inR_app h1, by rw [ho _ h1]; exact h2⟩
  · rw [hn, hp] at hpp; exact absurd rfl hpp
  · rw [ho x hx']; exact h.nod x hx'
  · rw [hn, hk]; exact List.nodup_nil
  · rw [ho x hx'] at hcc ⊢
    obtain ⟨h1, h2, h3⟩ := h.cts x hx' hcc
    exact ⟨inR_app h1, by rw [ho _ h1]; exact h2, by rw [ho _ h1]; exact h3⟩
  · rw [hn, hc] at hcc; exact absurd rfl hcc
  · rw [ho x hx'] at hhh ⊢
    obtain ⟨h1, h2, h3⟩ := h.hst x hx' hhh
    exact ⟨inR_app h1, by rw [ho _ h1]; exact h2, h3⟩
  · rw [hn, hh] at hhh; exact absurd rfl hhh
  · rw [ho x hx'] at hkk ⊢; exact h.top x hx' hkk
  · rw [hn]; exact hp
  · rw [ho x hx'] at hkk ⊢; exact h.may x hx' hkk
  · rw [hn] at hkk; exact absurd hk hkk
  · rw [ho x hx'] at hpp ⊢; exact h.rp x hx' hpp
  · rw [hn, hp] at hpp; exact absurd rfl hpp
  · rw [ho x hx'] at hpp ⊢; exact h.rh x hx' hpp
  · rw [hn, hh] at hpp; exact absurd rfl hpp
end Go.Proofs.YtdapdadcninidaaGreatDoor
