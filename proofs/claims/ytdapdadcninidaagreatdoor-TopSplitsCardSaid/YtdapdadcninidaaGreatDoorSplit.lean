/- Package dom: Split. No condition but that the nodes are linked well at the text. -/
import Derived.Test.YtdapdadcninidaaGreatDoorLoc
import Derived.Test.YtdapdadcninidaaGreatDoorDm2
import Derived.Test.YtdapdadcninidaaGreatDoorJoin
namespace Go.Proofs.YtdapdadcninidaaGreatDoor
open Go.RowKit
attribute [local go_sem ↓] Go.wp_at_zero Go.wp_at_succ
attribute [local go_sem] sapp
attribute [local go_sem] sext

/-- A description as it lies in a variable. -/
def nodeArr (d : Nd) (k1 : Option Addr) (k2 : Nat) (a1 : Option Addr) (a2 : Nat) : Array Value := #[.int .i64 d.kind, .int .i64 (d.parent : Nat), .slice k1 d.kids.length k2, .int .i64 (d.doc : Nat), .int .i64 d.space, .string ⟨d.name.toArray⟩, .slice a1 d.attrs.length a2, .string ⟨d.data.toArray⟩, .string ⟨d.pub.toArray⟩, .string ⟨d.sys.toArray⟩, .bool d.quirks, .int .i64 (d.contents : Nat), .int .i64 (d.host : Nat)]
/-- Text, where the document is one. -/
theorem Text_ok (doc : Nat) (l : List UInt8) (w : World) {B : Nat} {O : List Nat} {ns : List Nd} (hA : ArW B O ns w) (hl : ns.length ≤ 1000000) (hd : docE ns (doc : Int) = 0) :
    Calls Tryz.prog 11 #[.pointer (some ⟨B, 0, none⟩), .int .i64 (doc : Int), .string ⟨l.toArray⟩] w fun e w' => e = .returned (.tuple #[.int .i64 ((ns.length + 1 : Nat) : Int), .int .i64 0]) ∧ ∃ O', ArW B O' (ns ++ [{ kind := 5, data := l, doc := doc }]) w' ∧ AStep O w O' w' := by
  refine (Text_any doc l w hA hl).mono ?_
  rintro e w' (⟨h, _⟩ | ⟨_, rfl, O', h1, h2⟩)
  · exact absurd hd h
  · exact ⟨rfl, O', h1, h2⟩
theorem below_drewA {n : Nat} {w w' : World} (h : Below n w w') : Below n w w'.drew := ⟨h.os, h.tape, h.output, h.size, h.block⟩
theorem astep_drew {O O' : List Nat} {w w' : World} (h : AStep O w.drew O' w') : AStep O w O' w' := ⟨⟨h.mod.os, h.mod.tape, h.mod.output, h.mod.size, h.mod.block⟩, h.own⟩
/-- The error of Split. -/
def splitE (ns : List Nd) (h p : Int) : Int :=
  if isH ns.length h = false then 3 else if (ndAt ns h).kind ≠ 5 then 9 else if p < 0 ∨ ((ndAt ns h).data.length : Int) < p then 2 else 0
def spN1 (ns : List Nd) (h : Int) (p : Nat) : List Nd := ns ++ [{ kind := 5, data := (ndAt ns h).data.drop p, doc := (ndAt ns h).doc }]
def spN2 (ns : List Nd) (h : Int) (p : Nat) : List Nd := setD (spN1 ns h p) h ((ndAt ns h).data.take p)
noncomputable def spN3 (ns : List Nd) (h : Int) (p : Nat) : List Nd :=
  if (ndAt ns h).parent = 0 then spN2 ns h p else
  if putE (spN2 ns h p) (ndAt ns h).parent ((ns.length + 1 : Nat) : Int) (nextL (spN2 ns h p) h : Nat) = 0 then putL (spN2 ns h p) (ndAt ns h).parent ((ns.length + 1 : Nat) : Int) (nextL (spN2 ns h p) h : Nat) else spN2 ns h p
/-- What Split leans on where it splits. -/
structure SplitOk (ns : List Nd) (h : Int) (p : Nat) : Prop where
  doc : docE ns (ndAt ns h).doc = 0
  f1 : Fit (spN1 ns h p)
  f2 : Fit (spN2 ns h p)
  par : isH (spN2 ns h p).length h = true → (ndAt (spN2 ns h p) h).parent ≤ (spN2 ns h p).length
  ix : -1 ≤ indexAt (spN2 ns h p) h ∧ indexAt (spN2 ns h p) h ≤ 1000000
  put : PutOk (spN2 ns h p) (ndAt ns h).parent ((ns.length + 1 : Nat) : Int) (nextL (spN2 ns h p) h : Nat)
/-- Split's result. -/
def SplitQ (B : Nat) (O : List Nat) (ns : List Nd) (h p : Int) (w : World) (e : Ending) (w' : World) : Prop :=
  (splitE ns h p ≠ 0 ∧ e = .returned (.tuple #[.int .i64 0, .int .i64 (splitE ns h p)]) ∧ Below w.heap.size w w') ∨
  (splitE ns h p = 0 ∧ e = .returned (.tuple #[.int .i64 ((ns.length + 1 : Nat) : Int), .int .i64 0]) ∧ ∃ O', ArW B O' (spN3 ns h p.toNat) w' ∧ AStep O w O' w')
set_option maxRecDepth 100000 in
set_option maxHeartbeats 4000000 in
theorem Split_any (h p : Int) (w : World) {B : Nat} {O : List Nat} {ns : List Nd} (hA : ArW B O ns w) (hf : Fit ns) (hdl : (ndAt ns h).data.length ≤ 1000000000) (hok : splitE ns h p = 0 → SplitOk ns h p.toNat) :
    Calls Tryz.prog 14 #[.pointer (some ⟨B, 0, none⟩), .int .i64 h, .int .i64 p] w (SplitQ B O ns h p w) := by
  obtain ⟨W0, hW0⟩ : ∃ W0, w.alloc (.cells #[.int .i64 h] 3) = W0 := ⟨_, rfl⟩
  have b0 : Below w.heap.size w W0 := by rw [← hW0]; exact balloc w _
  have hbx : W0.heap[w.heap.size]? = some (.cells #[.int .i64 h] 3 (0, 0)) := by rw [← hW0]; exact World.alloc_heap_new w _
  have hs0 : W0.heap.size = w.heap.size + 1 := by rw [← hW0]; simp
  have hA0 := hA.later b0
  have H1 := checkD_any (B := B) (H := w.heap.size) (c := 1) (-1) [h] W0 hA0 hf (by intro j v hj; match j, hj with | 0, hj => simp at hj; subst hj; rw [cell_of_row _ _ _ _ _ _ hbx]; rfl) (by simp) (by omega)
  have HW := Lib.hid hW0
  have hck : chkD ns.length (-1) [h] = if isH ns.length h then 0 else 3 := by simp [chkD, chkFrom]
  rw [hck] at H1
  cases hh : isH ns.length h
  · have he : splitE ns h p = 3 := by simp [splitE, hh]
    rw [hh] at H1
    have HF := Lib.hid (fun (w1 : World) (hb : Below W0.heap.size W0 w1) => show SplitQ B O ns h p w (.returned (.tuple #[.int .i64 0, .int .i64 3])) w1 from .inl ⟨by rw [he]; decide, by rw [he], bthen b0 b0.size hb⟩)
    replace H1 := Lib.hid H1
    clear hh he hck hA hA0 b0 hbx hW0 hok hdl hf hs0
    go_enter Tryz.func14, Tryz.ntmps14
    go_wp2_with fail
    rw [HW.out]
    refine H1.out.mono ?_
    rintro e w1 ⟨rfl, b1⟩
    have HB1 := Lib.hid b1
    clear b1
    go_wp2_with fail
    go_ret2
    exact HF.out _ HB1.out
  · rw [hh] at H1
    have hda : descAt ns h = ndAt ns h := by simp [descAt, hh]
    have H2 := Lib.hid (fun w' (hb : Below W0.heap.size W0 w') => hda ▸ NodeD_any h w' (hA0.later hb) hf)
    replace H1 := Lib.hid H1
    have HSE : Hid (splitE ns h p = if (ndAt ns h).kind ≠ 5 then 9 else if p < 0 ∨ ((ndAt ns h).data.length : Int) < p then 2 else 0) := Lib.hid (by simp [splitE, hh])
    have HRef := Lib.hid (fun (er : Int) (w1 : World) (he : splitE ns h p = er) (hne : er ≠ 0) (hb : Below W0.heap.size W0 w1) => show SplitQ B O ns h p w (.returned (.tuple #[.int .i64 0, .int .i64 er])) w1 from .inl ⟨by rw [he]; exact hne, by rw [he], bthen b0 b0.size hb⟩)
    obtain ⟨d, hd⟩ : ∃ d, ndAt ns h = d := ⟨_, rfl⟩
    rw [hd] at H2 HSE hdl
    have HD := Lib.hid hd; have HA := Lib.hid hA; have HB0 := Lib.hid b0; have HOK := Lib.hid hok; have HF := Lib.hid hf; have HH := Lib.hid hh; have HA0 := Lib.hid hA0
    have HS0 := Lib.hid hs0
    clear hh hck hda hA hA0 b0 hbx hW0 hok hf hd hs0
    by_cases hk : d.kind = 5
    · have hk5 : (d.kind != 5) = false := by simpa using hk
      have HSE2 := Lib.hid (HSE.out.trans (if_neg (by simpa using hk)))
      clear HSE hk
      by_cases hp : p < 0 ∨ (d.data.length : Int) < p
      · have HFin := Lib.hid (fun w1 hb => HRef.out 2 w1 (HSE2.out.trans (if_pos hp)) (by decide) hb)
        clear HSE2 HRef HOK
        rcases hp with hp | hp
        all_goals
          first | (have hp0 : ¬ p < 0 := by omega) | skip
          go_enter Tryz.func14, Tryz.ntmps14
          go_wp2_with fail
          rw [HW.out]
          refine H1.out.mono ?_
          rintro e w1 ⟨rfl, b1⟩
          have H3 := Lib.hid (H2.out w1 b1)
          have HB1 := Lib.hid b1
          clear b1
          go_wp2_with fail
          refine H3.out.mono ?_
          rintro e w2 ⟨k1, k2, a1, a2, rfl, -, -, b2⟩
          have HB2 := Lib.hid b2
          clear b2
          go_wp2_with fail
          go_ret2
          exact HFin.out _ ((bthen HB1.out HB1.out.size HB2.out).alloc (Nat.le_trans HB1.out.size HB2.out.size) _)
      · obtain ⟨pn, rfl⟩ : ∃ pn : Nat, p = (pn : Int) := ⟨p.toNat, by omega⟩
        have hpl : pn ≤ d.data.length := by omega
        have hp0 : ¬ ((pn : Int) < 0) := by omega
        have hp1 : ¬ ((d.data.length : Int) < (pn : Int)) := by omega
        have hp2 : (pn : Int) ≤ (d.data.length : Int) := by omega
        have hp3 : (0 : Int) ≤ (pn : Int) := by omega
        have hE0 := HSE2.out.trans (if_neg hp)
        have hok := HOK.out hE0
        rw [Int.toNat_natCast] at hok
        have HE0 := Lib.hid hE0; have HO := Lib.hid hok
        clear hE0 hok HOK HSE2 HRef hp
        go_enter Tryz.func14, Tryz.ntmps14
        go_wp2_with fail
        rw [HW.out]
        refine H1.out.mono ?_
        rintro e w1 ⟨rfl, b1⟩
        have H3 := Lib.hid (H2.out w1 b1)
        have HB1 := Lib.hid b1
        clear b1
        go_wp2_with fail
        refine H3.out.mono ?_
        rintro e w2 ⟨k1, k2, a1, a2, rfl, -, -, b2⟩
        have HB2 := Lib.hid b2
        clear b2 H1 H2 H3
        go_wp2_with fail
        generalize hW6 : w2.alloc _ = W6
        have hnb : W6.heap[w2.heap.size]? = some (.cells (nodeArr d k1 k2 a1 a2) 55 (0, 0)) := by rw [← hW6]; exact World.alloc_heap_new w2 _
        have hb6 : Below w2.heap.size w2 W6 := by rw [← hW6]; exact balloc _ _
        have hs6 : W6.heap.size = w2.heap.size + 1 := by rw [← hW6]; simp
        have c1 : W6.cell? ⟨w2.heap.size, 1, none⟩ = some (.int .i64 (d.parent : Nat)) := cell_of_row _ _ 1 _ _ _ hnb
        have c3 : W6.cell? ⟨w2.heap.size, 3, none⟩ = some (.int .i64 (d.doc : Nat)) := cell_of_row _ _ 3 _ _ _ hnb
        have c7 : W6.cell? ⟨w2.heap.size, 7, none⟩ = some (.string ⟨d.data.toArray⟩) := cell_of_row _ _ 7 _ _ _ hnb
        have hb06 : Below w.heap.size w W6 := bthen (bthen (bthen HB0.out HB0.out.size HB1.out) (Nat.le_trans HB0.out.size HB1.out.size) HB2.out) (Nat.le_trans (Nat.le_trans HB0.out.size HB1.out.size) HB2.out.size) hb6
        have hw2 : w.heap.size ≤ w2.heap.size := Nat.le_trans (Nat.le_trans HB0.out.size HB1.out.size) HB2.out.size
        obtain ⟨N, hN⟩ : ∃ N, w.heap.size + N = W6.heap.size := ⟨W6.heap.size - w.heap.size, by omega⟩
        have L6 := Lib.hid (Loc.start (n := N) HA.out hb06 (by omega))
        have hloc : w.heap.size ≤ w2.heap.size ∧ w2.heap.size < w.heap.size + N := by omega
        have HN := Lib.hid hN
        have hdoc : docE ns (d.doc : Nat) = 0 := by have := HO.out.doc; rwa [HD.out] at this
        have HDOC := Lib.hid hdoc
        have hnb' := Lib.hid hnb
        clear hN hnb hb6 hs6 hb06 hdoc hW6
        go_region_with ((go_at_call 11
                         refine (Text_ok d.doc _ _ (by first | exact L6.out.ar | exact L6.out.drew.ar) HF.out.len HDOC.out).mono ?_
                         rintro e w7 ⟨rfl, O2, hA2, hs2'⟩
                         have hs2 : AStep O W6 O2 w7 := by first | exact hs2' | exact astep_drew hs2'
                         clear hs2'))
        all_goals
          have hX : ns ++ [({ kind := 5, doc := d.doc, data := List.take (d.data.length - pn) (List.drop pn d.data) } : Nd)] = spN1 ns h pn := by
            rw [spN1, HD.out, List.take_of_length_le (by rw [List.length_drop]; exact Nat.le_refl _)]
          rw [hX] at hA2
          have L7 := Lib.hid (L6.out.call hA2 hs2)
          have hk7 := L6.out.keep hs2 hloc
          have d1 := (heap_cell hk7 1).trans c1
          have d7 := (heap_cell hk7 7).trans c7
          clear hA2 hs2 hX hk7 c1 c3 c7
          go_wp2_with fail
          have hX : ∀ T, T = d.data.take pn → spN2 ns h pn = if setDataE (spN1 ns h pn) h = 0 then setNd (spN1 ns h pn) h { ndAt (spN1 ns h pn) h with data := T } else spN1 ns h pn := by rintro T rfl; rw [spN2, setD, HD.out]
          refine (SetData_any h _ w7 L7.out.ar HO.out.f1.len).mono ?_
          rintro e w8 hd
          obtain ⟨O3, hA3, hs3⟩ := hd.step L7.out.ar
          obtain ⟨rfl, -⟩ := hd
          rw [← hX _ (by simp)] at hA3
          have L8 := Lib.hid (L7.out.call hA3 hs3)
          have hk8 := L7.out.keep hs3 hloc
          have g1 := (heap_cell hk8 1).trans d1
          clear hA3 hs3 hX hk8 d1 d7 L7
          by_cases hpz : d.parent = 0
          · rw [hpz] at g1
            have HFI := Lib.hid (show SplitQ B O ns h (pn : Int) w (.returned (.tuple #[.int .i64 ((ns.length + 1 : Nat) : Int), .int .i64 0])) w8 from .inr ⟨HE0.out, rfl, O3, by
              rw [Int.toNat_natCast, spN3, if_pos (by rw [HD.out]; exact hpz)]; exact L8.out.ar, L8.out.step⟩)
            clear hpz
            go_wp2_with fail
            go_ret2
            exact HFI.out
          · have hpb : ((d.parent : Int) != 0) = true := by simpa using hpz
            have hi := HO.out.ix
            have H5 := Lib.hid (fun W (hb : Below w8.heap.size w8 W) => next_any h W (L8.out.below hb).ar HO.out.f2 HO.out.par hi)
            have hlt8 : w2.heap.size < w8.heap.size := World.block_lt_of_cell? _ _ g1
            have H6 := Lib.hid (fun w9 (hb : Below w8.heap.size w8 w9) => Put_any (d.parent : Nat) ((ns.length + 1 : Nat) : Int) (nextL (spN2 ns h pn) h : Nat) w9 (L8.out.below hb).ar HO.out.f2 (by have := HO.out.put; rwa [HD.out] at this))
            have HFI := Lib.hid (fun (w9 w10 : World) (e : Ending) (hb : Below w8.heap.size w8 w9) (hd : Did B O3 w9 (putE (spN2 ns h pn) (d.parent : Nat) ((ns.length + 1 : Nat) : Int) (nextL (spN2 ns h pn) h : Nat)) (putL (spN2 ns h pn) (d.parent : Nat) ((ns.length + 1 : Nat) : Int) (nextL (spN2 ns h pn) h : Nat)) e w10) =>
              show SplitQ B O ns h (pn : Int) w (.returned (.tuple #[.int .i64 ((ns.length + 1 : Nat) : Int), .int .i64 0])) w10 ∧ SplitQ B O ns h (pn : Int) w (.returned (.tuple #[.int .i64 ((ns.length + 1 : Nat) : Int), .int .i64 0])) w10.drew from by
                obtain ⟨O4, hA4, hs4⟩ := hd.step (L8.out.below hb).ar
                have L9 := (L8.out.below hb).call hA4 hs4
                have hn3 : spN3 ns h pn = if putE (spN2 ns h pn) (d.parent : Nat) ((ns.length + 1 : Nat) : Int) (nextL (spN2 ns h pn) h : Nat) = 0 then putL (spN2 ns h pn) (d.parent : Nat) ((ns.length + 1 : Nat) : Int) (nextL (spN2 ns h pn) h : Nat) else spN2 ns h pn := by rw [spN3, HD.out, if_neg hpz]
                rw [← hn3] at L9
                exact ⟨.inr ⟨HE0.out, rfl, O4, by rw [Int.toNat_natCast]; exact L9.ar, L9.step⟩, .inr ⟨HE0.out, rfl, O4, by rw [Int.toNat_natCast]; exact L9.drew.ar, L9.drew.step⟩⟩)
            obtain ⟨nx, hnx⟩ : ∃ nx : Int, ((nextL (spN2 ns h pn) h : Nat) : Int) = nx := ⟨_, rfl⟩
            obtain ⟨tn, htn⟩ : ∃ tn : Int, (ns.length : Int) + 1 = tn := ⟨_, rfl⟩
            have htn' : ((ns.length + 1 : Nat) : Int) = tn := by rw [← htn]; rfl
            rw [hnx, htn'] at H6 HFI
            rw [hnx] at H5
            rw [htn]
            clear hnx htn htn' hi hpz
            go_wp2_with fail
            go_region_with ((first
              | (go_at_call 54
                 refine (H5.out _ (by first | exact Below.refl _ _ | exact below_drewA (Below.refl _ _))).mono ?_
                 rintro e w9 ⟨rfl, b9'⟩
                 have b9 : Below w8.heap.size w8 w9 := by first | exact b9' | exact bdrew b9'
                 have g9 := (b9.cell (p := ⟨w2.heap.size, 1, none⟩) hlt8).trans g1
                 clear b9')
              | (go_at_call 12
                 refine (H6.out _ (by first | exact b9 | exact below_drewA b9)).mono ?_
                 rintro e w10 hd10
                 have HQ := Lib.hid (HFI.out _ _ _ (by first | exact b9 | exact below_drewA b9) hd10)
                 obtain ⟨rfl, -⟩ := hd10)))
            all_goals
              go_wp2_with fail
              go_ret2
              first | exact HQ.out.1 | exact HQ.out.2
    · have hk5 : (d.kind != 5) = true := by simpa using hk
      have HFin := Lib.hid (fun w1 hb => HRef.out 9 w1 (HSE.out.trans (if_pos hk)) (by decide) hb)
      clear HSE HRef hk HOK
      go_enter Tryz.func14, Tryz.ntmps14
      go_wp2_with fail
      rw [HW.out]
      refine H1.out.mono ?_
      rintro e w1 ⟨rfl, b1⟩
      have H3 := Lib.hid (H2.out w1 b1)
      have HB1 := Lib.hid b1
      clear b1
      go_wp2_with fail
      refine H3.out.mono ?_
      rintro e w2 ⟨k1, k2, a1, a2, rfl, -, -, b2⟩
      have HB2 := Lib.hid b2
      clear b2
      go_wp2_with fail
      go_ret2
      exact HFin.out _ ((bthen HB1.out HB1.out.size HB2.out).alloc (Nat.le_trans HB1.out.size HB2.out.size) _)
end Go.Proofs.YtdapdadcninidaaGreatDoor
