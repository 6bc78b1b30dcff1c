/- Package dom: element, doctype, crowded, the last rule, in all cases. No condition but that the arena fits. Package dom: the first rule that refuses a move; Validate, in all cases. No condition but that the arena fits and the way up ends. Package arena: what Element leaves: the new nodes stand behind the old ones; the limits. Plain. Package dom: Normalize. No condition but that the nodes are linked well and the trees end. Package dom: join and Normalize over the state: what they ask of the nodes holds; the limits behind them. Plain. -/
import Derived.Test.YtdapdadcninidaaGreatDoorM10
import Derived.Test.YtdapdadcninidaaGreatDoorM9
set_option linter.unusedSimpArgs false
set_option linter.unusedVariables false
namespace Go.Proofs.YtdapdadcninidaaGreatDoor
open Go.RowKit
attribute [local go_sem ↓] Go.wp_at_zero Go.wp_at_succ

set_option maxRecDepth 100000 in
set_option maxHeartbeats 4000000 in
theorem element_any (p n c : Int) (r : Bool) (w : World) {B : AB} {O : List Nat} {ns : List Nd} (hA : ArW B O ns w) (hf : Fit ns) :
    Calls Tryz.prog 210 #[mvV B p n c r] w (RBool w) := by
  have H1 := Lib.hid (fun w' (hb : Below w.heap.size w w') => split_any p n c r w' (hA.later hb) hf)
  have H2 := fun w' (hb : Below w.heap.size w w') => kind_any c w' (hA.later hb) hf
  generalize (descAt ns c).kind = z at *
  have H2 := Lib.hid H2
  unfold mvV at *
  clear hA hf
  go_enter Tryz.func210, Tryz.ntmps210
  go_wp2_with fail
  generalize hW : w.alloc _ = W0
  have MV := MvAt.start hW
  obtain ⟨m0, m1, m2, m3, m4⟩ := MV.cells
  clear hW
  have HMV := Lib.hid MV
  clear MV
  go_wp2_with fail
  refine (H1.out _ HMV.out.bl).mono ?_
  rintro e w1 ⟨l1, l2, a1, a2, c1, c2, rfl, ⟨R, hK⟩, hl1, hl2, b1⟩
  have q1 := Lib.hid (kContains_any l1 4 w1 (a := a1) (c := c1) hl1 (kinds_at (by have := hK.r1; rw [kCells_len] at this ⊢; exact this)))
  have q2 := Lib.hid (kContains_any l2 4 w1 (a := a2) (c := c2) hl2 (kinds_at (by have := hK.r2; rw [kCells_len] at this ⊢; exact this)))
  have q3 := Lib.hid (kContains_any l2 3 w1 (a := a2) (c := c2) hl2 (kinds_at (by have := hK.r2; rw [kCells_len] at this ⊢; exact this)))
  have MV1 := HMV.out.step b1
  obtain ⟨m0, m1, m2, m3, m4⟩ := MV1.cells
  have HM1 := Lib.hid MV1
  clear hK b1 H1 HMV MV1
  generalize l1.contains 4 = t1 at *
  generalize l2.contains 4 = t2 at *
  generalize l2.contains 3 = t3 at *
  have HE := Lib.hid (fun (b : Bool) (w' : World) (hb : Below w.heap.size w w') => show RBool w (.returned (.bool b)) w' from ⟨b, rfl, hb⟩)
  have H3 := Lib.hid (H2.out w1 HM1.out.bl)
  cases t1
  · go_wp2_with fail
    refine q1.out.mono ?_
    rintro e w2 ⟨rfl, rfl⟩
    cases t2
    · go_wp2_with fail
      refine q2.out.mono ?_
      rintro e w2 ⟨rfl, rfl⟩
      cases t3
      · go_wp2_with fail
        refine q3.out.mono ?_
        rintro e w2 ⟨rfl, rfl⟩
        cases r
        · by_cases hc : c = 0
          · subst hc
            go_wp2_with fail
            go_ret
            exact HE.out _ _ HM1.out.bl
          · have hcb : (c != 0) = true := by simpa using hc
            clear hc
            go_wp2_with fail
            refine H3.out.mono ?_
            rintro e w3 ⟨rfl, b3⟩
            have MV3 := HM1.out.step b3
            obtain ⟨m0, m1, m2, m3, m4⟩ := MV3.cells
            have HM3 := Lib.hid MV3
            clear MV3 b3 H3
            cases hz : (z == 4)
            · have H4 := Lib.hid (H2.out w3 HM3.out.bl)
              go_wp2_with fail
              refine H4.out.mono ?_
              rintro e w4 ⟨rfl, b4⟩
              have HM4 := Lib.hid (HM3.out.step b4).bl
              clear b4 H4
              go_wp2_with fail
              go_ret
              exact HE.out _ _ HM4.out
            · go_wp2_with fail
              go_ret
              exact HE.out _ _ HM3.out.bl
        · go_wp2_with fail
          go_ret
          exact HE.out _ _ HM1.out.bl
      · go_wp2_with fail
        refine q3.out.mono ?_
        rintro e w2 ⟨rfl, rfl⟩
        go_wp2_with fail
        go_ret
        exact HE.out _ _ HM1.out.bl
    · go_wp2_with fail
      refine q2.out.mono ?_
      rintro e w2 ⟨rfl, rfl⟩
      go_wp2_with fail
      go_ret
      exact HE.out _ _ HM1.out.bl
  · go_wp2_with fail
    refine q1.out.mono ?_
    rintro e w2 ⟨rfl, rfl⟩
    go_wp2_with fail
    go_ret
    exact HE.out _ _ HM1.out.bl
set_option maxRecDepth 100000 in
set_option maxHeartbeats 4000000 in
theorem doctype_any (p n c : Int) (r : Bool) (w : World) {B : AB} {O : List Nat} {ns : List Nd} (hA : ArW B O ns w) (hf : Fit ns) :
    Calls Tryz.prog 211 #[mvV B p n c r] w (RBool w) := by
  have H1 := Lib.hid (fun w' (hb : Below w.heap.size w w') => split_any p n c r w' (hA.later hb) hf)
  have H2 := fun w' (hb : Below w.heap.size w w') => kind_any c w' (hA.later hb) hf
  generalize (descAt ns c).kind = z at *
  have H2 := Lib.hid H2
  unfold mvV at *
  clear hA hf
  go_enter Tryz.func211, Tryz.ntmps211
  go_wp2_with fail
  generalize hW : w.alloc _ = W0
  have MV := MvAt.start hW
  obtain ⟨m0, m1, m2, m3, m4⟩ := MV.cells
  clear hW
  have HMV := Lib.hid MV
  clear MV
  go_wp2_with fail
  refine (H1.out _ HMV.out.bl).mono ?_
  rintro e w1 ⟨l1, l2, a1, a2, c1, c2, rfl, ⟨R, hK⟩, hl1, hl2, b1⟩
  have q1 := Lib.hid (kContains_any l1 3 w1 (a := a1) (c := c1) hl1 (kinds_at (by have := hK.r1; rw [kCells_len] at this ⊢; exact this)))
  have q2 := Lib.hid (kContains_any l2 3 w1 (a := a2) (c := c2) hl2 (kinds_at (by have := hK.r2; rw [kCells_len] at this ⊢; exact this)))
  have q3 := Lib.hid (kContains_any l1 4 w1 (a := a1) (c := c1) hl1 (kinds_at (by have := hK.r1; rw [kCells_len] at this ⊢; exact this)))
  have MV1 := HMV.out.step b1
  obtain ⟨m0, m1, m2, m3, m4⟩ := MV1.cells
  have HM1 := Lib.hid MV1
  clear hK b1 H1 HMV MV1
  generalize l1.contains 3 = t1 at *
  generalize l2.contains 3 = t2 at *
  generalize l1.contains 4 = t3 at *
  have HE := Lib.hid (fun (b : Bool) (w' : World) (hb : Below w.heap.size w w') => show RBool w (.returned (.bool b)) w' from ⟨b, rfl, hb⟩)
  have H3 := Lib.hid (H2.out w1 HM1.out.bl)
  cases t1
  · go_wp2_with fail
    refine q1.out.mono ?_
    rintro e w2 ⟨rfl, rfl⟩
    cases t2
    · go_wp2_with fail
      refine q2.out.mono ?_
      rintro e w2 ⟨rfl, rfl⟩
      cases t3
      · go_wp2_with fail
        refine q3.out.mono ?_
        rintro e w2 ⟨rfl, rfl⟩
        cases r
        · by_cases hc : c = 0
          · subst hc
            go_wp2_with fail
            go_ret
            exact HE.out _ _ HM1.out.bl
          · have hcb : (c != 0) = true := by simpa using hc
            clear hc
            go_wp2_with fail
            refine H3.out.mono ?_
            rintro e w3 ⟨rfl, b3⟩
            have HB3 := Lib.hid (HM1.out.step b3).bl
            clear b3 H3
            go_wp2_with fail
            go_ret
            exact HE.out _ _ HB3.out
        · go_wp2_with fail
          go_ret
          exact HE.out _ _ HM1.out.bl
      · go_wp2_with fail
        refine q3.out.mono ?_
        rintro e w2 ⟨rfl, rfl⟩
        go_wp2_with fail
        go_ret
        exact HE.out _ _ HM1.out.bl
    · go_wp2_with fail
      refine q2.out.mono ?_
      rintro e w2 ⟨rfl, rfl⟩
      go_wp2_with fail
      go_ret
      exact HE.out _ _ HM1.out.bl
  · go_wp2_with fail
    refine q1.out.mono ?_
    rintro e w2 ⟨rfl, rfl⟩
    go_wp2_with fail
    go_ret
    exact HE.out _ _ HM1.out.bl
set_option maxRecDepth 100000 in
set_option maxHeartbeats 4000000 in
theorem crowded_any (p n c : Int) (r : Bool) (w : World) {B : AB} {O : List Nat} {ns : List Nd} (hA : ArW B O ns w) (hf : Fit ns) :
    Calls Tryz.prog 196 #[mvV B p n c r] w (RBool w) := by
  have H1 := Lib.hid (fun (x : Int) w' (hb : Below w.heap.size w w') => kind_any x w' (hA.later hb) hf)
  have H2 := Lib.hid (fun w' (hb : Below w.heap.size w w') => Kids_any n w' (hA.later hb) hf.len (hf.kids n))
  have H3 := Lib.hid (fun w' (hb : Below w.heap.size w w') => element_any p n c r w' (hA.later hb) hf)
  have H4 := Lib.hid (fun w' (hb : Below w.heap.size w w') => doctype_any p n c r w' (hA.later hb) hf)
  have HE := Lib.hid (fun (b : Bool) (w' : World) (hb : Below w.heap.size w w') => show RBool w (.returned (.bool b)) w' from ⟨b, rfl, hb⟩)
  have hkl := hf.kids n
  generalize kidsAt ns n = ks at *
  unfold mvV at *
  clear hA hf
  go_enter Tryz.func196, Tryz.ntmps196
  go_wp2_with fail
  generalize hW : w.alloc _ = W0
  have MV := MvAt.start hW
  obtain ⟨m0, m1, m2, m3, m4⟩ := MV.cells
  clear hW
  go_wp2_with fail
  refine (H1.out n _ MV.bl).mono ?_
  rintro e w1 ⟨rfl, b1⟩
  generalize (descAt ns n).kind = z at *
  have MV1 := MV.step b1
  clear b1 m0 m1 m2 m3 m4 MV
  obtain ⟨m0, m1, m2, m3, m4⟩ := MV1.cells
  have HM1 := Lib.hid MV1
  clear MV1
  by_cases h2 : z = 2
  · subst h2
    go_wp2_with fail
    refine (H2.out w1 HM1.out.bl).mono ?_
    rintro e w2 ⟨v, rfl, hr, b2⟩
    obtain ⟨ka, kc, rfl⟩ := ownsRow_slice hr
    have HM2 := Lib.hid (HM1.out.step b2)
    have HR := Lib.hid hr
    clear hr b2 HM1 m0 m1 m2 m3 m4
    go_wp2_with fail
    go_loopw [3, 19] (fun s3 i wr => ∃ (j q : Nat), j ≤ ks.length ∧ i = .int .i64 (j : Nat) ∧ s3 = .int .i64 (q : Nat) ∧ q ≤ j ∧ Below w2.heap.size w2 wr) (fun _ i _ => ks.length - (intOf i).toNat)
    case atStart => exact ⟨0, 0, Nat.zero_le _, rfl, rfl, Nat.le_refl _, Below.refl _ _⟩
    case round =>
      obtain ⟨j, q, hj, rfl, rfl, hq, hb⟩ := hrel
      have MVr := HM2.out.step hb
      obtain ⟨m0, m1, m2, m3, m4⟩ := MVr.cells
      have HMV := Lib.hid MVr
      have HB := Lib.hid hb
      clear MVr
      by_cases hlt : j < ks.length
      · obtain ⟨gk, rfl⟩ := row_someA HR.out (by omega)
        have hcell := row_at (ownsRow_below HR.out hb) j (natV ks[j]) (by simp [kidCells, hlt])
        obtain ⟨k, hk⟩ : ∃ k, ks[j] = k := ⟨_, rfl⟩
        rw [hk] at hcell
        have hji : (j : Int) < (ks.length : Int) := by omega
        simp only [natV] at hcell
        clear hk hb
        have H5 := Lib.hid (H1.out k wr HMV.out.bl)
        go_wp2_with fail
        refine H5.out.mono ?_
        rintro e w3 ⟨rfl, b3⟩
        generalize (descAt ns k).kind = y at *
        have HB3 := Lib.hid (bthen HB.out HB.out.size b3)
        have HM3 := Lib.hid (HMV.out.step b3).bl
        clear b3 H5
        by_cases h5 : y = 5
        · subst h5
          go_wp2_with fail
          go_ret
          exact HE.out _ _ HM3.out
        · have h5b : (y == 5) = false := by simpa using h5
          clear h5
          cases h4 : (y == 4)
          · go_wp2_with fail
            go_roundw
            case rel => exact ⟨j + 1, q, by omega, by go_num, rfl, by omega, HB3.out⟩
            case measure => simp [intOf]; omega
          · go_wp2_with fail
            go_roundw
            case rel => exact ⟨j + 1, q + 1, by omega, by go_num, by go_num, by omega, HB3.out⟩
            case measure => simp [intOf]; omega
      · clear hb
        have H5 := Lib.hid (H3.out wr HMV.out.bl)
        by_cases h1 : 1 < q
        · have h1i : (1 : Int) < (q : Int) := by omega
          go_wp2_with fail
          go_ret
          exact HE.out _ _ HMV.out.bl
        · by_cases h0 : q = 1
          · subst h0
            go_wp2_with fail
            refine H5.out.mono ?_
            rintro e w3 ⟨b, rfl, b3⟩
            have HB3 := Lib.hid (HMV.out.step b3).bl
            clear b3 H5
            go_wp2_with fail
            go_ret
            exact HE.out _ _ HB3.out
          · obtain rfl : q = 0 := by omega
            go_wp2_with fail
            go_ret
            exact HE.out _ _ HMV.out.bl
  · have h2b : (z == 2) = false := by simpa using h2
    clear h2
    cases h4 : (z == 4)
    · cases h3 : (z == 3)
      · go_wp2_with fail
        go_ret
        exact HE.out _ _ HM1.out.bl
      · go_wp2_with fail
        refine (H4.out w1 HM1.out.bl).mono ?_
        rintro e w2 ⟨b, rfl, b2⟩
        have HB2 := Lib.hid (HM1.out.step b2).bl
        clear b2
        go_wp2_with fail
        go_ret
        exact HE.out _ _ HB2.out
    · go_wp2_with fail
      refine (H3.out w1 HM1.out.bl).mono ?_
      rintro e w2 ⟨b, rfl, b2⟩
      have HB2 := Lib.hid (HM1.out.step b2).bl
      clear b2
      go_wp2_with fail
      go_ret
      exact HE.out _ _ HB2.out
set_option maxRecDepth 100000 in
theorem rule6_any (p n c : Int) (r : Bool) (w : World) {B : AB} {O : List Nat} {ns : List Nd} (hA : ArW B O ns w) (hf : Fit ns) :
    Calls Tryz.prog 195 #[mvV B p n c r] w (RBool w) := by
  have H1 := Lib.hid (fun w' (hb : Below w.heap.size w w') => kind_any p w' (hA.later hb) hf)
  have H2 := Lib.hid (fun w' (hb : Below w.heap.size w w') => crowded_any p n c r w' (hA.later hb) hf)
  have HE := Lib.hid (fun (b : Bool) (w' : World) (hb : Below w.heap.size w w') => show RBool w (.returned (.bool b)) w' from ⟨b, rfl, hb⟩)
  generalize (descAt ns p).kind = kp at *
  unfold mvV at *
  clear hA hf
  go_enter Tryz.func195, Tryz.ntmps195
  go_wp2_with fail
  generalize hW : w.alloc _ = W0
  have MV := MvAt.start hW
  obtain ⟨m0, m1, m2, m3, m4⟩ := MV.cells
  clear hW
  go_wp2_with fail
  refine (H1.out _ MV.bl).mono ?_
  rintro e w1 ⟨rfl, b1⟩
  have MV1 := MV.step b1
  clear b1 H1 m0 m1 m2 m3 m4 MV
  obtain ⟨m0, m1, m2, m3, m4⟩ := MV1.cells
  have HM1 := Lib.hid MV1
  clear MV1
  cases hp : (kp == 1)
  · go_wp2_with fail
    go_ret
    exact HE.out _ _ HM1.out.bl
  · go_wp2_with fail
    refine (H2.out _ HM1.out.bl).mono ?_
    rintro e w2 ⟨b, rfl, b2⟩
    have HB2 := Lib.hid (HM1.out.step b2).bl
    clear b2
    go_wp2_with fail
    go_ret
    exact HE.out _ _ HB2.out
end Go.Proofs.YtdapdadcninidaaGreatDoor
namespace Go.Proofs.YtdapdadcninidaaGreatDoor
open Go.RowKit
attribute [local go_sem ↓] Go.wp_at_zero Go.wp_at_succ
attribute [local go_sem] run_store_func

/-- The rules answer, whatever. -/
structure RulW (m : Value) (w : World) : Prop where
  h1 : ∀ w', Below w.heap.size w w' → Calls Tryz.prog 190 #[m] w' (RBool w')
  h2 : ∀ w', Below w.heap.size w w' → Calls Tryz.prog 191 #[m] w' (RBool w')
  h3 : ∀ w', Below w.heap.size w w' → Calls Tryz.prog 192 #[m] w' (RBool w')
  h4 : ∀ w', Below w.heap.size w w' → Calls Tryz.prog 193 #[m] w' (RBool w')
  h5 : ∀ w', Below w.heap.size w w' → Calls Tryz.prog 194 #[m] w' (RBool w')
  h6 : ∀ w', Below w.heap.size w w' → Calls Tryz.prog 195 #[m] w' (RBool w')
theorem rulW_any (p n c : Int) (r : Bool) (w : World) {B : AB} {O : List Nat} {ns : List Nd} (hA : ArW B O ns w) (hf : Fit ns) (hup : isH ns.length p = true → ∃ xs, Up ns true p xs) : RulW (mvV B p n c r) w :=
  ⟨fun w' hb => (rule1_any p n c r w' (hA.later hb) hf).mono fun _ _ h => h.b, fun w' hb => (rule2_any p n c r w' (hA.later hb) hf hup).mono fun _ _ h => h.b, fun w' hb => (rule3_any p n c r w' (hA.later hb) hf).mono fun _ _ h => h.b,
    fun w' hb => (rule4_any p n c r w' (hA.later hb) hf).mono fun _ _ h => h.b, fun w' hb => (rule5_any p n c r w' (hA.later hb) hf).mono fun _ _ h => h.b, fun w' hb => rule6_any p n c r w' (hA.later hb) hf⟩
/-- Some error number; the world is left. -/
def RetE (w : World) (e : Ending) (w' : World) : Prop := ∃ er : Int, e = .returned (.int .i64 er) ∧ Below w.heap.size w w'
set_option maxRecDepth 100000 in
set_option maxHeartbeats 2000000 in
theorem refusedW (p n c : Int) (r : Bool) (w : World) {B : Nat} (hR : RulW (mvV B p n c r) w) :
    Calls Tryz.prog 118 #[mvV B p n c r] w (RetE w) := by
  have HR := Lib.hid hR
  have HQ := Lib.hid rules_any
  clear hR
  unfold mvV at *
  go_enter Tryz.func118, Tryz.ntmps118
  go_wp2_with fail
  generalize hW : w.alloc _ = W0
  have mb : W0.heap[w.heap.size]? = some (.cells #[.pointer (some ⟨B, 0, none⟩), .int .i64 p, .int .i64 n, .int .i64 c, .bool r] 173 (0, 0)) := by rw [← hW]; exact World.alloc_heap_new w _
  have hB := balloc w (.cells #[.pointer (some ⟨B, 0, none⟩), .int .i64 p, .int .i64 n, .int .i64 c, .bool r] 173)
  rw [hW] at hB
  have hs0 : W0.heap.size = w.heap.size + 1 := by rw [← hW]; simp
  refine (HQ.out W0).mono ?_
  rintro e w1 ⟨rfl, rfl⟩
  generalize hW1 : W0.alloc _ = W1
  have rb : W1.heap[W0.heap.size]? = some (.cells rulesRow 211 (0, 0)) := by rw [← hW1]; exact World.alloc_heap_new W0 _
  have hB1 : Below w.heap.size w W1 := by rw [← hW1]; exact hB.alloc hB.size _
  have mb1 : W1.heap[w.heap.size]? = some (.cells #[.pointer (some ⟨B, 0, none⟩), .int .i64 p, .int .i64 n, .int .i64 c, .bool r] 173 (0, 0)) := by rw [← hW1]; exact (Below.heap_alloc W0 _ _ (by omega)).trans mb
  rw [hs0] at rb ⊢
  have hs1 : W1.heap.size = w.heap.size + 2 := by rw [← hW1]; simp [hs0]
  have HB1 := Lib.hid hB1; have RB := Lib.hid rb; have MB := Lib.hid mb1; have HS1 := Lib.hid hs1
  clear hW hW1 mb hB hs0 rb hB1 mb1 hs1 HQ
  go_wp2_with fail
  go_loopw [7] (fun i wr => ∃ k : Nat, k ≤ 6 ∧ i = .int .i64 k ∧ Below (w.heap.size + 2) W1 wr ∧ w.heap.size + 2 ≤ wr.heap.size) (fun i _ => 6 - (intOf i).toNat)
  case atStart => exact ⟨0, Nat.zero_le _, rfl, by rw [← HS1.out]; exact Below.refl _ _, by rw [HS1.out]; exact Nat.le_refl _⟩
  case round =>
    obtain ⟨k, hk, rfl, hbw, hsw⟩ := hrel
    have rbw := (hbw.block (w.heap.size + 1) (by omega)).trans RB.out
    have mbw := (hbw.block w.heap.size (by omega)).trans MB.out
    have hbb : Below w.heap.size w wr := HB1.out.trans (hbw.mono (by omega))
    have HBB := Lib.hid hbb; have HBW := Lib.hid hbw; have HSW := Lib.hid hsw
    have mbo : ∀ o, (wr.alloc o).heap[w.heap.size]? = some (.cells #[.pointer (some ⟨B, 0, none⟩), .int .i64 p, .int .i64 n, .int .i64 c, .bool r] 173 (0, 0)) := fun o => (Below.heap_alloc wr o _ (by omega)).trans mbw
    have q0 : ∀ o, (wr.alloc o).cell? ⟨w.heap.size, 0, none⟩ = some (.pointer (some ⟨B, 0, none⟩)) := fun o => by rw [cell_of_row _ _ _ _ _ _ (mbo o)]; rfl
    have q1 : ∀ o, (wr.alloc o).cell? ⟨w.heap.size, 1, none⟩ = some (.int .i64 p) := fun o => by rw [cell_of_row _ _ _ _ _ _ (mbo o)]; rfl
    have q2 : ∀ o, (wr.alloc o).cell? ⟨w.heap.size, 2, none⟩ = some (.int .i64 n) := fun o => by rw [cell_of_row _ _ _ _ _ _ (mbo o)]; rfl
    have q3 : ∀ o, (wr.alloc o).cell? ⟨w.heap.size, 3, none⟩ = some (.int .i64 c) := fun o => by rw [cell_of_row _ _ _ _ _ _ (mbo o)]; rfl
    have q4 : ∀ o, (wr.alloc o).cell? ⟨w.heap.size, 4, none⟩ = some (.bool r) := fun o => by rw [cell_of_row _ _ _ _ _ _ (mbo o)]; rfl
    have HRB := Lib.hid rbw
    clear rbw mbw hbb hbw hsw mbo
    rcases (show k = 6 ∨ k = 0 ∨ k = 1 ∨ k = 2 ∨ k = 3 ∨ k = 4 ∨ k = 5 by omega) with rfl | rfl | rfl | rfl | rfl | rfl | rfl
    · go_wp2
      go_ret
      exact ⟨_, rfl, HBB.out⟩
    · have r0 : wr.cell? ⟨w.heap.size + 1, 0, none⟩ = some (.func (.func 190) #[] #[]) := by rw [cell_of_row _ _ _ _ _ _ HRB.out]; rfl
      have r1 : wr.cell? ⟨w.heap.size + 1, 1, none⟩ = some (.int .i64 4) := by rw [cell_of_row _ _ _ _ _ _ HRB.out]; rfl
      go_wp2_with fail
      refine (HR.out.h1 _ (HBB.out.alloc HBB.out.size _)).mono ?_
      rintro e w3 ⟨b, rfl, b3⟩
      have e1 : w3.cell? ⟨wr.heap.size, 1, none⟩ = some (.int .i64 4) := (b3.cell (p := ⟨wr.heap.size, 1, none⟩) (by simp)).trans (by simp)
      have HB3 := Lib.hid (bthen (HBB.out.alloc HBB.out.size _) (Nat.le_trans HBB.out.size (by simp)) b3)
      have HL3 := Lib.hid ((HBW.out.trans ((balloc wr _).mono HSW.out)).trans (b3.mono (by have := HSW.out; simp; omega)))
      have HS3 := Lib.hid (show w.heap.size + 2 ≤ w3.heap.size by have := HSW.out; have := b3.size; simp at this; omega)
      clear b3 r0 r1 q0 q1 q2 q3 q4
      cases b
      · go_wp2_with fail
        go_roundw
        case rel => exact ⟨1, by omega, rfl, HL3.out, HS3.out⟩
        case measure => simp [intOf]
      · go_wp2_with fail
        go_ret
        exact ⟨_, rfl, HB3.out⟩
    · have r0 : wr.cell? ⟨w.heap.size + 1, 2, none⟩ = some (.func (.func 191) #[] #[]) := by rw [cell_of_row _ _ _ _ _ _ HRB.out]; rfl
      have r1 : wr.cell? ⟨w.heap.size + 1, 3, none⟩ = some (.int .i64 4) := by rw [cell_of_row _ _ _ _ _ _ HRB.out]; rfl
      go_wp2_with fail
      refine (HR.out.h2 _ (HBB.out.alloc HBB.out.size _)).mono ?_
      rintro e w3 ⟨b, rfl, b3⟩
      have e1 : w3.cell? ⟨wr.heap.size, 1, none⟩ = some (.int .i64 4) := (b3.cell (p := ⟨wr.heap.size, 1, none⟩) (by simp)).trans (by simp)
      have HB3 := Lib.hid (bthen (HBB.out.alloc HBB.out.size _) (Nat.le_trans HBB.out.size (by simp)) b3)
      have HL3 := Lib.hid ((HBW.out.trans ((balloc wr _).mono HSW.out)).trans (b3.mono (by have := HSW.out; simp; omega)))
      have HS3 := Lib.hid (show w.heap.size + 2 ≤ w3.heap.size by have := HSW.out; have := b3.size; simp at this; omega)
      clear b3 r0 r1 q0 q1 q2 q3 q4
      cases b
      · go_wp2_with fail
        go_roundw
        case rel => exact ⟨2, by omega, rfl, HL3.out, HS3.out⟩
        case measure => simp [intOf]
      · go_wp2_with fail
        go_ret
        exact ⟨_, rfl, HB3.out⟩
    · have r0 : wr.cell? ⟨w.heap.size + 1, 4, none⟩ = some (.func (.func 192) #[] #[]) := by rw [cell_of_row _ _ _ _ _ _ HRB.out]; rfl
      have r1 : wr.cell? ⟨w.heap.size + 1, 5, none⟩ = some (.int .i64 5) := by rw [cell_of_row _ _ _ _ _ _ HRB.out]; rfl
      go_wp2_with fail
      refine (HR.out.h3 _ (HBB.out.alloc HBB.out.size _)).mono ?_
      rintro e w3 ⟨b, rfl, b3⟩
      have e1 : w3.cell? ⟨wr.heap.size, 1, none⟩ = some (.int .i64 5) := (b3.cell (p := ⟨wr.heap.size, 1, none⟩) (by simp)).trans (by simp)
      have HB3 := Lib.hid (bthen (HBB.out.alloc HBB.out.size _) (Nat.le_trans HBB.out.size (by simp)) b3)
      have HL3 := Lib.hid ((HBW.out.trans ((balloc wr _).mono HSW.out)).trans (b3.mono (by have := HSW.out; simp; omega)))
      have HS3 := Lib.hid (show w.heap.size + 2 ≤ w3.heap.size by have := HSW.out; have := b3.size; simp at this; omega)
      clear b3 r0 r1 q0 q1 q2 q3 q4
      cases b
      · go_wp2_with fail
        go_roundw
        case rel => exact ⟨3, by omega, rfl, HL3.out, HS3.out⟩
        case measure => simp [intOf]
      · go_wp2_with fail
        go_ret
        exact ⟨_, rfl, HB3.out⟩
    · have r0 : wr.cell? ⟨w.heap.size + 1, 6, none⟩ = some (.func (.func 193) #[] #[]) := by rw [cell_of_row _ _ _ _ _ _ HRB.out]; rfl
      have r1 : wr.cell? ⟨w.heap.size + 1, 7, none⟩ = some (.int .i64 4) := by rw [cell_of_row _ _ _ _ _ _ HRB.out]; rfl
      go_wp2_with fail
      refine (HR.out.h4 _ (HBB.out.alloc HBB.out.size _)).mono ?_
      rintro e w3 ⟨b, rfl, b3⟩
      have e1 : w3.cell? ⟨wr.heap.size, 1, none⟩ = some (.int .i64 4) := (b3.cell (p := ⟨wr.heap.size, 1, none⟩) (by simp)).trans (by simp)
      have HB3 := Lib.hid (bthen (HBB.out.alloc HBB.out.size _) (Nat.le_trans HBB.out.size (by simp)) b3)
      have HL3 := Lib.hid ((HBW.out.trans ((balloc wr _).mono HSW.out)).trans (b3.mono (by have := HSW.out; simp; omega)))
      have HS3 := Lib.hid (show w.heap.size + 2 ≤ w3.heap.size by have := HSW.out; have := b3.size; simp at this; omega)
      clear b3 r0 r1 q0 q1 q2 q3 q4
      cases b
      · go_wp2_with fail
        go_roundw
        case rel => exact ⟨4, by omega, rfl, HL3.out, HS3.out⟩
        case measure => simp [intOf]
      · go_wp2_with fail
        go_ret
        exact ⟨_, rfl, HB3.out⟩
    · have r0 : wr.cell? ⟨w.heap.size + 1, 8, none⟩ = some (.func (.func 194) #[] #[]) := by rw [cell_of_row _ _ _ _ _ _ HRB.out]; rfl
      have r1 : wr.cell? ⟨w.heap.size + 1, 9, none⟩ = some (.int .i64 4) := by rw [cell_of_row _ _ _ _ _ _ HRB.out]; rfl
      go_wp2_with fail
      refine (HR.out.h5 _ (HBB.out.alloc HBB.out.size _)).mono ?_
      rintro e w3 ⟨b, rfl, b3⟩
      have e1 : w3.cell? ⟨wr.heap.size, 1, none⟩ = some (.int .i64 4) := (b3.cell (p := ⟨wr.heap.size, 1, none⟩) (by simp)).trans (by simp)
      have HB3 := Lib.hid (bthen (HBB.out.alloc HBB.out.size _) (Nat.le_trans HBB.out.size (by simp)) b3)
      have HL3 := Lib.hid ((HBW.out.trans ((balloc wr _).mono HSW.out)).trans (b3.mono (by have := HSW.out; simp; omega)))
      have HS3 := Lib.hid (show w.heap.size + 2 ≤ w3.heap.size by have := HSW.out; have := b3.size; simp at this; omega)
      clear b3 r0 r1 q0 q1 q2 q3 q4
      cases b
      · go_wp2_with fail
        go_roundw
        case rel => exact ⟨5, by omega, rfl, HL3.out, HS3.out⟩
        case measure => simp [intOf]
      · go_wp2_with fail
        go_ret
        exact ⟨_, rfl, HB3.out⟩
    · have r0 : wr.cell? ⟨w.heap.size + 1, 10, none⟩ = some (.func (.func 195) #[] #[]) := by rw [cell_of_row _ _ _ _ _ _ HRB.out]; rfl
      have r1 : wr.cell? ⟨w.heap.size + 1, 11, none⟩ = some (.int .i64 4) := by rw [cell_of_row _ _ _ _ _ _ HRB.out]; rfl
      go_wp2_with fail
      refine (HR.out.h6 _ (HBB.out.alloc HBB.out.size _)).mono ?_
      rintro e w3 ⟨b, rfl, b3⟩
      have e1 : w3.cell? ⟨wr.heap.size, 1, none⟩ = some (.int .i64 4) := (b3.cell (p := ⟨wr.heap.size, 1, none⟩) (by simp)).trans (by simp)
      have HB3 := Lib.hid (bthen (HBB.out.alloc HBB.out.size _) (Nat.le_trans HBB.out.size (by simp)) b3)
      have HL3 := Lib.hid ((HBW.out.trans ((balloc wr _).mono HSW.out)).trans (b3.mono (by have := HSW.out; simp; omega)))
      have HS3 := Lib.hid (show w.heap.size + 2 ≤ w3.heap.size by have := HSW.out; have := b3.size; simp at this; omega)
      clear b3 r0 r1 q0 q1 q2 q3 q4
      cases b
      · go_wp2_with fail
        go_roundw
        case rel => exact ⟨6, by omega, rfl, HL3.out, HS3.out⟩
        case measure => simp [intOf]
      · go_wp2_with fail
        go_ret
        exact ⟨_, rfl, HB3.out⟩
theorem chkD_three {n : Nat} {p k c : Int} (h : chkD n 2 [p, k, c] = 0) : isH n p = true ∧ isH n k = true ∧ (c = 0 ∨ isH n c = true) := by
  have e : chkD n 2 [p, k, c] = if isH n p then (if isH n k then (if c = 0 then 0 else if isH n c then 0 else 3) else 3) else 3 := by
    simp [chkD, chkFrom]
  rw [e] at h
  split at h
  · rename_i h1
    split at h
    · rename_i h2
      split at h
      · rename_i h3; exact ⟨h1, h2, .inl h3⟩
      · split at h
        · rename_i h3; exact ⟨h1, h2, .inr h3⟩
        · cases h
    · cases h
  · cases h
theorem chkD_all {n : Nat} : ∀ {l : List Int} {i : Int}, chkFrom n (-1) i l = 0 → 0 ≤ i → ∀ x ∈ l, isH n x = true
  | [], _, _, _, x, hx => by cases hx
  | y :: l, i, h, hi, x, hx => by
    unfold chkFrom at h
    rw [if_neg (fun e => by have := e.2; omega)] at h
    split at h
    · rename_i hy
      rcases List.mem_cons.1 hx with rfl | hx
      · exact hy
      · exact chkD_all h (by omega) x hx
    · cases h
/-- Validate's answer: where it is 0, the handles are good. -/
def ValQ (n : Nat) (p k : Int) (w : World) (e : Ending) (w' : World) : Prop := ∃ er : Int, e = .returned (.int .i64 er) ∧ Below w.heap.size w w' ∧ (er = 0 → isH n p = true ∧ isH n k = true)
set_option maxRecDepth 100000 in
set_option maxHeartbeats 1000000 in
theorem ValidateW (p n c : Int) (w : World) {B : AB} {O : List Nat} {ns : List Nd} (hA : ArW B O ns w) (hf : Fit ns) (hup : isH ns.length p = true → ∃ xs, Up ns true p xs) :
    Calls Tryz.prog 116 #[.pointer (some ⟨B, 0, none⟩), .int .i64 p, .int .i64 n, .int .i64 c] w (ValQ ns.length p n w) := by
  obtain ⟨W0, hW0⟩ : ∃ W0, w.alloc (.cells #[.int .i64 p, .int .i64 n, .int .i64 c] 3) = W0 := ⟨_, rfl⟩
  have b0 : Below w.heap.size w W0 := by rw [← hW0]; exact balloc w _
  have hbx : W0.heap[w.heap.size]? = some (.cells #[.int .i64 p, .int .i64 n, .int .i64 c] 3 (0, 0)) := by rw [← hW0]; exact World.alloc_heap_new w _
  have hs0 : W0.heap.size = w.heap.size + 1 := by rw [← hW0]; simp
  have H1 := checkD_any (B := B) (H := w.heap.size) (c := 3) 2 [p, n, c] W0 (hA.later b0) hf (by
    intro j v hj
    match j, hj with
    | 0, hj => simp at hj; subst hj; rw [cell_of_row _ _ _ _ _ _ hbx]; rfl
    | 1, hj => simp at hj; subst hj; rw [cell_of_row _ _ _ _ _ _ hbx]; rfl
    | 2, hj => simp at hj; subst hj; rw [cell_of_row _ _ _ _ _ _ hbx]; rfl) (by simp) (by omega)
  have HC := Lib.hid (fun h => chkD_three (n := ns.length) (p := p) (k := n) (c := c) h)
  have HR := Lib.hid (fun w' (hb : Below w.heap.size w w') => refusedW p n c false w' (rulW_any p n c false w' (hA.later hb) hf hup))
  generalize chkD ns.length 2 [p, n, c] = ce at *
  have H1 := Lib.hid H1; have HW := Lib.hid hW0; have HB0 := Lib.hid b0
  clear hA hf hbx hs0 hW0 b0 hup
  by_cases hce : ce = 0
  · have HC2 := Lib.hid (HC.out hce)
    subst hce
    clear HC
    unfold mvV at *
    go_enter Tryz.func116, Tryz.ntmps116
    go_wp2_with fail
    rw [HW.out]
    refine H1.out.mono ?_
    rintro e w1 ⟨rfl, b1⟩
    have HB1 := Lib.hid (bthen HB0.out HB0.out.size b1)
    have H2 := Lib.hid (HR.out w1 HB1.out)
    clear b1 H1
    go_wp2_with fail
    refine H2.out.mono ?_
    rintro e w2 ⟨er, rfl, b2⟩
    have HB2 := Lib.hid (bthen HB1.out HB1.out.size b2)
    clear b2 H2
    go_wp2_with fail
    go_ret
    exact ⟨er, rfl, HB2.out, fun _ => ⟨HC2.out.1, HC2.out.2.1⟩⟩
  · have hcb : (ce != 0) = true := by simpa using hce
    have HN := Lib.hid hce
    clear HR HC hce
    go_enter Tryz.func116, Tryz.ntmps116
    go_wp2_with fail
    rw [HW.out]
    refine H1.out.mono ?_
    rintro e w1 ⟨rfl, b1⟩
    have HB1 := Lib.hid (bthen HB0.out HB0.out.size b1)
    clear b1 H1
    go_wp2_with fail
    go_ret
    exact ⟨ce, rfl, HB1.out, fun h => absurd h HN.out⟩
end Go.Proofs.YtdapdadcninidaaGreatDoor
namespace Go.Proofs.YtdapdadcninidaaGreatDoor
open Go.RowKit

theorem setNd_head (ns rest : List Nd) (d e : Nd) : setNd (ns ++ d :: rest) ((ns.length + 1 : Nat) : Int) e = ns ++ e :: rest := by
  unfold setNd
  rw [show (((ns.length + 1 : Nat) : Int) - 1).toNat = ns.length by omega, List.set_append_right _ _ (Nat.le_refl _), Nat.sub_self, List.set_cons_zero]
/-- A template's contents. -/
theorem Gd.link {L : Lim} {s : St} (h : Gd L s) {x : Nat} {d : Nd} (hx : inR s.ns x) (hc : (nd s.ns x).contents = 0) (hp : d.parent = 0) (hk : d.kids = []) (hdc : d.contents = 0) (hh : d.host = x) (hkd : d.kind = 2) (hdd : d.data = []) (hda : d.attrs = []) :
    Gd ⟨L.x, L.y, L.f + 1, L.a⟩ ⟨setNd (s.ns ++ [d]) ((x : Nat) : Int) { nd s.ns x with contents := s.ns.length + 1 }, s.mp⟩ := by
  obtain ⟨r, hr⟩ := h.snd
  have hxa : inR (s.ns ++ [d]) x := inR_app hx
  refine ⟨⟨_, hr.link hx hc hp hk hdc hh hkd⟩, (h.map.grow [d]).same (setNd_len _ _ _), ?_, fun e he => ?_, ?_, fun e he => ?_⟩
  · have h1 := attS_set hxa { nd s.ns x with contents := s.ns.length + 1 }
    rw [nd_app hx, attS_le_app _ hp] at h1
    have h2 : att ({ nd s.ns x with contents := s.ns.length + 1 } : Nd) = att (nd s.ns x) := rfl
    have := h.ax
    show attS (setNd _ _ _) ≤ L.x
    omega
  · show _ ≤ L.y
    rcases mem_set he with he | rfl
    · rcases List.mem_append.1 he with he | he
      · exact h.dy e he
      · rw [List.mem_singleton.1 he, hdd]; exact Nat.zero_le _
    · exact (h.dy _ (nd_mem hx) : (nd s.ns x).data.length ≤ L.y)
  · have h1 : phi ⟨setNd (s.ns ++ [d]) ((x : Nat) : Int) { nd s.ns x with contents := s.ns.length + 1 }, s.mp⟩ = phi ⟨s.ns ++ [d], s.mp⟩ :=
      phi_same (s := ⟨s.ns ++ [d], s.mp⟩) (setNd_len _ _ _) fun y hy => by
        dsimp only
        rw [nd_set hxa hy]
        split
        · rename_i e; rw [e, nd_app hx]
        · rfl
    rw [h1, phi_add1 (by rw [hkd]; decide)]
    have := h.ff
    show _ ≤ L.f + 1
    omega
  · show _ ≤ L.a
    rcases mem_set he with he | rfl
    · rcases List.mem_append.1 he with he | he
      · exact h.aa e he
      · rw [List.mem_singleton.1 he, hda]; exact Nat.zero_le _
    · exact (h.aa _ (nd_mem hx) : (nd s.ns x).attrs.length ≤ L.a)
/-- The element alone, and with contents: what it is like. -/
structure EltN (doc sp : Int) (nm : List UInt8) (l : List Att) (d : Nd) : Prop where
  e : { d with contents := 0 } = eltD doc sp nm l
theorem EltN.k {doc sp : Int} {nm : List UInt8} {l : List Att} {d : Nd} (h : EltN doc sp nm l d) : d.kind = 4 ∧ d.parent = 0 ∧ d.kids = [] ∧ d.data = [] ∧ d.host = 0 ∧ d.attrs = l ∧ d.space = sp ∧ d.name = nm := by
  have e := h.e
  refine ⟨?_, ?_, ?_, ?_, ?_, ?_, ?_, ?_⟩
  · exact (congrArg Nd.kind e : _)
  · exact (congrArg Nd.parent e : _)
  · exact (congrArg Nd.kids e : _)
  · exact (congrArg Nd.data e : _)
  · exact (congrArg Nd.host e : _)
  · exact (congrArg Nd.attrs e : _)
  · exact (congrArg Nd.space e : _)
  · exact (congrArg Nd.name e : _)
/-- Nodes that stand as they stood. -/
structure Pre (ns ms : List Nd) : Prop where
  len : ns.length ≤ ms.length
  old : ∀ x, inR ns x → nd ms x = nd ns x
theorem Pre.refl (ns : List Nd) : Pre ns ns := ⟨Nat.le_refl _, fun _ _ => rfl⟩
theorem Pre.inR {ns ms : List Nd} (h : Pre ns ms) {x : Nat} (hx : inR ns x) : Proofs.YtdapdadcninidaaGreatDoor.inR ms x := ⟨hx.1, Nat.le_trans hx.2 h.len⟩
theorem Pre.trans {ns ms ls : List Nd} (h : Pre ns ms) (k : Pre ms ls) : Pre ns ls := ⟨Nat.le_trans h.len k.len, fun x hx => (k.old x (h.inR hx)).trans (h.old x hx)⟩
theorem Pre.app (ns ms : List Nd) : Pre ns (ns ++ ms) := ⟨by simp, fun _ hx => nd_app hx⟩
theorem InS.pre {s s' : St} (h : InS s s') : Pre s.ns s'.ns := by
  rcases h with rfl | ⟨doc, c, _, _, _, _, rfl⟩
  · exact Pre.refl _
  · exact Pre.app _ _
/-- What Element has made: the element, and perhaps an inert document and contents. -/
structure EltG (L : Lim) (s s' : St) (doc sp : Int) (nm : List UInt8) (l : List Att) (d : Nd) : Prop where
  pre : Pre s.ns s'.ns
  is : inR s'.ns (s.ns.length + 1) ∧ nd s'.ns (s.ns.length + 1) = d
  elt : EltN doc sp nm l d
  gd : Gd ⟨L.x, L.y, if d.contents = 0 then L.f + 1 else L.f + 2, max L.a l.length⟩ s'
  kt : KT s.ns s'.ns
  tm : isTmpl (eltD doc sp nm l) = false → d.contents = 0
  ct : d.contents ≠ 0 → s.ns.length + 1 < d.contents ∧ inR s'.ns d.contents
theorem EltR.got {L : Lim} {s s' : St} {doc sp : Int} {nm : List UInt8} {l : List Att} {e : Ending} (h : EltR s doc sp nm l e s') (hg : Gd L s) (hf : L.f ≤ 900000) :
    (∃ er : Int, er ≠ 0 ∧ e = .returned (.tuple #[.int .i64 0, .int .i64 er]) ∧ s' = s) ∨
    (docE s.ns doc = 0 ∧ e = .returned (.tuple #[.int .i64 ((s.ns.length + 1 : Nat) : Int), .int .i64 0]) ∧ ∃ d, EltG L s s' doc sp nm l d) := by
  rcases h with h | ⟨h1, h2, h3⟩
  · exact .inl h
  · refine .inr ⟨h1, h2, ?_⟩
    have h0 := hg.add1 (d := eltD doc sp nm l) rfl rfl rfl rfl (by show (4 : Int) ≠ 1; decide)
    have hmax : max L.y ([] : List UInt8).length = L.y := by simp
    rw [show (eltD doc sp nm l).data = [] from rfl, show (eltD doc sp nm l).attrs = l from rfl, hmax] at h0
    rcases h3 with ⟨ht, rfl⟩ | ⟨s2, i, ht, hi, rfl⟩
    · refine ⟨eltD doc sp nm l, Pre.app _ _, nd_app_new (ns := s.ns) (ms := [eltD doc sp nm l]) (j := 0) rfl, ⟨rfl⟩, h0, KT.app fun d hd hd2 => ?_, fun _ => rfl, fun h => absurd rfl h⟩
      rw [List.mem_singleton.1 hd, ht] at hd2
      cases hd2
    · have hg2 := h0.inS hi (by dsimp only; omega)
      obtain ⟨q, hq, hqk⟩ : ∃ q, s2.ns = s.ns ++ eltD doc sp nm l :: q ∧ ∀ d ∈ q, d = { kind := 1, doc := s.ns.length + 2 } := by
        rcases hi with rfl | ⟨d2, c, _, _, _, _, rfl⟩
        · exact ⟨[], rfl, fun d hd => by cases hd⟩
        · refine ⟨[{ kind := 1, doc := s.ns.length + 2 }], ?_, fun d hd => List.mem_singleton.1 hd⟩
          unfold inertS
          dsimp only
          rw [List.append_assoc, List.length_append]
          rfl
      have hx : inR s2.ns (s.ns.length + 1) := ⟨by omega, by rw [hq]; simp⟩
      have hnx : nd s2.ns (s.ns.length + 1) = eltD doc sp nm l := by rw [hq]; exact (nd_app_new (ns := s.ns) (ms := eltD doc sp nm l :: q) (j := 0) rfl).2
      have hl := hg2.link (x := s.ns.length + 1) (d := { kind := 2, host := s.ns.length + 1, doc := i }) hx (by rw [hnx]; rfl) rfl rfl rfl rfl rfl rfl rfl
      rw [hnx] at hl
      have hns : setNd (s2.ns ++ [{ kind := 2, host := s.ns.length + 1, doc := i }]) ((s.ns.length + 1 : Nat) : Int) { eltD doc sp nm l with contents := s2.ns.length + 1 } = s.ns ++ { eltD doc sp nm l with contents := s2.ns.length + 1 } :: (q ++ [{ kind := 2, host := s.ns.length + 1, doc := i }]) := by
        rw [hq, List.append_assoc, List.cons_append]
        exact setNd_head _ _ _ _
      have hlen : s2.ns.length = s.ns.length + (q.length + 1) := by rw [hq]; simp
      refine ⟨{ eltD doc sp nm l with contents := s2.ns.length + 1 }, ?_, ?_, ⟨rfl⟩, ?_, ?_, fun h => ?_, fun _ => ⟨?_, ?_⟩⟩
      · show Pre s.ns (setNd _ _ _)
        rw [hns]
        exact Pre.app _ _
      · show inR (setNd _ _ _) _ ∧ nd (setNd _ _ _) _ = _
        rw [hns]
        exact nd_app_new (ns := s.ns) (j := 0) rfl
      · rw [if_neg (Nat.succ_ne_zero _)]
        exact hl
      · show KT s.ns (setNd _ _ _)
        rw [hns]
        refine KT.app fun d hd ht => ?_
        rcases List.mem_cons.1 hd with rfl | hd
        · exact Nat.succ_ne_zero _
        · rcases List.mem_append.1 hd with hd | hd
          · rw [hqk d hd] at ht; exact absurd (isTmpl_eq ht).1 (by show (1 : Int) ≠ 4; decide)
          · rw [List.mem_singleton.1 hd] at ht; exact absurd (isTmpl_eq ht).1 (by show (2 : Int) ≠ 4; decide)
      · rw [ht] at h; cases h
      · show s.ns.length + 1 < s2.ns.length + 1
        omega
      · show inR (setNd _ _ _) (s2.ns.length + 1)
        exact inR_set.2 ⟨by omega, by simp⟩
theorem EltR.fw {L : Lim} {s s' : St} {doc sp : Int} {nm : List UInt8} {l : List Att} {e : Ending} (h : EltR s doc sp nm l e s') (hg : Gd L s) (hf : L.f ≤ 900000) : Fw ⟨L.x, L.y, L.f + 2, max L.a l.length⟩ s s' := by
  rcases h.got hg hf with ⟨_, _, _, rfl⟩ | ⟨_, _, d, hd⟩
  · exact ⟨KT.refl _, hg.weak (Nat.le_refl _) (Nat.le_refl _) (Nat.le_add_right _ _) (Nat.le_max_left _ _)⟩
  · refine ⟨hd.kt, hd.gd.weak (Nat.le_refl _) (Nat.le_refl _) ?_ (Nat.le_refl _)⟩
    dsimp only
    split <;> omega
end Go.Proofs.YtdapdadcninidaaGreatDoor
namespace Go.Proofs.YtdapdadcninidaaGreatDoor
open Go.RowKit
attribute [local go_sem] Oper.semAt_some

/-- What the loop keeps: o the block of all. -/
structure NmJ (B : AB) (O : List Nat) (ns : List Nd) (xs : List Nat) (w : World) (o : Nat) (G : Nat → Prop) (i : Nat) (W : World) : Prop where
  out : ∃ v, W.heap[o]? = some (.cells #[v] 53 (0, 0)) ∧ W.ownsRow w.heap.size 3 1 v (xs.take i).length (kidCells (xs.take i)) ∧ ∀ g, v.ownBlock = some g → ¬ G g ∧ o < g
  ob : ¬ G o ∧ w.heap.size ≤ o
  ar : ArW B O ns W
  lo : ∀ k ∈ O, ¬ G k ∧ k < w.heap.size
  bl : Below w.heap.size w W
  fg : ∀ k, G k → w.heap.size ≤ k ∧ k < W.heap.size
theorem NmJ.kept {B : AB} {O : List Nat} {ns : List Nd} {xs : List Nat} {w : World} {o i : Nat} {G G' : Nat → Prop} {A C : World} (h : NmJ B O ns xs w o G i A) (hm : Mod G A C) (hg : ∀ k, G' k → G k ∨ (A.heap.size ≤ k ∧ k < C.heap.size)) : NmJ B O ns xs w o G' i C := by
  obtain ⟨⟨v, h1, h2, h3⟩, ⟨h4, h5⟩, h8, h9, h10, h11⟩ := h
  have lo := (Array.getElem?_eq_some_iff.1 h1).1
  have hs := h10.size
  refine ⟨⟨v, (hm.block o lo h4).trans h1, row_keep h2 fun g hgv => hm.block g (ownsRow_lt h2 hgv) (h3 g hgv).1, fun g hgv => ⟨fun hG => (hg g hG).elim (h3 g hgv).1 (by have := ownsRow_lt h2 hgv; omega), (h3 g hgv).2⟩⟩,
    ⟨fun hG => (hg o hG).elim h4 (by omega), h5⟩, h8.kept hm fun k hk => (h9 k hk).1,
    fun k hk => ⟨fun hG => (hg k hG).elim (h9 k hk).1 (by have := (h9 k hk).2; omega), (h9 k hk).2⟩, h10.trans (hm.below h10.size fun k hk hG => by have := h11 k hG; omega), fun k hG => (hg k hG).elim (fun h => by have := h11 k h; have := hm.size; omega) (by omega)⟩
theorem NmJ.add {B : AB} {O : List Nat} {ns : List Nd} {xs : List Nat} {w : World} {o i : Nat} {G : Nat → Prop} {A C : World} {v v' : Value} (h : NmJ B O ns xs w o G i A) (hv : A.heap[o]? = some (.cells #[v] 53 (0, 0))) (hvG : ∀ g, v.ownBlock = some g → ¬ G g ∧ o < g)
    (hm : Mod (fun k => k = o ∨ v.ownBlock = some k) A C) (ho : C.heap[o]? = some (.cells #[v'] 53 (0, 0))) (hown : C.ownsRow w.heap.size 3 1 v' (xs.take (i + 1)).length (kidCells (xs.take (i + 1)))) (hat : v'.ownBlock = v.ownBlock ∨ ∃ g, v'.ownBlock = some g ∧ A.heap.size ≤ g) :
    NmJ B O ns xs w o G (i + 1) C ∧ Mod (fun k => ¬ G k) A C := by
  obtain ⟨-, ⟨h4, h5⟩, h8, h9, h10, h11⟩ := h
  have lo := (Array.getElem?_eq_some_iff.1 hv).1
  have nS : ∀ k, k < w.heap.size → ¬ (k = o ∨ v.ownBlock = some k) := fun k hk h => h.elim (by omega) fun e => by have := (hvG k e).2; omega
  have hS : Mod (fun k => ¬ G k) A C := hm.mono fun k _ h => h.elim (fun e => e ▸ h4) fun e => (hvG k e).1
  refine ⟨⟨⟨v', ho, hown, fun g hg => ?_⟩, ⟨h4, h5⟩, h8.kept hm fun k hk => nS k (h9 k hk).2, h9, h10.trans (hm.below h10.size fun k hk => nS k hk), fun k hG => ⟨(h11 k hG).1, by have := (h11 k hG).2; have := hm.size; omega⟩⟩, hS⟩
  rcases hat with e | ⟨g', e, hge⟩
  · exact hvG g (by rw [← e]; exact hg)
  · rw [hg] at e
    cases e
    exact ⟨fun hG => by have := (h11 g hG).2; omega, by omega⟩
/-- The nodes behind joins below these. -/
def joins (ns : List Nd) (xs : List Nat) : List Nd := xs.foldl (fun n x => joinL n (kidsAt n (x : Nat))) ns
def JsOk : List Nd → List Nat → Prop
  | _, [] => True
  | ns, x :: xs => JOk ⟨ns, 0, []⟩ (kidsAt ns (x : Nat)) ∧ JsOk (joinL ns (kidsAt ns (x : Nat))) xs
theorem joins_next {ns : List Nd} {xs : List Nat} {i x : Nat} (hx : xs[i]? = some x) : joins ns (xs.take (i + 1)) = joinL (joins ns (xs.take i)) (kidsAt (joins ns (xs.take i)) (x : Nat)) := by
  obtain ⟨hi, rfl⟩ := List.getElem?_eq_some_iff.1 hx
  rw [List.take_succ_eq_append_getElem hi]
  unfold joins
  rw [List.foldl_append, List.foldl_cons, List.foldl_nil]
theorem astep_put {O O3 : List Nat} {w wr : World} {D : Nat} {o : Obj} (h : AStep O w O3 wr) (hD : w.heap.size ≤ D) : AStep O w O3 (wr.putObj D o) := by
  have hm : Mod (fun k => k = D) wr (wr.putObj D o) := Mod.putObj _ _ rfl
  exact ⟨⟨hm.os.trans h.mod.os, hm.tape.trans h.mod.tape, hm.output.trans h.mod.output, Nat.le_trans h.mod.size hm.size, fun k hk hO => (hm.block k (Nat.lt_of_lt_of_le hk h.mod.size) (by omega)).trans (h.mod.block k hk hO)⟩, h.own⟩
set_option maxRecDepth 100000 in
set_option maxHeartbeats 4000000 in
theorem Normalize_any (h : Int) (xs : List Nat) (w : World) {B : AB} {O : List Nat} {ns : List Nd} (hA : ArW B O ns w) (hf : Fit ns) (hh : isH ns.length h = true) (hok : JOk ⟨ns, 0, []⟩ (kidsAt ns h)) (hf1 : Fit (joinL ns (kidsAt ns h)))
    (hS : Sub (kidsAt (joinL ns (kidsAt ns h))) (kidsAt (joinL ns (kidsAt ns h)) h) xs) (hjs : JsOk (joinL ns (kidsAt ns h)) xs) (hxl : xs.length ≤ 1000000) :
    Calls Tryz.prog 17 #[.pointer (some ⟨B, 0, none⟩), .int .i64 h] w fun e w' => e = .returned (.int .i64 0) ∧ ∃ O', ArW B O' (joins (joinL ns (kidsAt ns h)) xs) w' ∧ AStep O w O' w' := by
  obtain ⟨W0, hW0⟩ : ∃ W0, w.alloc (.cells #[.int .i64 h] 3) = W0 := ⟨_, rfl⟩
  have b0 : Below w.heap.size w W0 := by rw [← hW0]; exact balloc w _
  have hbx : W0.heap[w.heap.size]? = some (.cells #[.int .i64 h] 3 (0, 0)) := by rw [← hW0]; exact World.alloc_heap_new w _
  have hs0 : W0.heap.size = w.heap.size + 1 := by rw [← hW0]; simp
  have hA0 := hA.later b0
  have H1 := checkD_any (B := B) (H := w.heap.size) (c := 1) (-1) [h] W0 hA0 hf (by intro j v hj; match j, hj with | 0, hj => simp at hj; subst hj; rw [cell_of_row _ _ _ _ _ _ hbx]; rfl) (by simp) (by omega)
  rw [show chkD ns.length (-1) [h] = 0 by simp [chkD, chkFrom, hh]] at H1
  have H2 := Lib.hid (fun w' (hb : Below W0.heap.size W0 w') => join_any h w' (hA0.later hb) hok)
  have H1 := Lib.hid H1; have HW := Lib.hid hW0; have HB0 := Lib.hid b0; have HF1 := Lib.hid hf1; have HS := Lib.hid hS; have HJS := Lib.hid hjs
  clear hA hA0 hbx b0 hW0 hf hS hh hok hf1 hjs hs0
  generalize joinL ns (kidsAt ns h) = n1 at *
  obtain ⟨n, hn⟩ : ∃ n, 9 ≤ n := ⟨9, Nat.le_refl _⟩
  refine (callsIn_wide (n := n)).1 ?_
  refine callsIn_of_wp_marks Tryz.func17 rfl trivial ?_ rfl
  simp only [Tryz.ntmps17, List.size_toArray, List.length_cons, List.length_nil, Nat.reduceAdd, Nat.reduceSub, Array.replicate_succ, Array.replicate_zero, List.push_toArray, List.append_toArray, List.nil_append, List.cons_append]
  gi_wp2_with fail
  rw [HW.out]
  refine call_wide H1.out ?_ (by omega)
  rintro e w1 ⟨rfl, b1⟩
  have H3 := Lib.hid (H2.out w1 b1)
  have HB1 := Lib.hid b1
  clear b1 H1 H2
  gi_wp2_with fail
  refine call_wide H3.out ?_ (by omega)
  rintro e w2 ⟨rfl, O2, hA2, hs2⟩
  have HA2 := Lib.hid hA2; have HS2 := Lib.hid hs2
  clear hA2 hs2 H3
  gi_wp2_with fail
  generalize hW4 : w2.alloc _ = W4
  have hs4 : W4.heap.size = w2.heap.size + 1 := by rw [← hW4]; simp
  have hb4 : Below w2.heap.size w2 W4 := by rw [← hW4]; exact balloc _ _
  have ho4 : W4.heap[w2.heap.size]? = some (.cells #[.slice none 0 0] 53 (0, 0)) := by rw [← hW4]; exact World.alloc_heap_new _ _
  have H5 := Lib.hid (below_any h W4 B)
  obtain ⟨W5, hW5⟩ : ∃ W5, (W4.alloc (.cells #[.pointer (some ⟨B, 0, none⟩)] 23)).alloc (.cells #[.int .i64 h] 3) = W5 := ⟨_, rfl⟩
  obtain ⟨x0, x1, hs5, b5⟩ := two_new hW5
  have hb05 : Below w2.heap.size w2 W5 := bthen hb4 hb4.size b5
  have hJ0 : NmJ B O2 n1 xs w2 w2.heap.size (fun _ => False) 0 W5 :=
    ⟨⟨_, (b5.block _ (by omega)).trans ho4, ⟨rfl, .inl ⟨rfl, rfl⟩⟩, (fun g hg => by cases hg)⟩, ⟨fun h => h, Nat.le_refl _⟩, HA2.out.later hb05, fun k hk => ⟨fun h => h, HA2.out.lt hk⟩, hb05, fun k h => h.elim⟩
  have hit := fun n hn => below_iter h xs n hn W5 (B := B) (ab := W4.heap.size) (hb := W4.heap.size + 1) HS.out (by rw [cell_of_row _ _ _ _ _ _ x0]; rfl) (by rw [cell_of_row _ _ _ _ _ _ x1]; rfl)
  have HJ0 := Lib.hid hJ0; have HIT := Lib.hid hit; have HW5 := Lib.hid hW5
  have HS4 := Lib.hid hs4; have HS5 := Lib.hid hs5
  clear hs4 hs5 ho4 hb4 hb05 x0 x1 b5 hJ0 hit hW4 hW5
  refine call_wide H5.out ?_ (by omega)
  rintro e w5 ⟨rfl, rfl⟩
  rw [HW5.out]
  clear H5
  gi_wp2_with fail
  have HSQ := Lib.hid (HIT.out (n - 1) (by omega))
  refine wpIn_rangeFunc_itf (gf := 98) (lb := #[.pointer (some ⟨W4.heap.size, 0, none⟩), .pointer (some ⟨W4.heap.size + 1, 0, none⟩)]) (encs := fun x : Nat => #[.int .i64 (x : Nat)]) (xs := xs) (I := fun _ => False) (Pr := PrK B (kidsAt n1)) rfl (by omega) rfl trivial enter_below1 HSQ.out (fun k h => h.elim) (fun x => rfl)
    (fun G i W => NmJ B O2 n1 xs w2 w2.heap.size G i W) (fun _ _ _ _ => False) ?keep ?keepx ?pr ?start ?round ?done ?stop
  case keep => exact fun G G' i A C h hm hg => h.kept hm hg
  case keepx => exact fun _ _ _ _ _ _ h _ _ => h
  case pr => exact fun G i A h => ⟨B.iv, O2, n1, h.ar, HF1.out, fun _ => rfl⟩
  case start =>
    intro G W hW hG
    exact HJ0.out.kept (Mod.of_below hW) fun k hk => (hG k hk).elim False.elim fun h => .inr h
  case round =>
    rintro lp x W
    gi_wp2_with fail
    refine ⟨trivial, ?_⟩
    rintro G i W' hx hj hG hsz
    have HJ := Lib.hid hj; have HX := Lib.hid hx
    have hil : i < xs.length := (List.getElem?_eq_some_iff.1 hx).1
    obtain ⟨v, hv, hown, hvG⟩ := hj.out
    have hol := (Array.getElem?_eq_some_iff.1 hv).1
    have hwl := hj.bl.size
    have co6 : W'.cell? ⟨w2.heap.size, 0, none⟩ = some v := by rw [cell_of_row _ _ _ _ _ _ hv]; rfl
    have HNX := Lib.hid (show kidCells (xs.take (i + 1)) = kidCells (xs.take i) ++ [.int .i64 (x : Nat)] by
      obtain ⟨hi, he⟩ := List.getElem?_eq_some_iff.1 hx
      rw [List.take_succ_eq_append_getElem hi, he]; simp [kidCells, natV])
    have htl : (xs.take i).length = i := by simp; omega
    have htl1 : (xs.take (i + 1)).length = i + 1 := by simp; omega
    rw [htl] at hown
    have hkc : (kidCells (xs.take i)).length = i := by rw [kidCells_len, htl]
    have OW6 := Lib.hid hown
    have HVG := Lib.hid hvG; have HV := Lib.hid hv; have HKC := Lib.hid hkc
    clear hvG hown hv hj hx HJ0 HIT HSQ HW5 HB0 HB1 HA2 HS2 HS HJS htl hkc
    gi_wp2_with (gi_at_builtin; refine in_append_int rfl _ _ rfl w2.heap.size v (kidCells (xs.take i)) (.int .i64 (x : Nat)) rfl (by rw [HKC.out]; exact OW6.out) rfl rfl (by rw [HKC.out]; omega) hwl ?_; intro v' w7 hown7 hm7 hat7; obtain ⟨va, vc, rfl⟩ := ownsRow_slice hown7; have ho7 := (hm7.block w2.heap.size hol (fun e => by have := (HVG.out _ e).2; omega)).trans HV.out; have co7 : w7.cell? ⟨w2.heap.size, 0, none⟩ = some v := (by rw [cell_of_row _ _ _ _ _ _ ho7]; rfl); have fo7 : w7.frozen? ⟨w2.heap.size, 0, none⟩ = false := Lib.frozen_of_heap ho7 0)
    have hat8 := hat7
    rw [HKC.out] at hown7 hat7
    have hm67 : Mod (fun k => k = w2.heap.size ∨ v.ownBlock = some k) W' w7 := hm7.mono fun k _ h => .inr h
    refine HJ.out.add HV.out HVG.out (hm67.trans (Mod.setCell _ _ (.inl rfl))) (by rw [Joins.block_setCell (i := 0) ho7]; rfl) ?_ ?_
    · rw [HNX.out, htl1]
      rw [HKC.out]
      exact row_keep hown7 fun g hg => Below.heap_setCell _ _ _ _ (by
        dsimp only
        rcases hat7 with e | ⟨g', e, hge⟩
        · have := (HVG.out g (by rw [← e]; exact hg)).2; omega
        · rw [hg] at e; cases e; omega)
    · rcases hat8 with e | ⟨g', e, hge⟩
      · exact .inl e
      · exact .inr ⟨g', e, hge⟩
  case done =>
    rintro D G W hGD hj hD hK
    obtain ⟨v, hv, hown, -⟩ := hj.out
    rw [List.take_length] at hown
    obtain ⟨va, vc, rfl⟩ := ownsRow_slice hown
    have co : W.cell? ⟨w2.heap.size, 0, none⟩ = some (.slice va xs.length vc) := by rw [cell_of_row _ _ _ _ _ _ hv]; rfl
    have hDw := hj.fg D hGD
    have HJ := Lib.hid hj; have HKK := Lib.hid hK; have HOW := Lib.hid hown
    clear hj hK hown hv hD HJ0 HIT HSQ HW5
    gi_wp2_with fail
    gi_loopw [30] (fun i wr => ∃ (j : Nat) (O3 : List Nat), j ≤ xs.length ∧ i = .int .i64 (j : Nat) ∧ ArW B O3 (joins n1 (xs.take j)) wr ∧ AStep O2 W O3 wr ∧ JsOk (joins n1 (xs.take j)) (xs.drop j)) (fun i _ => xs.length - (intOf i).toNat)
    case atStart => exact ⟨0, O2, Nat.zero_le _, rfl, HJ.out.ar, AStep.refl _ _, HJS.out⟩
    case round =>
      obtain ⟨j, O3, hj, rfl, hA3, hs3, hjs⟩ := hrel
      have hO : ∀ k, w2.heap.size ≤ k → ¬ k ∈ O2 := fun k hk h => by have := (HJ.out.lo k h).2; omega
      have HA3 := Lib.hid hA3; have HS3 := Lib.hid hs3; have HJS3 := Lib.hid hjs; have HO := Lib.hid hO
      clear hA3 hs3 hjs hO
      by_cases hlt : j < xs.length
      · obtain ⟨gk, rfl⟩ := row_someA HOW.out (by omega)
        have hcell := row_at (ownsRow_mod HOW.out HS3.out.mod fun g hg => HO.out g (by
          rcases HOW.out.2 with ⟨e, _⟩ | ⟨g', cap, cur, e, hge, _⟩
          · cases e
          · cases e; simp [Value.ownBlock] at hg; omega)) j (natV xs[j]) (by simp [kidCells, hlt])
        have hdr : xs.drop j = xs[j] :: xs.drop (j + 1) := List.drop_eq_getElem_cons hlt
        have hnx := joins_next (ns := n1) (List.getElem?_eq_getElem hlt)
        have hjs := HJS3.out
        rw [hdr] at hjs
        obtain ⟨hok1, hjs2⟩ := hjs
        rw [← hnx] at hjs2
        obtain ⟨k, hk⟩ : ∃ k, xs[j] = k := ⟨_, rfl⟩
        rw [hk] at hcell hok1 hnx
        have H6 := Lib.hid (join_any (k : Nat) wr HA3.out hok1)
        rw [← hnx] at H6
        have HJ2 := Lib.hid hjs2
        have hji : (j : Int) < (xs.length : Int) := by omega
        simp only [natV] at hcell
        clear hdr hnx hok1 hjs2 hk
        gi_wp2_with fail
        refine call_wide H6.out ?_ (by omega)
        rintro e w7 ⟨rfl, O4, hA4, hs4⟩
        have HA4 := Lib.hid hA4; have HS4 := Lib.hid (HS3.out.trans hs4)
        clear hA4 hs4 H6
        gi_wp2_with fail
        go_roundw
        case rel => exact ⟨j + 1, O4, by omega, by go_num, HA4.out, HS4.out, HJ2.out⟩
        case measure => simp [intOf]; omega
      · have hje : j = xs.length := by omega
        subst hje
        rw [List.take_length] at HA3
        have hKr : wr.heap[D]? = some (.deferred (some [])) := (HS3.out.mod.block D hDw.2 (HO.out D hDw.1)).trans HKK.out
        have HKR := Lib.hid hKr
        have hSt : AStep O w O3 wr := ((astep_pre (bthen HB0.out HB0.out.size HB1.out) HS2.out).trans ⟨Mod.of_below HJ.out.bl, fun k hk => .inl hk⟩).trans HS3.out
        have HST := Lib.hid hSt
        have HX := Lib.hid (HA3.out.kept (Mod.putObj (S := fun k => k = D) wr (.deferred none) rfl) fun k hk e => by
          subst e
          rcases HS3.out.own k hk with h | h
          · exact HO.out k hDw.1 h
          · have := hDw.2; omega)
        clear hKr hSt
        gi_wp2_with fail
        refine ⟨by simp, .inl ⟨_, _, rfl, run_takeDeferred HKR.out, ?_⟩⟩
        exact ⟨_, by simp [results, Tryz.results17, go_sem], rfl, O3, HX.out, astep_put HST.out (by have h1 := HB0.out.size; have h2 := HB1.out.size; have h3 := HS2.out.mod.size; have h4 := hDw.1; omega)⟩
  case stop => exact fun D G c i W _ _ h _ _ => h.elim
end Go.Proofs.YtdapdadcninidaaGreatDoor
namespace Go.Proofs.YtdapdadcninidaaGreatDoor
open Go.RowKit

theorem descAt_nd {ns : List Nd} {x : Nat} (hx : inR ns x) : descAt ns ((x : Nat) : Int) = nd ns x := by unfold descAt; rw [if_pos (inR_isH.2 hx)]; rfl
/-- join's state, with the children that are still to come. -/
structure JI (X Y F A : Nat) (mp : List (Nat × Nat × Nat)) (n0 : List Nd) (rest : List Nat) (s : JS) : Prop where
  gd : Gd ⟨attS s.ns, Y, F, A⟩ ⟨s.ns, mp⟩
  kt : KT n0 s.ns
  fst : s.first ≠ 0 → inR s.ns s.first ∧ (nd s.ns s.first).parent ≠ 0 ∧ attS s.ns + s.data.length ≤ X + (nd s.ns s.first).data.length ∧ (nd s.ns s.first).data.length ≤ s.data.length
  non : s.first = 0 → s.data = [] ∧ attS s.ns ≤ X
  rs : ∀ k ∈ rest, inR s.ns k ∧ (nd s.ns k).parent ≠ 0 ∧ k ≠ s.first
  nod : rest.Nodup
theorem JI.cut {X Y F A : Nat} {mp : List (Nat × Nat × Nat)} {n0 : List Nd} {k : Nat} {rest : List Nat} {s : JS} (h : JI X Y F A mp n0 (k :: rest) s) :
    attS (cutR s.ns k) + (nd s.ns k).data.length = attS s.ns ∧ Gd ⟨attS (cutR s.ns k), Y, F, A⟩ ⟨cutR s.ns k, mp⟩ ∧ KT n0 (cutR s.ns k) ∧ (∀ z, inR s.ns z → z ≠ k → inR (cutR s.ns k) z ∧ (nd (cutR s.ns k) z).parent = (nd s.ns z).parent ∧ (nd (cutR s.ns k) z).data = (nd s.ns z).data) := by
  obtain ⟨hk, hp, -⟩ := h.rs k List.mem_cons_self
  obtain ⟨r, hr⟩ := h.gd.snd
  have e : cutR s.ns k = (cutS ⟨s.ns, mp⟩ (k : Nat)).ns := rfl
  rw [e]
  obtain ⟨h1, h2, h3⟩ := cutS_old (s := ⟨s.ns, mp⟩) hr hk
  have hm := Mv.cutQ hr ((k : Nat) : Int)
  have ha : att (nd s.ns k) = (nd s.ns k).data.length := by unfold att; rw [if_neg hp]
  refine ⟨by rw [← ha]; exact h1, (h.gd.cutS (k : Nat)).self, h.kt.trans hm.kt, fun z hz hne => ⟨hm.inR hz, h3 z hz hne, (data_kp (hm.old z hz)).1⟩⟩
/-- The data of two nodes that hang. -/
theorem JI.two {X Y F A : Nat} {mp : List (Nat × Nat × Nat)} {n0 : List Nd} {k : Nat} {rest : List Nat} {s : JS} (h : JI X Y F A mp n0 (k :: rest) s) (hf : s.first ≠ 0) : (nd s.ns s.first).data.length + (nd s.ns k).data.length ≤ attS s.ns := by
  obtain ⟨f1, f2, -⟩ := h.fst hf
  obtain ⟨h1, -, -, h4⟩ := h.cut
  obtain ⟨g1, g2, g3⟩ := h4 _ f1 (Ne.symm (h.rs k List.mem_cons_self).2.2)
  have h5 := att_le g1
  have h6 : att (nd (cutR s.ns k) s.first) = (nd s.ns s.first).data.length := by
    unfold att
    rw [g2, g3, if_neg f2]
  omega
theorem JI.end {X Y F A : Nat} {mp : List (Nat × Nat × Nat)} {n0 : List Nd} {rest : List Nat} {s : JS} (h : JI X Y F A mp n0 rest s) (hXY : X ≤ Y) : JI X Y F A mp n0 rest (jEnd s) := by
  by_cases h0 : s.first = 0
  · have e : jEnd s = ⟨s.ns, 0, []⟩ := by unfold jEnd; rw [if_pos h0]
    obtain ⟨h1, h2⟩ := h.non h0
    rw [e]
    exact ⟨h.gd, h.kt, fun hf => absurd rfl hf, fun _ => ⟨rfl, h2⟩, fun k hk => ⟨(h.rs k hk).1, (h.rs k hk).2.1, by have := (h.rs k hk).1.1; dsimp only; omega⟩, h.nod⟩
  · obtain ⟨f1, f2, f3, f4⟩ := h.fst h0
    have e : jEnd s = ⟨setD s.ns s.first s.data, 0, []⟩ := by unfold jEnd; rw [if_neg h0]
    rw [e]
    have ha : att (nd s.ns s.first) = (nd s.ns s.first).data.length := by unfold att; rw [if_neg f2]
    have hal := att_le f1
    unfold setD
    split
    · have hd : sk ({ ndAt s.ns (s.first : Nat) with data := s.data } : Nd) = sk (nd s.ns s.first) := rfl
      have h1 := attS_set f1 { ndAt s.ns (s.first : Nat) with data := s.data }
      have h2 : att ({ ndAt s.ns (s.first : Nat) with data := s.data } : Nd) = s.data.length := by
        show (if (nd s.ns s.first).parent = 0 then 0 else s.data.length) = s.data.length
        exact if_neg f2
      have hg := h.gd.set f1 hd
      have hno : ∀ z, inR s.ns z → (nd (setNd s.ns ((s.first : Nat) : Int) { ndAt s.ns (s.first : Nat) with data := s.data }) z).parent = (nd s.ns z).parent := fun z hz => by
        rw [nd_set f1 hz]
        split
        · rename_i e; rw [e]; rfl
        · rfl
      refine ⟨(hg.weak (M := ⟨_, Y, F, max A _⟩) (Nat.le_refl _) (by dsimp only; omega) (Nat.le_refl _) (Nat.le_refl _)).self.weak (Nat.le_refl _) (Nat.le_refl _) (Nat.le_refl _) ?_, h.kt.trans (KT.set f1 rfl), fun hf => absurd rfl hf, fun _ => ⟨rfl, ?_⟩, fun k hk => ?_, h.nod⟩
      · have := h.gd.aa _ (nd_mem f1)
        exact Nat.max_le.2 ⟨Nat.le_refl _, this⟩
      · have h5 : attS (setNd s.ns ((s.first : Nat) : Int) { ndAt s.ns (s.first : Nat) with data := s.data }) + att (nd s.ns s.first) = attS s.ns + s.data.length := by rw [← h2]; exact h1
        have h6 : attS (setNd s.ns ((s.first : Nat) : Int) { ndAt s.ns (s.first : Nat) with data := s.data }) ≤ X := by omega
        exact h6
      · obtain ⟨k1, k2, -⟩ := h.rs k hk
        dsimp only
        exact ⟨inR_set.2 k1, by rw [hno k k1]; exact k2, by have := k1.1; omega⟩
    · exact ⟨h.gd, h.kt, fun hf => absurd rfl hf, fun _ => ⟨rfl, by dsimp only; omega⟩, fun k hk => ⟨(h.rs k hk).1, (h.rs k hk).2.1, by have := (h.rs k hk).1.1; dsimp only; omega⟩, h.nod⟩
theorem JI.step {X Y F A : Nat} {mp : List (Nat × Nat × Nat)} {n0 : List Nd} {k : Nat} {rest : List Nat} {s : JS} (h : JI X Y F A mp n0 (k :: rest) s) (hXY : X ≤ Y) : JI X Y F A mp n0 rest (jStep s k) := by
  obtain ⟨hk, hp, hkf⟩ := h.rs k List.mem_cons_self
  obtain ⟨n1, n2⟩ := List.nodup_cons.1 h.nod
  have hr : ∀ j ∈ rest, inR s.ns j ∧ (nd s.ns j).parent ≠ 0 ∧ j ≠ s.first := fun j hj => h.rs j (List.mem_cons_of_mem _ hj)
  have hjk : ∀ j ∈ rest, j ≠ k := fun j hj e => n1 (e ▸ hj)
  obtain ⟨c1, c2, c3, c4⟩ := h.cut
  unfold jStep
  rw [descAt_nd hk]
  split
  · split
    · rename_i hq
      obtain ⟨h1, h2⟩ := h.non hq.1
      exact ⟨h.gd, h.kt, fun _ => ⟨hk, hp, by dsimp only; omega, Nat.le_refl _⟩, fun e => by have := hk.1; dsimp only at e; omega, fun j hj => ⟨(hr j hj).1, (hr j hj).2.1, hjk j hj⟩, n2⟩
    · rename_i hq
      refine ⟨c2, c3, fun hf => ?_, fun hf => ?_, fun j hj => ?_, n2⟩
      · dsimp only at hf ⊢
        obtain ⟨f1, f2, f3, f4⟩ := h.fst hf
        obtain ⟨g1, g2, g3⟩ := c4 _ f1 (Ne.symm hkf)
        rw [g2, g3, List.length_append]
        exact ⟨g1, f2, by omega, by omega⟩
      · dsimp only at hf ⊢
        obtain ⟨h1, h2⟩ := h.non hf
        have hd : (nd s.ns k).data = [] := Classical.not_not.1 fun hh => hq ⟨hf, hh⟩
        exact ⟨by rw [h1, hd]; rfl, by omega⟩
      · obtain ⟨g1, g2, g3⟩ := c4 j (hr j hj).1 (hjk j hj)
        dsimp only
        exact ⟨g1, by rw [g2]; exact (hr j hj).2.1, (hr j hj).2.2⟩
  · exact JI.end ⟨h.gd, h.kt, h.fst, h.non, hr, n2⟩ hXY
theorem JI.all {X Y F A : Nat} {mp : List (Nat × Nat × Nat)} {n0 : List Nd} (hXY : X ≤ Y) (hF : F ≤ 900000) (hA : A ≤ 900000) (hX : (X : Int) ≤ 4611686018427387904) : ∀ (rest : List Nat) (s : JS), JI X Y F A mp n0 rest s → JOk s rest ∧ JI X Y F A mp n0 [] (rest.foldl jStep s)
  | [], s, h => ⟨h.gd.fit (by dsimp only; omega) (by dsimp only; omega), h⟩
  | k :: rest, s, h => by
    obtain ⟨hk, hp, hkf⟩ := h.rs k List.mem_cons_self
    obtain ⟨i1, i2⟩ := JI.all hXY hF hA hX rest (jStep s k) (h.step hXY)
    have hfit := h.gd.fit (by dsimp only; omega) (by dsimp only; omega)
    obtain ⟨r, hr⟩ := h.gd.snd
    refine ⟨⟨hfit, ?_, fun _ => hr.cutOk hfit hk, i1⟩, i2⟩
    rw [descAt_nd hk]
    have ha : att (nd s.ns k) = (nd s.ns k).data.length := by unfold att; rw [if_neg hp]
    have hal := att_le hk
    by_cases h0 : s.first = 0
    · obtain ⟨h1, h2⟩ := h.non h0
      rw [h1, List.length_nil]
      omega
    · obtain ⟨f1, f2, f3, f4⟩ := h.fst h0
      have := h.two h0
      omega
/-- join, at any node. -/
theorem Gd.joinF {L : Lim} {s : St} (h : Gd L s) (hf : L.f ≤ 900000) (ha : L.a ≤ 900000) (hx : (L.x : Int) ≤ 4611686018427387904) (p : Int) : JOk ⟨s.ns, 0, []⟩ (kidsAt s.ns p) ∧ Fw ⟨L.x, max L.x L.y, L.f, L.a⟩ s ⟨joinL s.ns (kidsAt s.ns p), s.mp⟩ := by
  have h0 : JI L.x (max L.x L.y) L.f L.a s.mp s.ns (kidsAt s.ns p) ⟨s.ns, 0, []⟩ := by
    obtain ⟨r, hr⟩ := h.snd
    refine ⟨h.self.weak (Nat.le_refl _) (Nat.le_max_right _ _) (Nat.le_refl _) (Nat.le_refl _), KT.refl _, fun hf => absurd rfl hf, fun _ => ⟨rfl, h.ax⟩, ?_, ?_⟩
    · intro k hk
      unfold kidsAt at hk
      split at hk
      · rename_i hh
        obtain ⟨y, rfl, hy⟩ := isH_nat hh
        obtain ⟨h1, h2⟩ := hr.kid y k hy hk
        exact ⟨h1, by show (nd s.ns k).parent ≠ 0; rw [h2]; have := hy.1; omega, by have := h1.1; dsimp only; omega⟩
      · cases hk
    · unfold kidsAt
      split
      · rename_i hh
        obtain ⟨y, rfl, hy⟩ := isH_nat hh
        exact hr.nod y hy
      · exact List.nodup_nil
  obtain ⟨h1, h2⟩ := JI.all (Nat.le_max_left _ _) hf ha hx _ _ h0
  refine ⟨h1, ?_⟩
  have h3 := h2.end (Nat.le_max_left _ _)
  obtain ⟨-, h4⟩ := h3.non rfl
  exact ⟨h3.kt, h3.gd.weak h4 (Nat.le_refl _) (Nat.le_refl _) (Nat.le_refl _)⟩
/-- .. one after the other. -/
theorem Gd.joinsF {L : Lim} (hf : L.f ≤ 900000) (ha : L.a ≤ 900000) (hx : (L.x : Int) ≤ 4611686018427387904) : ∀ (xs : List Nat) (s : St), Gd L s → JsOk s.ns xs ∧ Fw ⟨L.x, max L.x L.y, L.f, L.a⟩ s ⟨joins s.ns xs, s.mp⟩
  | [], s, h => ⟨trivial, h.still.weak (Nat.le_refl _) (Nat.le_max_right _ _) (Nat.le_refl _) (Nat.le_refl _)⟩
  | x :: xs, s, h => by
    obtain ⟨h1, h2⟩ := h.joinF hf ha hx (x : Nat)
    obtain ⟨i1, i2⟩ := Gd.joinsF (L := ⟨L.x, max L.x L.y, L.f, L.a⟩) hf ha hx xs ⟨joinL s.ns (kidsAt s.ns (x : Nat)), s.mp⟩ h2.gd
    exact ⟨⟨h1, i1⟩, (h2.trans i2).weak (Nat.le_refl _) (by dsimp only; omega) (Nat.le_refl _) (Nat.le_refl _)⟩
theorem below_nodup {ns : List Nd} {r : Nat → Nat} {kd : Int → List Nat} (h : Snd ns r) (hd : DownOk ns kd) {x : Nat} {xs : List Nat} (hx : inR ns x) (hS : Sub kd (kd ((x : Nat) : Int)) xs) : (x :: xs).Nodup ∧ ∀ y ∈ xs, inR ns y := by
  have h1 := sub_nodup h hd (Sub.cons hS .nil) (fun k hk => by rw [List.mem_singleton.1 hk]; exact hx) (by simp) fun a ha b hb hne => absurd ((List.mem_singleton.1 ha).trans (List.mem_singleton.1 hb).symm) hne
  rw [List.append_nil] at h1
  exact ⟨h1, fun y hy => (sub_anc hd hS (fun k hk => (hd.dn x hx k hk).1) y hy).1⟩
end Go.Proofs.YtdapdadcninidaaGreatDoor
