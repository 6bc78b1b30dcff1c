/- thickettop.known05. No condition. -/
import Derived.Test.YtdapdadcninidaaGreatDoorMo3
import Derived.Test.YtdapdadcninidaaGreatDoorSpl
namespace Go.Proofs.YtdapdadcninidaaGreatDoor
open Go.RowKit
attribute [local go_sem ↓] Go.wp_at_zero Go.wp_at_succ

def kH (ks : List Nat) (par : Nat) : Nd := { kind := 4, space := 1, name := [104, 116, 109, 108], doc := 1, kids := ks, parent := par }
def kP (ks : List Nat) (par : Nat) : Nd := { kind := 4, space := 1, name := [112], doc := 1, kids := ks, parent := par }
def kD (ks : List Nat) : Nd := { kind := 1, doc := 1, kids := ks }
def kT (par : Nat) : Nd := { kind := 5, data := [97, 98], doc := 1, parent := par }
def k1 : List Nd := [kD [], kH [] 0]
def k2 : List Nd := [kD [], kH [] 0, kP [] 0]
def k3 : List Nd := [kD [2], kH [] 1, kP [] 0]
def k4 : List Nd := [kD [2], kH [3] 1, kP [] 2]
def k5 : List Nd := [kD [2], kH [3] 1, kP [4] 2, kT 3]
theorem up1 {ns : List Nd} (h : isH ns.length 1 = true) (hp : (ndAt ns 1).parent = 0) (hh : (ndAt ns 1).host = 0) : Up ns true 1 [1] := by
  refine .more h ?_
  rw [upN, if_pos ⟨hp, rfl⟩, hh]
  exact .done
theorem k_up2 : Up k3 true 2 [2, 1] := by
  refine .more rfl ?_
  rw [show upN k3 true 2 = 1 from rfl]
  exact up1 rfl rfl rfl
theorem k_up3 : Up (k4 ++ [kT 0]) true 3 [3, 2, 1] := by
  refine .more rfl ?_
  rw [show upN (k4 ++ [kT 0]) true 3 = 2 from rfl]
  refine .more rfl ?_
  rw [show upN (k4 ++ [kT 0]) true 2 = 1 from rfl]
  exact up1 rfl rfl rfl
theorem k_c1 : containsL k2 2 1 = false := by
  rw [containsL, upOf_of (up1 (ns := k2) rfl rfl rfl)]
  rfl
theorem k_c2 : containsL k3 3 2 = false := by
  rw [containsL, upOf_of k_up2]
  rfl
theorem k_c3 : containsL (k4 ++ [kT 0]) 4 3 = false := by
  rw [containsL, upOf_of k_up3]
  rfl
theorem k_e1 : putE k2 1 2 0 = 0 := by
  unfold putE
  rw [if_neg (by decide), if_neg (by decide), k_c1, if_neg (by decide), if_neg (by decide)]
theorem k_e2 : putE k3 2 3 0 = 0 := by
  unfold putE
  rw [if_neg (by decide), if_neg (by decide), k_c2, if_neg (by decide), if_neg (by decide)]
theorem k_e3 : putE (k4 ++ [kT 0]) 3 4 0 = 0 := by
  unfold putE
  rw [if_neg (by decide), if_neg (by decide), k_c3, if_neg (by decide), if_neg (by decide)]
theorem k_i1 : insL k2 1 2 0 = k3 := by
  rw [insL, show cutQ k2 2 = k2 from rfl, if_pos k_e1]; rfl
theorem k_i2 : insL k3 2 3 0 = k4 := by
  rw [insL, show cutQ k3 3 = k3 from rfl, if_pos k_e2]; rfl
theorem k_i3 : putL (k4 ++ [kT 0]) 3 4 0 = k5 := rfl
theorem k_ok1 : InsOk k2 1 2 0 := ⟨fitOf rfl, (show (4 : Int) ≠ 2 by decide), fun _ => cutOk_of rfl, fitOf rfl, rfl, ⟨fun _ => ⟨_, up1 rfl rfl rfl⟩, fun _ => cutOk_of rfl, fun h => absurd rfl h⟩⟩
theorem k_ok2 : InsOk k3 2 3 0 := ⟨fitOf rfl, (show (4 : Int) ≠ 2 by decide), fun _ => cutOk_of rfl, fitOf rfl, rfl, ⟨fun _ => ⟨_, k_up2⟩, fun _ => cutOk_of rfl, fun h => absurd rfl h⟩⟩
theorem k_ok3 : PutOk (k4 ++ [kT 0]) 3 4 0 := ⟨fun _ => ⟨_, k_up3⟩, fun _ => cutOk_of rfl, fun h => absurd rfl h⟩
theorem k_r1 (w : World) {B : Nat} {O : List Nat} (hA : ArW B O k2 w) : RulB false false false false false false (mvV B 1 2 0 false) w := by
  have hf : Fit k2 := fitOf rfl
  have q1 := fun w' (hb : Below w.heap.size w w') => rule1_any 1 2 0 false w' (hA.later hb) hf
  have q2 := fun w' (hb : Below w.heap.size w w') => rule2_any 1 2 0 false w' (hA.later hb) hf (fun _ => ⟨_, up1 rfl rfl rfl⟩)
  have q3 := fun w' (hb : Below w.heap.size w w') => rule3_any 1 2 0 false w' (hA.later hb) hf
  have q4 := fun w' (hb : Below w.heap.size w w') => rule4_any 1 2 0 false w' (hA.later hb) hf
  have q5 := fun w' (hb : Below w.heap.size w w') => rule5_any 1 2 0 false w' (hA.later hb) hf
  have q6 := fun w' (hb : Below w.heap.size w w') => rule6_nil 1 2 false w' (hA.later hb) hf rfl rfl rfl
  rw [show (!parK (kdA k2 1)) = false from rfl] at q1
  rw [k_c1] at q2
  rw [show ((0 : Int) != 0 && parOf k2 0 != 1) = false from rfl] at q3
  rw [show (kdA k2 2 == 1) = false from rfl] at q4
  rw [show rul5 (kdA k2 1) (kdA k2 2) = false from rfl] at q5
  exact ⟨q1, q2, q3, q4, q5, q6⟩
theorem k_r2 (w : World) {B : Nat} {O : List Nat} (hA : ArW B O k3 w) : RulB false false false false false false (mvV B 2 3 0 false) w := by
  have hf : Fit k3 := fitOf rfl
  have q1 := fun w' (hb : Below w.heap.size w w') => rule1_any 2 3 0 false w' (hA.later hb) hf
  have q2 := fun w' (hb : Below w.heap.size w w') => rule2_any 2 3 0 false w' (hA.later hb) hf (fun _ => ⟨_, k_up2⟩)
  have q3 := fun w' (hb : Below w.heap.size w w') => rule3_any 2 3 0 false w' (hA.later hb) hf
  have q4 := fun w' (hb : Below w.heap.size w w') => rule4_any 2 3 0 false w' (hA.later hb) hf
  have q5 := fun w' (hb : Below w.heap.size w w') => rule5_any 2 3 0 false w' (hA.later hb) hf
  have q6 := fun w' (hb : Below w.heap.size w w') => rule6_no 2 3 0 false w' (hA.later hb) hf (show (4 : Int) ≠ 1 by decide)
  rw [show (!parK (kdA k3 2)) = false from rfl] at q1
  rw [k_c2] at q2
  rw [show ((0 : Int) != 0 && parOf k3 0 != 2) = false from rfl] at q3
  rw [show (kdA k3 3 == 1) = false from rfl] at q4
  rw [show rul5 (kdA k3 2) (kdA k3 3) = false from rfl] at q5
  exact ⟨q1, q2, q3, q4, q5, q6⟩
/-- The example's dump. -/
def kTx : List UInt8 := [100, 111, 99, 117, 109, 101, 110, 116, 10, 32, 32, 101, 108, 101, 109, 101, 110, 116, 32, 49, 32, 34, 104, 116, 109, 108, 34, 10, 32, 32, 32, 32, 101, 108, 101, 109, 101, 110, 116, 32, 49, 32, 34, 112, 34, 10, 32, 32, 32, 32, 32, 32, 116, 101, 120, 116, 32, 34, 97, 98, 34, 10]
theorem k_dump : DumpT k5 0 [1] kTx := by
  have l1 : LineOk (kD [2]) := ⟨by decide, rfl, by decide, by decide, by decide⟩
  have l2 : LineOk (kH [3] 1) := ⟨by decide, rfl, by decide, by decide, by decide⟩
  have l3 : LineOk (kP [4] 2) := ⟨by decide, rfl, by decide, by decide, by decide⟩
  have l4 : LineOk (kT 3) := ⟨by decide, rfl, by decide, by decide, by decide⟩
  have h4 : DumpT k5 3 [4] _ := .cons (k := 4) (t1 := []) (by decide) rfl l4 (.nil _) (.nil _)
  have h3 : DumpT k5 2 [3] _ := .cons (k := 3) (by decide) rfl l3 h4 (.nil _)
  have h2 : DumpT k5 1 [2] _ := .cons (k := 2) (by decide) rfl l2 h3 (.nil _)
  have h1 : DumpT k5 0 [1] _ := .cons (k := 1) (by decide) rfl l1 h2 (.nil _)
  refine Eq.mp (congrArg (DumpT k5 0 [1]) ?_) h1
  decide +kernel
theorem AStep.under {n : Nat} {O O' : List Nat} {w0 w1 w2 : World} (h : AStep O w1 O' w2) (hb : Below n w0 w1) (hn : n ≤ w1.heap.size) (hO : ∀ k ∈ O, n ≤ k) : Below n w0 w2 :=
  hb.trans (h.mod.below hn fun k hk hkO => by have := hO k hkO; omega)
set_option maxRecDepth 100000 in
set_option maxHeartbeats 2000000 in
theorem known05_any (w : World) : Calls Tryz.prog 6 #[] w (Ret w (.bool true)) := by
  have H1 := Lib.hid (New_any w)
  go_enter Tryz.func6, Tryz.ntmps6
  go_wp2_with fail
  refine H1.out.mono ?_
  rintro e w1 ⟨rfl, hA1, hb1⟩
  have HB1 := Lib.hid hb1
  obtain ⟨B, hB⟩ : ∃ B, w.heap.size = B := ⟨_, rfl⟩
  rw [hB] at hA1 ⊢
  have HBE := Lib.hid hB
  have H2 := Lib.hid (Document_any false w1 hA1 (Nat.zero_le _))
  clear hb1 hA1 H1 hB
  go_wp2_with fail
  refine H2.out.mono ?_
  rintro e w2 ⟨rfl, O2, hA2, hs2⟩
  have HS2 := Lib.hid hs2
  have H3 := Lib.hid (Element_any 1 1 [104, 116, 109, 108] w2 (ns := [kD []]) hA2 (show 1 ≤ 1000000 by decide) rfl rfl)
  clear hA2 hs2 H2
  go_wp2_with fail
  refine H3.out.mono ?_
  rintro e w3 hm
  rcases hm with ⟨h0, _, _⟩ | ⟨_, rfl, O3, hA3, hs3⟩
  · exact absurd rfl h0
  have HS3 := Lib.hid (HS2.out.trans hs3)
  have H4 := Lib.hid (CreateElement_ok 1 [80] w3 (ns := k1) hA3 (fitOf rfl) rfl rfl rfl (by decide) rfl)
  clear hA3 hs3 HS2 H3
  go_wp2_with fail
  refine H4.out.mono ?_
  rintro e w4 ⟨rfl, O4, hA4, hs4⟩
  have hA4 : ArW B O4 k2 w4 := hA4
  have HS4 := Lib.hid (HS3.out.trans hs4)
  have H5 := Append_one 1 2 w4 hA4 rfl (k_r1 w4 hA4) (by decide) k_ok1
  rw [k_i1] at H5
  have H5 := Lib.hid H5
  clear hA4 hs4 HS3 H4
  have hl : ((k1.length + 1 : Nat) : Int) = 3 := rfl
  rw [hl]
  clear hl
  go_wp2_with fail
  refine H5.out.mono ?_
  rintro e w5 ⟨rfl, O5, hA5, hs5⟩
  have HS5 := Lib.hid (HS4.out.trans hs5)
  have H6 := Append_one 2 3 w5 hA5 rfl (k_r2 w5 hA5) (by decide) k_ok2
  rw [k_i2] at H6
  have H6 := Lib.hid H6
  clear hA5 hs5 HS4 H5
  go_wp2_with fail
  refine H6.out.mono ?_
  rintro e w6 ⟨rfl, O6, hA6, hs6⟩
  have HS6 := Lib.hid (HS5.out.trans hs6)
  have H7 := Lib.hid (SetText_el 3 [97, 98] w6 (ns2 := k5) hA6 (fitOf rfl) rfl rfl rfl (by decide) rfl (fitOf rfl) k_ok3 k_e3 k_i3)
  clear hA6 hs6 HS5 H6
  go_wp2_with fail
  refine H7.out.mono ?_
  rintro e w7 ⟨rfl, O7, hA7, hs7⟩
  have HS7 := Lib.hid (HS6.out.trans hs7)
  have H8 := Lib.hid (Dump_any 1 kTx w7 hA7 (by decide) (fitOf (ns := k5) rfl).kid1 rfl k_dump (by decide))
  clear hA7 hs7 HS6 H7
  go_wp2_with fail
  refine H8.out.mono ?_
  rintro e w8 ⟨rfl, b8⟩
  have HF := Lib.hid ((HS7.out.under HB1.out HB1.out.size (by rw [HBE.out]; simp)).trans (b8.mono (Nat.le_trans HB1.out.size HS7.out.mod.size)))
  clear b8 H8 HS7
  unfold kTx
  go_wp2_with fail
  go_ret
  exact Ret.mk (by simp) HF.out
end Go.Proofs.YtdapdadcninidaaGreatDoor
