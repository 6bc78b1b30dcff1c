/- Package dom: check, kind, document. No condition but that the arena fits. -/
import Derived.Test.YtdapdadcninidaaGreatDoorAra
namespace Go.Proofs.YtdapdadcninidaaGreatDoor
open Go.RowKit
attribute [local go_sem ↓] Go.wp_at_zero Go.wp_at_succ

/-- An arena of a size that fits. -/
structure Fit (ns : List Nd) : Prop where
  len : ns.length ≤ 1000000
  kid : ∀ d ∈ ns, d.kids.length ≤ 1000000
  att : ∀ d ∈ ns, d.attrs.length ≤ 1000000
theorem ndAt_mem {ns : List Nd} {h : Int} : ndAt ns h ∈ ns ∨ ndAt ns h = {} := by
  unfold ndAt
  rw [List.getD_eq_getElem?_getD]
  cases e : ns[(h - 1).toNat]? with
  | none => exact .inr rfl
  | some d => exact .inl (List.mem_of_getElem? e)
theorem Fit.kid1 {ns : List Nd} (h : Fit ns) (x : Int) : (ndAt ns x).kids.length ≤ 1000000 := by
  rcases ndAt_mem (ns := ns) (h := x) with e | e
  · exact h.kid _ e
  · rw [e]; exact Nat.zero_le _
theorem Fit.att1 {ns : List Nd} (h : Fit ns) (x : Int) : (ndAt ns x).attrs.length ≤ 1000000 := by
  rcases ndAt_mem (ns := ns) (h := x) with e | e
  · exact h.att _ e
  · rw [e]; exact Nat.zero_le _
theorem Fit.kids {ns : List Nd} (h : Fit ns) (x : Int) : (kidsAt ns x).length ≤ 1000000 := by
  unfold kidsAt
  split
  · exact h.kid1 x
  · exact Nat.zero_le _
/-- What Node describes. -/
def descAt (ns : List Nd) (h : Int) : Nd := if isH ns.length h then ndAt ns h else {}
def nodeE (n : Nat) (h : Int) : Int := if isH n h then 0 else 3
/-- Node, its description's cells written out. -/
structure NodeGot (d : Nd) (er : Int) (w : World) (e : Ending) (w' : World) (k1 : Option Addr) (k2 : Nat) (a1 : Option Addr) (a2 : Nat) : Prop where
  e : e = .returned (.tuple #[.agg #[.int .i64 d.kind, .int .i64 (d.parent : Nat), .slice k1 d.kids.length k2, .int .i64 (d.doc : Nat), .int .i64 d.space, .string ⟨d.name.toArray⟩, .slice a1 d.attrs.length a2, .string ⟨d.data.toArray⟩, .string ⟨d.pub.toArray⟩, .string ⟨d.sys.toArray⟩, .bool d.quirks, .int .i64 (d.contents : Nat), .int .i64 (d.host : Nat)], .int .i64 er])
  k : w'.ownsRow w.heap.size 3 1 (.slice k1 d.kids.length k2) d.kids.length (kidCells d.kids)
  a : w'.ownsRow w.heap.size 121 3 (.slice a1 d.attrs.length a2) d.attrs.length (attCells d.attrs)
  b : Below w.heap.size w w'
theorem NodeD_any (h : Int) (w : World) {B : Nat} {O : List Nat} {ns : List Nd} (hA : ArW B O ns w) (hf : Fit ns) :
    Calls Tryz.prog 22 #[.pointer (some ⟨B, 0, none⟩), .int .i64 h] w fun e w' => ∃ k1 k2 a1 a2, NodeGot (descAt ns h) (nodeE ns.length h) w e w' k1 k2 a1 a2 := by
  refine (Node_any h w hA hf.len (hf.kids h) (hf.att1 h)).mono ?_
  rintro e w' ⟨kv, av, he, hk, ha, hb⟩
  have hk1 : kidsAt ns h = (descAt ns h).kids := by unfold kidsAt descAt; split <;> rfl
  have ha1 : (if isH ns.length h then (ndAt ns h).attrs else []) = (descAt ns h).attrs := by unfold descAt; split <;> rfl
  rw [hk1] at hk
  rw [ha1] at ha
  obtain ⟨k1, k2, rfl⟩ := ownsRow_slice hk
  obtain ⟨a1, a2, rfl⟩ := ownsRow_slice ha
  exact ⟨k1, k2, a1, a2, he, hk, ha, hb⟩
set_option maxRecDepth 100000 in
theorem kind_any (h : Int) (w : World) {B : Nat} {O : List Nat} {ns : List Nd} (hA : ArW B O ns w) (hf : Fit ns) :
    Calls Tryz.prog 81 #[.pointer (some ⟨B, 0, none⟩), .int .i64 h] w (Ret w (.int .i64 (descAt ns h).kind)) := by
  have H1 := Lib.hid (NodeD_any h w hA hf)
  generalize descAt ns h = d at *
  clear hA hf
  go_enter Tryz.func81, Tryz.ntmps81
  go_wp2_with (refine H1.out.mono ?_; rintro e w1 ⟨k1, k2, a1, a2, rfl, -, -, b1⟩)
  go_ret
  exact Ret.mk rfl (b1.alloc b1.size _)
set_option maxRecDepth 100000 in
theorem docOf_any (h : Int) (w : World) {B : Nat} {O : List Nat} {ns : List Nd} (hA : ArW B O ns w) (hf : Fit ns) :
    Calls Tryz.prog 85 #[.pointer (some ⟨B, 0, none⟩), .int .i64 h] w (Ret w (.int .i64 ((descAt ns h).doc : Nat))) := by
  have H1 := Lib.hid (NodeD_any h w hA hf)
  generalize descAt ns h = d at *
  clear hA hf
  go_enter Tryz.func85, Tryz.ntmps85
  go_wp2_with (refine H1.out.mono ?_; rintro e w1 ⟨k1, k2, a1, a2, rfl, -, -, b1⟩)
  go_ret
  exact Ret.mk rfl (b1.alloc b1.size _)
/-- The error of check; o: the place that may be 0. -/
def chkFrom (n : Nat) (o : Int) : Int → List Int → Int
  | _, [] => 0
  | i, h :: hs => if h = 0 ∧ i = o then chkFrom n o (i + 1) hs else if isH n h then chkFrom n o (i + 1) hs else 3
def chkD (n : Nat) (o : Int) (hs : List Int) : Int := chkFrom n o 0 hs
set_option maxRecDepth 100000 in
set_option maxHeartbeats 1000000 in
theorem checkD_any (o : Int) (hs : List Int) (w : World) {B H c : Nat} {O : List Nat} {ns : List Nd} (hA : ArW B O ns w) (hf : Fit ns) (hc : ∀ j v, hs[j]? = some v → w.cell? ⟨H, j, none⟩ = some (.int .i64 v)) (hn : hs.length ≤ 1000) (hH : H < w.heap.size) :
    Calls Tryz.prog 52 #[.pointer (some ⟨B, 0, none⟩), .int .i64 o, .slice (some ⟨H, 0, none⟩) hs.length c] w (Ret w (.int .i64 (chkD ns.length o hs))) := by
  have H1 := Lib.hid (fun w' h (hb : Below w.heap.size w w') => NodeD_any h w' (hA.later hb) hf)
  have HC := Lib.hid hc
  clear hc hA
  go_enter Tryz.func52, Tryz.ntmps52
  go_wp2
  go_loopw [15] (fun i wr => ∃ k : Nat, k ≤ hs.length ∧ i = .int .i64 k ∧ Below w.heap.size w wr ∧ chkFrom ns.length o k (hs.drop k) = chkD ns.length o hs) (fun i _ => hs.length - (intOf i).toNat)
  case atStart => exact ⟨0, Nat.zero_le _, rfl, Below.refl _ _, rfl⟩
  case round =>
    obtain ⟨k, hk, rfl, hb, hall⟩ := hrel
    have HA := Lib.hid hall; have HB := Lib.hid hb
    clear hall
    by_cases hlt : k < hs.length
    · have hcell := (hb.cell (p := ⟨H, k, none⟩) hH).trans (HC.out k hs[k] (List.getElem?_eq_getElem hlt))
      obtain ⟨z, hz⟩ : ∃ z, hs[k] = z := ⟨_, rfl⟩
      rw [hz] at hcell
      have hdr : hs.drop k = z :: hs.drop (k + 1) := by rw [List.drop_eq_getElem_cons hlt, hz]
      have hst : Hid (chkD ns.length o hs = if z = 0 ∧ (k : Int) = o then chkFrom ns.length o ((k + 1 : Nat) : Int) (hs.drop (k + 1)) else if isH ns.length z then chkFrom ns.length o ((k + 1 : Nat) : Int) (hs.drop (k + 1)) else 3) := Lib.hid (by
        rw [← HA.out, hdr]; rfl)
      clear hb hz hdr HA
      by_cases hskip : z = 0 ∧ (k : Int) = o
      · obtain ⟨rfl, rfl⟩ := hskip
        go_wp2
        go_roundw
        case rel => exact ⟨k + 1, by omega, by go_num, HB.out, by rw [hst.out, if_pos ⟨rfl, rfl⟩]⟩
        case measure => simp [intOf]; omega
      · have H2 := Lib.hid (H1.out wr z HB.out)
        have hsk : ((z == 0) = false) ∨ ((z == 0) = true ∧ ((k : Int) == o) = false) := by
          by_cases h0 : z = 0
          · exact .inr ⟨by simpa using h0, by simpa using fun h => hskip ⟨h0, h⟩⟩
          · exact .inl (by simpa using h0)
        have HST := Lib.hid (hst.out.trans (if_neg hskip))
        clear hst hskip
        have hne : nodeE ns.length z = if isH ns.length z then 0 else 3 := rfl
        cases hz : isH ns.length z
        · rw [hz] at hne HST
          have HST2 : Hid (chkD ns.length o hs = 3) := Lib.hid (by rw [HST.out]; rfl)
          rw [hne] at H2
          clear hz hne HST
          generalize descAt ns z = d at *
          rcases hsk with hsk | ⟨hsk, hsk2⟩
          all_goals
            go_wp2_with (refine H2.out.mono ?_; rintro e w1 ⟨k1, k2, a1, a2, rfl, -, -, b1⟩)
            go_ret
            exact ⟨by rw [HST2.out]; rfl, bthen HB.out HB.out.size (b1.alloc b1.size _)⟩
        · rw [hz] at hne HST
          have HST2 : Hid (chkFrom ns.length o ((k + 1 : Nat) : Int) (hs.drop (k + 1)) = chkD ns.length o hs) := Lib.hid (by rw [HST.out]; rfl)
          rw [hne] at H2
          clear hz hne HST
          generalize descAt ns z = d at *
          rcases hsk with hsk | ⟨hsk, hsk2⟩
          all_goals
            go_wp2_with (refine H2.out.mono ?_; rintro e w1 ⟨k1, k2, a1, a2, rfl, -, -, b1⟩)
            go_roundw
            case rel => exact ⟨k + 1, by omega, by go_num, bthen HB.out HB.out.size (b1.alloc b1.size _), HST2.out⟩
            case measure => simp [intOf]; omega
    · have HR : Hid (chkD ns.length o hs = 0) := Lib.hid (by
        rw [← HA.out, List.drop_of_length_le (by omega)]; rfl)
      go_wp2
      go_ret
      exact Ret.mk (by rw [HR.out]; rfl) HB.out
end Go.Proofs.YtdapdadcninidaaGreatDoor
