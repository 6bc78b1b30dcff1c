/- Package arena: New, Document, Element. -/
import Derived.Test.YtdapdadcninidaaGreatDoorAr3
namespace Go.Proofs.YtdapdadcninidaaGreatDoor
open Go.RowKit
attribute [local go_sem ↓] Go.wp_at_zero Go.wp_at_succ

theorem ArW.put {B g i j cap n : Nat} {O : List Nat} {ns : List Nd} {d d' : Nd} {v : Value} {w : World} (h : ArW B O ns w) (hx : ns[i]? = some d) (hc : w.cell? ⟨B, 0, none⟩ = some (.slice (some ⟨g, 0, none⟩) n cap)) (hj : j < 13)
    (hd : ∀ kv av, ndCells d' kv av = (ndCells d kv av).set j v) (hk : d'.kids = d.kids) (ha : d'.attrs = d.attrs) :
    ArW B O (ns.set i d') (w.setCell ⟨g, i * 13 + j, none⟩ v) ∧ AStep O w O (w.setCell ⟨g, i * 13 + j, none⟩ v) := by
  obtain ⟨tab, inv, L, h1, rfl, rfl⟩ := h
  rw [List.getElem?_map] at hx
  obtain ⟨x, hy, rfl⟩ := Option.map_eq_some_iff.1 hx
  have ht : tab = .slice (some ⟨g, 0, none⟩) n cap := Option.some.inj (h1.c0.symm.trans hc)
  obtain ⟨h2, h3⟩ := ar_put (d := d') h1 ht hy hj (hd x.kv x.av) hk ha
  have hb := blocks_set (B := B) (tab := tab) (y := ⟨d', x.kv, x.av⟩) hy rfl rfl
  rw [hb] at h3
  exact ⟨⟨tab, inv, _, h2, hb, by rw [List.map_set]⟩, h3⟩
theorem ArW.inlen {B : Nat} {O : List Nat} {ns : List Nd} {w : World} (h : ArW B O ns w) : ∃ ad cap, w.cell? ⟨B, 0, none⟩ = some (.slice ad ns.length cap) := by
  obtain ⟨tab, inv, L, h1, rfl, rfl⟩ := h
  obtain ⟨ad, cap, ht⟩ := h1.form
  exact ⟨ad, cap, by rw [List.length_map, ← ht]; exact h1.c0⟩
set_option maxRecDepth 100000 in
theorem New_any (w : World) : Calls Tryz.prog 7 #[] w fun e w' => e = .returned (.pointer (some ⟨w.heap.size, 0, none⟩)) ∧ ArW w.heap.size [w.heap.size] [] w' ∧ Below w.heap.size w w' := by
  go_enter Tryz.func7, Tryz.ntmps7
  go_wp2_with fail
  go_ret
  refine ⟨rfl, ⟨.slice none 0 0, .map none, [], ⟨World.alloc_heap_new w _, ⟨rfl, .inl ⟨rfl, rfl⟩⟩, (fun x hx => by cases hx), (fun x hx => by cases hx), by simp [blocks, Value.ownBlock]⟩, by simp [blocks, Value.ownBlock], rfl⟩, by go_grown⟩
set_option maxRecDepth 100000 in
set_option maxHeartbeats 1000000 in
theorem Document_any (q : Bool) (w : World) {B : Nat} {O : List Nat} {ns : List Nd} (hA : ArW B O ns w) (hl : ns.length ≤ 1000000) :
    Calls Tryz.prog 8 #[.pointer (some ⟨B, 0, none⟩), .bool q] w fun e w' => e = .returned (.int .i64 ((ns.length + 1 : Nat) : Int)) ∧ ∃ O', ArW B O' (ns ++ [{ kind := 1, quirks := q, doc := ns.length + 1 }]) w' ∧ AStep O w O' w' := by
  have H1 := Lib.hid (addW_any { kind := 1, quirks := q } w hA hl rfl rfl)
  clear hA
  go_enter Tryz.func8, Tryz.ntmps8
  go_wp2_with fail
  refine H1.out.mono ?_
  rintro e w1 ⟨rfl, O', hA2, hS⟩
  have hx : (ns ++ [{ kind := 1, quirks := q }])[ns.length]? = some { kind := 1, quirks := q } := by simp
  obtain ⟨g, cap, kv, av, c0, hn, -, -⟩ := hA2.node hx
  have c3 := hn.c3
  have f3 := hn.fz 3 (by omega)
  obtain ⟨hA3, hS3⟩ := hA2.put (j := 3) (d' := { kind := 1, quirks := q, doc := ns.length + 1 }) (v := .int .i64 ((ns.length + 1 : Nat) : Int)) hx c0 (by omega) (fun _ _ => rfl) rfl rfl
  have hlen : (ns ++ [({ kind := 1, quirks := q } : Nd)]).length = ns.length + 1 := by simp
  rw [hlen] at c0
  rw [List.set_append_right _ _ (Nat.le_refl _), Nat.sub_self, List.set_cons_zero] at hA3
  have H2 := Lib.hid (at_any ns.length w1 c0 (Nat.lt_succ_self _) (by omega))
  have HF := Lib.hid (show ∃ O', ArW B O' (ns ++ [{ kind := 1, quirks := q, doc := ns.length + 1 }]) _ ∧ AStep O w O' _ from ⟨O', hA3, hS.trans hS3⟩)
  clear hA2 hS hA3 hS3 hx hn c0 hlen
  obtain ⟨y, hy⟩ : ∃ y : Int, ((ns.length + 1 : Nat) : Int) = y := ⟨_, rfl⟩
  rw [hy] at HF H2 ⊢
  have HY := Lib.hid hy
  clear hy
  go_wp2_with (go_at_call 37; refine H2.out.mono ?_; rintro e w1 ⟨rfl, rfl⟩)
  go_ret
  exact ⟨by rw [HY.out]; rfl, HF.out⟩
def spaceOk (s : Int) : Bool := decide (0 ≤ s) && decide (s ≤ 7)
set_option maxRecDepth 100000 in
set_option maxHeartbeats 1000000 in
theorem spaces_one (s : Int) (w : World) {H c : Nat} (hc : w.cell? ⟨H, 0, none⟩ = some (.int .i64 s)) : Calls Tryz.prog 40 #[.slice (some ⟨H, 0, none⟩) 1 c] w fun e w' => e = .returned (.bool (spaceOk s)) ∧ w = w' := by
  unfold spaceOk
  go_enter Tryz.func40, Tryz.ntmps40
  go_wp2
  go_loop [4, 7] (fun _ i => ∃ k : Nat, k ≤ 1 ∧ i = .int .i64 k ∧ (1 ≤ k → (decide (0 ≤ s) && decide (s ≤ 7)) = true)) (fun _ i => 1 - (intOf i).toNat)
  case atStart => exact ⟨0, Nat.zero_le _, rfl, fun h => absurd h (by omega)⟩
  case round =>
    obtain ⟨k, hk, rfl, hall⟩ := hrel
    by_cases h0 : k = 0
    · subst h0
      clear hall
      by_cases h1 : 0 ≤ s
      · by_cases h2 : s ≤ 7
        · have HN : Hid ((decide (0 ≤ s) && decide (s ≤ 7)) = true) := Lib.hid (by simp [h1, h2])
          go_wp2
          go_round
          case rel => exact ⟨1, by omega, rfl, fun _ => HN.out⟩
          case measure => simp [intOf]
        · have HN : Hid ((decide (0 ≤ s) && decide (s ≤ 7)) = false) := Lib.hid (by simp [h2])
          go_wp2
          go_ret
          exact ⟨by first | (rw [HN.out]; rfl) | (simp [*]; done), rfl⟩
      · have HN : Hid ((decide (0 ≤ s) && decide (s ≤ 7)) = false) := Lib.hid (by simp [h1])
        go_wp2
        go_ret
        exact ⟨by first | (rw [HN.out]; rfl) | (simp [*]; done), rfl⟩
    · obtain rfl : k = 1 := by omega
      have HN := Lib.hid (hall (Nat.le_refl _))
      clear hall
      go_wp2
      go_ret
      exact ⟨by first | (rw [HN.out]; rfl) | (simp [*]; done), rfl⟩
set_option maxRecDepth 100000 in
theorem once_nil (w : World) : Calls Tryz.prog 39 #[.slice none 0 0] w fun e w' => e = .returned (.tuple #[.slice none 0 0, .bool true]) ∧ w = w' := by
  go_enter Tryz.func39, Tryz.ntmps39
  go_wp2
  go_loop [4, 6, 9] (fun o _ i => o = .slice none 0 0 ∧ i = .int .i64 0) (fun _ _ _ => 0)
  case atStart => exact ⟨rfl, rfl⟩
  case round =>
    obtain ⟨rfl, rfl⟩ := hrel
    go_wp2
    go_ret2
    exact ⟨rfl, rfl⟩
def tmplW : List UInt8 := [116, 101, 109, 112, 108, 97, 116, 101]
def isTmpl (d : Nd) : Bool := decide (d.kind = 4) && (decide (d.space = 1) && (d.name == tmplW))
/-- No template. -/
theorem template_no (d : Nd) (kv av : Value) (w : World) {g o : Nat} (hn : NdIs w g o d kv av) (hk : d.kind = 4) (hd : (d.name == tmplW) = false) :
    Calls Tryz.prog 41 #[.pointer (some ⟨g, o, none⟩)] w fun e w' => e = .returned (.bool false) ∧ w = w' := by
  have c0 := hn.c0
  have c4 := hn.c4
  have c5 := hn.c5
  rw [hk] at c0
  obtain ⟨nm, hnm⟩ : ∃ nm, d.name = nm := ⟨_, rfl⟩
  rw [hnm] at c5 hd
  have hd2 : (nm == [116, 101, 109, 112, 108, 97, 116, 101]) = false := hd
  clear hn hd
  go_enter Tryz.func41, Tryz.ntmps41
  go_wp2
  all_goals
    go_ret
    exact ⟨rfl, rfl⟩
set_option maxRecDepth 100000 in
set_option maxHeartbeats 1000000 in
theorem Element_any (doc : Nat) (s : Int) (nm : List UInt8) (w : World) {B : Nat} {O : List Nat} {ns : List Nd} (hA : ArW B O ns w) (hl : ns.length ≤ 1000000) (hs : spaceOk s = true) (ht : (nm == tmplW) = false) :
    Calls Tryz.prog 9 #[.pointer (some ⟨B, 0, none⟩), .int .i64 (doc : Int), .int .i64 s, .string ⟨nm.toArray⟩, .slice none 0 0] w (Made B O ns w doc { kind := 4, space := s, name := nm }) := by
  have H1 := Lib.hid (fun w' (h : ArW B O ns w') => document_any (doc : Int) w' h hl)
  have H2 := Lib.hid (fun w' (h : ArW B O ns w') => addW_any { kind := 4, space := s, name := nm, doc := doc } w' h hl rfl rfl)
  have HA := Lib.hid hA
  have HON := Lib.hid once_nil
  have HS := Lib.hid (fun w' H c hc => hs ▸ spaces_one s w' (H := H) (c := c) hc)
  have HT := Lib.hid ht
  clear hA ht hs
  obtain ⟨z, hz⟩ : ∃ z, docE ns (doc : Int) = z := ⟨_, rfl⟩
  rw [hz] at H1
  have HZ := Lib.hid hz
  clear hz
  by_cases h0 : z = 0
  · subst h0
    go_enter Tryz.func9, Tryz.ntmps9
    go_wp2_with fail
    refine (H1.out _ HA.out).mono ?_
    rintro e w1 ⟨rfl, b1⟩
    go_wp2_with fail
    refine (HON.out _).mono ?_
    rintro e w2 ⟨rfl, rfl⟩
    go_wp2_with fail
    refine (HS.out _ _ _ (by simp)).mono ?_
    rintro e w3 ⟨rfl, rfl⟩
    have bw : Below w.heap.size w (w1.alloc (.cells #[.int .i64 s] 29)) := b1.alloc b1.size _
    have BW := Lib.hid bw
    clear bw
    go_wp2_with fail
    refine (H2.out _ (HA.out.later BW.out)).mono ?_
    rintro e w4 ⟨rfl, O', hA2, hS2⟩
    have hx : (ns ++ [({ kind := 4, space := s, name := nm, doc := doc } : Nd)])[ns.length]? = some { kind := 4, space := s, name := nm, doc := doc } := by simp
    obtain ⟨g, cap, kv, av, c0, hn, -, -⟩ := hA2.node hx
    have hlen : (ns ++ [({ kind := 4, space := s, name := nm, doc := doc } : Nd)]).length = ns.length + 1 := by simp
    rw [hlen] at c0
    have H3 := Lib.hid (at_any ns.length w4 c0 (Nat.lt_succ_self _) (by omega))
    have H4 := Lib.hid (template_no _ kv av w4 hn rfl HT.out)
    have hfin : Made B O ns w (doc : Int) { kind := 4, space := s, name := nm } (.returned (.tuple #[.int .i64 ((ns.length + 1 : Nat) : Int), .int .i64 0])) w4 := .inr ⟨HZ.out, rfl, O', hA2, astep_pre BW.out hS2⟩
    have HF := Lib.hid hfin
    clear hfin hA2 hS2 hn c0 hlen hx
    obtain ⟨y, hy⟩ : ∃ y : Int, ((ns.length + 1 : Nat) : Int) = y := ⟨_, rfl⟩
    rw [hy] at HF H3 ⊢
    clear hy
    go_wp2_with (first | (go_at_call 37; refine H3.out.mono ?_; rintro e w5 ⟨rfl, rfl⟩) | (go_at_call 41; refine H4.out.mono ?_; rintro e w5 ⟨rfl, rfl⟩))
    go_ret2
    exact HF.out
  · have h1 : (z != 0) = true := by simpa using h0
    go_enter Tryz.func9, Tryz.ntmps9
    go_wp2_with fail
    refine (H1.out _ HA.out).mono ?_
    rintro e w1 ⟨rfl, b1⟩
    have hfin : Made B O ns w (doc : Int) { kind := 4, space := s, name := nm } (.returned (.tuple #[.int .i64 0, .int .i64 z])) w1 := .inl ⟨by rw [HZ.out]; exact h0, by rw [HZ.out], b1⟩
    have HF := Lib.hid hfin
    clear hfin b1
    go_wp2_with fail
    go_ret2
    exact HF.out
end Go.Proofs.YtdapdadcninidaaGreatDoor
