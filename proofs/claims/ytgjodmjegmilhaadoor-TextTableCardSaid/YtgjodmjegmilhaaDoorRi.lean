/- The reference's encoder and decoder: Bytes, Text, Decode, Input. -/
import Derived.Test.YtgjodmjegmilhaaDoorRh
import Derived.Test.YtgjodmjegmilhaaDoorRb
namespace Go.Proofs.YtgjodmjegmilhaaDoor
open Go.RowKit
attribute [local go_sem] sgetr
attribute [local go_sem] sext

def bOf (n : Int) : UInt8 := UInt8.ofNat n.toNat
theorem bOf_val {n : Int} (h0 : 0 ≤ n) (h1 : n < 256) : ((bOf n).toNat : Int) = n := by
  rw [bOf, UInt8.toNat_ofNat']; omega
def rBytes (r : Int) : List UInt8 :=
  if r < 128 then [bOf r] else if r < 2048 then [bOf (192 + r / 64), bOf (128 + r % 64)]
  else if r < 65536 then [bOf (224 + r / 4096), bOf (128 + r / 64 % 64), bOf (128 + r % 64)]
  else [bOf (240 + r / 262144), bOf (128 + r / 4096 % 64), bOf (128 + r / 64 % 64), bOf (128 + r % 64)]
theorem rBytes_len (r : Int) : 1 ≤ (rBytes r).length ∧ (rBytes r).length ≤ 4 := by
  unfold rBytes; repeat' split
  all_goals simp
def RetBytes (w : World) (bs : List UInt8) (e : Ending) (w' : World) : Prop := ∃ v, e = .returned v ∧ OwnB w.heap.size w' v bs ∧ Below w.heap.size w w'
theorem OwnB.fresh (w : World) (vs : Array Value) (bs : List UInt8) (hl : bs.length ≤ 100) (h : vs.toList = byteVals bs) : OwnB w.heap.size (w.alloc (.cells vs 5)) (.slice (some ⟨w.heap.size, 0, none⟩) bs.length bs.length) bs := by
  have hn := byteVals_len bs
  refine ⟨by rw [Nat.mul_one], .inr ⟨w.heap.size, bs.length, vs, (0, 0), by rw [hn], Nat.le_refl _, World.alloc_heap_new w _, Nat.zero_le _, by rw [hn]; exact Nat.le_refl _, by unfold maxLen; omega, ?_, ?_⟩⟩
  · rw [Nat.mul_one, ← hn, ← h]; simp
  · rw [h, Nat.mul_one, List.take_length]
set_option maxHeartbeats 1000000 in
theorem rBytes_any (r : Int) (w : World) (h0 : 0 ≤ r) (h1 : r ≤ 2097151) : Calls Tryd.prog 48 #[.int .i32 r] w (RetBytes w (rBytes r)) := by
  by_cases c1 : r < 128
  · have hv : rBytes r = [bOf r] := by rw [rBytes, if_pos c1]
    rw [hv]; clear hv
    go_enter Tryd.func48, Tryd.ntmps48
    go_wp2_with fail
    go_ret
    refine ⟨_, rfl, OwnB.fresh w _ _ (by simp) ?_, balloc _ _⟩
    simp only [byteVals, Lib.byteCells, List.map_cons, List.map_nil]
    rw [bOf_val (by omega) (by omega)]
  by_cases c2 : r < 2048
  · have hv : rBytes r = [bOf (192 + r / 64), bOf (128 + r % 64)] := by rw [rBytes, if_neg c1, if_pos c2]
    rw [hv]; clear hv
    go_enter Tryd.func48, Tryd.ntmps48
    go_wp2_with fail
    go_ret
    refine ⟨_, rfl, OwnB.fresh w _ _ (by simp) ?_, balloc _ _⟩
    simp only [byteVals, Lib.byteCells, List.map_cons, List.map_nil]
    rw [bOf_val (by omega) (by omega), bOf_val (by omega) (by omega)]
  by_cases c3 : r < 65536
  · have hv : rBytes r = [bOf (224 + r / 4096), bOf (128 + r / 64 % 64), bOf (128 + r % 64)] := by rw [rBytes, if_neg c1, if_neg c2, if_pos c3]
    rw [hv]; clear hv
    go_enter Tryd.func48, Tryd.ntmps48
    go_wp2_with fail
    go_ret
    refine ⟨_, rfl, OwnB.fresh w _ _ (by simp) ?_, balloc _ _⟩
    simp only [byteVals, Lib.byteCells, List.map_cons, List.map_nil]
    rw [bOf_val (by omega) (by omega), bOf_val (by omega) (by omega), bOf_val (by omega) (by omega)]
  · have hv : rBytes r = [bOf (240 + r / 262144), bOf (128 + r / 4096 % 64), bOf (128 + r / 64 % 64), bOf (128 + r % 64)] := by rw [rBytes, if_neg c1, if_neg c2, if_neg c3]
    rw [hv]; clear hv
    go_enter Tryd.func48, Tryd.ntmps48
    go_wp2_with fail
    go_ret
    refine ⟨_, rfl, OwnB.fresh w _ _ (by simp) ?_, balloc _ _⟩
    simp only [byteVals, Lib.byteCells, List.map_cons, List.map_nil]
    rw [bOf_val (by omega) (by omega), bOf_val (by omega) (by omega), bOf_val (by omega) (by omega), bOf_val (by omega) (by omega)]

/-- append of another slice of bytes. -/
theorem append_bytes {ops : Array Oper} {rest : List Oper} {o : Oper} {a : Act} {Q : Exit → Act → World → Prop} {W : World} (hgd : o.guard = none) (s x : Operand)
    (ho : o.op = .call { callee := .builtin .append, args := #[s, x], argTypes := #[51, 51] })
    (R : Nat) (v : Value) (bs : List UInt8) (hs : a.eval s = v) (hown : OwnB R W v bs) (R2 : Nat) (u : Value) (cs : List UInt8) (hx : a.eval x = u) (hu : OwnB R2 W u cs) (hcs : 0 < cs.length)
    (hlen : bs.length + cs.length ≤ 100000000000) (hR : R ≤ W.heap.size)
    (h : ∀ v' w', OwnB R w' v' (bs ++ cs) → Below R W w' → wpList Tryd.prog ops Q rest (a.put o.dst v') w') : wpList Tryd.prog ops Q (o :: rest) a W := by
  obtain ⟨i0, hi, hz0, hz1, hz2⟩ := info_parts infoB
  obtain ⟨g, c, rfl, _, _⟩ := OwnV.cell hu (i := 0) (by rw [byteVals_len]; exact hcs)
  refine wpList_append_ownF _ hgd s x 51 ho R 5 i0 (.int .u8 0) 1 1 Tryd.underlying51 hi hz0 hz1 hz2 rfl (by decide) v _ _ hs hown ⟨g, 0, none⟩ _ _ (byteVals cs) hx (by rw [Nat.mul_one]) ?_ ?_ ?_ ?_ hR ?_
  · intro j y hj
    obtain ⟨hjl, rfl⟩ := List.getElem?_eq_some_iff.1 hj
    obtain ⟨g', c', e, _, hc⟩ := OwnV.cell hu hjl
    cases e
    by_cases h0 : j = 0
    · subst h0; exact hc
    · simpa [Addr.add, h0] using hc
  · intro y hy
    simp only [byteVals, Lib.byteCells, List.mem_map] at hy
    obtain ⟨c, _, rfl⟩ := hy
    rfl
  · rw [byteVals_len, byteVals_len]; unfold maxLen; omega
  · rw [byteVals_len, byteVals_len]; omega
  · intro v' w' hown' hg _
    refine h v' w' ?_ ?_
    · unfold OwnB OwnV
      rw [byteVals_app, List.length_append]
      exact hown'
    · refine ⟨hg.os, hg.tape, hg.output, hg.size, fun k hk => hg.block k (by omega) (fun e => ?_)⟩
      have := (hown.lt k e.symm).1
      omega
def runeVals (rs : List Int) : List Value := rs.map fun r => .int .i32 r
def OwnR (R : Nat) (w : World) (v : Value) (rs : List Int) : Prop := OwnV R 21 w v (runeVals rs)
theorem infoR : (Tryd.prog.info? 21).map (fun i => (i.zero, i.size, i.bytes)) = some (some (.int .i32 0), 1, 4) := by kernel_rfl
theorem append_rune {ops : Array Oper} {rest : List Oper} {o : Oper} {a : Act} {Q : Exit → Act → World → Prop} {W : World} (hgd : o.guard = none) (s x : Operand)
    (ho : o.op = .call { callee := .builtin .append, args := #[s, x], argTypes := #[46, 46] })
    (R : Nat) (v : Value) (rs : List Int) (hs : a.eval s = v) (hown : OwnR R W v rs) (r : Int) (T : TypeId) (hx : a.eval x = .slice (some ⟨W.heap.size, 0, none⟩) 1 1)
    (hlen : rs.length + 1 ≤ 100000000000) (hR : R ≤ W.heap.size)
    (h : ∀ v' w', OwnR R w' v' (rs ++ [r]) → Below R W w' → wpList Tryd.prog ops Q rest (a.put o.dst v') w') : wpList Tryd.prog ops Q (o :: rest) a (W.alloc (.cells #[.int .i32 r] T)) :=
  append_one hgd s x 46 ho R 21 (.int .i32 0) 4 Tryd.underlying46 infoR rfl v (runeVals rs) hs hown (.int .i32 r) rfl T hx (by simpa [runeVals] using hlen) (by decide) hR
    (fun v' w' h1 h2 => h v' w' (by unfold OwnR runeVals; rw [List.map_append]; exact h1) h2)
theorem OwnR.cell {R : Nat} {w : World} {a : Option Addr} {n c : Nat} {rs : List Int} (h : OwnR R w (.slice a n c) rs) {i : Nat} (hi : i < rs.length) : ∃ g, a = some ⟨g, 0, none⟩ ∧ w.cell? ⟨g, i, none⟩ = some (.int .i32 rs[i]) := by
  obtain ⟨g, c', e, -, hc⟩ := OwnV.cell h (i := i) (by simpa [runeVals] using hi)
  injection e with ea _ _
  refine ⟨g, ea, hc.trans ?_⟩
  simp [runeVals]
def textL (rs : List Int) : List UInt8 := rs.flatMap rBytes
theorem textL_len (rs : List Int) : (textL rs).length ≤ 4 * rs.length := by
  induction rs with
  | nil => simp [textL]
  | cons r rs ih =>
    have := (rBytes_len r).2
    simp only [textL, List.flatMap_cons, List.length_append, List.length_cons] at ih ⊢
    omega
set_option maxRecDepth 100000 in
set_option maxHeartbeats 1000000 in
theorem rText_any (rs : List Int) (v : Value) (R : Nat) (w : World) (hv : OwnR R w v rs) (hs : rs.length ≤ 1000000000) (hr : ∀ r ∈ rs, 0 ≤ r ∧ r ≤ 2097151) : Calls Tryd.prog 31 #[v] w (Ret w (.string ⟨(textL rs).toArray⟩)) := by
  have HV := Lib.hid hv; have HRN := Lib.hid hr
  obtain ⟨a, c, rfl⟩ := OwnV.shape hv
  have hrl : (runeVals rs).length = rs.length := by simp [runeVals]
  rw [hrl] at HV ⊢
  clear hv hr hrl
  go_enter Tryd.func31, Tryd.ntmps31
  go_wp2_with fail
  go_loopw [3, 4] (fun s3 s4 wr => ∃ k : Nat, k ≤ rs.length ∧ s4 = .int .i64 k ∧ OwnB w.heap.size wr s3 (textL (rs.take k)) ∧ Below w.heap.size w wr) (fun _ s4 _ => rs.length - (intOf s4).toNat)
  case atStart => exact ⟨0, Nat.zero_le _, rfl, OwnB.nil _ _, Below.refl _ _⟩
  case round =>
    obtain ⟨k, hk, rfl, hown, hb⟩ := hrel
    have HO := Lib.hid hown; have HB := Lib.hid hb
    have hbs := hb.size
    clear hown hb
    by_cases hlt : k < rs.length
    · obtain ⟨g, rfl, hcell⟩ := OwnR.cell HV.out hlt
      have hg := World.block_lt_of_cell? _ _ hcell
      have hcell2 : wr.cell? ⟨g, k, none⟩ = some (.int .i32 rs[k]) := (HB.out.cell (p := ⟨g, k, none⟩) hg).trans hcell
      obtain ⟨r0, r1⟩ := HRN.out rs[k] (List.getElem_mem hlt)
      have HT : Hid (textL (rs.take (k + 1)) = textL (rs.take k) ++ rBytes rs[k]) := Lib.hid (by
        unfold textL; rw [List.take_succ_eq_append_getElem hlt, List.flatMap_append, List.flatMap_cons, List.flatMap_nil, List.append_nil])
      have htl := textL_len (rs.take k)
      rw [List.length_take] at htl
      have H1 := Lib.hid (rBytes_any rs[k] wr r0 r1)
      have hbl := rBytes_len rs[k]
      obtain ⟨x, hx⟩ : ∃ x, rs[k] = x := ⟨_, rfl⟩
      rw [hx] at H1 hbl HT hcell2
      clear hcell hx
      generalize rBytes x = bs at *
      obtain ⟨hb1, hb4⟩ := hbl
      go_wp2_with fail
      refine H1.out.mono ?_
      rintro e w1 ⟨u, rfl, hu, b1⟩
      have HO1 := Lib.hid (OwnB.below HO.out b1); have HU := Lib.hid hu
      have hB1 := Lib.hid (bthen HB.out HB.out.size b1)
      have hs1 := b1.size
      clear hu b1 hcell2
      go_wp2_with (at_builtin; refine append_bytes rfl _ _ rfl w.heap.size _ _ rfl HO1.out _ _ bs rfl HU.out (by omega) (by omega) (by omega) ?_; intro v' w' hown' hb')
      go_roundw
      case rel => exact ⟨k + 1, by omega, by go_num, by rw [HT.out]; exact hown', hB1.out.trans hb'⟩
      case measure => simp [intOf]; omega
    · obtain rfl : k = rs.length := by omega
      have kc := own_convert HO.out
      rw [List.take_length] at kc
      go_wp2_with fail
      go_ret
      exact Ret.mk rfl HB.out
end Go.Proofs.YtgjodmjegmilhaaDoor
