/- text.escape, EscapeText, EscapeValue. -/
import Derived.Test.YtgjodmjegmilhaaDoorBld
import Derived.Deep.LoopGhost
namespace Go.Proofs.YtgjodmjegmilhaaDoor
open Go.RowKit
attribute [local go_sem] sext

abbrev Pair := List UInt8 × List UInt8
def firstP : List Pair → List UInt8 → Option Pair
  | [], _ => none
  | p :: ps, s => if p.1.isPrefixOf s then some p else firstP ps s
def escF (ps : List Pair) : Nat → List UInt8 → List UInt8
  | 0, _ => []
  | n + 1, s => if s.isEmpty then [] else match firstP ps s with
    | some p => p.2 ++ escF ps n (s.drop p.1.length)
    | none => s.take 1 ++ escF ps n (s.drop 1)
def ampNb : List Pair := [([38], [38, 97, 109, 112, 59]), ([194, 160], [38, 110, 98, 115, 112, 59])]
def ltGt : List Pair := [([60], [38, 108, 116, 59]), ([62], [38, 103, 116, 59])]
def quotL : List Pair := [([34], [38, 113, 117, 111, 116, 59])]
def escL (ps : List Pair) (s : List UInt8) : List UInt8 := escF (ampNb ++ ps) s.length s
def IsPairs (w : World) (v : Value) (ps : List Pair) : Prop :=
  ∃ b cap, v = .slice (some ⟨b, 0, none⟩) ps.length cap ∧ ∀ i (h : i < ps.length), w.cell? ⟨b, i * 2, none⟩ = some (.string ⟨ps[i].1.toArray⟩) ∧ w.cell? ⟨b, i * 2 + 1, none⟩ = some (.string ⟨ps[i].2.toArray⟩)

theorem firstP_some {ps : List Pair} {s : List UInt8} {p : Pair} (h : firstP ps s = some p) : p ∈ ps ∧ p.1.isPrefixOf s = true := by
  induction ps with
  | nil => cases h
  | cons q qs ih =>
    rw [firstP] at h
    split at h
    · cases h; exact ⟨List.mem_cons_self .., by assumption⟩
    · exact ⟨List.mem_cons_of_mem _ (ih h).1, (ih h).2⟩
theorem escF_fuel {ps : List Pair} (hps : ∀ p ∈ ps, p.1 ≠ []) : ∀ (n m : Nat) (s : List UInt8), s.length ≤ n → s.length ≤ m → escF ps n s = escF ps m s
  | 0, m, s, h, _ => by
    obtain rfl : s = [] := List.eq_nil_of_length_eq_zero (by omega)
    cases m <;> simp [escF]
  | n + 1, 0, s, _, h => by
    obtain rfl : s = [] := List.eq_nil_of_length_eq_zero (by omega)
    simp [escF]
  | n + 1, m + 1, s, h1, h2 => by
    rw [escF, escF]
    by_cases hs : s = []
    · simp [hs]
    · have hl := List.length_pos_iff.2 hs
      rw [if_neg (by simpa using hs), if_neg (by simpa using hs)]
      cases hf : firstP ps s with
      | none => simp only []; rw [escF_fuel hps n m (s.drop 1) (by simp; omega) (by simp; omega)]
      | some p =>
        have hp := List.length_pos_iff.2 (hps p (firstP_some hf).1)
        simp only []; rw [escF_fuel hps n m (s.drop p.1.length) (by simp; omega) (by simp; omega)]
def escS (ps : List Pair) (s : List UInt8) : List UInt8 := escF ps s.length s
theorem escS_hit {ps : List Pair} (hps : ∀ p ∈ ps, p.1 ≠ []) {s : List UInt8} {p : Pair} (hs : s ≠ []) (h : firstP ps s = some p) : escS ps s = p.2 ++ escS ps (s.drop p.1.length) := by
  have hl := List.length_pos_iff.2 hs
  have hp := List.length_pos_iff.2 (hps p (firstP_some h).1)
  obtain ⟨n, hn⟩ : ∃ n, s.length = n + 1 := ⟨s.length - 1, by omega⟩
  unfold escS
  rw [hn, escF, if_neg (by simpa using hs), h]
  simp only []
  rw [escF_fuel hps n _ _ (by simp; omega) (Nat.le_refl _)]
theorem escS_miss {ps : List Pair} (hps : ∀ p ∈ ps, p.1 ≠ []) {s : List UInt8} (hs : s ≠ []) (h : firstP ps s = none) : escS ps s = s.take 1 ++ escS ps (s.drop 1) := by
  have hl := List.length_pos_iff.2 hs
  obtain ⟨n, hn⟩ : ∃ n, s.length = n + 1 := ⟨s.length - 1, by omega⟩
  unfold escS
  rw [hn, escF, if_neg (by simpa using hs), h]
  simp only []
  rw [escF_fuel hps n _ _ (by simp; omega) (Nat.le_refl _)]
theorem firstP_drop {ps : List Pair} {s : List UInt8} {i : Nat} (h : i < ps.length) : firstP (ps.drop i) s = if ps[i].1.isPrefixOf s then some ps[i] else firstP (ps.drop (i + 1)) s := by
  rw [List.drop_eq_getElem_cons h, firstP]

theorem IsPairs.kept {w w' : World} {v : Value} {ps : List Pair} (h : IsPairs w v ps) {S : Nat → Prop} (hm : Mod S w w') (hS : ∀ b n c, v = .slice (some ⟨b, 0, none⟩) n c → ¬ S b) : IsPairs w' v ps := by
  obtain ⟨b, cap, rfl, hc⟩ := h
  refine ⟨b, cap, rfl, fun i hi => ?_⟩
  obtain ⟨h1, h2⟩ := hc i hi
  have hlt := World.block_lt_of_cell? w _ h1
  exact ⟨(hm.cell (p := ⟨b, i * 2, none⟩) hlt (hS _ _ _ rfl)).trans h1, (hm.cell (p := ⟨b, i * 2 + 1, none⟩) hlt (hS _ _ _ rfl)).trans h2⟩
def pairCells (ps : List Pair) : List Value := ps.flatMap fun p => [.string ⟨p.1.toArray⟩, .string ⟨p.2.toArray⟩]
theorem pairCells_len (ps : List Pair) : (pairCells ps).length = ps.length * 2 := by
  induction ps with
  | nil => rfl
  | cons p ps ih => unfold pairCells at ih ⊢; simp only [List.flatMap_cons, List.length_append, ih]; simp; omega
theorem pairCells_at : ∀ (ps : List Pair) (i : Nat) (h : i < ps.length), (pairCells ps)[i * 2]? = some (.string ⟨ps[i].1.toArray⟩) ∧ (pairCells ps)[i * 2 + 1]? = some (.string ⟨ps[i].2.toArray⟩)
  | p :: ps, 0, _ => ⟨rfl, rfl⟩
  | p :: ps, i + 1, h => by
    have := pairCells_at ps i (by simpa using h)
    have e : pairCells (p :: ps) = .string ⟨p.1.toArray⟩ :: .string ⟨p.2.toArray⟩ :: pairCells ps := rfl
    rw [e, show (i + 1) * 2 = i * 2 + 1 + 1 by omega]
    simpa using this
theorem pairCells_one : ∀ (ps : List Pair) (u : Value), u ∈ pairCells ps → u.oneCell' = true := by
  intro ps u hu
  unfold pairCells at hu
  obtain ⟨p, _, hp⟩ := List.mem_flatMap.1 hu
  simp at hp
  rcases hp with rfl | rfl <;> rfl
theorem isPairs_of_own {w : World} {base n : Nat} {v : Value} {ps : List Pair} (h : w.ownsRow base 68 2 v n (pairCells ps)) (hn : n = ps.length) (h0 : 0 < n) : IsPairs w v ps := by
  rcases h.2 with ⟨_, h⟩ | ⟨g, cap, cur, rfl, _, hg, _, _, _, ht⟩
  · omega
  · subst hn
    refine ⟨g, cap, rfl, fun i hi => ?_⟩
    have hp := pairCells_at ps i hi
    have hl := pairCells_len ps
    have key : ∀ j (u : Value), (pairCells ps)[j]? = some u → w.cell? ⟨g, j, none⟩ = some u := fun j u hu => by
      have hj := (List.getElem?_eq_some_iff.1 hu).1
      rw [← ht, List.getElem?_take] at hu
      split at hu
      · simp only [World.cell?, hg]
        simpa using hu
      · cases hu
    exact ⟨key _ _ hp.1, key _ _ hp.2⟩
theorem bl_out {R b k : Nat} {bs : List Value} {A : World} (h : Bld R b bs A) (hk : k < b) (hb : b < R) : ¬ BlR A b k := by
  rintro (e | e)
  · omega
  · have := (h.row e).1; omega
theorem info2s : (Tryd.prog.info? 68).map (fun i => (i.zero, i.size, i.bytes)) = some (some (.agg #[.string ByteArray.empty, .string ByteArray.empty]), 2, 32) := by kernel_rfl

set_option maxRecDepth 100000 in
set_option maxHeartbeats 2000000 in
theorem escape_any (l : List UInt8) (v : Value) (ps : List Pair) (w : World) (hs : l.length ≤ 1000000000) (hn : ps.length ≤ 10) (hn0 : 0 < ps.length) (hps : ∀ p ∈ ps, p.1 ≠ [] ∧ p.2.length ≤ 6) (hv : IsPairs w v ps) :
    Calls Tryd.prog 46 #[.string ⟨l.toArray⟩, v] w (Ret w (.string ⟨(escL ps l).toArray⟩)) := by
  obtain ⟨pb, pc, rfl, hp⟩ := hv
  obtain ⟨i0, hi, hz0, hz1, hz2⟩ := info_parts info2s
  have hnews : ∀ j u, (pairCells ps)[j]? = some u → w.cell? ⟨pb, j, none⟩ = some u := fun j u hu => by
    have hj := (List.getElem?_eq_some_iff.1 hu).1
    rw [pairCells_len] at hj
    have hc := hp (j / 2) (by omega)
    have ha := pairCells_at ps (j / 2) (by omega)
    rcases Nat.mod_two_eq_zero_or_one j with e | e
    · have e2 : j / 2 * 2 = j := by omega
      rw [e2] at hc ha
      rw [hu] at ha
      rw [hc.1, ha.1]
    · have e2 : j / 2 * 2 + 1 = j := by omega
      rw [e2] at hc ha
      rw [hu] at ha
      rw [hc.2, ha.2]
  have hpl : pb < w.heap.size := World.block_lt_of_cell? _ _ (hp 0 hn0).1
  have HN := Lib.hid hnews
  have HP := Lib.hid hp
  have HPS := Lib.hid hps
  clear hp hnews hps
  have hown : Hid ((w.alloc (.cells #[.string ⟨#[38]⟩, .string ⟨#[38, 97, 109, 112, 59]⟩, .string ⟨#[194, 160]⟩, .string ⟨#[38, 110, 98, 115, 112, 59]⟩] 68)).ownsRow w.heap.size 68 2 (.slice (some ⟨w.heap.size, 0, none⟩) 2 2) 2 (pairCells ampNb)) :=
    Lib.hid ⟨rfl, .inr ⟨w.heap.size, 2, _, rfl, Nat.le_refl _, World.alloc_heap_new w _, Nat.le_refl _, by unfold maxLen; omega, rfl, rfl⟩⟩
  go_enter Tryd.func46, Tryd.ntmps46
  go_wp2_with fail
  go_step3
  go_wp2_with (at_builtin; refine wpList_append_own _ rfl _ _ 79 rfl w.heap.size 68 i0 (.agg #[.string ByteArray.empty, .string ByteArray.empty]) 2 32 Tryd.underlying79 hi hz0 hz1 hz2 rfl (by decide) _ _ _ rfl hown.out ⟨pb, 0, none⟩ ps.length pc (pairCells ps) rfl (pairCells_len ps) ?c1 ?c2 ?c3 ?c4 ?c5 ?_)
  case c1 =>
    intro j u hu
    have h1 : (⟨pb, 0, none⟩ : Addr).add j = ⟨pb, j, none⟩ := by unfold Addr.add; split <;> simp_all
    rw [h1]
    exact ((balloc w _).cell (p := ⟨pb, j, none⟩) hpl).trans (HN.out j u hu)
  case c2 => exact pairCells_one ps
  case c3 => unfold maxLen; omega
  case c4 => omega
  case c5 => simp
  intro v' w1 hown' hgrow _
  have hB1 : Below w.heap.size w w1 := (balloc w _).grown hgrow (by simp) (fun k hk => (hown.out.lt k hk).1)
  have hpw : IsPairs w1 v' (ampNb ++ ps) := isPairs_of_own (n := 2 + ps.length) (by
    have e : pairCells (ampNb ++ ps) = pairCells ampNb ++ pairCells ps := by unfold pairCells; rw [List.flatMap_append]
    rw [e]; exact hown') (by simp [ampNb]; omega) (by omega)
  obtain ⟨vb, vc, hvv, hvc⟩ := hpw
  subst hvv
  have hvl : vb < w1.heap.size := World.block_lt_of_cell? _ _ (hvc 0 (by simp; omega)).1
  have HV := Lib.hid (show IsPairs w1 (.slice (some ⟨vb, 0, none⟩) (ampNb ++ ps).length vc) (ampNb ++ ps) from ⟨vb, vc, rfl, hvc⟩)
  obtain ⟨al, hal⟩ : ∃ al, al = ampNb ++ ps := ⟨_, rfl⟩
  have hAL : Hid (∀ p ∈ al, p.1 ≠ [] ∧ p.2.length ≤ 6) := Lib.hid (by
    subst hal
    intro p hp
    rcases List.mem_append.1 hp with h | h
    · have key : ∀ p ∈ ampNb, p.1 ≠ [] ∧ p.2.length ≤ 6 := by decide
      exact key p h
    · exact HPS.out p h)
  have hall : al.length ≤ 12 := by subst hal; simp [ampNb]; omega
  have hsz1 := hB1.size
  rw [← hal] at HV ⊢
  have HAL := Lib.hid hal
  clear hown hown' hgrow hvc HN HP HPS hal hi hz0 hz1 hz2
  have hf0 : Hid ((w1.alloc (.cells #[.pointer none, .slice none 0 0] 53)).heap[w1.heap.size]? = some (.cells #[.pointer none, .slice none 0 0] 53 (0, 0))) := Lib.hid (World.alloc_heap_new w1 _)
  have HBW := Lib.hid (bthen hB1 hB1.size (balloc w1 (.cells #[.pointer none, .slice none 0 0] 53)))
  have HVW := Lib.hid (HV.out.kept (S := fun _ => False) (Mod.alloc _ w1 (.cells #[.pointer none, .slice none 0 0] 53)) (fun _ _ _ _ h => h))
  go_wp2_with fail
  go_step3
  go_wp2_with fail
  go_loopg [0] l.length (fun g s0 wx => ∃ (rest done : List UInt8), s0 = .string ⟨rest.toArray⟩ ∧ rest.length = g ∧ Bld (w1.heap.size + 1) w1.heap.size (Lib.byteCells done) wx ∧ IsPairs wx (.slice (some ⟨vb, 0, none⟩) al.length vc) al ∧ Below w.heap.size w wx ∧ w1.heap.size < wx.heap.size ∧ done.length + 6 * rest.length ≤ 6 * l.length ∧ done ++ escS al rest = escS al l)
  case atStart => exact ⟨l, [], rfl, rfl, Bld.fresh hf0.out (Nat.lt_succ_self _), HVW.out, HBW.out, by simp, by simp, rfl⟩
  case round =>
    obtain ⟨wo, rfl⟩ : ∃ wo : World, wo = wr := ⟨_, rfl⟩
    obtain ⟨rest, done, rfl, hg, hbl, hip, hbw, hsz, hln, hes⟩ := hrel
    have HBL := Lib.hid hbl; have HIP := Lib.hid hip; have HES := Lib.hid hes; have HG := Lib.hid hg
    clear hbl hip hes hg hf0 HBW HVW
    by_cases hnil : rest = []
    · subst hnil
      go_wp2_with fail
      refine (String_bld _ _ _ _ HBL.out).mono ?_
      rintro e w2 ⟨rfl, b2, _⟩
      go_wp2_with fail
      rw [Exit.noGoto_ret]
      go_ret
      refine ⟨?_, hbw.trans (b2.mono (by omega))⟩
      have hd := HES.out
      simp [escS, escF] at hd
      show Ending.returned (Value.string ⟨done.toArray⟩) = _
      rw [escL, ← HAL.out]
      rw [hd]
    · have hne : rest.isEmpty = false := by simpa using hnil
      have hpos : 0 < rest.length := List.length_pos_iff.2 hnil
      go_wp2_with fail
      go_loopg [0, 17] al.length (fun g2 s0 s17 wy => ∃ i : Nat, i + g2 = al.length ∧ s0 = .string ⟨rest.toArray⟩ ∧ s17 = .int .i64 i ∧ Bld (w1.heap.size + 1) w1.heap.size (Lib.byteCells done) wy ∧ IsPairs wy (.slice (some ⟨vb, 0, none⟩) al.length vc) al ∧ Below w.heap.size w wy ∧ w1.heap.size < wy.heap.size ∧ firstP al rest = firstP (al.drop i) rest)
      case atStart => exact ⟨0, by omega, rfl, rfl, HBL.out, HIP.out, hbw, hsz, rfl⟩
      case round =>
        obtain ⟨i, hig, rfl, rfl, hbl2, hip2, hbw2, hsz2, hfp⟩ := hrel
        have HFP := Lib.hid hfp; have HBL2 := Lib.hid hbl2; have HIP2 := Lib.hid hip2; have HBW2 := Lib.hid hbw2; have HIG := Lib.hid hig
        clear hfp hbl2 hip2 hbw2 hbw
        by_cases hil : i < al.length
        · obtain ⟨_, _, hcc, hc⟩ := HIP2.out
          cases hcc
          obtain ⟨h1, h2⟩ := hc i hil
          clear hc
          obtain ⟨⟨ka, va⟩, hkv⟩ : ∃ kv, kv = al[i] := ⟨_, rfl⟩
          rw [← hkv] at h1 h2
          dsimp only at h1 h2
          have hkp : Hid (ka ≠ [] ∧ va.length ≤ 6) := Lib.hid (hAL.out (ka, va) (hkv ▸ List.getElem_mem hil))
          have HKV := Lib.hid hkv
          clear hkv
          go_wp2_with fail
          refine (Tryd.strings_HasPrefix _ _ _).mono ?_
          rintro e w2 ⟨rfl, rfl⟩
          have hsz3 : wr.heap.size < (wr.alloc (.cells #[.string ⟨ka.toArray⟩, .string ⟨va.toArray⟩] 68)).heap.size := by simp
          have hn1 : (wr.alloc (.cells #[.string ⟨ka.toArray⟩, .string ⟨va.toArray⟩] 68)).cell? ⟨wr.heap.size, 1, none⟩ = some (.string ⟨va.toArray⟩) := by rw [Lib.cell_of_heap (World.alloc_heap_new wr _)]; rfl
          have HA := Lib.hid (Mod.alloc (fun _ => False) wr (.cells #[.string ⟨ka.toArray⟩, .string ⟨va.toArray⟩] 68))
          by_cases hpf : ka.isPrefixOf rest = true
          · rw [show Lib.hasPrefix (⟨rest.toArray⟩ : ByteArray).data.toList (⟨ka.toArray⟩ : ByteArray).data.toList = true from hpf]
            have hkl : ka.length ≤ rest.length := (List.isPrefixOf_iff_prefix.1 hpf).length_le
            have hkp0 := List.length_pos_iff.2 hkp.out.1
            go_wp2_with fail
            refine (WriteString_bld (w1.heap.size + 1) w1.heap.size (Lib.byteCells done) va _ (HBL2.out.kept fun k hk _ => HA.out.block k hk id) (by omega) (by rw [Lib.byteCells_length]; have := hkp.out.2; omega)).mono ?_
            rintro e w3 ⟨rfl, hb3, hm3⟩
            have hnrow : ¬ BlR (wr.alloc (.cells #[.string ⟨ka.toArray⟩, .string ⟨va.toArray⟩] 68)) w1.heap.size wr.heap.size := by
              rintro (e | e)
              · omega
              · have := (HBL2.out.row (e.of_block (HA.out.block w1.heap.size hsz2 id))).2
                omega
            have hn3 : w3.cell? ⟨wr.heap.size, 0, none⟩ = some (.string ⟨ka.toArray⟩) := (hm3.cell (p := ⟨wr.heap.size, 0, none⟩) hsz3 hnrow).trans (by rw [Lib.cell_of_heap (World.alloc_heap_new wr _)]; rfl)
            have hsz4 := hm3.size
            have HB3 := Lib.hid hb3; have HM3 := Lib.hid hm3
            clear hb3 hm3 hnrow
            go_wp2_with fail
            go_roundg (rest.length - ka.length)
            case measure => have := HG.out; omega
            case rel =>
              have hm := (HA.out.mono (T := BlR wr w1.heap.size) fun _ _ e => e.elim).trans (HM3.out.mono fun k _ e => e.imp id fun e => e.of_block (HA.out.block w1.heap.size hsz2 id))
              refine ⟨rest.drop ka.length, done ++ va, by rw [List.take_of_length_le (by simp)], by simp, .inr (by rw [Lib.byteCells_append]; exact HB3.out), HIP2.out.kept hm ?_, HBW2.out.trans (hm.below HBW2.out.size ?_), by omega, ?_, ?_⟩
              · rintro _ _ _ ⟨⟩; exact bl_out HBL2.out hvl (Nat.lt_succ_self _)
              · intro k hk; exact bl_out HBL2.out (Nat.lt_of_lt_of_le hk hsz1) (Nat.lt_succ_self _)
              · have := hkp.out.2; simp; omega
              · rw [← HES.out, escS_hit (fun p hp => (hAL.out p hp).1) hnil (p := (ka, va)) (by rw [HFP.out, firstP_drop hil, ← HKV.out, if_pos hpf]), List.append_assoc]
          · rw [show Lib.hasPrefix (⟨rest.toArray⟩ : ByteArray).data.toList (⟨ka.toArray⟩ : ByteArray).data.toList = false from (Bool.eq_false_iff.2 hpf : ka.isPrefixOf rest = false)]
            go_wp2_with fail
            go_roundg (al.length - (i + 1))
            case measure => have := HIG.out; omega
            case rel =>
              refine ⟨i + 1, by omega, rfl, by simp, HBL2.out.kept fun k hk _ => HA.out.block k hk id, HIP2.out.kept HA.out (fun _ _ _ _ h => h), HBW2.out.trans (HA.out.below HBW2.out.size fun _ _ h => h), by omega, ?_⟩
              rw [HFP.out, firstP_drop hil, ← HKV.out, if_neg hpf]
        · have hnone : Hid (firstP al rest = none) := Lib.hid (by rw [HFP.out, List.drop_of_length_le (by omega)]; rfl)
          go_wp2_with fail
          refine (WriteByte_bld _ _ _ (rest[0]) _ HBL2.out ?_ ?_).mono ?_
          · omega
          · rw [Lib.byteCells_length]; omega
          rintro e w3 ⟨rfl, hb3, hm3⟩
          go_wp2_with fail
          go_roundg (rest.length - 1)
          case measure => have := HG.out; omega
          case rel =>
            refine ⟨rest.drop 1, done ++ [rest[0]], by rw [List.take_of_length_le (by simp), List.drop_one], by simp, .inr (by rw [Lib.byteCells_append]; exact hb3), HIP2.out.kept hm3 ?_, HBW2.out.trans (hm3.below HBW2.out.size ?_), by have := hm3.size; omega, ?_, ?_⟩
            · rintro _ _ _ ⟨⟩; exact bl_out HBL2.out hvl (Nat.lt_succ_self _)
            · intro k hk; exact bl_out HBL2.out (Nat.lt_of_lt_of_le hk hsz1) (Nat.lt_succ_self _)
            · simp; omega
            · rw [← HES.out, escS_miss (fun p hp => (hAL.out p hp).1) hnil hnone.out, List.append_assoc]
              congr 2
              cases rest with
              | nil => exact absurd rfl hnil
              | cons a t => rfl

theorem EscapeText_any (l : List UInt8) (w : World) (hs : l.length ≤ 1000000000) :
    Calls Tryd.prog 24 #[.string ⟨l.toArray⟩] w (Ret w (.string ⟨(escL ltGt l).toArray⟩)) := by
  have hp : IsPairs (w.alloc (.cells #[.string ⟨#[60]⟩, .string ⟨#[38, 108, 116, 59]⟩, .string ⟨#[62]⟩, .string ⟨#[38, 103, 116, 59]⟩] 68)) (.slice (some ⟨w.heap.size, 0, none⟩) 2 2) ltGt := by
    refine ⟨w.heap.size, 2, rfl, fun i hi => ?_⟩
    match i, hi with
    | 0, _ => constructor <;> (rw [Lib.cell_of_heap (World.alloc_heap_new w _)]; rfl)
    | 1, _ => constructor <;> (rw [Lib.cell_of_heap (World.alloc_heap_new w _)]; rfl)
  have HP := Lib.hid hp
  clear hp
  go_enter Tryd.func24, Tryd.ntmps24
  go_wp2_with fail
  refine (escape_any l _ ltGt _ hs (by decide) (by decide) (by decide) HP.out).mono ?_
  rintro e w2 ⟨rfl, b2⟩
  go_wp2_with fail
  go_ret
  exact ⟨rfl, (balloc w _).trans (b2.mono (by simp))⟩
theorem EscapeValue_any (l : List UInt8) (w : World) (hs : l.length ≤ 1000000000) :
    Calls Tryd.prog 25 #[.string ⟨l.toArray⟩] w (Ret w (.string ⟨(escL quotL l).toArray⟩)) := by
  have hp : IsPairs (w.alloc (.cells #[.string ⟨#[34]⟩, .string ⟨#[38, 113, 117, 111, 116, 59]⟩] 68)) (.slice (some ⟨w.heap.size, 0, none⟩) 1 1) quotL := by
    refine ⟨w.heap.size, 1, rfl, fun i hi => ?_⟩
    match i, hi with
    | 0, _ => constructor <;> (rw [Lib.cell_of_heap (World.alloc_heap_new w _)]; rfl)
  have HP := Lib.hid hp
  clear hp
  go_enter Tryd.func25, Tryd.ntmps25
  go_wp2_with fail
  refine (escape_any l _ quotL _ hs (by decide) (by decide) (by decide) HP.out).mono ?_
  rintro e w2 ⟨rfl, b2⟩
  go_wp2_with fail
  go_ret
  exact ⟨rfl, (balloc w _).trans (b2.mono (by simp))⟩
end Go.Proofs.YtgjodmjegmilhaaDoor
