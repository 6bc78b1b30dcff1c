/- thicketlaw01.back. -/
import Derived.Test.YtpfnakonpledgaaDoorRf
import Derived.Test.YtpfnakonpledgaaDoorOwn
import Derived.Deep.QuietTactic
import Derived.BigQuiet
namespace Go.Proofs.YtpfnakonpledgaaDoor
open Go.RowKit
attribute [local go_sem] sgetr
attribute [local go_sem] sext
attribute [local go_sem] sapp

def bkT : List (List UInt8 × List UInt8) := [([38, 97, 109, 112, 59], [38]), ([38, 110, 98, 115, 112, 59], [194, 160]), ([38, 108, 116, 59], [60]), ([38, 103, 116, 59], [62]), ([38, 113, 117, 111, 116, 59], [34])]
def bkX (ps : List (List UInt8 × List UInt8)) (s : List UInt8) : Nat × List UInt8 := ps.foldl (fun st p => if p.1.isPrefixOf s then (p.1.length, p.2) else st) (1, s.take 1)
def bkF : Nat → List UInt8 → List UInt8
  | 0, _ => []
  | n + 1, s => if s.isEmpty then [] else (bkX bkT s).2 ++ bkF n (s.drop (bkX bkT s).1)
theorem bkX_next {ps : List (List UInt8 × List UInt8)} {s : List UInt8} {k : Nat} (hk : k < ps.length) : bkX (ps.take (k + 1)) s = if ps[k].1.isPrefixOf s then (ps[k].1.length, ps[k].2) else bkX (ps.take k) s := by
  unfold bkX
  rw [List.take_succ_eq_append_getElem hk, List.foldl_append]
  rfl
theorem bkX_bd {ps : List (List UInt8 × List UInt8)} (hp : ∀ p ∈ ps, 1 ≤ p.1.length ∧ p.2.length ≤ 2) {s : List UInt8} (hs : 0 < s.length) : 1 ≤ (bkX ps s).1 ∧ (bkX ps s).1 ≤ s.length ∧ (bkX ps s).2.length ≤ 2 := by
  have key : ∀ (ps : List (List UInt8 × List UInt8)) (st : Nat × List UInt8), (∀ p ∈ ps, 1 ≤ p.1.length ∧ p.2.length ≤ 2) → (1 ≤ st.1 ∧ st.1 ≤ s.length ∧ st.2.length ≤ 2) →
      (1 ≤ (ps.foldl (fun st p => if p.1.isPrefixOf s then (p.1.length, p.2) else st) st).1 ∧ (ps.foldl (fun st p => if p.1.isPrefixOf s then (p.1.length, p.2) else st) st).1 ≤ s.length ∧ (ps.foldl (fun st p => if p.1.isPrefixOf s then (p.1.length, p.2) else st) st).2.length ≤ 2) := by
    intro ps
    induction ps with
    | nil => intro st _ h; exact h
    | cons p ps ih =>
      intro st hp h
      rw [List.foldl_cons]
      refine ih _ (fun q hq => hp q (List.mem_cons_of_mem _ hq)) ?_
      split
      · rename_i hpre
        have h1 := hp p (List.mem_cons_self ..)
        have := (List.isPrefixOf_iff_prefix.1 hpre).length_le
        exact ⟨h1.1, this, h1.2⟩
      · exact h
  exact key ps _ hp ⟨Nat.le_refl _, hs, by simp; omega⟩
theorem bkF_fuel : ∀ (n m : Nat) (s : List UInt8), s.length ≤ n → s.length ≤ m → bkF n s = bkF m s
  | 0, m, s, h, _ => by
    obtain rfl : s = [] := List.eq_nil_of_length_eq_zero (by omega)
    cases m <;> simp [bkF]
  | n + 1, 0, s, _, h => by
    obtain rfl : s = [] := List.eq_nil_of_length_eq_zero (by omega)
    simp [bkF]
  | n + 1, m + 1, s, h1, h2 => by
    rw [bkF, bkF]
    by_cases hs : s = []
    · simp [hs]
    · have hb := bkX_bd (ps := bkT) (by decide) (List.length_pos_iff.2 hs)
      rw [bkF_fuel n m _ (by simp; omega) (by simp; omega)]
def bkL (s : List UInt8) : List UInt8 := bkF s.length s
theorem bkL_nil : bkL [] = [] := rfl
theorem bkL_cons {s : List UInt8} (hs : s ≠ []) : bkL s = (bkX bkT s).2 ++ bkL (s.drop (bkX bkT s).1) := by
  have hl := List.length_pos_iff.2 hs
  have hb := bkX_bd (ps := bkT) (by decide) hl
  obtain ⟨n, hn⟩ : ∃ n, s.length = n + 1 := ⟨s.length - 1, by omega⟩
  unfold bkL
  rw [hn, bkF, if_neg (by simpa using hs), bkF_fuel n _ _ (by simp; omega) (Nat.le_refl _)]
/-- A call that leaves the world alone, within a quiet region. -/
theorem quiet_left {P : Program} {f : FuncId} {args : Array Value} {w : World} {n : Nat} {v : Value} (h : Calls P f args (w.drewN n) (Same (w.drewN n) v)) :
    Calls P f args (w.drewN n) fun e w'' => e = .returned v ∧ ∃ m, w'' = w.drewN m := h.mono fun _ _ ⟨he, hm⟩ => ⟨he, n, hm.symm⟩
theorem strs_of_heap {W : World} {b : Nat} {vs : Array Value} {t : TypeId} {ts : List (List UInt8)} (h : W.heap[b]? = some (.cells vs t (0, 0))) (hv : vs = (ts.map fun x => Value.string ⟨x.toArray⟩).toArray) : ∀ i (h : i < ts.length), W.cell? ⟨b, i, none⟩ = some (.string ⟨ts[i].toArray⟩) := by
  intro i hi
  subst hv
  rw [Lib.cell_of_heap h]
  simp [hi]
set_option maxRecDepth 100000 in
set_option maxHeartbeats 4000000 in
theorem back_any (l : List UInt8) (w : World) (hs : l.length ≤ 1000000) : Calls Tryd.prog 48 #[.string ⟨l.toArray⟩] w (Ret w (.string ⟨(bkL l).toArray⟩)) := by
  have hmx : Tryd.prog.follows .mixedOrders = true := by kernel_rfl
  have hbd := fun (s : List UInt8) (h : 0 < s.length) => bkX_bd (ps := bkT) (by decide) h
  have hcons := fun (s : List UInt8) (h : s ≠ []) => bkL_cons h
  have hps : ∀ p ∈ bkT, p.1.length ≤ 6 ∧ p.2.length ≤ 2 := by decide
  have HBD := Lib.hid hbd; have HCONS := Lib.hid hcons; have HPS := Lib.hid hps
  clear hbd hcons hps
  go_enter Tryd.func48, Tryd.ntmps48
  go_wp2_with fail
  have hW : ∃ W, (w.alloc (.cells #[.string ⟨#[38, 97, 109, 112, 59]⟩, .string ⟨#[38, 110, 98, 115, 112, 59]⟩, .string ⟨#[38, 108, 116, 59]⟩, .string ⟨#[38, 103, 116, 59]⟩, .string ⟨#[38, 113, 117, 111, 116, 59]⟩] 9)).alloc
      (.cells #[.string ⟨#[38]⟩, .string ⟨#[194, 160]⟩, .string ⟨#[60]⟩, .string ⟨#[62]⟩, .string ⟨#[34]⟩] 9) = W := ⟨_, rfl⟩
  obtain ⟨W1, hW1⟩ := hW
  have hf0 : W1.heap[w.heap.size]? = some (.cells #[.string ⟨#[38, 97, 109, 112, 59]⟩, .string ⟨#[38, 110, 98, 115, 112, 59]⟩, .string ⟨#[38, 108, 116, 59]⟩, .string ⟨#[38, 103, 116, 59]⟩, .string ⟨#[38, 113, 117, 111, 116, 59]⟩] 9 (0, 0)) := by
    rw [← hW1, Below.heap_alloc _ _ _ (by simp)]; exact World.alloc_heap_new w _
  have hf1 : W1.heap[w.heap.size + 1]? = some (.cells #[.string ⟨#[38]⟩, .string ⟨#[194, 160]⟩, .string ⟨#[60]⟩, .string ⟨#[62]⟩, .string ⟨#[34]⟩] 9 (0, 0)) := by
    rw [← hW1]; have := World.alloc_heap_new (w.alloc (.cells #[.string ⟨#[38, 97, 109, 112, 59]⟩, .string ⟨#[38, 110, 98, 115, 112, 59]⟩, .string ⟨#[38, 108, 116, 59]⟩, .string ⟨#[38, 103, 116, 59]⟩, .string ⟨#[38, 113, 117, 111, 116, 59]⟩] 9)) (.cells #[.string ⟨#[38]⟩, .string ⟨#[194, 160]⟩, .string ⟨#[60]⟩, .string ⟨#[62]⟩, .string ⟨#[34]⟩] 9); rwa [World.size_alloc] at this
  have hcf := strs_of_heap (ts := bkT.map (·.1)) hf0 rfl
  have hct := strs_of_heap (ts := bkT.map (·.2)) hf1 rfl
  have hb0 : Below w.heap.size w W1 := hW1 ▸ (balloc w _).alloc (by simp) _
  have hsz : w.heap.size + 2 ≤ W1.heap.size := by rw [← hW1]; simp
  rw [hW1]
  have HC : Hid (∀ j (h : j < bkT.length), W1.cell? ⟨w.heap.size, j, none⟩ = some (.string ⟨(bkT[j].1).toArray⟩) ∧ W1.cell? ⟨w.heap.size + 1, j, none⟩ = some (.string ⟨(bkT[j].2).toArray⟩)) := Lib.hid fun j h => by
    have h1 := hcf j (by simpa using h); have h2 := hct j (by simpa using h)
    simp only [List.getElem_map] at h1 h2
    exact ⟨h1, h2⟩
  have HB0 := Lib.hid hb0
  have HLEN : Hid (bkT.length = 5) := Lib.hid rfl
  have HNX := Lib.hid (fun (s : List UInt8) (k : Nat) (hk : k < bkT.length) => bkX_next (s := s) hk)
  clear hW1 hf0 hf1 hcf hct hb0
  generalize bkT = T at *
  have hT1 : T.length ≤ 5 := by have := HLEN.out; omega
  have hT2 : 5 ≤ T.length := by have := HLEN.out; omega
  go_loopw [5, 6] (fun s5 s6 wr => ∃ (k : Nat) (out : List UInt8), k ≤ l.length ∧ s6 = .int .i64 k ∧ OwnB W1.heap.size wr s5 out ∧ Below W1.heap.size W1 wr ∧ bkL l = out ++ bkL (l.drop k) ∧ out.length ≤ 2 * k) (fun _ s6 _ => l.length - (intOf s6).toNat)
  case atStart => exact ⟨0, [], Nat.zero_le _, rfl, OwnB.nil _ _, Below.refl _ _, rfl, Nat.zero_le _⟩
  case round =>
    obtain ⟨wo, rfl⟩ : ∃ wo : World, wo = wr := ⟨_, rfl⟩
    obtain ⟨k, out, hk, rfl, hown, hb, hR, hol⟩ := hrel
    have HR := Lib.hid hR; have HO := Lib.hid hown; have HB := Lib.hid hb
    have hbs := hb.size
    clear hR hown hb
    by_cases hlt : k < l.length
    · have hbd := HBD.out (l.drop k) (by simp; omega)
      rw [List.length_drop] at hbd
      have hcons := HCONS.out (l.drop k) (by intro h; have := congrArg List.length h; simp at this; omega)
      have HCO := Lib.hid hcons
      clear hcons
      obtain ⟨s, hs⟩ : ∃ s, l.drop k = s := ⟨_, rfl⟩
      go_wp2_with fail
      rw [hs] at hbd HCO HR
      have hsl : s.length ≤ l.length := by rw [← hs]; simp
      have HS := Lib.hid hs
      clear hs
      go_loopw [7, 8, 9] (fun s7 s8 s9 w2 => ∃ j : Nat, j ≤ T.length ∧ s9 = .int .i64 j ∧ s7 = .int .i64 ((bkX (T.take j) s).1 : Nat) ∧ s8 = .string ⟨(bkX (T.take j) s).2.toArray⟩ ∧ ∃ q, w2 = wo.drewN q) (fun _ _ s9 _ => T.length - (intOf s9).toNat)
      case atStart => exact ⟨0, Nat.zero_le _, rfl, rfl, rfl, 0, rfl⟩
      case round =>
        obtain ⟨j, hj, rfl, rfl, rfl, q, hq⟩ := hrel
        have HQ := Lib.hid hq
        by_cases hjl : j < T.length
        · have hnx := HNX.out s j hjl
          obtain ⟨c1, c2⟩ := HC.out j hjl
          have hps := HPS.out T[j] (List.getElem_mem hjl)
          have cc1 : wr.cell? ⟨w.heap.size, j, none⟩ = some (.string ⟨(T[j].1).toArray⟩) := by rw [hq]; exact (HB.out.cell (p := ⟨w.heap.size, j, none⟩) (by show w.heap.size < _; omega)).trans c1
          have cc2 : wr.cell? ⟨w.heap.size + 1, j, none⟩ = some (.string ⟨(T[j].2).toArray⟩) := by rw [hq]; exact (HB.out.cell (p := ⟨w.heap.size + 1, j, none⟩) (by show w.heap.size + 1 < _; omega)).trans c2
          clear hq c1 c2
          obtain ⟨p, hp⟩ : ∃ p, T[j] = p := ⟨_, rfl⟩
          rw [hp] at hnx hps cc1 cc2
          clear hp
          obtain ⟨p1, p2⟩ := p
          dsimp only at hnx hps cc1 cc2
          have hj5 : j < 5 := by omega
          have hs2 : l.drop k = s := HS.out
          have hs3 : s.take (l.length - k) = s := by rw [← hs2]; exact List.take_of_length_le (by simp)
          have hcl := fun w => rBegins_any s p1 w (by omega) (by omega)
          cases hpre : p1.isPrefixOf s
          · rw [hpre, if_neg (by decide)] at hnx
            rw [hpre] at hcl
            have HNXT := Lib.hid hnx; have HCL := Lib.hid hcl
            clear hnx hcl hpre
            go_wp2_with fail
            go_quiet ((go_at_call 86; exact quiet_left (HCL.out _)))
            go_wp2_with fail
            go_roundw
            case rel => exact ⟨j + 1, by omega, by go_num, by rw [HNXT.out], by rw [HNXT.out], _, by rw [HQ.out]; exact World.drewN_drewN _ _ _⟩
            case measure => simp [intOf]; omega
          · rw [hpre, if_pos rfl] at hnx
            rw [hpre] at hcl
            have HNXT := Lib.hid hnx; have HCL := Lib.hid hcl
            clear hnx hcl hpre
            go_wp2_with fail
            go_quiet ((go_at_call 86; exact quiet_left (HCL.out _)))
            go_wp2_with fail
            go_quiet (fail)
            go_wp2_with fail
            go_roundw
            case rel => exact ⟨j + 1, by omega, by go_num, by rw [HNXT.out], by rw [HNXT.out], _, by rw [HQ.out]; exact World.drewN_drewN _ _ _⟩
            case measure => simp [intOf]; omega
        · have HX3 : Hid (bkX (T.take j) s = bkX T s) := Lib.hid (by rw [List.take_of_length_le (by omega)])
          rw [HX3.out]
          obtain ⟨⟨n, x⟩, hx⟩ : ∃ nx, bkX T s = nx := ⟨_, rfl⟩
          rw [hx] at hbd HCO ⊢
          clear hx HX3
          dsimp only at hbd HCO ⊢
          obtain ⟨h1, h2, h3⟩ := hbd
          have HR2 : Hid (bkL l = (out ++ x) ++ bkL (l.drop (k + n))) := Lib.hid (by
            rw [HR.out, HCO.out, List.append_assoc, ← HS.out, List.drop_drop])
          have HO2 : OwnB W1.heap.size wr u5 out := by rw [hq]; exact HO.out
          have HOO := Lib.hid HO2
          have hbw : Below W1.heap.size W1 wr := by rw [hq]; exact ⟨HB.out.os, HB.out.tape, HB.out.output, HB.out.size, HB.out.block⟩
          have HBW := Lib.hid hbw
          have hbs2 := hbw.size
          clear hq HO2 hbw
          go_wp2_with (at_builtin; refine append_str rfl _ _ rfl W1.heap.size _ out rfl HOO.out x rfl (by omega) hbs2 ?_; intro v' w' hown' hb')
          go_roundw
          case rel => exact ⟨k + n, out ++ x, by omega, by go_num, hown', HBW.out.trans hb', HR2.out, by simp; omega⟩
          case measure => simp [intOf]; omega
    · obtain rfl : k = l.length := by omega
      have kc := own_convert HO.out
      have HR2 : Hid (bkL l = out) := Lib.hid (by rw [HR.out, List.drop_length, bkL_nil, List.append_nil])
      go_wp2_with fail
      go_ret
      exact Ret.mk (by rw [HR2.out]; rfl) (HB0.out.trans (HB.out.mono (by have := HB0.out.size; omega)))
end Go.Proofs.YtpfnakonpledgaaDoor
