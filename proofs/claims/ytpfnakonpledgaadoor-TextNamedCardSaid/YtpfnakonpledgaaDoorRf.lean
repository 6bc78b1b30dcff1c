/- ref.escape, EscapeText, EscapeValue. -/
import Derived.Test.YtpfnakonpledgaaDoorRc
import Derived.Test.YtpfnakonpledgaaDoorEsc
import Derived.Deep.QuietTactic
import Derived.BigQuiet
namespace Go.Proofs.YtpfnakonpledgaaDoor
open Go.RowKit
attribute [local go_sem] sgetr
attribute [local go_sem] sext
attribute [local go_sem] sapp

/-- The slice value v holds these strings. -/
def IsStrs (w : World) (v : Value) (ts : List (List UInt8)) : Prop := ∃ b cap, v = .slice (some ⟨b, 0, none⟩) ts.length cap ∧ ∀ i (h : i < ts.length), w.cell? ⟨b, i, none⟩ = some (.string ⟨ts[i].toArray⟩)
/-- What one byte becomes: the last pair that meets it, else the byte, else the ampersand's reference. -/
def escX0 (c : UInt8) : List UInt8 := if c = 38 then [38, 97, 109, 112, 59] else [c]
def escXk (ps : List (UInt8 × List UInt8)) (c : UInt8) : List UInt8 := ps.foldl (fun x p => if c = p.1 then p.2 else x) (escX0 c)
def rEsc (X : UInt8 → List UInt8) : List UInt8 → List UInt8
  | [] => []
  | [c] => X c
  | c :: d :: u => if c = 194 ∧ d = 160 then [38, 110, 98, 115, 112, 59] ++ rEsc X u else X c ++ rEsc X (d :: u)
theorem rEsc_nb {X : UInt8 → List UInt8} {l : List UInt8} {k : Nat} (h : k + 1 < l.length) (h1 : l[k] = 194) (h2 : l[k + 1] = 160) : rEsc X (l.drop k) = [38, 110, 98, 115, 112, 59] ++ rEsc X (l.drop (k + 2)) := by
  rw [List.drop_eq_getElem_cons (show k < l.length by omega), List.drop_eq_getElem_cons h, rEsc, if_pos ⟨h1, h2⟩]
theorem rEsc_one {X : UInt8 → List UInt8} {l : List UInt8} {k : Nat} (h : k < l.length) (hn : ∀ h : k + 1 < l.length, ¬ (l[k] = 194 ∧ l[k + 1] = 160)) : rEsc X (l.drop k) = X l[k] ++ rEsc X (l.drop (k + 1)) := by
  rw [List.drop_eq_getElem_cons h]
  by_cases h1 : k + 1 < l.length
  · rw [List.drop_eq_getElem_cons h1, rEsc, if_neg (hn h1)]
  · rw [List.drop_of_length_le (show l.length ≤ k + 1 by omega), rEsc, rEsc, List.append_nil]
theorem escXk_len {ps : List (UInt8 × List UInt8)} (hp : ∀ p ∈ ps, p.2.length ≤ 6) (c : UInt8) : (escXk ps c).length ≤ 6 := by
  have key : ∀ (ps : List (UInt8 × List UInt8)) (x : List UInt8), (∀ p ∈ ps, p.2.length ≤ 6) → x.length ≤ 6 → (ps.foldl (fun x p => if c = p.1 then p.2 else x) x).length ≤ 6 := by
    intro ps
    induction ps with
    | nil => intro x _ h; exact h
    | cons p ps ih =>
      intro x hp h
      rw [List.foldl_cons]
      refine ih _ (fun q hq => hp q (List.mem_cons_of_mem _ hq)) ?_
      split
      · exact hp p (List.mem_cons_self ..)
      · exact h
  refine key ps _ hp ?_
  unfold escX0
  split <;> simp
theorem escXk_next {ps : List (UInt8 × List UInt8)} {c : UInt8} {k : Nat} (hk : k < ps.length) : escXk (ps.take (k + 1)) c = if c = ps[k].1 then ps[k].2 else escXk (ps.take k) c := by
  unfold escXk
  rw [List.take_succ_eq_append_getElem hk, List.foldl_append]
  rfl

set_option maxRecDepth 100000 in
set_option maxHeartbeats 4000000 in
theorem rEscape_any (l : List UInt8) (ps : List (UInt8 × List UInt8)) (v : Value) (w : World) (hs : l.length ≤ 1000000) (hn : ps.length ≤ 100) (hp : ∀ p ∈ ps, p.2.length ≤ 6) (hv : IsStrs w v (ps.map (·.2))) :
    Calls Tryd.prog 87 #[.string ⟨l.toArray⟩, .string ⟨(ps.map (·.1)).toArray⟩, v] w (Ret w (.string ⟨(rEsc (escXk ps) l).toArray⟩)) := by
  obtain ⟨b, cap, rfl, hcell⟩ := hv
  have HC : Hid (∀ i (h : i < ps.length), w.cell? ⟨b, i, none⟩ = some (.string ⟨(ps[i].2).toArray⟩)) := Lib.hid fun i h => by
    have := hcell i (by simpa using h); simpa using this
  have HP := Lib.hid hp
  have HF : Hid ((ps.map (·.1)).length = ps.length) := Lib.hid (by simp)
  have HF2 : Hid (∀ i (h : i < (ps.map (·.1)).length) (h' : i < ps.length), (ps.map (·.1))[i] = ps[i].1) := Lib.hid fun i h h' => by simp
  simp only [List.length_map]
  obtain ⟨fs, hfs⟩ : ∃ fs, ps.map (·.1) = fs := ⟨_, rfl⟩
  rw [hfs] at HF HF2 ⊢
  clear hcell hp hfs
  have hmx : Tryd.prog.follows .mixedOrders = true := by kernel_rfl
  go_enter Tryd.func87, Tryd.ntmps87
  go_wp2_with fail
  go_loopw [7, 8] (fun s7 i wr => ∃ (k : Nat) (out : List UInt8) (q : Nat), k ≤ l.length ∧ i = .int .i64 k ∧ s7 = .string ⟨out.toArray⟩ ∧ wr = w.drewN q ∧ rEsc (escXk ps) l = out ++ rEsc (escXk ps) (l.drop k) ∧ out.length ≤ 6 * k) (fun _ i _ => l.length - (intOf i).toNat)
  case atStart => exact ⟨0, [], 0, Nat.zero_le _, rfl, rfl, rfl, rfl, Nat.zero_le _⟩
  case round =>
    obtain ⟨k, out, q, hk, rfl, rfl, rfl, hR, hol⟩ := hrel
    have HR := Lib.hid hR; clear hR
    by_cases hlt : k < l.length
    · by_cases hnb : ∃ h : k + 1 < l.length, l[k] = 194 ∧ l[k + 1] = 160
      · obtain ⟨h1, h2, h3⟩ := hnb
        have HR2 : Hid (rEsc (escXk ps) l = (out ++ [38, 110, 98, 115, 112, 59]) ++ rEsc (escXk ps) (l.drop (k + 2))) := Lib.hid (by rw [HR.out, rEsc_nb h1 h2 h3, List.append_assoc])
        have e1 : ((l[k].toNat : Int) == 194) = true := by rw [h2]; rfl
        have e2 : ((l[k + 1].toNat : Int) == 160) = true := by rw [h3]; rfl
        have hov : ¬ 9223372036854775807 < out.length + 6 := by omega
        clear h2 h3 HR
        go_wp2_with fail
        go_roundw
        case rel => exact ⟨k + 2, _, q, by omega, by go_num, rfl, rfl, HR2.out, by simp; omega⟩
        case measure => simp [intOf]; omega
      · have hcs : ((l[k].toNat : Int) == 194) = false ∨ (((l[k].toNat : Int) == 194) = true ∧ ¬ k + 1 < l.length) ∨ ∃ h : k + 1 < l.length, ((l[k].toNat : Int) == 194) = true ∧ ((l[k + 1].toNat : Int) == 160) = false := by
          have e1 : ((l[k].toNat : Int) == 194) = (l[k] == 194) := u8_eq (b := 194)
          rw [e1]
          by_cases h1 : l[k] = 194
          · refine .inr ?_
            by_cases h2 : k + 1 < l.length
            · refine .inr ⟨h2, by simp [h1], ?_⟩
              have e2 : ((l[k + 1].toNat : Int) == 160) = (l[k + 1] == 160) := u8_eq (b := 160)
              rw [e2, Bool.eq_false_iff]
              intro h; exact hnb ⟨h2, h1, by simpa using h⟩
            · exact .inl ⟨by simp [h1], h2⟩
          · exact .inl (by simp [h1])
        have HR2 : Hid (rEsc (escXk ps) l = (out ++ escXk ps l[k]) ++ rEsc (escXk ps) (l.drop (k + 1))) := Lib.hid (by rw [HR.out, rEsc_one hlt fun h h' => hnb ⟨h, h'⟩, List.append_assoc])
        have hxl := escXk_len HP.out l[k]
        have htk : List.take 1 (List.drop k l) = [l[k]] := by rw [List.drop_eq_getElem_cons hlt]; rfl
        clear hnb HR
        have h0 : ([l[k]] == ([38] : List UInt8)) = true ∨ ([l[k]] == ([38] : List UInt8)) = false := by cases ([l[k]] == ([38] : List UInt8)) <;> simp
        have HX0 : Hid (([l[k]] == ([38] : List UInt8)) = true → escX0 l[k] = [38, 97, 109, 112, 59]) := Lib.hid fun h => by rw [escX0, if_pos (by simpa using h)]
        have HX1 : Hid (([l[k]] == ([38] : List UInt8)) = false → escX0 l[k] = [l[k]]) := Lib.hid fun h => by rw [escX0, if_neg (by simpa using h)]
        rcases hcs with e1 | ⟨e1, e2⟩ | ⟨e0, e1, e2⟩
        all_goals
          rcases h0 with h0 | h0
          all_goals
            go_wp2_with fail
            have HX2 : Hid (escX0 l[k] = if ([l[k]] == ([38] : List UInt8)) = true then [38, 97, 109, 112, 59] else [l[k]]) := Lib.hid (by
              cases h : ([l[k]] == ([38] : List UInt8))
              · rw [HX1.out h]; rfl
              · rw [HX0.out h]; rfl)
            rw [h0] at HX2
            clear htk
            go_loopw [9, 10] (fun s9 s10 wr => ∃ (j q2 : Nat), j ≤ fs.length ∧ s10 = .int .i64 j ∧ s9 = .string ⟨(escXk (ps.take j) l[k]).toArray⟩ ∧ wr = w.drewN q2) (fun _ s10 _ => fs.length - (intOf s10).toNat)
            case atStart => exact ⟨0, q, Nat.zero_le _, rfl, by show _ = Value.string ⟨(escX0 l[k]).toArray⟩; rw [HX2.out]; rfl, rfl⟩
            case round =>
              obtain ⟨j, q2, hj, rfl, rfl, rfl⟩ := hrel
              clear h0
              by_cases hjl : j < fs.length
              · have hjp : j < ps.length := by have := HF.out; omega
                have hcj := HC.out j hjp
                have hfj := HF2.out j hjl hjp
                have hnx := escXk_next (c := l[k]) hjp
                obtain ⟨p, hpj⟩ : ∃ p, ps[j] = p := ⟨_, rfl⟩
                rw [hpj] at hcj hfj hnx
                obtain ⟨p1, p2⟩ := p
                dsimp only at hcj hfj hnx
                by_cases hc : l[k] = p1
                · rw [if_pos hc] at hnx
                  have ht : ((l[k].toNat : Int) == (fs[j].toNat : Int)) = true := by rw [u8_eq, hfj]; simp [hc]
                  have HNX := Lib.hid hnx
                  clear hpj hfj hnx hc
                  go_wp2_with fail
                  go_quiet (fail)
                  go_wp2_with fail
                  go_roundw
                  case rel => exact ⟨j + 1, _, by omega, by go_num, by rw [HNX.out], rfl⟩
                  case measure => simp [intOf]; omega
                · rw [if_neg hc] at hnx
                  have ht : ((l[k].toNat : Int) == (fs[j].toNat : Int)) = false := by rw [u8_eq, hfj]; simp [hc]
                  have HNX := Lib.hid hnx
                  clear hpj hfj hnx hc
                  go_wp2_with fail
                  go_quiet (fail)
                  go_wp2_with fail
                  go_roundw
                  case rel => exact ⟨j + 1, _, by omega, by go_num, by rw [HNX.out], rfl⟩
                  case measure => simp [intOf]; omega
              · have HX3 : Hid (escXk (ps.take j) l[k] = escXk ps l[k]) := Lib.hid (by rw [List.take_of_length_le (by have := HF.out; omega)])
                rw [HX3.out]
                generalize escXk ps l[k] = xx at *
                have hov : ¬ 9223372036854775807 < out.length + xx.length := by omega
                go_wp2_with fail
                go_roundw
                case rel => exact ⟨k + 1, _, q2, by omega, by go_num, rfl, rfl, HR2.out, by simp; omega⟩
                case measure => simp [intOf]; omega
    · obtain rfl : k = l.length := by omega
      have HR2 : Hid (rEsc (escXk ps) l = out) := Lib.hid (by rw [HR.out, List.drop_length, rEsc, List.append_nil])
      go_wp2_with fail
      go_ret
      exact Ret.mk (by rw [HR2.out]; rfl) ⟨rfl, rfl, rfl, Nat.le_refl _, fun _ _ => rfl⟩
def ltGtP : List (UInt8 × List UInt8) := [(60, [38, 108, 116, 59]), (62, [38, 103, 116, 59])]
def quotP : List (UInt8 × List UInt8) := [(34, [38, 113, 117, 111, 116, 59])]
theorem rEscapeText_any (l : List UInt8) (w : World) (hs : l.length ≤ 1000000) : Calls Tryd.prog 49 #[.string ⟨l.toArray⟩] w (Ret w (.string ⟨(rEsc (escXk ltGtP) l).toArray⟩)) := by
  have hv : IsStrs (w.alloc (.cells #[.string ⟨#[38, 108, 116, 59]⟩, .string ⟨#[38, 103, 116, 59]⟩] 9)) (.slice (some ⟨w.heap.size, 0, none⟩) 2 2) (ltGtP.map (·.2)) := by
    refine ⟨_, _, rfl, fun i hi => ?_⟩
    have h0 : (w.alloc (.cells #[.string ⟨#[38, 108, 116, 59]⟩, .string ⟨#[38, 103, 116, 59]⟩] 9)).cell? ⟨w.heap.size, 0, none⟩ = some (.string ⟨#[38, 108, 116, 59]⟩) := by go_cell
    have h1 : (w.alloc (.cells #[.string ⟨#[38, 108, 116, 59]⟩, .string ⟨#[38, 103, 116, 59]⟩] 9)).cell? ⟨w.heap.size, 1, none⟩ = some (.string ⟨#[38, 103, 116, 59]⟩) := by go_cell
    match i, hi with
    | 0, _ => exact h0
    | 1, _ => exact h1
  have H1 := Lib.hid (rEscape_any l ltGtP _ _ hs (by decide) (by decide) hv)
  clear hv
  go_enter Tryd.func49, Tryd.ntmps49
  go_wp2_with fail
  refine H1.out.mono ?_
  rintro e w1 ⟨rfl, b1⟩
  go_wp2_with fail
  go_ret
  exact Ret.mk rfl (bthen (balloc _ _) (by simp) b1)
theorem rEscapeValue_any (l : List UInt8) (w : World) (hs : l.length ≤ 1000000) : Calls Tryd.prog 50 #[.string ⟨l.toArray⟩] w (Ret w (.string ⟨(rEsc (escXk quotP) l).toArray⟩)) := by
  have hv : IsStrs (w.alloc (.cells #[.string ⟨#[38, 113, 117, 111, 116, 59]⟩] 9)) (.slice (some ⟨w.heap.size, 0, none⟩) 1 1) (quotP.map (·.2)) := by
    refine ⟨_, _, rfl, fun i hi => ?_⟩
    have h0 : (w.alloc (.cells #[.string ⟨#[38, 113, 117, 111, 116, 59]⟩] 9)).cell? ⟨w.heap.size, 0, none⟩ = some (.string ⟨#[38, 113, 117, 111, 116, 59]⟩) := by go_cell
    match i, hi with
    | 0, _ => exact h0
  have H1 := Lib.hid (rEscape_any l quotP _ _ hs (by decide) (by decide) hv)
  clear hv
  go_enter Tryd.func50, Tryd.ntmps50
  go_wp2_with fail
  refine H1.out.mono ?_
  rintro e w1 ⟨rfl, b1⟩
  go_wp2_with fail
  go_ret
  exact Ret.mk rfl (bthen (balloc _ _) (by simp) b1)
end Go.Proofs.YtpfnakonpledgaaDoor
