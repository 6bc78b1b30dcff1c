/- The reference's decoder: whole, piece, scalar, Bytes, Decode, Text. -/
import Derived.Test.YtpfnakonpledgaaDoorPl4
import Derived.Test.YtpfnakonpledgaaDoorOwn
import Derived.Test.YtpfnakonpledgaaDoorEnt
namespace Go.Proofs.YtpfnakonpledgaaDoor
open Go.RowKit
attribute [local go_sem] sgetr
attribute [local go_sem] sext

theorem wholeL_of {l : List UInt8} (h : 0 < l.length) : wholeL l = (begL l && decide (rWant l[0] = l.length)) := by
  cases l with
  | nil => simp at h
  | cons a t => rfl
theorem rwhole_any (l : List UInt8) (w : World) (hs : l.length ≤ 1000000000) : Calls Tryd.prog 89 #[.string ⟨l.toArray⟩] w (Ret w (.bool (wholeL l))) := by
  have h1 := rbegins_any l w hs
  by_cases hpos : 0 < l.length
  · rw [wholeL_of hpos]
    have h2 := fun w => rWant_any l[0] w
    obtain ⟨b, hb⟩ : ∃ b, begL l = b := ⟨_, rfl⟩
    rw [hb] at h1 ⊢
    obtain ⟨n, hn⟩ : ∃ n, rWant l[0] = n := ⟨_, rfl⟩
    rw [hn] at h2 ⊢
    have H1 := Lib.hid h1; have H2 := Lib.hid h2
    clear h1 h2 hb hn
    have hd : ((n : Int) == (l.length : Int)) = decide (n = l.length) := by rw [Bool.eq_iff_iff]; simp; omega
    cases b
    all_goals
      go_enter Tryd.func89, Tryd.ntmps89
      go_wp2_with fail
      refine H1.out.mono ?_
      rintro e w1 ⟨rfl, b1⟩
      go_wp2_with (refine (H2.out _).mono ?_; rintro e w' ⟨rfl, rfl⟩)
      go_ret
      exact Ret.mk (by first | rfl | (rw [Bool.true_and, ← hd]; rfl)) b1
  · obtain rfl : l = [] := List.eq_nil_of_length_eq_zero (by omega)
    have H1 := Lib.hid h1
    clear h1
    go_enter Tryd.func89, Tryd.ntmps89
    go_wp2_with fail
    refine H1.out.mono ?_
    rintro e w1 ⟨rfl, b1⟩
    rw [show begL [] = false from rfl]
    go_wp2_with fail
    go_ret
    exact Ret.mk rfl b1
set_option maxRecDepth 100000 in
set_option maxHeartbeats 1000000 in
theorem rpiece_any (l : List UInt8) (w : World) (hl : l ≠ []) (hs : l.length ≤ 1000000000) : Calls Tryd.prog 88 #[.string ⟨l.toArray⟩] w (Ret w (.int .i64 ((pieceL l).1 : Nat))) := by
  rw [← (piece_eq l hl).1]
  have hpos := List.length_pos_iff.2 hl
  clear hl
  go_enter Tryd.func88, Tryd.ntmps88
  go_wp2_with fail
  go_loopw [3, 4] (fun s3 s4 wr => ∃ k : Nat, 2 ≤ k ∧ k ≤ max 2 (min 4 l.length + 1) ∧ s4 = .int .i64 k ∧ s3 = .int .i64 (pcK l k : Nat) ∧ Below w.heap.size w wr) (fun _ s4 _ => 5 - (intOf s4).toNat)
  case atStart => exact ⟨2, Nat.le_refl _, by omega, rfl, rfl, Below.refl _ _⟩
  case round =>
    obtain ⟨k, hk2, hk, rfl, rfl, hb⟩ := hrel
    have HB := Lib.hid hb; clear hb
    by_cases h4 : k ≤ 4
    · by_cases hkl : k ≤ l.length
      · have h1 := rbegins_any (l.take k) wr (by simp; omega)
        have hpk : pcK l (k + 1) = if 2 ≤ k ∧ begL (l.take k) = true then k else pcK l k := rfl
        cases hbg : begL (l.take k)
        · rw [hbg] at h1
          have HP : Hid (pcK l (k + 1) = pcK l k) := Lib.hid (by rw [hpk, hbg]; simp)
          have H1 := Lib.hid h1
          clear h1 hpk hbg
          go_wp2_with fail
          refine H1.out.mono ?_
          rintro e w1 ⟨rfl, b1⟩
          go_wp2_with fail
          go_roundw
          case rel => exact ⟨k + 1, by omega, by omega, by go_num, by rw [HP.out], bthen HB.out HB.out.size b1⟩
          case measure => simp [intOf]; omega
        · rw [hbg] at h1
          have HP : Hid (pcK l (k + 1) = k) := Lib.hid (by rw [hpk, hbg]; simp [hk2])
          have H1 := Lib.hid h1
          clear h1 hpk hbg
          go_wp2_with fail
          refine H1.out.mono ?_
          rintro e w1 ⟨rfl, b1⟩
          go_wp2_with fail
          go_roundw
          case rel => exact ⟨k + 1, by omega, by omega, by go_num, by rw [HP.out], bthen HB.out HB.out.size b1⟩
          case measure => simp [intOf]; omega
      · have HK : Hid (pcK l (min 4 l.length + 1) = pcK l k) := Lib.hid (by
          by_cases h : l.length = 1
          · obtain rfl : k = 2 := by omega
            rw [h]; rfl
          · rw [show min 4 l.length + 1 = k by omega])
        go_wp2_with fail
        go_ret
        exact Ret.mk (by rw [HK.out]; rfl) HB.out
    · have HK : Hid (pcK l (min 4 l.length + 1) = pcK l k) := Lib.hid (by rw [show min 4 l.length + 1 = k by omega])
      go_wp2_with fail
      go_ret
      exact Ret.mk (by rw [HK.out]; rfl) HB.out

/-- The number that an encoding's bytes are. -/
def scalG (n : Int) : List UInt8 → Int
  | [] => n
  | c :: t => scalG (64 * n + (c.toNat : Int) - 128) t
def scalL (l : List UInt8) : Int := match l with
  | [] => 0
  | a :: t => scalG (if t.length = 1 then (a.toNat : Int) - 192 else if t.length = 2 then (a.toNat : Int) - 224 else if t.length = 3 then (a.toNat : Int) - 240 else a.toNat) t
theorem scalG_drop {n : Int} {l : List UInt8} {k : Nat} (hk : k < l.length) : scalG n (l.drop k) = scalG (64 * n + (l[k].toNat : Int) - 128) (l.drop (k + 1)) := by
  rw [List.drop_eq_getElem_cons hk, scalG]
theorem scalL_of {l : List UInt8} (h : 0 < l.length) : scalL l = scalG (if l.length = 2 then (l[0].toNat : Int) - 192 else if l.length = 3 then (l[0].toNat : Int) - 224 else if l.length = 4 then (l[0].toNat : Int) - 240 else l[0].toNat) (l.drop 1) := by
  cases l with
  | nil => simp at h
  | cons a t =>
    simp only [scalL, List.length_cons, List.getElem_cons_zero, List.drop_succ_cons, List.drop_zero]
    congr 1
    repeat' split
    all_goals first | rfl | omega
theorem scalG_bd : ∀ (t : List UInt8) (n : Int) (_ : Int), t.length ≤ 3 → -255 ≤ n → n ≤ 255 → -70000000 ≤ scalG n t ∧ scalG n t ≤ 134217728
  | [], n, _, _, h1, h2 => by rw [scalG]; omega
  | [c], n, _, _, h1, h2 => by have := c.toNat_lt; rw [scalG, scalG]; omega
  | [c, d], n, _, _, h1, h2 => by have := c.toNat_lt; have := d.toNat_lt; rw [scalG, scalG, scalG]; omega
  | [c, d, e], n, _, _, h1, h2 => by have := c.toNat_lt; have := d.toNat_lt; have := e.toNat_lt; rw [scalG, scalG, scalG, scalG]; omega
  | _ :: _ :: _ :: _ :: _, _, _, h, _, _ => by simp at h
set_option maxRecDepth 100000 in
set_option maxHeartbeats 4000000 in
theorem rscalar_any (l : List UInt8) (w : World) (hl : 0 < l.length) (h4 : l.length ≤ 4) : Calls Tryd.prog 90 #[.string ⟨l.toArray⟩] w (Same w (.int .i32 (scalL l))) := by
  have hsl := scalL_of hl
  have h0 := (l[0]).toNat_lt
  have hc : l.length = 1 ∨ l.length = 2 ∨ l.length = 3 ∨ l.length = 4 := by omega
  rcases hc with h | h | h | h
  · have HS : Hid (scalL l = scalG ((l[0].toNat : Int)) (l.drop 1)) := Lib.hid (by rw [hsl, h]; rfl)
    have hbd := scalG_bd (l.drop 1) ((l[0].toNat : Int)) 0 (by simp; omega) (by omega) (by omega)
    rw [← HS.out] at hbd
    clear hsl
    have e2 : ((l.length : Int) == 2) = false := by rw [h]; rfl
    have e3 : ((l.length : Int) == 3) = false := by rw [h]; rfl
    have e4 : ((l.length : Int) == 4) = false := by rw [h]; rfl
    clear h
    obtain ⟨hb1, hb2⟩ := hbd
    have hw : wrap32 (scalL l) = scalL l := IntWalk.wrap32_in _ ⟨by omega, by omega⟩
    go_enter Tryd.func90, Tryd.ntmps90
    go_wp2_with fail
    clear e2 e3 e4
    go_loop [3, 4] (fun s3 s4 => ∃ (k : Nat) (n : Int), 1 ≤ k ∧ k ≤ l.length ∧ s4 = .int .i64 k ∧ s3 = .int .i64 n ∧ scalL l = scalG n (l.drop k) ∧ (k = 1 → -255 ≤ n ∧ n ≤ 255) ∧ (k = 2 → -20000 ≤ n ∧ n ≤ 20000) ∧ (k = 3 → -2000000 ≤ n ∧ n ≤ 2000000) ∧ (4 ≤ k → -200000000 ≤ n ∧ n ≤ 200000000)) (fun _ s4 => l.length - (intOf s4).toNat)
    case atStart => exact ⟨1, _, Nat.le_refl _, hl, rfl, rfl, HS.out, fun _ => ⟨by omega, by omega⟩, fun h => absurd h (by omega), fun h => absurd h (by omega), fun h => absurd h (by omega)⟩
    case round =>
      obtain ⟨k, n, hk1, hk, rfl, rfl, hR, b1, b2, b3, b4⟩ := hrel
      have HR := Lib.hid hR; clear hR hw
      by_cases hlt : k < l.length
      · have hn : -2000000 ≤ n ∧ n ≤ 2000000 := by omega
        obtain ⟨hn1, hn2⟩ := hn
        have hcl := (l[k]).toNat_lt
        have HR2 : Hid (scalL l = scalG (64 * n + (l[k].toNat : Int) - 128) (l.drop (k + 1))) := Lib.hid (by rw [HR.out, scalG_drop hlt])
        have HN : Hid (k = 1 ∨ k = 2 ∨ k = 3) := Lib.hid (by omega)
        have HB : Hid ((k = 1 → -255 ≤ n ∧ n ≤ 255) ∧ (k = 2 → -20000 ≤ n ∧ n ≤ 20000)) := Lib.hid ⟨b1, b2⟩
        clear b1 b2 b3 b4
        go_wp2
        go_round
        case rel =>
          have h1 := HB.out.1; have h2 := HB.out.2; have h3 := HN.out
          exact ⟨k + 1, 64 * n + (l[k].toNat : Int) - 128, by omega, by omega, by go_num, rfl, HR2.out, fun h => absurd h (by omega), fun h => by omega, fun h => by omega, fun h => by omega⟩
        case measure => simp [intOf]; omega
      · obtain rfl : k = l.length := by omega
        have HR2 : Hid (scalL l = n) := Lib.hid (by rw [HR.out, List.drop_length, scalG])
        have hw : wrap32 n = n := IntWalk.wrap32_in _ ⟨by have := HR2.out; omega, by have := HR2.out; omega⟩
        clear b1 b2 b3 b4
        go_wp2
        go_ret
        exact Same.mk (by rw [HR2.out]; rfl)
  · have HS : Hid (scalL l = scalG ((l[0].toNat : Int) - 192) (l.drop 1)) := Lib.hid (by rw [hsl, h]; rfl)
    have hbd := scalG_bd (l.drop 1) ((l[0].toNat : Int) - 192) 0 (by simp; omega) (by omega) (by omega)
    rw [← HS.out] at hbd
    clear hsl
    have e2 : ((l.length : Int) == 2) = true := by rw [h]; rfl
    have e3 : ((l.length : Int) == 3) = false := by rw [h]; rfl
    have e4 : ((l.length : Int) == 4) = false := by rw [h]; rfl
    clear h
    obtain ⟨hb1, hb2⟩ := hbd
    have hw : wrap32 (scalL l) = scalL l := IntWalk.wrap32_in _ ⟨by omega, by omega⟩
    go_enter Tryd.func90, Tryd.ntmps90
    go_wp2_with fail
    clear e2 e3 e4
    go_loop [3, 4] (fun s3 s4 => ∃ (k : Nat) (n : Int), 1 ≤ k ∧ k ≤ l.length ∧ s4 = .int .i64 k ∧ s3 = .int .i64 n ∧ scalL l = scalG n (l.drop k) ∧ (k = 1 → -255 ≤ n ∧ n ≤ 255) ∧ (k = 2 → -20000 ≤ n ∧ n ≤ 20000) ∧ (k = 3 → -2000000 ≤ n ∧ n ≤ 2000000) ∧ (4 ≤ k → -200000000 ≤ n ∧ n ≤ 200000000)) (fun _ s4 => l.length - (intOf s4).toNat)
    case atStart => exact ⟨1, _, Nat.le_refl _, hl, rfl, rfl, HS.out, fun _ => ⟨by omega, by omega⟩, fun h => absurd h (by omega), fun h => absurd h (by omega), fun h => absurd h (by omega)⟩
    case round =>
      obtain ⟨k, n, hk1, hk, rfl, rfl, hR, b1, b2, b3, b4⟩ := hrel
      have HR := Lib.hid hR; clear hR hw
      by_cases hlt : k < l.length
      · have hn : -2000000 ≤ n ∧ n ≤ 2000000 := by omega
        obtain ⟨hn1, hn2⟩ := hn
        have hcl := (l[k]).toNat_lt
        have HR2 : Hid (scalL l = scalG (64 * n + (l[k].toNat : Int) - 128) (l.drop (k + 1))) := Lib.hid (by rw [HR.out, scalG_drop hlt])
        have HN : Hid (k = 1 ∨ k = 2 ∨ k = 3) := Lib.hid (by omega)
        have HB : Hid ((k = 1 → -255 ≤ n ∧ n ≤ 255) ∧ (k = 2 → -20000 ≤ n ∧ n ≤ 20000)) := Lib.hid ⟨b1, b2⟩
        clear b1 b2 b3 b4
        go_wp2
        go_round
        case rel =>
          have h1 := HB.out.1; have h2 := HB.out.2; have h3 := HN.out
          exact ⟨k + 1, 64 * n + (l[k].toNat : Int) - 128, by omega, by omega, by go_num, rfl, HR2.out, fun h => absurd h (by omega), fun h => by omega, fun h => by omega, fun h => by omega⟩
        case measure => simp [intOf]; omega
      · obtain rfl : k = l.length := by omega
        have HR2 : Hid (scalL l = n) := Lib.hid (by rw [HR.out, List.drop_length, scalG])
        have hw : wrap32 n = n := IntWalk.wrap32_in _ ⟨by have := HR2.out; omega, by have := HR2.out; omega⟩
        clear b1 b2 b3 b4
        go_wp2
        go_ret
        exact Same.mk (by rw [HR2.out]; rfl)
  · have HS : Hid (scalL l = scalG ((l[0].toNat : Int) - 224) (l.drop 1)) := Lib.hid (by rw [hsl, h]; rfl)
    have hbd := scalG_bd (l.drop 1) ((l[0].toNat : Int) - 224) 0 (by simp; omega) (by omega) (by omega)
    rw [← HS.out] at hbd
    clear hsl
    have e2 : ((l.length : Int) == 2) = false := by rw [h]; rfl
    have e3 : ((l.length : Int) == 3) = true := by rw [h]; rfl
    have e4 : ((l.length : Int) == 4) = false := by rw [h]; rfl
    clear h
    obtain ⟨hb1, hb2⟩ := hbd
    have hw : wrap32 (scalL l) = scalL l := IntWalk.wrap32_in _ ⟨by omega, by omega⟩
    go_enter Tryd.func90, Tryd.ntmps90
    go_wp2_with fail
    clear e2 e3 e4
    go_loop [3, 4] (fun s3 s4 => ∃ (k : Nat) (n : Int), 1 ≤ k ∧ k ≤ l.length ∧ s4 = .int .i64 k ∧ s3 = .int .i64 n ∧ scalL l = scalG n (l.drop k) ∧ (k = 1 → -255 ≤ n ∧ n ≤ 255) ∧ (k = 2 → -20000 ≤ n ∧ n ≤ 20000) ∧ (k = 3 → -2000000 ≤ n ∧ n ≤ 2000000) ∧ (4 ≤ k → -200000000 ≤ n ∧ n ≤ 200000000)) (fun _ s4 => l.length - (intOf s4).toNat)
    case atStart => exact ⟨1, _, Nat.le_refl _, hl, rfl, rfl, HS.out, fun _ => ⟨by omega, by omega⟩, fun h => absurd h (by omega), fun h => absurd h (by omega), fun h => absurd h (by omega)⟩
    case round =>
      obtain ⟨k, n, hk1, hk, rfl, rfl, hR, b1, b2, b3, b4⟩ := hrel
      have HR := Lib.hid hR; clear hR hw
      by_cases hlt : k < l.length
      · have hn : -2000000 ≤ n ∧ n ≤ 2000000 := by omega
        obtain ⟨hn1, hn2⟩ := hn
        have hcl := (l[k]).toNat_lt
        have HR2 : Hid (scalL l = scalG (64 * n + (l[k].toNat : Int) - 128) (l.drop (k + 1))) := Lib.hid (by rw [HR.out, scalG_drop hlt])
        have HN : Hid (k = 1 ∨ k = 2 ∨ k = 3) := Lib.hid (by omega)
        have HB : Hid ((k = 1 → -255 ≤ n ∧ n ≤ 255) ∧ (k = 2 → -20000 ≤ n ∧ n ≤ 20000)) := Lib.hid ⟨b1, b2⟩
        clear b1 b2 b3 b4
        go_wp2
        go_round
        case rel =>
          have h1 := HB.out.1; have h2 := HB.out.2; have h3 := HN.out
          exact ⟨k + 1, 64 * n + (l[k].toNat : Int) - 128, by omega, by omega, by go_num, rfl, HR2.out, fun h => absurd h (by omega), fun h => by omega, fun h => by omega, fun h => by omega⟩
        case measure => simp [intOf]; omega
      · obtain rfl : k = l.length := by omega
        have HR2 : Hid (scalL l = n) := Lib.hid (by rw [HR.out, List.drop_length, scalG])
        have hw : wrap32 n = n := IntWalk.wrap32_in _ ⟨by have := HR2.out; omega, by have := HR2.out; omega⟩
        clear b1 b2 b3 b4
        go_wp2
        go_ret
        exact Same.mk (by rw [HR2.out]; rfl)
  · have HS : Hid (scalL l = scalG ((l[0].toNat : Int) - 240) (l.drop 1)) := Lib.hid (by rw [hsl, h]; rfl)
    have hbd := scalG_bd (l.drop 1) ((l[0].toNat : Int) - 240) 0 (by simp; omega) (by omega) (by omega)
    rw [← HS.out] at hbd
    clear hsl
    have e2 : ((l.length : Int) == 2) = false := by rw [h]; rfl
    have e3 : ((l.length : Int) == 3) = false := by rw [h]; rfl
    have e4 : ((l.length : Int) == 4) = true := by rw [h]; rfl
    clear h
    obtain ⟨hb1, hb2⟩ := hbd
    have hw : wrap32 (scalL l) = scalL l := IntWalk.wrap32_in _ ⟨by omega, by omega⟩
    go_enter Tryd.func90, Tryd.ntmps90
    go_wp2_with fail
    clear e2 e3 e4
    go_loop [3, 4] (fun s3 s4 => ∃ (k : Nat) (n : Int), 1 ≤ k ∧ k ≤ l.length ∧ s4 = .int .i64 k ∧ s3 = .int .i64 n ∧ scalL l = scalG n (l.drop k) ∧ (k = 1 → -255 ≤ n ∧ n ≤ 255) ∧ (k = 2 → -20000 ≤ n ∧ n ≤ 20000) ∧ (k = 3 → -2000000 ≤ n ∧ n ≤ 2000000) ∧ (4 ≤ k → -200000000 ≤ n ∧ n ≤ 200000000)) (fun _ s4 => l.length - (intOf s4).toNat)
    case atStart => exact ⟨1, _, Nat.le_refl _, hl, rfl, rfl, HS.out, fun _ => ⟨by omega, by omega⟩, fun h => absurd h (by omega), fun h => absurd h (by omega), fun h => absurd h (by omega)⟩
    case round =>
      obtain ⟨k, n, hk1, hk, rfl, rfl, hR, b1, b2, b3, b4⟩ := hrel
      have HR := Lib.hid hR; clear hR hw
      by_cases hlt : k < l.length
      · have hn : -2000000 ≤ n ∧ n ≤ 2000000 := by omega
        obtain ⟨hn1, hn2⟩ := hn
        have hcl := (l[k]).toNat_lt
        have HR2 : Hid (scalL l = scalG (64 * n + (l[k].toNat : Int) - 128) (l.drop (k + 1))) := Lib.hid (by rw [HR.out, scalG_drop hlt])
        have HN : Hid (k = 1 ∨ k = 2 ∨ k = 3) := Lib.hid (by omega)
        have HB : Hid ((k = 1 → -255 ≤ n ∧ n ≤ 255) ∧ (k = 2 → -20000 ≤ n ∧ n ≤ 20000)) := Lib.hid ⟨b1, b2⟩
        clear b1 b2 b3 b4
        go_wp2
        go_round
        case rel =>
          have h1 := HB.out.1; have h2 := HB.out.2; have h3 := HN.out
          exact ⟨k + 1, 64 * n + (l[k].toNat : Int) - 128, by omega, by omega, by go_num, rfl, HR2.out, fun h => absurd h (by omega), fun h => by omega, fun h => by omega, fun h => by omega⟩
        case measure => simp [intOf]; omega
      · obtain rfl : k = l.length := by omega
        have HR2 : Hid (scalL l = n) := Lib.hid (by rw [HR.out, List.drop_length, scalG])
        have hw : wrap32 n = n := IntWalk.wrap32_in _ ⟨by have := HR2.out; omega, by have := HR2.out; omega⟩
        clear b1 b2 b3 b4
        go_wp2
        go_ret
        exact Same.mk (by rw [HR2.out]; rfl)
end Go.Proofs.YtpfnakonpledgaaDoor
