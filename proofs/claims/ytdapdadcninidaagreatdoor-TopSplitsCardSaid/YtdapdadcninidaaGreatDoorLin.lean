/- arena.line, of a node without attributes that is no doctype. -/
import Derived.Test.YtdapdadcninidaaGreatDoorQuo
import Derived.Test.YtdapdadcninidaaGreatDoorAr3
import Derived.Test.YtdapdadcninidaaGreatDoorAr6
namespace Go.Proofs.YtdapdadcninidaaGreatDoor
open Go.RowKit
attribute [local go_sem ↓] Go.wp_at_zero Go.wp_at_succ
attribute [local go_sem] sapp

def numL (n : Int) : List UInt8 := Lib.decDigits n.toNat
/-- The text of one attribute. -/
def attL (a : Att) : List UInt8 := 32 :: (numL a.space ++ 58 :: (quoteL a.name ++ 61 :: quoteL a.value))
/-- The text of a node. -/
def lineL (d : Nd) : List UInt8 :=
  if d.kind = 1 then (if d.quirks then [100, 111, 99, 117, 109, 101, 110, 116, 32, 113, 117, 105, 114, 107, 115] else [100, 111, 99, 117, 109, 101, 110, 116])
  else if d.kind = 2 then (if d.host ≠ 0 then [99, 111, 110, 116, 101, 110, 116, 115] else [102, 114, 97, 103, 109, 101, 110, 116])
  else if d.kind = 3 then [100, 111, 99, 116, 121, 112, 101, 32] ++ (quoteL d.name ++ 32 :: (quoteL d.pub ++ 32 :: quoteL d.sys))
  else if d.kind = 5 then [116, 101, 120, 116, 32] ++ quoteL d.data
  else if d.kind = 6 then [99, 111, 109, 109, 101, 110, 116, 32] ++ quoteL d.data
  else [101, 108, 101, 109, 101, 110, 116, 32] ++ (numL d.space ++ 32 :: (quoteL d.name ++ d.attrs.flatMap attL))
/-- What line leans on. -/
structure LineOk (d : Nd) : Prop where
  kd : d.kind = 1 ∨ d.kind = 2 ∨ d.kind = 4 ∨ d.kind = 5 ∨ d.kind = 6
  at0 : d.attrs = []
  sp : 0 ≤ d.space ∧ d.space < 100
  nm : d.name.length ≤ 1000000000
  dt : d.data.length ≤ 1000000000
theorem quoteL_len (l : List UInt8) (h : l.length ≤ 1000000000) : (quoteL l).length ≤ 2000000100 := by
  rw [quoteL, List.length_cons, List.length_append, escL_len]
  have := List.countP_le_length (p := big) (l := l)
  simp; omega
theorem decDigits_len (i : Nat) (h : i < 100) : (Lib.decDigits i).length ≤ 100 := by
  have : ∀ i, i < 100 → (Lib.decDigits i).length ≤ 100 := by decide +kernel
  exact this i h
set_option maxRecDepth 100000 in
set_option maxHeartbeats 2000000 in
theorem line_any (d : Nd) (kv av : Value) (w : World) {g o : Nat} (hn : NdIs w g o d kv av) (hav : ∃ a c, av = .slice a d.attrs.length c) (hd : LineOk d) :
    Calls Tryz.prog 94 #[.pointer (some ⟨g, o, none⟩)] w (Ret w (.string ⟨(lineL d).toArray⟩)) := by
  obtain ⟨h1, h2, ⟨s0, s1⟩, h4, h5⟩ := hd
  have c0 := hn.c0
  have c4 := hn.c4
  have c5 := hn.c5
  have c6 := hn.c6
  have c7 := hn.c7
  have c10 := hn.c10
  have c12 := hn.c12
  have hgw := World.block_lt_of_cell? _ _ c0
  have HQ := Lib.hid (fun l w hl => quote_any l w hl)
  have q1 := quoteL_len _ h4
  have q2 := quoteL_len _ h5
  obtain ⟨aa, ac, rfl⟩ := hav
  rw [h2] at c6
  simp only [List.length_nil] at c6
  obtain ⟨si, hsi⟩ : ∃ i : Nat, d.space = (i : Int) := ⟨d.space.toNat, by omega⟩
  have hs100 : si < 100 := by omega
  have hdl := decDigits_len si hs100
  have HI := Lib.hid (fun w => Tryz.strconv_Itoa_small si hs100 w)
  have hL : lineL d = lineL d := rfl
  conv at hL => rhs; unfold lineL
  rw [hsi] at c4 hL
  rw [h2, show numL (si : Int) = Lib.decDigits si by simp [numL]] at hL
  rw [hL]
  clear hL hn h2 hsi s0 s1
  rcases h1 with h1 | h1 | h1 | h1 | h1
  all_goals
    rw [h1] at c0
    simp only [h1]
    clear h1
  · cases hq : d.quirks
    all_goals
      rw [hq] at c10
      go_enter Tryz.func94, Tryz.ntmps94
      go_wp2
      go_ret
      exact Ret.mk (by simp) (Below.refl _ _)
  · by_cases hq : d.host = 0
    · rw [hq] at c12
      go_enter Tryz.func94, Tryz.ntmps94
      go_wp2
      go_ret
      exact Ret.mk (by simp [hq]) (Below.refl _ _)
    · have hz : ((d.host : Int) != 0) = true := by simpa using hq
      go_enter Tryz.func94, Tryz.ntmps94
      go_wp2
      go_ret
      exact Ret.mk (by simp [hq]) (Below.refl _ _)
  · go_enter Tryz.func94, Tryz.ntmps94
    go_wp2
    go_region_with ((first
      | (go_at_call 65; refine (HI.out _).mono ?_; rintro e w1 ⟨rfl, rfl⟩)
      | (go_at_call 145; refine (HQ.out d.name _ h4).mono ?_; rintro e w2 ⟨rfl, b2'⟩
         have b2 : Below w.heap.size w w2 := by first | exact b2' | exact bdrew b2'
         have d4 := (b2.cell (p := ⟨g, o + 4, none⟩) hgw).trans c4
         have d6 := (b2.cell (p := ⟨g, o + 6, none⟩) hgw).trans c6
         clear b2')))
    all_goals
      go_wp2
      go_loop [3, 79] (fun s3 s79 => s3 = .string ⟨([101, 108, 101, 109, 101, 110, 116, 32] ++ (Lib.decDigits si ++ 32 :: (quoteL d.name ++ [])) : List UInt8).toArray⟩ ∧ s79 = .int .i64 0) (fun _ _ => 0)
      case atStart => exact ⟨by simp, rfl⟩
      case round =>
        obtain ⟨rfl, rfl⟩ := hrel
        go_wp2
        go_ret
        exact Ret.mk (by simp) (by first | exact b2 | exact below_drewA b2)
  · have H1 := Lib.hid (HQ.out d.data w h5)
    go_enter Tryz.func94, Tryz.ntmps94
    go_wp2_with (refine H1.out.mono ?_; rintro e w1 ⟨rfl, b1⟩)
    go_ret
    exact Ret.mk (by simp) b1
  · have H1 := Lib.hid (HQ.out d.data w h5)
    go_enter Tryz.func94, Tryz.ntmps94
    go_wp2_with (refine H1.out.mono ?_; rintro e w1 ⟨rfl, b1⟩)
    go_ret
    exact Ret.mk (by simp) b1
end Go.Proofs.YtdapdadcninidaaGreatDoor
