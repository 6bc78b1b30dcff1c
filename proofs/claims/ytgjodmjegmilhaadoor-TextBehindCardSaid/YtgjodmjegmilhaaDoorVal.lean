/- text.number, value, valueOf, entries, Names. -/
import Derived.Test.YtgjodmjegmilhaaDoorEnt
import Derived.Test.YtgjodmjegmilhaaDoorDig
namespace Go.Proofs.YtgjodmjegmilhaaDoor
open Go.RowKit
attribute [local go_sem] sext

def encB (r : Int) : List UInt8 := (Utf8.encode r).data.toList
theorem enc_eq (r : Int) : Utf8.encode r = ⟨(encB r).toArray⟩ := rfl
attribute [local go_sem] enc_eq
theorem encB_len (r : Int) : (encB r).length ≤ 4 := by
  unfold encB Utf8.encode
  simp only []
  repeat' split
  all_goals simp
theorem digitsF_rng {p : Int → Bool} {b : Int} : ∀ (l : List UInt8) (c : Int) (n : Nat), 0 ≤ b → (∀ x : UInt8, p (x.toNat : Int) = true → hexB x.toNat) → 0 ≤ c → c ≤ 1114112 → 0 ≤ (digitsF p b l c n).1 ∧ (digitsF p b l c n).1 ≤ 1114112
  | [], c, n, _, _, h0, h1 => by rw [digitsF]; exact ⟨h0, h1⟩
  | x :: t, c, n, hb, hp, h0, h1 => by
    rw [digitsF]
    split
    · have hd := digV_bd (hp x (by assumption))
      have := Int.mul_nonneg h0 hb
      exact digitsF_rng t _ _ hb hp (by omega) (by omega)
    · exact ⟨h0, h1⟩
def numL (l : List UInt8) : Int := (digitsL l 16).1
theorem numL_rng (l : List UInt8) : 0 ≤ numL l ∧ numL l ≤ 1114112 := digitsF_rng l 0 0 (by decide) (fun _ => hexB_of) (by decide) (by decide)
def valL (s : List UInt8) : List UInt8 := if s.contains 44 then encB (numL (upTo 44 s).1) ++ encB (numL (upTo 44 s).2) else encB (numL (upTo 44 s).1)

theorem number_any (l : List UInt8) (w : World) (hs : l.length ≤ 1000000000) : Calls Tryd.prog 29 #[.string ⟨l.toArray⟩] w (Ret w (.int .i32 (numL l))) := by
  have hn := numL_rng l
  obtain ⟨⟨c, k⟩, hd⟩ : ∃ x, digitsL l 16 = x := ⟨_, rfl⟩
  have HD := Lib.hid (Digits_any l 16 w hs)
  rw [show numL l = c by unfold numL; rw [hd]] at hn ⊢
  rw [hd] at HD
  clear hd
  go_enter Tryd.func29, Tryd.ntmps29
  go_wp2_with fail
  refine HD.out.mono ?_
  rintro e w1 ⟨rfl, b1⟩
  have hw : wrap32 c = c := IntWalk.wrap32_in _ ⟨by omega, by omega⟩
  go_wp2_with fail
  go_ret
  exact Ret.mk rfl b1
theorem value_any (l : List UInt8) (w : World) (hg : Good w) (hs : l.length ≤ 1000000000) : Calls Tryd.prog 14 #[.string ⟨l.toArray⟩] w (Ret w (.string ⟨(valL l).toArray⟩)) := by
  obtain ⟨m, hm⟩ := hg
  have H1 := Lib.hid (Tryd.strings_Cut ⟨l.toArray⟩ ⟨#[44]⟩ m w (by show l.length < _; omega) hm)
  have hu1 := upTo_len 44 l
  have hu2 : (upTo 44 l).2.length ≤ l.length := by by_cases h : l = []; (· subst h; simp [upTo]); (· have := hu1.2 h; omega)
  obtain ⟨⟨a, b⟩, hu⟩ : ∃ x, upTo 44 l = x := ⟨_, rfl⟩
  obtain ⟨cc, hcc⟩ : ∃ x, l.contains 44 = x := ⟨_, rfl⟩
  have hcut : Lib.cut (⟨l.toArray⟩ : ByteArray).data.toList (⟨#[44]⟩ : ByteArray).data.toList = (a, b, cc) := by
    have := cut_one 44 l; rw [hu, hcc] at this; exact this
  rw [hcut] at H1
  have hv : valL l = if cc = true then encB (numL a) ++ encB (numL b) else encB (numL a) := by rw [valL, hu, hcc]
  rw [hu] at hu1 hu2
  have ha : a.length ≤ l.length := hu1.1
  clear hcut hu hu1 hcc
  rw [hv]
  clear hv
  cases cc
  · go_enter Tryd.func14, Tryd.ntmps14
    go_wp2_with fail
    refine H1.out.mono ?_
    rintro e w1 ⟨rfl, q, rfl⟩
    go_wp2_with fail
    refine (number_any a _ (by omega)).mono ?_
    rintro e w2 ⟨rfl, b2⟩
    go_wp2_with fail
    go_ret
    exact Ret.mk rfl ⟨b2.os, b2.tape, b2.output, b2.size, b2.block⟩
  · go_enter Tryd.func14, Tryd.ntmps14
    go_wp2_with fail
    refine H1.out.mono ?_
    rintro e w1 ⟨rfl, q, rfl⟩
    go_wp2_with fail
    refine (number_any a _ (by omega)).mono ?_
    rintro e w2 ⟨rfl, b2⟩
    go_wp2_with fail
    refine (number_any b _ (by omega)).mono ?_
    rintro e w3 ⟨rfl, b3⟩
    have hl1 := encB_len (numL a)
    have hl2 := encB_len (numL b)
    have hl3 : ¬ 9223372036854775807 < (encB (numL a)).length + (encB (numL b)).length := by omega
    go_wp2_with fail
    go_ret
    exact Ret.mk (congrArg Value.string (sapp _ _)) (bthen (show Below w.heap.size w w2 from ⟨b2.os, b2.tape, b2.output, b2.size, b2.block⟩) b2.size b3)
theorem valueOf_any (l : List UInt8) (w : World) (hg : Good w) (hs : l.length ≤ 1000000000) : Calls Tryd.prog 26 #[.string ⟨l.toArray⟩] w (Ret w (.string ⟨(valL l).toArray⟩)) := by
  have H1 := Lib.hid (value_any l w hg hs)
  go_enter Tryd.func26, Tryd.ntmps26
  go_wp2_with fail
  refine H1.out.mono ?_
  rintro e w1 ⟨rfl, b1⟩
  go_wp2_with fail
  go_ret
  exact Ret.mk rfl b1
theorem entries_any (w : World) : Calls Tryd.prog 13 #[] w fun e w' => e = .returned (.func (.func 27) #[] #[]) ∧ w' = w := by
  go_enter Tryd.func13, Tryd.ntmps13
  go_wp2_with fail
  go_ret
  exact ⟨rfl, rfl⟩
theorem Names_any (w : World) : Calls Tryd.prog 5 #[] w fun e w' => e = .returned (.func (.func 12) #[] #[]) ∧ w' = w := by
  go_enter Tryd.func5, Tryd.ntmps5
  go_wp2_with fail
  go_ret
  exact ⟨rfl, rfl⟩
theorem enter_entries1 (args : Array Value) (W : World) : (callFunc 27 args).run Tryd.prog W = .ok (.enter 27 args) W := by simp [go_sem]
/-- What the entries' table is like, for bounds. -/
theorem ent_small : ∀ x ∈ entL, x.1.length ≤ 64 ∧ x.2.length ≤ 64 := by
  have h : (entL.all fun x => decide (x.1.length ≤ 64) && decide (x.2.length ≤ 64)) = true := by decide +kernel
  intro x hx
  have := List.all_eq_true.1 h x hx
  simpa using this
theorem entL_len : entL.length = 2231 := by decide +kernel
end Go.Proofs.YtgjodmjegmilhaaDoor
