/- text.replaced, CodePoint. -/
import Derived.Test.YtpfnakonpledgaaDoorBase
import Derived.Test.YtpfnakonpledgaaDoorTail
import Derived.Test.YtpfnakonpledgaaDoorBld
namespace Go.Proofs.YtpfnakonpledgaaDoor
open Go.RowKit

def replT : List Int := [0x20AC, 0, 0x201A, 0x0192, 0x201E, 0x2026, 0x2020, 0x2021, 0x02C6, 0x2030, 0x0160, 0x2039, 0x0152, 0, 0x017D, 0,
  0, 0x2018, 0x2019, 0x201C, 0x201D, 0x2022, 0x2013, 0x2014, 0x02DC, 0x2122, 0x0161, 0x203A, 0x0153, 0, 0x017E, 0x0178]
def replL (c : Int) : Int := if c < 128 ∨ c > 159 then 0 else replT.getD (c - 128).toNat 0
def codeL (c : Int) : Int := if c ≤ 0 ∨ c > 1114111 ∨ (55296 ≤ c ∧ c ≤ 57343) then 65533 else if replL c ≠ 0 then replL c else c

def replC : Array Value := #[.int .i32 8364, .int .i32 0, .int .i32 8218, .int .i32 402, .int .i32 8222, .int .i32 8230, .int .i32 8224, .int .i32 8225, .int .i32 710, .int .i32 8240, .int .i32 352, .int .i32 8249, .int .i32 338, .int .i32 0, .int .i32 381, .int .i32 0, .int .i32 0, .int .i32 8216, .int .i32 8217, .int .i32 8220, .int .i32 8221, .int .i32 8226, .int .i32 8211, .int .i32 8212, .int .i32 732, .int .i32 8482, .int .i32 353, .int .i32 8250, .int .i32 339, .int .i32 0, .int .i32 382, .int .i32 376]
theorem replC_at (k : Nat) (hk : k < 32) : replC[k]? = some (.int .i32 (replT.getD k 0)) := by
  have h : replC = (replT.map fun x => Value.int .i32 x).toArray := rfl
  have hl : replT.length = 32 := rfl
  rw [h, List.getElem?_toArray, List.getElem?_map, List.getElem?_eq_getElem (by omega), List.getD, List.getElem?_eq_getElem (by omega)]
  rfl

set_option maxHeartbeats 1000000 in
theorem replaced_any (c : Int) (w : World) : Calls Tryd.prog 98 #[.int .i64 c] w (Ret w (.int .i32 (replL c))) := by
  have hb := balloc w (.cells replC 21)
  by_cases h1 : c < 128
  · have hv : replL c = 0 := by rw [replL, if_pos (.inl h1)]
    rw [hv]
    go_enter Tryd.func98, Tryd.ntmps98
    go_wp2_with fail
    go_ret
    exact Ret.mk rfl hb
  · by_cases h2 : c > 159
    · have hv : replL c = 0 := by rw [replL, if_pos (.inr h2)]
      rw [hv]
      go_enter Tryd.func98, Tryd.ntmps98
      go_wp2_with fail
      go_ret
      exact Ret.mk rfl hb
    · obtain ⟨k, hk⟩ : ∃ k : Nat, c - 128 = k := ⟨(c - 128).toNat, by omega⟩
      have hk32 : k < 32 := by omega
      have hw : wrap64 (c - 128) = (k : Int) := by rw [hk]; exact IntWalk.wrap64_in _ ⟨by omega, by omega⟩
      have hcell : (w.alloc (.cells replC 21)).cell? ⟨w.heap.size, k, none⟩ = some (.int .i32 (replT.getD k 0)) := by
        rw [Lib.cell_of_heap (World.alloc_heap_new w _)]; exact replC_at k hk32
      have hv : replL c = replT.getD k 0 := by rw [replL, if_neg (by omega), hk]; rfl
      rw [hv]
      obtain ⟨r, hr⟩ : ∃ r, replT.getD k 0 = r := ⟨_, rfl⟩
      rw [hr] at hcell ⊢
      obtain ⟨W, hW⟩ : ∃ W, w.alloc (.cells replC 21) = W := ⟨_, rfl⟩
      rw [hW] at hcell hb
      unfold replC at hW
      have hk2 : (c - 128).toNat = k := by omega
      have hcell2 : W.cell? ⟨w.heap.size, (c - 128).toNat, none⟩ = some (.int .i32 r) := by rw [hk2]; exact hcell
      clear hv hr hk2
      go_enter Tryd.func98, Tryd.ntmps98
      go_upto_region 4 with (fail)
      clear hW
      go_wp2_with fail

      go_ret
      exact Ret.mk rfl hb

theorem replL_rng (c : Int) : 0 ≤ replL c ∧ replL c ≤ 65535 := by
  rw [replL]
  split
  · decide
  · have h : ∀ x ∈ replT, 0 ≤ x ∧ x ≤ 65535 := by decide
    rw [List.getD]
    rcases hx : replT[(c - 128).toNat]? with _ | x
    · decide
    · exact h x (List.mem_of_getElem? hx)
theorem CodePoint_any (c : Int) (w : World) : Calls Tryd.prog 70 #[.int .i64 c] w (Ret w (.int .i32 (codeL c))) := by
  have H1 := Lib.hid (replaced_any c w)
  obtain ⟨r, hr⟩ : ∃ r, replL c = r := ⟨_, rfl⟩
  rw [codeL]
  rw [hr] at H1 ⊢
  clear hr
  by_cases h1 : c ≤ 0
  · rw [if_pos (.inl h1)]
    go_enter Tryd.func70, Tryd.ntmps70
    go_wp2_with fail
    go_ret
    exact Ret.mk rfl (Below.refl _ _)
  by_cases h2 : c > 1114111
  · rw [if_pos (.inr (.inl h2))]
    go_enter Tryd.func70, Tryd.ntmps70
    go_wp2_with fail
    go_ret
    exact Ret.mk rfl (Below.refl _ _)
  have hw : wrap32 c = c := IntWalk.wrap32_in _ ⟨by omega, by omega⟩
  by_cases h3 : 55296 ≤ c
  · by_cases h4 : c ≤ 57343
    · rw [if_pos (.inr (.inr ⟨h3, h4⟩))]
      go_enter Tryd.func70, Tryd.ntmps70
      go_wp2_with fail
      go_ret
      exact Ret.mk rfl (Below.refl _ _)
    · rw [if_neg (by omega)]
      by_cases h5 : r = 0
      · subst h5
        go_enter Tryd.func70, Tryd.ntmps70
        go_wp2_with (refine H1.out.mono ?_; rintro e w1 ⟨rfl, b1⟩)
        go_ret
        exact Ret.mk rfl b1
      · rw [if_pos h5]
        go_enter Tryd.func70, Tryd.ntmps70
        go_wp2_with (refine H1.out.mono ?_; rintro e w1 ⟨rfl, b1⟩)
        go_ret
        exact Ret.mk rfl b1
  · rw [if_neg (by omega)]
    by_cases h5 : r = 0
    · subst h5
      go_enter Tryd.func70, Tryd.ntmps70
      go_wp2_with (refine H1.out.mono ?_; rintro e w1 ⟨rfl, b1⟩)
      go_ret
      exact Ret.mk rfl b1
    · rw [if_pos h5]
      go_enter Tryd.func70, Tryd.ntmps70
      go_wp2_with (refine H1.out.mono ?_; rintro e w1 ⟨rfl, b1⟩)
      go_ret
      exact Ret.mk rfl b1
end Go.Proofs.YtpfnakonpledgaaDoor
