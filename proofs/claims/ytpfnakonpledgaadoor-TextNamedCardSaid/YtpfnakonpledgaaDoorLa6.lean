/- thicketlaw01: TextNamed. -/
import Derived.Test.YtpfnakonpledgaaDoorRq
import Derived.Test.YtpfnakonpledgaaDoorKn
namespace Go.Proofs.YtpfnakonpledgaaDoor
open Go.RowKit
attribute [local go_sem] sext
attribute [local go_sem] sapp


set_option maxRecDepth 100000 in
set_option maxHeartbeats 4000000 in
theorem TextNamed_any (l : List UInt8) (w : World) (hg : Good w) (hl : l.length ≤ maxLen) : Calls Tryd.prog 17 #[.string ⟨l.toArray⟩] w (Ret w (.bool true)) := by
  have HK := Lib.hid (fun w hg => known_any w hg)
  by_cases h1 : l.length ≤ 4096
  · have qH1 := fun (w : World) (hg : Good w) => Named_any l w hg
    have H1 := Lib.hid qH1
    clear qH1
    have qH2 := fun (w : World) (hg : Good w) => rNamed_any l w
    have H2 := Lib.hid qH2
    clear qH2
    have qH3 := fun (w : World) (hg : Good w) => Longest_any l w hg (by omega)
    have H3 := Lib.hid qH3
    clear qH3
    have qH4 := fun (w : World) (hg : Good w) => rLongest_any l w (by omega)
    have H4 := Lib.hid qH4
    clear qH4
    have qH5 := fun (w : World) (hg : Good w) => HasPrefix_any l w hg (by omega)
    have H5 := Lib.hid qH5
    clear qH5
    have qH6 := fun (w : World) (hg : Good w) => rHasPrefix_any l w (by omega)
    have H6 := Lib.hid qH6
    clear qH6
    obtain ⟨⟨v, e⟩, hv⟩ : ∃ x, namedL l = x := ⟨_, rfl⟩
    rw [hv] at H1 H2
    obtain ⟨⟨n, x⟩, hx⟩ : ∃ x, longL l = x := ⟨_, rfl⟩
    rw [hx] at H3 H4
    obtain ⟨p, hp⟩ : ∃ x, hasL l = x := ⟨_, rfl⟩
    rw [hp] at H5 H6
    clear hv hx hp
    go_enter Tryd.func17, Tryd.ntmps17
    have b : Below w.heap.size w w := Below.refl _ _
    go_wp2_with fail
    refine (H1.out _ (hg.kept b)).mono ?_
    rintro e w1 ⟨rfl, c⟩
    replace b := bthen b b.size c
    clear c
    go_wp2_with fail
    refine (H2.out _ (hg.kept b)).mono ?_
    rintro e w2 ⟨rfl, c⟩
    replace b := bthen b b.size c
    clear c
    go_wp2_with fail
    refine (H3.out _ (hg.kept b)).mono ?_
    rintro e w3 ⟨rfl, c⟩
    replace b := bthen b b.size c
    clear c
    go_wp2_with fail
    refine (H4.out _ (hg.kept b)).mono ?_
    rintro e w4 ⟨rfl, c⟩
    replace b := bthen b b.size c
    clear c
    go_wp2_with fail
    refine (H5.out _ (hg.kept b)).mono ?_
    rintro e w5 ⟨rfl, c⟩
    replace b := bthen b b.size c
    clear c
    go_wp2_with fail
    refine (H6.out _ (hg.kept b)).mono ?_
    rintro e w6 ⟨rfl, c⟩
    replace b := bthen b b.size c
    clear c
    go_wp2_with fail
    refine (HK.out _ (hg.kept b)).mono ?_
    rintro e w7 ⟨rfl, c⟩
    replace b := bthen b b.size c
    clear c
    go_wp2_with fail
    go_ret
    exact Ret.mk rfl b
  · unfold maxLen at hl
    go_enter Tryd.func17, Tryd.ntmps17
    have b : Below w.heap.size w w := Below.refl _ _
    go_wp2_with fail
    refine (HK.out _ (hg.kept b)).mono ?_
    rintro e w1 ⟨rfl, c⟩
    replace b := bthen b b.size c
    clear c
    go_wp2_with fail
    go_ret
    exact Ret.mk rfl b

end Go.Proofs.YtpfnakonpledgaaDoor
