/- The law file's own function known(): the chapter's examples hold. -/
import Derived.Test.YtgjodmjegmilhaaDoorCod
import Derived.Test.YtgjodmjegmilhaaDoorLon
import Derived.Test.YtgjodmjegmilhaaDoorDec
import Derived.Test.YtgjodmjegmilhaaDoorLow
import Derived.Test.YtgjodmjegmilhaaDoorEsc
import Derived.Test.YtgjodmjegmilhaaDoorCls4
namespace Go.Proofs.YtgjodmjegmilhaaDoor
open Go.RowKit
theorem longest_any (l : List UInt8) (w : World) (hg : Good w) (hs : l.length ≤ 1000000000) : Calls Tryd.prog 8 #[.string ⟨l.toArray⟩] w (Ret w (.int .i64 ((longL l).1 : Nat))) := by
  have H1 := Lib.hid (Longest_any l w hg hs)
  go_enter Tryd.func8, Tryd.ntmps8
  go_wp2_with fail
  refine H1.out.mono ?_
  rintro e w1 ⟨rfl, b1⟩
  go_wp2_with fail
  go_ret
  exact Ret.mk rfl b1
theorem longF_filter (es : List Ent) (s : List UInt8) : longF es s = longF (es.filter fun x => x.1.isPrefixOf s) s := by
  unfold longF
  have key : ∀ (es : List Ent) (st : LSt), es.foldl (longStep s) st = (es.filter fun x => x.1.isPrefixOf s).foldl (longStep s) st := by
    intro es
    induction es with
    | nil => intro st; rfl
    | cons x es ih =>
      intro st
      cases h : x.1.isPrefixOf s
      · simp only [List.filter_cons, h, List.foldl_cons, longStep_no (.inr h), ih]; rfl
      · simp only [List.filter_cons, h, List.foldl_cons, ih]; rfl
  exact key es _
theorem longE_filter (es : List Ent) (s : List UInt8) : longE es s = longV (longF (es.filter fun x => x.1.isPrefixOf s) s) := congrArg longV (longF_filter es s)
theorem longL_filter (s : List UInt8) : longL s = longV (longF (entL.filter fun x => x.1.isPrefixOf s) s) := by
  unfold longL
  exact longE_filter entL s
theorem kn0 (w : World) (hg : Good w) : Calls Tryd.prog 7 #[.string ⟨#[78, 111, 116, 69, 113, 117, 97, 108, 84, 105, 108, 100, 101, 59]⟩] w (Ret w (.tuple #[.string ⟨#[226, 137, 130, 204, 184]⟩, .int .i64 0])) := by
  have h := Named_any [78, 111, 116, 69, 113, 117, 97, 108, 84, 105, 108, 100, 101, 59] w hg
  rw [show namedL [78, 111, 116, 69, 113, 117, 97, 108, 84, 105, 108, 100, 101, 59] = ([226, 137, 130, 204, 184], 0) from by decide +kernel] at h
  exact h
theorem kn1 (w : World) (hg : Good w) : Calls Tryd.prog 7 #[.string ⟨#[98, 110, 101]⟩] w (Ret w (.tuple #[.string ⟨#[]⟩, .int .i64 5])) := by
  have h := Named_any [98, 110, 101] w hg
  rw [show namedL [98, 110, 101] = ([], 5) from by decide +kernel] at h
  exact h
theorem kn2 (w : World) (_ : Good w) : Calls Tryd.prog 18 #[.string ⟨#[48, 102, 103]⟩, .int .i64 16] w (Ret w (.tuple #[.int .i64 15, .int .i64 2])) := by
  have h := Digits_any [48, 102, 103] 16 w (by decide)
  rw [show digitsL [48, 102, 103] 16 = (15, 2) from by decide +kernel] at h
  exact h
theorem kn3 (w : World) (_ : Good w) : Calls Tryd.prog 19 #[.string ⟨#[65, 195, 169]⟩] w (Ret w (.string ⟨#[65, 195, 169]⟩)) := by
  have h := Decode_any [65, 195, 169] w (by decide)
  rw [show decL [65, 195, 169] = [65, 195, 169] from by decide +kernel] at h
  exact h
theorem kn4 (w : World) (_ : Good w) : Calls Tryd.prog 19 #[.string ⟨#[226, 130, 65]⟩] w (Ret w (.string ⟨#[239, 191, 189, 65]⟩)) := by
  have h := Decode_any [226, 130, 65] w (by decide)
  rw [show decL [226, 130, 65] = [239, 191, 189, 65] from by decide +kernel] at h
  exact h
theorem kn5 (w : World) (_ : Good w) : Calls Tryd.prog 19 #[.string ⟨#[237, 160, 128]⟩] w (Ret w (.string ⟨#[239, 191, 189, 239, 191, 189, 239, 191, 189]⟩)) := by
  have h := Decode_any [237, 160, 128] w (by decide)
  rw [show decL [237, 160, 128] = [239, 191, 189, 239, 191, 189, 239, 191, 189] from by decide +kernel] at h
  exact h
theorem kn6 (w : World) (hg : Good w) : Calls Tryd.prog 20 #[.string ⟨#[13, 10, 13, 13]⟩] w (Ret w (.string ⟨#[10, 10, 10]⟩)) := by
  have h := Input_any [13, 10, 13, 13] w hg (by decide)
  rw [show newlines (decL [13, 10, 13, 13]) = [10, 10, 10] from by decide +kernel] at h
  exact h
theorem kn7 (w : World) (_ : Good w) : Calls Tryd.prog 21 #[.string ⟨#[65, 98, 90, 195, 137]⟩] w (Ret w (.string ⟨#[97, 98, 122, 195, 137]⟩)) := by
  have h := Lower_any [65, 98, 90, 195, 137] w (by decide)
  rw [show lowL [65, 98, 90, 195, 137] = [97, 98, 122, 195, 137] from by decide +kernel] at h
  exact h
theorem kn8 (w : World) (_ : Good w) : Calls Tryd.prog 22 #[.string ⟨#[97, 34, 98]⟩] w (Ret w (.bool true)) := by
  have h := ValidElement_any [97, 34, 98] w (by decide)
  rw [show validElem [97, 34, 98] = true from by decide +kernel] at h
  exact h
theorem kn9 (w : World) (_ : Good w) : Calls Tryd.prog 22 #[.string ⟨#[49, 97]⟩] w (Ret w (.bool false)) := by
  have h := ValidElement_any [49, 97] w (by decide)
  rw [show validElem [49, 97] = false from by decide +kernel] at h
  exact h
theorem kn10 (w : World) (_ : Good w) : Calls Tryd.prog 23 #[.string ⟨#[49, 97]⟩] w (Ret w (.bool true)) := by
  have h := ValidAttribute_any [49, 97] w (by decide)
  rw [show validAttr [49, 97] = true from by decide +kernel] at h
  exact h
theorem kn11 (w : World) (hg : Good w) : Calls Tryd.prog 8 #[.string ⟨#[110, 111, 116, 105, 110, 59, 120]⟩] w (Ret w (.int .i64 6)) := by
  have h := longest_any [110, 111, 116, 105, 110, 59, 120] w hg (by decide)
  rw [show (longL [110, 111, 116, 105, 110, 59, 120]).1 = 6 from by rw [longL_filter]; decide +kernel] at h
  exact h
theorem kn12 (w : World) (hg : Good w) : Calls Tryd.prog 8 #[.string ⟨#[110, 111, 116, 105]⟩] w (Ret w (.int .i64 3)) := by
  have h := longest_any [110, 111, 116, 105] w hg (by decide)
  rw [show (longL [110, 111, 116, 105]).1 = 3 from by rw [longL_filter]; decide +kernel] at h
  exact h
theorem kn13 (w : World) (_ : Good w) : Calls Tryd.prog 24 #[.string ⟨#[97, 60, 34, 38, 62]⟩] w (Ret w (.string ⟨#[97, 38, 108, 116, 59, 34, 38, 97, 109, 112, 59, 38, 103, 116, 59]⟩)) := by
  have h := EscapeText_any [97, 60, 34, 38, 62] w (by decide)
  rw [show escL ltGt [97, 60, 34, 38, 62] = [97, 38, 108, 116, 59, 34, 38, 97, 109, 112, 59, 38, 103, 116, 59] from by decide +kernel] at h
  exact h
theorem kn14 (w : World) (_ : Good w) : Calls Tryd.prog 25 #[.string ⟨#[97, 60, 34, 38, 62]⟩] w (Ret w (.string ⟨#[97, 60, 38, 113, 117, 111, 116, 59, 38, 97, 109, 112, 59, 62]⟩)) := by
  have h := EscapeValue_any [97, 60, 34, 38, 62] w (by decide)
  rw [show escL quotL [97, 60, 34, 38, 62] = [97, 60, 38, 113, 117, 111, 116, 59, 38, 97, 109, 112, 59, 62] from by decide +kernel] at h
  exact h
set_option maxRecDepth 100000 in
set_option maxHeartbeats 4000000 in
theorem known_any (w : World) (hg : Good w) : Calls Tryd.prog 10 #[] w (Ret w (.bool true)) := by
  go_enter Tryd.func10, Tryd.ntmps10
  have b : Below w.heap.size w w := Below.refl _ _
  go_wp2_with fail
  refine (kn0 _ (hg.kept b)).mono ?_
  rintro e w1 ⟨rfl, c⟩
  replace b := bthen b b.size c
  clear c
  go_wp2_with fail
  refine (kn1 _ (hg.kept b)).mono ?_
  rintro e w2 ⟨rfl, c⟩
  replace b := bthen b b.size c
  clear c
  go_wp2_with fail
  refine (kn2 _ (hg.kept b)).mono ?_
  rintro e w3 ⟨rfl, c⟩
  replace b := bthen b b.size c
  clear c
  go_wp2_with fail
  refine (kn3 _ (hg.kept b)).mono ?_
  rintro e w4 ⟨rfl, c⟩
  replace b := bthen b b.size c
  clear c
  go_wp2_with fail
  refine (kn4 _ (hg.kept b)).mono ?_
  rintro e w5 ⟨rfl, c⟩
  replace b := bthen b b.size c
  clear c
  go_wp2_with fail
  refine (kn5 _ (hg.kept b)).mono ?_
  rintro e w6 ⟨rfl, c⟩
  replace b := bthen b b.size c
  clear c
  go_wp2_with fail
  refine (kn6 _ (hg.kept b)).mono ?_
  rintro e w7 ⟨rfl, c⟩
  replace b := bthen b b.size c
  clear c
  go_wp2_with fail
  refine (kn7 _ (hg.kept b)).mono ?_
  rintro e w8 ⟨rfl, c⟩
  replace b := bthen b b.size c
  clear c
  go_wp2_with fail
  refine (kn8 _ (hg.kept b)).mono ?_
  rintro e w9 ⟨rfl, c⟩
  replace b := bthen b b.size c
  clear c
  go_wp2_with fail
  refine (kn9 _ (hg.kept b)).mono ?_
  rintro e w10 ⟨rfl, c⟩
  replace b := bthen b b.size c
  clear c
  go_wp2_with fail
  refine (kn10 _ (hg.kept b)).mono ?_
  rintro e w11 ⟨rfl, c⟩
  replace b := bthen b b.size c
  clear c
  go_wp2_with fail
  refine (kn11 _ (hg.kept b)).mono ?_
  rintro e w12 ⟨rfl, c⟩
  replace b := bthen b b.size c
  clear c
  go_wp2_with fail
  refine (kn12 _ (hg.kept b)).mono ?_
  rintro e w13 ⟨rfl, c⟩
  replace b := bthen b b.size c
  clear c
  go_wp2_with fail
  refine (kn13 _ (hg.kept b)).mono ?_
  rintro e w14 ⟨rfl, c⟩
  replace b := bthen b b.size c
  clear c
  go_wp2_with fail
  refine (kn14 _ (hg.kept b)).mono ?_
  rintro e w15 ⟨rfl, c⟩
  replace b := bthen b b.size c
  clear c
  go_wp2_with fail
  go_ret
  exact Ret.mk rfl b
end Go.Proofs.YtgjodmjegmilhaaDoor
