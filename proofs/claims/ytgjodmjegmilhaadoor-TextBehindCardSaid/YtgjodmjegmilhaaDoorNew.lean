/- text.Newlines: CR LF and CR become LF. -/
import Derived.Test.YtgjodmjegmilhaaDoorBase
import Derived.Test.YtgjodmjegmilhaaDoorShelf
import Derived.Test.YtgjodmjegmilhaaDoorLib
namespace Go.Proofs.YtgjodmjegmilhaaDoor
open Go.RowKit

theorem Newlines_any (l : List UInt8) (w : World) (hg : Good w) (hs : l.length ≤ 1000000000) : Calls Tryd.prog 38 #[.string ⟨l.toArray⟩] w (Ret w (.string ⟨(newlines l).toArray⟩)) := by
  have hg2 := hg
  obtain ⟨m, hm⟩ := hg2
  have HS := Lib.hid hs; clear hs
  go_enter Tryd.func38, Tryd.ntmps38
  go_wp2_with fail
  refine (Tryd.strings_ReplaceAll ⟨l.toArray⟩ ⟨#[13, 10]⟩ ⟨#[10]⟩ m w ?_ hm (by decide) ?_).mono ?_
  · show l.length < _
    have := HS.out; omega
  · have h1 := Lib.countB_mul_le ⟨#[13, 10]⟩ (by decide) _ ⟨l.toArray⟩ (Nat.le_refl _)
    have h2 : (⟨l.toArray⟩ : ByteArray).size = l.length := rfl
    have h3 : (⟨#[13, 10]⟩ : ByteArray).size = 2 := rfl
    have h4 : (⟨#[10]⟩ : ByteArray).size = 1 := rfl
    have := HS.out
    rw [h2, h3] at h1
    rw [h2, h4]; omega
  rintro e w1 ⟨rfl, b1⟩
  rw [show Lib.replaceAll (⟨l.toArray⟩ : ByteArray).data.toList (⟨#[13, 10]⟩ : ByteArray).data.toList (⟨#[10]⟩ : ByteArray).data.toList = crlf l from replace_crlf l]
  have hg1 := hg.kept b1
  obtain ⟨m1, hm1⟩ := hg1
  go_wp2_with fail
  have hcl := crlf_len l
  refine (Tryd.strings_ReplaceAll ⟨(crlf l).toArray⟩ ⟨#[13]⟩ ⟨#[10]⟩ m1 w1 ?_ hm1 (by decide) ?_).mono ?_
  · show (crlf l).length < _
    have := HS.out; omega
  · have h1 := Lib.countB_mul_le ⟨#[13]⟩ (by decide) _ ⟨(crlf l).toArray⟩ (Nat.le_refl _)
    have h2 : (⟨(crlf l).toArray⟩ : ByteArray).size = (crlf l).length := rfl
    have h3 : (⟨#[13]⟩ : ByteArray).size = 1 := rfl
    have h4 : (⟨#[10]⟩ : ByteArray).size = 1 := rfl
    have := HS.out
    rw [h2, h3] at h1
    rw [h2, h4]; omega
  rintro e w2 ⟨rfl, b2⟩
  rw [show Lib.replaceAll (⟨(crlf l).toArray⟩ : ByteArray).data.toList (⟨#[13]⟩ : ByteArray).data.toList (⟨#[10]⟩ : ByteArray).data.toList = newlines l from replace_cr (crlf l)]
  go_wp2_with fail
  go_ret
  exact Ret.mk rfl (bthen b1 b1.size b2)
end Go.Proofs.YtgjodmjegmilhaaDoor
