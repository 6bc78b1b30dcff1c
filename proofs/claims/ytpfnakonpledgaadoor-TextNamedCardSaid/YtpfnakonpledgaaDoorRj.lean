/- The reference's Decode, Input and Valid. -/
import Derived.Test.YtpfnakonpledgaaDoorRi
import Derived.Test.YtpfnakonpledgaaDoorDec
import Derived.Test.YtpfnakonpledgaaDoorPl4
namespace Go.Proofs.YtpfnakonpledgaaDoor
open Go.RowKit
attribute [local go_sem] sgetr
attribute [local go_sem] sext

def runeP (x : Piece) : Int := if x.2 then scalL x.1 else 65533
def decR (l : List UInt8) : List Int := (pieces l).map runeP
theorem decR_nil : decR [] = [] := rfl
theorem decR_cons (b : List UInt8) (h : b ≠ []) : decR b = runeP (b.take (pieceL b).1, (pieceL b).2) :: decR (b.drop (pieceL b).1) := by
  unfold decR
  rw [pieces_cons b h, List.map_cons]
theorem pieceL_le4 (b : List UInt8) (h : b ≠ []) : (pieceL b).1 ≤ 4 := by
  cases b with
  | nil => exact absurd rfl h
  | cons a t =>
    have h4 := rWant_le a
    have := mt_le (spanOf a :: List.replicate (rWant a - 2) (128, 191)) t
    simp only [List.length_cons, List.length_replicate] at this
    rw [pieceL_want]
    repeat' split
    all_goals simp
    all_goals omega
theorem decR_len (l : List UInt8) : (decR l).length ≤ l.length := by
  unfold decR; rw [List.length_map]; exact pieces_len_le l
def RetRunes (w : World) (rs : List Int) (e : Ending) (w' : World) : Prop := ∃ v, e = .returned v ∧ OwnR w.heap.size w' v rs ∧ Below w.heap.size w w'
set_option maxRecDepth 100000 in
set_option maxHeartbeats 1000000 in
theorem rDecode_any (l : List UInt8) (w : World) (hs : l.length ≤ 1000000000) : Calls Tryd.prog 55 #[.string ⟨l.toArray⟩] w (RetRunes w (decR l)) := by
  go_enter Tryd.func55, Tryd.ntmps55
  go_wp2_with fail
  go_loopw [0, 3] (fun s0 s3 wr => ∃ rest done : List _, s0 = .string ⟨rest.toArray⟩ ∧ rest.length ≤ l.length ∧ OwnR w.heap.size wr s3 done ∧ Below w.heap.size w wr ∧ decR l = done ++ decR rest ∧ done.length + rest.length ≤ l.length) (fun s0 _ _ => slen s0)
  case atStart => exact ⟨l, [], rfl, Nat.le_refl _, OwnV.nil _ _ _, Below.refl _ _, rfl, by simp⟩
  case round =>
    obtain ⟨rest, done, rfl, hrl, hown, hb, hD, hdl⟩ := hrel
    have HD := Lib.hid hD; have HO := Lib.hid hown; have HB := Lib.hid hb
    have hbs := hb.size
    clear hD hown hb
    by_cases hnil : rest = []
    · subst hnil
      have HD2 : Hid (decR l = done) := Lib.hid (by rw [HD.out, decR_nil, List.append_nil])
      go_wp2_with fail
      go_ret
      exact ⟨_, rfl, by rw [HD2.out]; exact HO.out, HB.out⟩
    · have hpos : 0 < rest.length := List.length_pos_iff.2 hnil
      have hbd := pieceL_bd rest hnil
      have hp4 := pieceL_le4 rest hnil
      have h1 := rpiece_any rest wr hnil (by omega)
      have hwh := (piece_eq rest hnil).2
      have hcons := decR_cons rest hnil
      have h2 := fun w => rwhole_any (rest.take (pieceL rest).1) w (by simp; omega)
      have h3 := fun w => rscalar_any (rest.take (pieceL rest).1) w (by simp; omega) (by simp; omega)
      rw [hwh] at h2
      clear hnil hwh
      obtain ⟨⟨n, wh⟩, hx⟩ : ∃ x, pieceL rest = x := ⟨_, rfl⟩
      rw [hx] at hbd hp4 h1 hcons h2 h3
      dsimp only at hbd hp4 h1 hcons h2 h3
      obtain ⟨hn1, hn2⟩ := hbd
      have H1 := Lib.hid h1; have H2 := Lib.hid h2; have H3 := Lib.hid h3; have HC := Lib.hid hcons
      clear h1 h2 h3 hcons hx
      have hne : ¬ (rest.length : Int) = 0 := by omega
      have htl : Hid ((rest.drop n).take (rest.length - n) = rest.drop n) := Lib.hid (List.take_of_length_le (by simp))
      cases wh
      · have HD2 : Hid (decR l = (done ++ [65533]) ++ decR (rest.drop n)) := Lib.hid (by rw [HD.out, HC.out, List.append_assoc]; rfl)
        go_wp2_with fail
        refine H1.out.mono ?_
        rintro e w1 ⟨rfl, b1⟩
        go_wp2_with fail
        refine (H2.out _).mono ?_
        rintro e w2 ⟨rfl, b2⟩
        have HO2 := Lib.hid (show OwnR w.heap.size w2 u3 done from OwnV.below (OwnV.below HO.out b1) b2)
        have HB2 := Lib.hid (bthen (bthen HB.out HB.out.size b1) (by have := HB.out.size; have := b1.size; omega) b2)
        have hs2 := HB2.out.size
        clear b1 b2
        go_wp2_with (at_builtin; refine append_rune rfl _ _ rfl w.heap.size _ done rfl HO2.out 65533 _ rfl (by omega) hs2 ?_; intro v' w' hown' hb')
        go_roundw
        case rel => exact ⟨rest.drop n, done ++ [65533], by rw [htl.out], by simp; omega, hown', HB2.out.trans hb', HD2.out, by simp; omega⟩
        case measure => rw [htl.out]; show (rest.drop n).length < rest.length; simp; omega
      · have HD2 : Hid (decR l = (done ++ [scalL (rest.take n)]) ++ decR (rest.drop n)) := Lib.hid (by rw [HD.out, HC.out, List.append_assoc]; rfl)
        go_wp2_with fail
        refine H1.out.mono ?_
        rintro e w1 ⟨rfl, b1⟩
        go_wp2_with fail
        refine (H2.out _).mono ?_
        rintro e w2 ⟨rfl, b2⟩
        have HO2 := Lib.hid (show OwnR w.heap.size w2 u3 done from OwnV.below (OwnV.below HO.out b1) b2)
        have HB2 := Lib.hid (bthen (bthen HB.out HB.out.size b1) (by have := HB.out.size; have := b1.size; omega) b2)
        have hs2 := HB2.out.size
        clear b1 b2
        go_wp2_with fail
        refine (H3.out _).mono ?_
        rintro e w' ⟨rfl, rfl⟩
        go_wp2_with (at_builtin; refine append_rune rfl _ _ rfl w.heap.size _ done rfl HO2.out (scalL (rest.take n)) _ rfl (by omega) hs2 ?_; intro v' w' hown' hb')
        go_roundw
        case rel => exact ⟨rest.drop n, done ++ [scalL (rest.take n)], by rw [htl.out], by simp; omega, hown', HB2.out.trans hb', HD2.out, by simp; omega⟩
        case measure => rw [htl.out]; show (rest.drop n).length < rest.length; simp; omega
end Go.Proofs.YtpfnakonpledgaaDoor
