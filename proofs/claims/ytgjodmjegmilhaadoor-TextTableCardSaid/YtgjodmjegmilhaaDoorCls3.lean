/- Loops over the bytes of a string: 'all', 'none', and the tests on names. -/
import Derived.Test.YtgjodmjegmilhaaDoorCls2
namespace Go.Proofs.YtgjodmjegmilhaaDoor
open Go.RowKit

def allB (p : Int → Bool) (l : List UInt8) : Bool := l.all fun c => p (c.toNat : Int)
theorem allB_true {p : Int → Bool} {l : List UInt8} (h : ∀ j (hj : j < l.length), p ((l[j].toNat : Nat) : Int) = true) : allB p l = true := by
  unfold allB
  rw [List.all_eq_true]
  intro c hc
  obtain ⟨j, hj, rfl⟩ := List.getElem_of_mem hc
  exact h j hj
theorem allB_false {p : Int → Bool} {l : List UInt8} (j : Nat) (hj : j < l.length) (h : p ((l[j].toNat : Nat) : Int) = false) : allB p l = false := by
  unfold allB
  rw [List.all_eq_false]
  exact ⟨l[j], List.getElem_mem hj, by simp [h]⟩

theorem bget (s : ByteArray) (k : Nat) (h : k < s.size) (hb : k < s.data.toList.length) : s.data.toList[k]'hb = s[k]'h := by
  simp only [ByteArray.getElem_eq_getElem_data, Array.getElem_toList]

theorem all_any (s : ByteArray) (f : Nat) (cap : Array Value) (p : Int → Bool) (w : World) (hs : s.size ≤ maxLen) (hc : IsCls w f cap p) :
    Calls Tryd.prog 41 #[.string s, .func (.func f) #[] cap] w (Ret w (.bool (allB p s.data.toList))) := by
  unfold maxLen at hs
  have he := hc.1
  have HC := Lib.hid hc; clear hc
  go_enter Tryd.func41, Tryd.ntmps41
  go_wp2
  go_loopw [8] (fun i wr => ∃ k : Nat, k ≤ s.size ∧ i = .int .i64 k ∧ Below w.heap.size w wr ∧ ∀ j (hj : j < s.data.toList.length), j < k → p ((s.data.toList[j].toNat : Nat) : Int) = true) (fun i _ => s.size - (intOf i).toNat)
  case atStart => exact ⟨0, Nat.zero_le _, rfl, Below.refl _ _, fun j _ h => absurd h (Nat.not_lt_zero _)⟩
  case round =>
    obtain ⟨k, hk, rfl, hb, hno⟩ := hrel
    have HNO := Lib.hid hno; clear hno
    by_cases hlt : k < s.size
    · have h1 := HC.out.2 wr (by have := hb.size; exact hb.mono (Nat.le_refl _)) (s[k].toNat : Int)
      cases hp : p (s[k].toNat : Int)
      · rw [hp] at h1
        have H1 := Lib.hid h1; clear h1
        have HP := Lib.hid hp; clear hp
        go_wp2_with fail
        rw [wrap32_byte]
        go_wp2_with (refine H1.out.mono ?_; rintro e w1 ⟨rfl, hb1⟩)
        go_ret
        refine Ret.mk ?_ (bthen hb hb.size hb1)
        rw [allB_false k (by simpa using hlt) (by rw [bget s k hlt]; exact HP.out)]; rfl
      · rw [hp] at h1
        have H1 := Lib.hid h1; clear h1
        have HP := Lib.hid hp; clear hp
        go_wp2_with fail
        rw [wrap32_byte]
        go_wp2_with (refine H1.out.mono ?_; rintro e w1 ⟨rfl, hb1⟩)
        go_roundw
        case rel =>
          refine ⟨k + 1, by omega, by go_num, bthen hb hb.size hb1, fun j hj hlt' => ?_⟩
          by_cases e : j = k
          · subst e; rw [bget s j hlt]; exact HP.out
          · exact HNO.out j hj (by omega)
        case measure => simp [intOf]; omega
    · go_wp2
      go_ret
      refine Ret.mk ?_ hb
      rw [allB_true fun j hj => HNO.out j hj (by simp at hj; omega)]; rfl

/-- No space, no 0, none of the bytes of l. -/
def noneOf (l : List UInt8) (r : Int) : Bool := !isSpace r && (r != 0 && decide (Lib.indexByte l (r % 256).toNat.toUInt8 < 0))

theorem none1 (w : World) (q : Nat) (s : ByteArray) (r : Int) (hq : w.cell? ⟨q, 0, none⟩ = some (.string s)) :
    Calls Tryd.prog 54 #[.int .i32 r, .pointer (some ⟨q, 0, none⟩)] w (Ret w (.bool (noneOf s.data.toList r))) := by
  go_enter Tryd.func54, Tryd.ntmps54
  go_wp2_with fail
  refine (IsSpace_any r _).mono ?_
  rintro e w1 ⟨rfl, b1⟩
  have hq1 : w1.cell? ⟨q, 0, none⟩ = some (.string s) := (b1.cell (p := ⟨q, 0, none⟩) (World.block_lt_of_cell? w _ hq)).trans hq
  clear hq
  cases hsp : isSpace r
  · have HS := Lib.hid hsp; clear hsp
    by_cases h0 : r = 0
    · subst h0
      go_wp2_with fail
      go_ret
      refine Ret.mk ?_ b1
      simp [noneOf, HS.out]
    · have hr : (r == 0) = false := by simp [h0]
      go_wp2_with fail
      refine (Tryd.strings_IndexByte _ _ _).mono ?_
      rintro e w2 ⟨rfl, rfl⟩
      generalize hx : Lib.indexByte s.data.toList (r % 256).toNat.toUInt8 = x
      have HX := Lib.hid hx; clear hx
      go_wp2_with fail
      all_goals go_ret
      all_goals refine Ret.mk ?_ b1
      all_goals simp [noneOf, HS.out, HX.out]
  · have HS := Lib.hid hsp; clear hsp
    go_wp2_with fail
    go_ret
    refine Ret.mk ?_ b1
    simp [noneOf, HS.out]
theorem enter_none1 (args : Array Value) (W : World) : (callFunc 54 args).run Tryd.prog W = .ok (.enter 54 args) W := by simp [go_sem]
theorem none_any (s : ByteArray) (w : World) : Calls Tryd.prog 42 #[.string s] w (RetC w (noneOf s.data.toList)) := by
  go_enter Tryd.func42, Tryd.ntmps42
  go_wp2
  go_ret
  refine ⟨_, _, rfl, ⟨enter_none1, fun W hb r => ?_⟩, by go_grown⟩
  refine none1 W _ s r ((hb.cell (p := ⟨_, 0, none⟩) (by simp)).trans ?_)
  go_cell

theorem all_list (l : List UInt8) (f : Nat) (cap : Array Value) (p : Int → Bool) (w : World) (hs : l.length ≤ maxLen) (hc : IsCls w f cap p) :
    Calls Tryd.prog 41 #[.string ⟨l.toArray⟩, .func (.func f) #[] cap] w (Ret w (.bool (allB p l))) := all_any ⟨l.toArray⟩ f cap p w hs hc
def validAttr (l : List UInt8) : Bool := !l.isEmpty && allB (noneOf [47, 61, 62]) l
theorem ValidAttribute_any (l : List UInt8) (w : World) (hs : l.length ≤ maxLen) : Calls Tryd.prog 23 #[.string ⟨l.toArray⟩] w (Ret w (.bool (validAttr l))) := by
  have HS := Lib.hid hs; clear hs
  cases he : l.isEmpty
  · have h1 : (!l.isEmpty) = true := by rw [he]; rfl
    have h2 : l ≠ [] := by intro h; subst h; cases he
    go_enter Tryd.func23, Tryd.ntmps23
    go_wp2_with fail
    refine (none_any ⟨#[47, 61, 62]⟩ _).mono ?_
    rintro e w1 ⟨f, cap, rfl, hc, b1⟩
    go_wp2_with fail
    refine (all_list l f cap _ _ HS.out hc).mono ?_
    rintro e w2 ⟨rfl, b2⟩
    go_wp2_with fail
    go_ret
    refine Ret.mk ?_ (bthen b1 b1.size b2)
    simp [validAttr, h2]
  · have h2 : l = [] := by simpa using he
    subst h2
    go_enter Tryd.func23, Tryd.ntmps23
    go_wp2_with fail
    go_ret
    exact Ret.mk rfl (Below.refl _ _)
end Go.Proofs.YtgjodmjegmilhaaDoor
