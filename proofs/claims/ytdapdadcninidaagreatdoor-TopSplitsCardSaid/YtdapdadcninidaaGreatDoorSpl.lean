/- The plain law of TopSplits: what the calls on its small arena leave. No program stands in this text. -/
import Derived.Test.YtdapdadcninidaaGreatDoorNorm
import Derived.Test.YtdapdadcninidaaGreatDoorDmp
namespace Go.Proofs.YtdapdadcninidaaGreatDoor
open Go.RowKit

def tD : Nd := { kind := 1, doc := 1 }
def tP (ks : List Nat) : Nd := { kind := 4, space := 1, name := [112], doc := 1, kids := ks }
def tX (k : Int) (par : Nat) (l : List UInt8) : Nd := { kind := k, data := l, doc := 1, parent := par }
def tB (par : Nat) : Nd := { kind := 4, space := 1, name := [98], doc := 1, parent := par }
def sp0 (s : List UInt8) : List Nd := [tD, tP [], tX 6 0 [99], tX 5 0 s, tB 0]
def sp1 (s : List UInt8) : List Nd := [tD, tP [3], tX 6 2 [99], tX 5 0 s, tB 0]
def sp2 (s : List UInt8) : List Nd := [tD, tP [3, 4], tX 6 2 [99], tX 5 2 s, tB 0]
def spA (s : List UInt8) : List Nd := [tD, tP [3, 4, 5], tX 6 2 [99], tX 5 2 s, tB 2]
def spB (a b : List UInt8) : List Nd := [tD, tP [3, 4, 6, 5], tX 6 2 [99], tX 5 2 a, tB 2, tX 5 2 b]
def spC (a b c : List UInt8) : List Nd := [tD, tP [3, 4, 6, 7, 5], tX 6 2 [99], tX 5 2 a, tB 2, tX 5 2 b, tX 5 2 c]
theorem put1 (s : List UInt8) : putL (sp0 s) 2 3 0 = sp1 s := rfl
theorem put2 (s : List UInt8) : putL (sp1 s) 2 4 0 = sp2 s := rfl
theorem put3 (s : List UInt8) : putL (sp2 s) 2 5 0 = spA s := rfl
theorem fitOf {ns : List Nd} (h : (decide (ns.length ≤ 10) && ns.all fun d => decide (d.kids.length ≤ 10) && d.attrs.isEmpty) = true) : Fit ns := by
  simp only [Bool.and_eq_true, decide_eq_true_eq, List.all_eq_true, List.isEmpty_iff] at h
  exact ⟨by omega, fun d hd => by have := (h.2 d hd).1; omega, fun d hd => by rw [(h.2 d hd).2]; exact Nat.zero_le _⟩
theorem cutOk_of {ns : List Nd} {h : Int} (hc : (isH ns.length h && (decide ((ndAt ns h).parent = 0) || (isH ns.length (ndAt ns h).parent && ((ndAt ns (ndAt ns h).parent).kids.contains h.toNat && (decide ((ndAt ns (ndAt ns h).parent).kids.length ≤ 10) && !decide (((ndAt ns h).parent : Int) = h)))))) = true) : CutOk ns h := by
  simp only [Bool.and_eq_true, Bool.or_eq_true, decide_eq_true_eq, Bool.not_eq_true', decide_eq_false_iff_not, List.contains_eq_mem] at hc
  refine ⟨hc.1, fun h0 => ?_⟩
  rcases hc.2 with h1 | ⟨h1, h2, h3, h4⟩
  · exact absurd h1 h0
  · exact ⟨h1, h2, by omega, h4⟩
theorem up2 {ns : List Nd} (h : isH ns.length 2 = true) (hp : (ndAt ns 2).parent = 0) (hh : (ndAt ns 2).host = 0) : Up ns true 2 [2] := by
  refine .more h ?_
  rw [upN, if_pos ⟨hp, rfl⟩, hh]
  exact .done
theorem putE_two {ns : List Nd} {n b : Int} (hU : Up ns true 2 [2]) (h2 : isH ns.length 2 = true) (hn : isH ns.length n = true) (hk : (ndAt ns 2).kind = 4) (hkn : (ndAt ns n).kind = 4 ∨ (ndAt ns n).kind = 5 ∨ (ndAt ns n).kind = 6) (hne : n ≠ 2)
    (hb : b = 0 ∨ (isH ns.length b = true ∧ b ≠ n ∧ ((ndAt ns b).parent : Int) = 2)) : putE ns 2 n b = 0 := by
  have hct : containsL ns n 2 = false := by
    rw [containsL, hn, h2, upOf_of hU]
    simpa using hne
  unfold putE
  rw [if_neg (by simp [h2, hn]), if_neg (by rintro ⟨h0, h1⟩; rcases hb with hb | ⟨hb, _⟩; (· exact h0 hb); (· rw [hb] at h1; cases h1)), if_neg, if_neg]
  · rintro ⟨h0, h1⟩
    rcases hb with hb | ⟨_, hb, hb2⟩
    · exact h0 hb
    · rcases h1 with h1 | h1
      · exact hb h1
      · exact h1 hb2
  · rintro (h | h | h | h)
    · exact h (by rw [hk]; exact .inr (.inr rfl))
    · rw [h] at hkn; revert hkn; decide
    · rw [h] at hkn; revert hkn; decide
    · rw [hct] at h; cases h
theorem putOk_two {ns : List Nd} {n b : Int} (hU : Up ns true 2 [2]) (hc : CutOk ns n) (hb : b = 0 ∨ b.toNat ∈ (ndAt ns 2).kids) : PutOk ns 2 n b :=
  ⟨fun _ => ⟨_, hU⟩, fun _ => hc, fun h0 _ _ => hb.elim (fun h => absurd h h0) id⟩
theorem sp_put (s : List UInt8) : (putE (sp0 s) 2 3 0 = 0 ∧ PutOk (sp0 s) 2 3 0) ∧ (putE (sp1 s) 2 4 0 = 0 ∧ PutOk (sp1 s) 2 4 0) ∧ (putE (sp2 s) 2 5 0 = 0 ∧ PutOk (sp2 s) 2 5 0) :=
  ⟨⟨putE_two (up2 rfl rfl rfl) rfl rfl rfl (.inr (.inr rfl)) (by decide) (.inl rfl), putOk_two (up2 rfl rfl rfl) (cutOk_of rfl) (.inl rfl)⟩,
   ⟨putE_two (up2 rfl rfl rfl) rfl rfl rfl (.inr (.inl rfl)) (by decide) (.inl rfl), putOk_two (up2 rfl rfl rfl) (cutOk_of rfl) (.inl rfl)⟩,
   ⟨putE_two (up2 rfl rfl rfl) rfl rfl rfl (.inl rfl) (by decide) (.inl rfl), putOk_two (up2 rfl rfl rfl) (cutOk_of rfl) (.inl rfl)⟩⟩
theorem sp_fit (s : List UInt8) : Fit (sp0 s) ∧ Fit (sp1 s) ∧ Fit (sp2 s) ∧ Fit (spA s) := ⟨fitOf rfl, fitOf rfl, fitOf rfl, fitOf rfl⟩
/-- The first split. -/
theorem spA_E (s : List UInt8) (p : Int) : splitE (spA s) 4 p = if p < 0 ∨ (s.length : Int) < p then 2 else 0 := rfl
theorem spA_ok (s : List UInt8) (p : Nat) : SplitOk (spA s) 4 p :=
  ⟨rfl, fitOf rfl, fitOf rfl, fun _ => (show 2 ≤ 6 by decide), (show -1 ≤ (1 : Int) ∧ (1 : Int) ≤ 1000000 by decide),
    putOk_two (up2 rfl rfl rfl) (cutOk_of rfl) (.inr (show 5 ∈ [3, 4, 5] by decide))⟩
def tR2 (a b : List UInt8) : List Nd := [tD, tP [3, 4, 5], tX 6 2 [99], tX 5 2 a, tB 2, tX 5 0 b]
theorem spA_n2 (s : List UInt8) (p : Nat) : spN2 (spA s) 4 p = tR2 (s.take p) (s.drop p) := rfl
theorem tR2_next (a b : List UInt8) : nextL (tR2 a b) 4 = 5 := rfl
theorem tR2_put (a b : List UInt8) : putL (tR2 a b) 2 6 5 = spB a b := rfl
theorem tR2_putE (a b : List UInt8) : putE (tR2 a b) 2 6 5 = 0 := putE_two (up2 rfl rfl rfl) rfl rfl rfl (.inr (.inl rfl)) (show (6 : Int) ≠ 2 by decide) (.inr ⟨rfl, (show (5 : Int) ≠ 6 by decide), rfl⟩)
theorem spA_L (s : List UInt8) (p : Nat) : spN3 (spA s) 4 p = spB (s.take p) (s.drop p) := by
  have h2 : (ndAt (spA s) 4).parent = 2 := rfl
  have hl : (spA s).length = 5 := rfl
  unfold spN3
  rw [h2, if_neg (by decide), spA_n2, tR2_next, hl]
  show (if putE (tR2 (s.take p) (s.drop p)) 2 6 5 = 0 then putL (tR2 (s.take p) (s.drop p)) 2 6 5 else _) = _
  rw [if_pos (tR2_putE _ _), tR2_put]
/-- The second one. -/
theorem spB_E (a b : List UInt8) (p : Int) : splitE (spB a b) 6 p = if p < 0 ∨ (b.length : Int) < p then 2 else 0 := rfl
theorem spB_fit (a b : List UInt8) : Fit (spB a b) := fitOf rfl
theorem spB_ok (a b : List UInt8) (p : Nat) : SplitOk (spB a b) 6 p :=
  ⟨rfl, fitOf rfl, fitOf rfl, fun _ => (show 2 ≤ 7 by decide), (show -1 ≤ (2 : Int) ∧ (2 : Int) ≤ 1000000 by decide),
    putOk_two (up2 rfl rfl rfl) (cutOk_of rfl) (.inr (show 5 ∈ [3, 4, 6, 5] by decide))⟩
def tR3 (a b c : List UInt8) : List Nd := [tD, tP [3, 4, 6, 5], tX 6 2 [99], tX 5 2 a, tB 2, tX 5 2 b, tX 5 0 c]
theorem spB_n2 (a b : List UInt8) (p : Nat) : spN2 (spB a b) 6 p = tR3 a (b.take p) (b.drop p) := rfl
theorem tR3_next (a b c : List UInt8) : nextL (tR3 a b c) 6 = 5 := rfl
theorem tR3_put (a b c : List UInt8) : putL (tR3 a b c) 2 7 5 = spC a b c := rfl
theorem tR3_putE (a b c : List UInt8) : putE (tR3 a b c) 2 7 5 = 0 := putE_two (up2 rfl rfl rfl) rfl rfl rfl (.inr (.inl rfl)) (show (7 : Int) ≠ 2 by decide) (.inr ⟨rfl, (show (5 : Int) ≠ 7 by decide), rfl⟩)
theorem spB_L (a b : List UInt8) (p : Nat) : spN3 (spB a b) 6 p = spC a (b.take p) (b.drop p) := by
  have h2 : (ndAt (spB a b) 6).parent = 2 := rfl
  have hl : (spB a b).length = 6 := rfl
  unfold spN3
  rw [h2, if_neg (by decide), spB_n2, tR3_next, hl]
  show (if putE (tR3 a (b.take p) (b.drop p)) 2 7 5 = 0 then putL (tR3 a (b.take p) (b.drop p)) 2 7 5 else _) = _
  rw [if_pos (tR3_putE _ _ _), tR3_put]
theorem spC_fit (a b c : List UInt8) : Fit (spC a b c) := fitOf rfl
/-- The text of the parent. -/
theorem spB_text (a b : List UInt8) : Sub (kidsAt (spB a b)) (kidsAt (spB a b) 2) [3, 4, 6, 5] ∧ textOf (spB a b) [3, 4, 6, 5] = a ++ b := by
  refine ⟨.cons (xs := []) .nil (.cons (xs := []) .nil (.cons (xs := []) .nil (.cons (xs := []) .nil .nil))), ?_⟩
  show [] ++ (a ++ (b ++ ([] ++ []))) = _
  simp
theorem spC_text (a b c : List UInt8) : Sub (kidsAt (spC a b c)) (kidsAt (spC a b c) 2) [3, 4, 6, 7, 5] ∧ textOf (spC a b c) [3, 4, 6, 7, 5] = a ++ (b ++ c) := by
  refine ⟨.cons (xs := []) .nil (.cons (xs := []) .nil (.cons (xs := []) .nil (.cons (xs := []) .nil (.cons (xs := []) .nil .nil)))), ?_⟩
  show [] ++ (a ++ (b ++ (c ++ ([] ++ [])))) = _
  simp
/-- What Normalize leans on at p, and what it leaves: the one text that is kept. -/
structure NmOk (ns : List Nd) (s : List UInt8) (n1 : List Nd) (k : Nat) : Prop where
  ok : JOk ⟨ns, 0, []⟩ (kidsAt ns 2)
  eq : joinL ns (kidsAt ns 2) = n1
  f1 : Fit n1
  h2 : (ndAt n1 2) = tP [3, k, 5]
  h3 : (ndAt n1 3) = tX 6 2 [99]
  hk : (ndAt n1 k) = tX 5 2 s
  h5 : (ndAt n1 5) = tB 2
  hs : isH n1.length 2 = true ∧ isH n1.length 3 = true ∧ isH n1.length k = true ∧ isH n1.length 5 = true
theorem JOk_cons {s s' : JS} {k : Nat} {ks : List Nat} (h : jStep s k = s') (hf : Fit s.ns) (hl : s.data.length + (descAt s.ns k).data.length ≤ 1000000000) (hc : isH s.ns.length k = true → CutOk s.ns k) (hr : JOk s' ks) : JOk s (k :: ks) :=
  ⟨hf, hl, hc, by rw [h]; exact hr⟩
theorem foldl_js {s s' : JS} {k : Nat} {ks : List Nat} (h : jStep s k = s') : (k :: ks).foldl jStep s = ks.foldl jStep s' := by rw [List.foldl_cons, h]
/-- joinL, step by step. -/
inductive JRun : JS → List Nat → JS → Prop
  | nil {s : JS} : Fit s.ns → JRun s [] s
  | cons {s s' t : JS} {k : Nat} {ks : List Nat} : jStep s k = s' → Fit s.ns → s.data.length + (descAt s.ns k).data.length ≤ 1000000000 → CutOk s.ns k → JRun s' ks t → JRun s (k :: ks) t
theorem JRun.ok {s t : JS} {ks : List Nat} (h : JRun s ks t) : JOk s ks ∧ ks.foldl jStep s = t := by
  induction h with
  | nil hf => exact ⟨hf, rfl⟩
  | cons h1 h2 h3 h4 _ ih => exact ⟨JOk_cons h1 h2 h3 (fun _ => h4) ih.1, (foldl_js h1).trans ih.2⟩
theorem nmB1 (x : UInt8) (a b : List UInt8) (hl : (x :: a).length + b.length ≤ 200) : NmOk (spB (x :: a) b) (x :: a ++ b) (tR2 (x :: a ++ b) b) 4 := by
  have hr : JRun ⟨spB (x :: a) b, 0, []⟩ [3, 4, 6, 5] ⟨tR2 (x :: a ++ b) b, 0, []⟩ :=
    .cons (s' := ⟨spB (x :: a) b, 0, []⟩) rfl (fitOf rfl) (show 0 + 1 ≤ 1000000000 by decide) (cutOk_of rfl)
    (.cons (s' := ⟨spB (x :: a) b, 4, x :: a⟩) rfl (fitOf rfl) (show 0 + (x :: a).length ≤ 1000000000 by omega) (cutOk_of rfl)
    (.cons (s' := ⟨tR2 (x :: a) b, 4, x :: a ++ b⟩) rfl (fitOf rfl) (show (x :: a).length + b.length ≤ 1000000000 by omega) (cutOk_of rfl)
    (.cons (s' := ⟨tR2 (x :: a ++ b) b, 0, []⟩) rfl (fitOf rfl) (show (x :: a ++ b).length + 0 ≤ 1000000000 by rw [List.length_append]; omega) (cutOk_of rfl) (.nil (fitOf rfl)))))
  obtain ⟨h1, h2⟩ := hr.ok
  exact ⟨h1, by rw [joinL, show kidsAt (spB (x :: a) b) 2 = [3, 4, 6, 5] from rfl, h2]; rfl, fitOf rfl, rfl, rfl, rfl, rfl, rfl, rfl, rfl, rfl⟩
def tR6 (b : List UInt8) : List Nd := [tD, tP [3, 6, 5], tX 6 2 [99], tX 5 0 [], tB 2, tX 5 2 b]
theorem nmB2 (x : UInt8) (b : List UInt8) (hl : (x :: b).length ≤ 200) : NmOk (spB [] (x :: b)) (x :: b) (tR6 (x :: b)) 6 := by
  have hr : JRun ⟨spB [] (x :: b), 0, []⟩ [3, 4, 6, 5] ⟨tR6 (x :: b), 0, []⟩ :=
    .cons (s' := ⟨spB [] (x :: b), 0, []⟩) rfl (fitOf rfl) (show 0 + 1 ≤ 1000000000 by decide) (cutOk_of rfl)
    (.cons (s' := ⟨tR6 (x :: b), 0, []⟩) rfl (fitOf rfl) (show 0 + 0 ≤ 1000000000 by decide) (cutOk_of rfl)
    (.cons (s' := ⟨tR6 (x :: b), 6, x :: b⟩) rfl (fitOf rfl) (show 0 + (x :: b).length ≤ 1000000000 by omega) (cutOk_of rfl)
    (.cons (s' := ⟨tR6 (x :: b), 0, []⟩) rfl (fitOf rfl) (show (x :: b).length + 0 ≤ 1000000000 by omega) (cutOk_of rfl) (.nil (fitOf rfl)))))
  obtain ⟨h1, h2⟩ := hr.ok
  exact ⟨h1, by rw [joinL, show kidsAt (spB [] (x :: b)) 2 = [3, 4, 6, 5] from rfl, h2]; rfl, fitOf rfl, rfl, rfl, rfl, rfl, rfl, rfl, rfl, rfl⟩
def tS1 (a b c : List UInt8) : List Nd := [tD, tP [3, 4, 5], tX 6 2 [99], tX 5 2 a, tB 2, tX 5 0 b, tX 5 0 c]
def tS0 (a b c : List UInt8) : List Nd := [tD, tP [3, 4, 7, 5], tX 6 2 [99], tX 5 2 a, tB 2, tX 5 0 b, tX 5 2 c]
theorem nmC1 (x : UInt8) (a b c : List UInt8) (hl : (x :: a).length + (b.length + c.length) ≤ 200) : NmOk (spC (x :: a) b c) (x :: a ++ b ++ c) (tS1 (x :: a ++ b ++ c) b c) 4 := by
  have hr : JRun ⟨spC (x :: a) b c, 0, []⟩ [3, 4, 6, 7, 5] ⟨tS1 (x :: a ++ b ++ c) b c, 0, []⟩ :=
    .cons (s' := ⟨spC (x :: a) b c, 0, []⟩) rfl (fitOf rfl) (show 0 + 1 ≤ 1000000000 by decide) (cutOk_of rfl)
    (.cons (s' := ⟨spC (x :: a) b c, 4, x :: a⟩) rfl (fitOf rfl) (show 0 + (x :: a).length ≤ 1000000000 by omega) (cutOk_of rfl)
    (.cons (s' := ⟨tS0 (x :: a) b c, 4, x :: a ++ b⟩) rfl (fitOf rfl) (show (x :: a).length + b.length ≤ 1000000000 by omega) (cutOk_of rfl)
    (.cons (s' := ⟨tS1 (x :: a) b c, 4, x :: a ++ b ++ c⟩) rfl (fitOf rfl) (show (x :: a ++ b).length + c.length ≤ 1000000000 by rw [List.length_append]; omega) (cutOk_of rfl)
    (.cons (s' := ⟨tS1 (x :: a ++ b ++ c) b c, 0, []⟩) rfl (fitOf rfl) (show (x :: a ++ b ++ c).length + 0 ≤ 1000000000 by rw [List.length_append, List.length_append]; omega) (cutOk_of rfl) (.nil (fitOf rfl))))))
  obtain ⟨h1, h2⟩ := hr.ok
  exact ⟨h1, by rw [joinL, show kidsAt (spC (x :: a) b c) 2 = [3, 4, 6, 7, 5] from rfl, h2]; rfl, fitOf rfl, rfl, rfl, rfl, rfl, rfl, rfl, rfl, rfl⟩
def tS2 (b c : List UInt8) : List Nd := [tD, tP [3, 6, 7, 5], tX 6 2 [99], tX 5 0 [], tB 2, tX 5 2 b, tX 5 2 c]
def tS3 (b c : List UInt8) : List Nd := [tD, tP [3, 6, 5], tX 6 2 [99], tX 5 0 [], tB 2, tX 5 2 b, tX 5 0 c]
theorem nmC2 (x : UInt8) (b c : List UInt8) (hl : (x :: b).length + c.length ≤ 200) : NmOk (spC [] (x :: b) c) (x :: b ++ c) (tS3 (x :: b ++ c) c) 6 := by
  have hr : JRun ⟨spC [] (x :: b) c, 0, []⟩ [3, 4, 6, 7, 5] ⟨tS3 (x :: b ++ c) c, 0, []⟩ :=
    .cons (s' := ⟨spC [] (x :: b) c, 0, []⟩) rfl (fitOf rfl) (show 0 + 1 ≤ 1000000000 by decide) (cutOk_of rfl)
    (.cons (s' := ⟨tS2 (x :: b) c, 0, []⟩) rfl (fitOf rfl) (show 0 + 0 ≤ 1000000000 by decide) (cutOk_of rfl)
    (.cons (s' := ⟨tS2 (x :: b) c, 6, x :: b⟩) rfl (fitOf rfl) (show 0 + (x :: b).length ≤ 1000000000 by omega) (cutOk_of rfl)
    (.cons (s' := ⟨tS3 (x :: b) c, 6, x :: b ++ c⟩) rfl (fitOf rfl) (show (x :: b).length + c.length ≤ 1000000000 by omega) (cutOk_of rfl)
    (.cons (s' := ⟨tS3 (x :: b ++ c) c, 0, []⟩) rfl (fitOf rfl) (show (x :: b ++ c).length + 0 ≤ 1000000000 by rw [List.length_append]; omega) (cutOk_of rfl) (.nil (fitOf rfl))))))
  obtain ⟨h1, h2⟩ := hr.ok
  exact ⟨h1, by rw [joinL, show kidsAt (spC [] (x :: b) c) 2 = [3, 4, 6, 7, 5] from rfl, h2]; rfl, fitOf rfl, rfl, rfl, rfl, rfl, rfl, rfl, rfl, rfl⟩
def tS4 (c : List UInt8) : List Nd := [tD, tP [3, 7, 5], tX 6 2 [99], tX 5 0 [], tB 2, tX 5 0 [], tX 5 2 c]
theorem nmC3 (x : UInt8) (c : List UInt8) (hl : (x :: c).length ≤ 200) : NmOk (spC [] [] (x :: c)) (x :: c) (tS4 (x :: c)) 7 := by
  have hr : JRun ⟨spC [] [] (x :: c), 0, []⟩ [3, 4, 6, 7, 5] ⟨tS4 (x :: c), 0, []⟩ :=
    .cons (s' := ⟨spC [] [] (x :: c), 0, []⟩) rfl (fitOf rfl) (show 0 + 1 ≤ 1000000000 by decide) (cutOk_of rfl)
    (.cons (s' := ⟨tS2 [] (x :: c), 0, []⟩) rfl (fitOf rfl) (show 0 + 0 ≤ 1000000000 by decide) (cutOk_of rfl)
    (.cons (s' := ⟨tS4 (x :: c), 0, []⟩) rfl (fitOf rfl) (show 0 + 0 ≤ 1000000000 by decide) (cutOk_of rfl)
    (.cons (s' := ⟨tS4 (x :: c), 7, x :: c⟩) rfl (fitOf rfl) (show 0 + (x :: c).length ≤ 1000000000 by omega) (cutOk_of rfl)
    (.cons (s' := ⟨tS4 (x :: c), 0, []⟩) rfl (fitOf rfl) (show (x :: c).length + 0 ≤ 1000000000 by omega) (cutOk_of rfl) (.nil (fitOf rfl))))))
  obtain ⟨h1, h2⟩ := hr.ok
  exact ⟨h1, by rw [joinL, show kidsAt (spC [] [] (x :: c)) 2 = [3, 4, 6, 7, 5] from rfl, h2]; rfl, fitOf rfl, rfl, rfl, rfl, rfl, rfl, rfl, rfl, rfl⟩
theorem spB_nm (a b : List UInt8) (hne : a ++ b ≠ []) (hl : (a ++ b).length ≤ 200) : ∃ n1 k, NmOk (spB a b) (a ++ b) n1 k := by
  rw [List.length_append] at hl
  cases a with
  | cons x a => exact ⟨_, _, nmB1 x a b hl⟩
  | nil =>
    cases b with
    | nil => exact absurd rfl hne
    | cons x b => exact ⟨_, _, nmB2 x b (by simpa using hl)⟩
theorem spC_nm (a b c : List UInt8) (hne : a ++ (b ++ c) ≠ []) (hl : (a ++ (b ++ c)).length ≤ 200) : ∃ n1 k, NmOk (spC a b c) (a ++ (b ++ c)) n1 k := by
  rw [List.length_append, List.length_append] at hl
  cases a with
  | cons x a => rw [← List.append_assoc]; exact ⟨_, _, nmC1 x a b c hl⟩
  | nil =>
    cases b with
    | cons x b => exact ⟨_, _, nmC2 x b c (by simpa using hl)⟩
    | nil =>
      cases c with
      | nil => exact absurd rfl hne
      | cons x c => exact ⟨_, _, nmC3 x c (by simpa using hl)⟩
theorem joinL_nil (ns : List Nd) : joinL ns [] = ns := rfl
theorem NmOk.rest {ns n1 : List Nd} {s : List UInt8} {k : Nat} (h : NmOk ns s n1 k) : Sub (kidsAt n1) (kidsAt n1 2) [3, k, 5] ∧ JsOk n1 [3, k, 5] ∧ joins n1 [3, k, 5] = n1 := by
  have k2 : kidsAt n1 2 = [3, k, 5] := by rw [kidsAt, if_pos h.hs.1, h.h2]; rfl
  have k3 : kidsAt n1 ((3 : Nat) : Int) = [] := by rw [kidsAt, if_pos (show isH n1.length ((3 : Nat) : Int) = true from h.hs.2.1)]; exact congrArg Nd.kids h.h3
  have kk : kidsAt n1 ((k : Nat) : Int) = [] := by rw [kidsAt, if_pos h.hs.2.2.1, h.hk]; rfl
  have k5 : kidsAt n1 ((5 : Nat) : Int) = [] := by rw [kidsAt, if_pos (show isH n1.length ((5 : Nat) : Int) = true from h.hs.2.2.2)]; exact congrArg Nd.kids h.h5
  have j0 : JOk ⟨n1, 0, []⟩ [] := h.f1
  refine ⟨?_, ⟨by rw [k3]; exact j0, ?_⟩, ?_⟩
  · rw [k2]
    exact .cons (xs := []) (by rw [k3]; exact .nil) (.cons (xs := []) (by rw [kk]; exact .nil) (.cons (xs := []) (by rw [k5]; exact .nil) .nil))
  · rw [k3, joinL_nil]
    refine ⟨by rw [kk]; exact j0, ?_⟩
    rw [kk, joinL_nil]
    exact ⟨by rw [k5]; exact j0, trivial⟩
  · simp only [joins, List.foldl_cons, List.foldl_nil, k3, kk, k5, joinL_nil]
/-- The dump of the parent. -/
def tT (s : List UInt8) : List UInt8 :=
  indL 0 ++ (lineL (tP []) ++ 10 :: (indL 1 ++ (lineL (tX 6 2 [99]) ++ 10 :: []) ++ (indL 1 ++ (lineL (tX 5 2 s) ++ 10 :: []) ++ (indL 1 ++ (lineL (tB 2) ++ 10 :: []) ++ [])))) ++ []
theorem tT_len (s : List UInt8) (hl : s.length ≤ 200) : (tT s).length ≤ 1000000000 := by
  have h : (quoteL s).length ≤ 1000 := by
    rw [quoteL, List.length_cons, List.length_append, escL_len]
    have := List.countP_le_length (p := big) (l := s)
    simp; omega
  have e1 : (lineL (tX 5 2 s)).length = 5 + (quoteL s).length := by
    show ([116, 101, 120, 116, 32] ++ quoteL s).length = _
    rw [List.length_append]; rfl
  have e2 : (lineL (tP [])).length = 13 := by decide +kernel
  have e3 : (lineL (tX 6 2 [99])).length = 11 := by decide +kernel
  have e4 : (lineL (tB 2)).length = 13 := by decide +kernel
  have e5 : (indL 0).length = 0 := rfl
  have e6 : (indL 1).length = 2 := rfl
  simp only [tT, List.length_append, List.length_cons, List.length_nil, e1, e2, e3, e4, e5, e6]
  omega
theorem dump_tT {ns : List Nd} {s : List UInt8} {k : Nat} (hl : s.length ≤ 200) (h2 : ndAt ns 2 = tP [3, k, 5]) (h3 : ndAt ns 3 = tX 6 2 [99]) (hk : ndAt ns k = tX 5 2 s) (h5 : ndAt ns 5 = tB 2)
    (hs : isH ns.length 2 = true ∧ isH ns.length 3 = true ∧ isH ns.length k = true ∧ isH ns.length 5 = true) : DumpT ns 0 [2] (tT s) := by
  have leaf : ∀ (j : Nat) (d : Nd) (t : List UInt8) (js : List Nat), isH ns.length j = true → ndAt ns j = d → d.contents = 0 → d.kids = [] → LineOk d → DumpT ns 1 js t → DumpT ns 1 (j :: js) (indL 1 ++ (lineL d ++ 10 :: []) ++ t) := by
    intro j d t js h1 h2 h3 h4 h5 h6
    subst h2
    refine .cons (by decide) h1 h5 ?_ h6
    rw [downs, if_pos h3, h4]
    exact .nil _
  have l3 : LineOk (tX 6 2 [99]) := ⟨by decide, rfl, by decide, by decide, by decide⟩
  have l5 : LineOk (tB 2) := ⟨by decide, rfl, by decide, by decide, by decide⟩
  have lk : LineOk (tX 5 2 s) := ⟨.inr (.inr (.inr (.inl rfl))), rfl, (show (0 : Int) ≤ 0 ∧ (0 : Int) < 100 by decide), (show 0 ≤ 1000000000 by decide), show s.length ≤ _ by omega⟩
  have lp : LineOk (tP [3, k, 5]) := ⟨.inr (.inr (.inl rfl)), rfl, (show (0 : Int) ≤ 1 ∧ (1 : Int) < 100 by decide), (show 1 ≤ 1000000000 by decide), (show 0 ≤ 1000000000 by decide)⟩
  have hT : DumpT ns (0 + 1) [3, k, 5] _ := leaf 3 _ _ _ hs.2.1 h3 rfl rfl l3 (leaf k _ _ _ hs.2.2.1 hk rfl rfl lk (leaf 5 _ _ _ hs.2.2.2 h5 rfl rfl l5 (.nil 1)))
  have h2' : ndAt ns ((2 : Nat) : Int) = tP [3, k, 5] := h2
  have := DumpT.cons (ns := ns) (dp := 0) (k := 2) (ks := []) (by decide) hs.1 (by rw [h2']; exact lp) (by rw [h2']; exact hT) (.nil 0)
  rw [h2'] at this
  exact this
theorem spA_dump (s : List UInt8) (hl : s.length ≤ 200) : DumpT (spA s) 0 [2] (tT s) := dump_tT (k := 4) hl rfl rfl rfl rfl ⟨rfl, rfl, rfl, rfl⟩
theorem NmOk.dump {ns n1 : List Nd} {s : List UInt8} {k : Nat} (h : NmOk ns s n1 k) (hl : s.length ≤ 200) : DumpT n1 0 [2] (tT s) := dump_tT hl h.h2 h.h3 h.hk h.h5 h.hs
end Go.Proofs.YtdapdadcninidaaGreatDoor
