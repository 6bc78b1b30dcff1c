/- ref.Named, HasPrefix, Longest. -/
import Derived.Test.YtpfnakonpledgaaDoorRo
namespace Go.Proofs.YtpfnakonpledgaaDoor
open Go.RowKit
attribute [local go_sem] sgetr
attribute [local go_sem] sext

/-- Where a walk through the table stands: at offset a, ahead of entry i. -/
structure TabAt (es : List Ent) (ns : List UInt8) (a i : Nat) : Prop where
  le : a ≤ ns.length + 1
  en : es.drop i = ents (ns.drop a)
  ck : ∃ m, chkF m (ns.drop a) = true
theorem TabAt.done {es : List Ent} {ns : List UInt8} {a i : Nat} (h : TabAt es ns a i) (ha : ns.length ≤ a) : es.length ≤ i := by
  have h1 := congrArg List.length h.en
  rw [List.drop_of_length_le ha, ents_nil, List.length_drop, List.length_nil] at h1
  omega
theorem TabAt.step {es : List Ent} {ns : List UInt8} {a i : Nat} (h : TabAt es ns a i) (ha : a < ns.length) : ∃ e x1 x2, (upTo 32 (ns.drop a)).1 = e ∧ upTo 61 e = (x1, x2) ∧ chkE e = true ∧ es[i]? = some (x1, x2) ∧ TabAt es ns (a + e.length + 1) (i + 1) ∧ a + e.length ≤ ns.length ∧ x1.length ≤ e.length := by
  obtain ⟨h1, h2, m, h3⟩ := h
  have hne : ns.drop a ≠ [] := by intro h; have := congrArg List.length h; simp at this; omega
  have hcons := ents_cons (ns.drop a) hne
  have hdrop := upTo_drop 32 (ns.drop a)
  rw [List.drop_drop] at hdrop
  obtain ⟨e, he⟩ : ∃ e, (upTo 32 (ns.drop a)).1 = e := ⟨_, rfl⟩
  have hel := upTo_len1 32 (ns.drop a)
  rw [he, List.length_drop] at hel
  rw [he] at hcons hdrop
  obtain ⟨⟨x1, x2⟩, hx⟩ : ∃ x, upTo 61 e = x := ⟨_, rfl⟩
  have hxl := upTo_len1 61 e
  rw [hx] at hxl hcons
  rw [hcons] at h2
  have hck : chkE e = true ∧ ∃ m', chkF m' (upTo 32 (ns.drop a)).2 = true := by
    cases m with
    | zero => rw [chkF] at h3; simp at h3; omega
    | succ m =>
      rw [chkF, if_neg (by simpa using hne), he, Bool.and_eq_true] at h3
      exact ⟨h3.1, m, h3.2⟩
  refine ⟨e, x1, x2, he, hx, hck.1, ?_, ⟨by omega, ?_, ?_⟩, by omega, hxl⟩
  · have h4 : (es.drop i)[0]? = some (x1, x2) := by rw [h2]; rfl
    simpa using h4
  · rw [← List.drop_drop, h2, hdrop, Nat.add_assoc]; rfl
  · rw [hdrop] at hck; rw [Nat.add_assoc]; exact hck.2
theorem tab_of (ns : List UInt8) (m : Nat) (h : chkF m ns = true) : TabAt (ents ns) ns 0 0 := ⟨Nat.zero_le _, by rw [List.drop_zero, List.drop_zero], m, by rw [List.drop_zero]; exact h⟩
theorem tab_start : TabAt entL namesL 0 0 := by
  unfold entL
  exact tab_of namesL 2231 chk_table
set_option maxRecDepth 100000 in
set_option maxHeartbeats 1000000 in
theorem rNamed_any (l : List UInt8) (w : World) : Calls Tryd.prog 65 #[.string ⟨l.toArray⟩] w (Ret w (.tuple #[.string ⟨(namedL l).1.toArray⟩, .int .i64 (namedL l).2])) := by
  have hst := tab_start
  have hlen := namesL_len
  have hent := fun a e x1 x2 w => rEntry_any a e x1 x2 w
  show Calls _ _ _ _ (Ret w (.tuple #[.string ⟨(namedE entL l).1.toArray⟩, .int .i64 (namedE entL l).2]))
  obtain ⟨es, hes⟩ : ∃ es, entL = es := ⟨_, rfl⟩
  rw [hes] at hst ⊢
  clear hes
  obtain ⟨ns, hns⟩ : ∃ ns, namesL = ns := ⟨_, rfl⟩
  rw [hns] at hst hlen hent
  clear hns
  have HST := Lib.hid hst; have HL := Lib.hid hlen; have HE := Lib.hid hent
  have hl3 : ns.length ≤ 30000 := by omega
  clear hst hlen hent
  go_enter Tryd.func65, Tryd.ntmps65
  go_wp2_with fail
  go_loopw [4] (fun s4 wr => ∃ a i : Nat, s4 = .int .i64 a ∧ TabAt es ns a i ∧ Below w.heap.size w wr ∧ ∀ j y, j < i → es[j]? = some y → (y.1 == l) = false) (fun s4 _ => ns.length + 1 - (intOf s4).toNat)
  case atStart => exact ⟨0, 0, rfl, HST.out, Below.refl _ _, fun _ _ h => absurd h (Nat.not_lt_zero _)⟩
  case round =>
    obtain ⟨a, i, rfl, ht, hb, hno⟩ := hrel
    have HT := Lib.hid ht; have HB := Lib.hid hb; have HNO := Lib.hid hno
    have hle := ht.le
    clear ht hb hno
    by_cases hlt : a < ns.length
    · obtain ⟨e, x1, x2, he, hx, hc, hxi, hnext, hel, -⟩ := HT.out.step hlt
      have H1 := Lib.hid (HE.out a e x1 x2 wr hlt he hx hc)
      have HXI := Lib.hid hxi; have HN := Lib.hid hnext
      have hd : decide ((a : Int) < 29726) = true := by rw [decide_eq_true_eq]; have := HL.out; omega
      clear he hx hc hxi hnext
      generalize e.length = m at *
      cases hq : x1 == l
      · have HQ := Lib.hid hq
        go_wp2_with fail
        refine H1.out.mono ?_
        rintro e w1 ⟨rfl, b1⟩
        go_wp2_with fail
        go_roundw
        case rel =>
          refine ⟨a + m + 1, i + 1, by go_num, HN.out, bthen HB.out HB.out.size b1, fun j y hj hy => ?_⟩
          by_cases e : j = i
          · subst e
            have := HXI.out.symm.trans hy
            cases this; exact HQ.out
          · exact HNO.out j y (by omega) hy
        case measure => simp [intOf]; omega
      · have HV := Lib.hid (namedE_hit HXI.out hq HNO.out)
        go_wp2_with fail
        refine H1.out.mono ?_
        rintro e w1 ⟨rfl, b1⟩
        go_wp2_with fail
        go_ret2
        exact Ret.mk (by rw [HV.out]; rfl) (bthen HB.out HB.out.size b1)
    · have hd : decide ((a : Int) < 29726) = false := by rw [decide_eq_false_iff_not]; have := HL.out; omega
      have hi := HT.out.done (by omega)
      have HV := Lib.hid (namedE_miss (es := es) (nm := l) fun j y hj hy => HNO.out j y (by omega) hy)
      clear hi
      go_wp2_with fail
      go_ret2
      exact Ret.mk (by rw [HV.out]; rfl) HB.out
/-- Where an entry's name and codes lie in the table. -/
theorem ent_slices {ns e x1 x2 : List UInt8} {a : Nat} (he : (upTo 32 (ns.drop a)).1 = e) (hx : upTo 61 e = (x1, x2)) (hc : chkE e = true) :
    (ns.take (a + e.length)).drop a = e ∧ (ns.drop a).take (a + x1.length - a) = x1 ∧ (ns.drop (a + x1.length + 1)).take (a + e.length - (a + x1.length + 1)) = x2 ∧ x1.length < e.length := by
  have het := upTo_take 32 (ns.drop a)
  rw [he] at het
  simp only [chkE, hx, Bool.and_eq_true] at hc
  have hx1 := upTo_take 61 e
  have hx2 := upTo_drop 61 e
  have hx3 := upTo_has 61 e hc.1
  rw [hx] at hx1 hx2 hx3
  dsimp only at hx1 hx2 hx3
  refine ⟨by rw [List.drop_take, Nat.add_sub_cancel_left]; exact het.symm, ?_, ?_, hx3⟩
  · rw [Nat.add_sub_cancel_left]
    have h1 : (ns.drop a).take x1.length = ((ns.drop a).take e.length).take x1.length := by rw [List.take_take, Nat.min_eq_left (by omega)]
    exact (h1.trans (congrArg (List.take x1.length) het.symm)).trans hx1.symm
  · rw [hx2]
    conv => rhs; rw [het]
    rw [List.drop_take, List.drop_drop, show a + e.length - (a + x1.length + 1) = e.length - (x1.length + 1) by omega, Nat.add_assoc]
set_option maxRecDepth 100000 in
set_option maxHeartbeats 1000000 in
theorem rHasPrefix_any (l : List UInt8) (w : World) (hs : l.length ≤ 1000000000) : Calls Tryd.prog 69 #[.string ⟨l.toArray⟩] w (Ret w (.bool (hasL l))) := by
  have hst := tab_start
  have hlen := namesL_len
  have hword := fun a w h => rword_any a w h
  have hsign := fun a b w h1 h2 => rsign_any a b w h1 h2
  show Calls _ _ _ _ (Ret w (.bool (hasE entL l)))
  obtain ⟨es, hes⟩ : ∃ es, entL = es := ⟨_, rfl⟩
  rw [hes] at hst ⊢
  clear hes
  refine calls_of_wp Tryd.func69 rfl ?_
  conv in (occs := *) (ByteArray.mk (List.toArray (List.append _ _))) => all_goals change (⟨namesL.toArray⟩ : ByteArray)
  generalize namesL = ns at *
  have HST := Lib.hid hst; have HL := Lib.hid hlen; have HW := Lib.hid hword; have HSG := Lib.hid hsign
  have hl3 : ns.length ≤ 30000 := by omega
  clear hst hlen hword hsign
  simp only [Tryd.ntmps69, List.size_toArray, List.length_cons, List.length_nil, Nat.reduceAdd, Nat.reduceSub, Array.replicate_succ, Array.replicate_zero, List.push_toArray, List.append_toArray, List.nil_append, List.cons_append]
  go_wp2_with fail
  go_loop [3] (fun s3 => ∃ a i : Nat, s3 = .int .i64 a ∧ TabAt es ns a i ∧ ∀ j y, j < i → es[j]? = some y → l.isPrefixOf y.1 = false) (fun s3 => ns.length + 1 - (intOf s3).toNat)
  case atStart => exact ⟨0, 0, rfl, HST.out, fun _ _ h => absurd h (Nat.not_lt_zero _)⟩
  case round =>
    obtain ⟨a, i, rfl, ht, hno⟩ := hrel
    have HT := Lib.hid ht; have HNO := Lib.hid hno
    have hle := ht.le
    clear ht hno
    by_cases hlt : a < ns.length
    · obtain ⟨e, x1, x2, he, hx, hc, hxi, hnext, hel, hxl⟩ := HT.out.step hlt
      obtain ⟨f1, f2, -, f4⟩ := ent_slices he hx hc
      have h1 := HW.out a w (by omega)
      rw [he] at h1
      have h2 := HSG.out a (a + e.length) w (by omega) hel
      rw [f1, hx] at h2
      have h3 := rBegins_any x1 l w (by omega) hs
      have HXI := Lib.hid hxi; have HN := Lib.hid hnext
      have hd : decide ((a : Int) < 29726) = true := by rw [decide_eq_true_eq]; have := HL.out; omega
      clear he hx hc hxi hnext f1
      dsimp only at h2
      generalize x1.length = m1 at *
      generalize e.length = m at *
      obtain ⟨k, hk⟩ : ∃ k, a + m1 = k := ⟨_, rfl⟩
      obtain ⟨t, htt⟩ : ∃ t, a + m = t := ⟨_, rfl⟩
      rw [hk] at f2 h2
      rw [htt] at h1 h2 HN hel
      have hak : a ≤ k := by omega
      have hkt : k < t := by omega
      have hkl : k ≤ ns.length := by omega
      have H1 := Lib.hid h1; have H2 := Lib.hid h2
      clear h1 h2 hk htt
      cases hq : l.isPrefixOf x1
      · rw [hq] at h3
        have HQ := Lib.hid hq; have H3 := Lib.hid h3
        clear hq h3
        go_wp2_with (first | (go_at_call 95; refine H1.out.mono ?_; rintro e w' ⟨rfl, rfl⟩) | (go_at_call 96; refine H2.out.mono ?_; rintro e w' ⟨rfl, rfl⟩) | (go_at_call 86; refine H3.out.mono ?_; rintro e w' ⟨rfl, rfl⟩))
        go_round
        case rel =>
          refine ⟨t + 1, i + 1, by go_num, HN.out, fun j y hj hy => ?_⟩
          by_cases e : j = i
          · subst e
            have := HXI.out.symm.trans hy
            cases this; exact HQ.out
          · exact HNO.out j y (by omega) hy
        case measure => simp [intOf]; omega
      · rw [hq] at h3
        have HV := Lib.hid (hasE_hit HXI.out hq); have H3 := Lib.hid h3
        clear hq h3
        go_wp2_with (first | (go_at_call 95; refine H1.out.mono ?_; rintro e w' ⟨rfl, rfl⟩) | (go_at_call 96; refine H2.out.mono ?_; rintro e w' ⟨rfl, rfl⟩) | (go_at_call 86; refine H3.out.mono ?_; rintro e w' ⟨rfl, rfl⟩))
        go_ret
        exact Ret.mk (by rw [HV.out]; rfl) (Below.refl _ _)
    · have hd : decide ((a : Int) < 29726) = false := by rw [decide_eq_false_iff_not]; have := HL.out; omega
      have hi := HT.out.done (by omega)
      have HV := Lib.hid (hasE_miss (es := es) (s := l) fun j y hj hy => HNO.out j y (by omega) hy)
      clear hi
      go_wp2_with fail
      go_ret
      exact Ret.mk (by rw [HV.out]; rfl) (Below.refl _ _)
set_option maxRecDepth 100000 in
set_option maxHeartbeats 1000000 in
theorem rLongest_any (l : List UInt8) (w : World) (hs : l.length ≤ 1000000000) : Calls Tryd.prog 67 #[.string ⟨l.toArray⟩] w (Ret w (.tuple #[.int .i64 ((longL l).1 : Nat), .string ⟨(longL l).2.toArray⟩])) := by
  have hst := tab_start
  have hlen := namesL_len
  have hsm := ent_small
  have hword := fun a w h => rword_any a w h
  have hsign := fun a b w h1 h2 => rsign_any a b w h1 h2
  show Calls _ _ _ _ (Ret w (.tuple #[.int .i64 ((longE entL l).1 : Nat), .string ⟨(longE entL l).2.toArray⟩]))
  obtain ⟨es, hes⟩ : ∃ es, entL = es := ⟨_, rfl⟩
  rw [hes] at hst hsm ⊢
  clear hes
  refine calls_of_wp Tryd.func67 rfl ?_
  conv in (occs := *) (ByteArray.mk (List.toArray (List.append _ _))) => all_goals change (⟨namesL.toArray⟩ : ByteArray)
  generalize namesL = ns at *
  have HST := Lib.hid hst; have HL := Lib.hid hlen; have HW := Lib.hid hword; have HSG := Lib.hid hsign; have HSM := Lib.hid hsm
  have hl3 : ns.length ≤ 30000 := by omega
  clear hst hlen hword hsign hsm
  simp only [Tryd.ntmps67, List.size_toArray, List.length_cons, List.length_nil, Nat.reduceAdd, Nat.reduceSub, Array.replicate_succ, Array.replicate_zero, List.push_toArray, List.append_toArray, List.nil_append, List.cons_append]
  go_wp2_with fail
  go_loopw [4, 5, 6] (fun s4 s5 s6 wr => ∃ a i : Nat, s6 = .int .i64 a ∧ TabAt es ns a i ∧ Below w.heap.size w wr ∧ s4 = .int .i64 ((longV (longF (es.take i) l)).1 : Nat) ∧ s5 = .string ⟨(longV (longF (es.take i) l)).2.toArray⟩) (fun _ _ s6 _ => ns.length + 1 - (intOf s6).toNat)
  case atStart => exact ⟨0, 0, rfl, HST.out, Below.refl _ _, rfl, rfl⟩
  case round =>
    obtain ⟨a, i, rfl, ht, hb, rfl, rfl⟩ := hrel
    have HT := Lib.hid ht; have HB := Lib.hid hb
    have hle := ht.le
    clear ht hb
    have hbd := longF_bd (fun x hx => HSM.out x (List.mem_of_mem_take hx) : ∀ x ∈ es.take i, _) l
    by_cases hlt : a < ns.length
    · obtain ⟨e, x1, x2, he, hx, hc, hxi, hnext, hel, hxl⟩ := HT.out.step hlt
      obtain ⟨f1, f2, f3, f4⟩ := ent_slices he hx hc
      have h1 := HW.out a wr (by omega)
      rw [he] at h1
      have h2 := HSG.out a (a + e.length) wr (by omega) hel
      rw [f1, hx] at h2
      have h3 := rBegins_any l x1 wr hs (by omega)
      have hnx := longF_next (s := l) hxi
      have hcq := hc
      simp only [chkE, hx, Bool.and_eq_true, decide_eq_true_eq, beq_iff_eq, List.all_eq_true] at hcq
      obtain ⟨-, c2, c3, c4⟩ := hcq
      have h4 := fun w => rvalue_any x2 w c2 c3
      rw [c4] at h4
      have HN := Lib.hid hnext
      have hd : decide ((a : Int) < 29726) = true := by rw [decide_eq_true_eq]; have := HL.out; omega
      clear he hx hc hxi hnext f1 c2 c3 c4
      dsimp only at h2
      obtain ⟨st, hst⟩ : ∃ st, longF (es.take i) l = st := ⟨_, rfl⟩
      rw [hst] at hnx hbd ⊢
      obtain ⟨n, sv⟩ := st
      clear hst
      obtain ⟨hb1, hb2, -⟩ := hbd
      dsimp only at hb1 hb2
      have hv1 : (longV (n, sv)).1 = n := by unfold longV; split <;> simp_all
      rw [hv1]
      have hx1 : x1.length ≤ e.length := by omega
      have HX1 : Hid (x1.length = x1.length) := Lib.hid rfl
      obtain ⟨m1, hm1⟩ : ∃ m1, x1.length = m1 := ⟨_, rfl⟩
      have HM1 := Lib.hid hm1
      rw [hm1] at f2 f3 f4 h2 hx1
      generalize e.length = m at *
      obtain ⟨k, hk⟩ : ∃ k, a + m1 = k := ⟨_, rfl⟩
      obtain ⟨t, htt⟩ : ∃ t, a + m = t := ⟨_, rfl⟩
      rw [hk] at f2 f3 h2
      rw [htt] at h1 h2 f3 HN hel
      have HK := Lib.hid hk
      have hak : a ≤ k := by omega
      have hkt : k < t := by omega
      have hkl : k ≤ ns.length := by omega
      have H1 := Lib.hid h1; have H2 := Lib.hid h2; have H4 := Lib.hid h4; have HNX := Lib.hid hnx; have HV1 := Lib.hid hv1
      clear h1 h2 h4 hk htt hnx hm1 hv1
      by_cases hg : n < k - a
      · have hgi : decide ((n : Int) < (k : Int) - (a : Int)) = true := by rw [decide_eq_true_eq]; omega
        cases hq : x1.isPrefixOf l
        · rw [hq] at h3
          have HS : Hid (longF (es.take (i + 1)) l = (n, sv)) := Lib.hid (by rw [HNX.out, longStep_no (.inr hq)])
          have H3 := Lib.hid h3
          clear hq h3
          go_wp2_with (first | (go_at_call 95; refine H1.out.mono ?_; rintro e w' ⟨rfl, rfl⟩) | (go_at_call 96; refine H2.out.mono ?_; rintro e w' ⟨rfl, rfl⟩) | (go_at_call 86; refine H3.out.mono ?_; rintro e w' ⟨rfl, rfl⟩))
          go_roundw
          case rel => exact ⟨t + 1, i + 1, by go_num, HN.out, HB.out, by rw [HS.out, HV1.out], by rw [HS.out]⟩
          case measure => simp [intOf]; omega
        · rw [hq] at h3
          have HS : Hid (longF (es.take (i + 1)) l = (k - a, x2)) := Lib.hid (by
            rw [HNX.out, longStep_yes (by dsimp only; have := HM1.out; have := HK.out; omega) hq]
            dsimp only
            rw [HM1.out, ← HK.out, Nat.add_sub_cancel_left])
          have HS2 : Hid (longV (k - a, x2) = (k - a, valL x2)) := Lib.hid (by rw [longV, if_neg (by omega)])
          have H3 := Lib.hid h3
          have hsub : ((k : Int) - (a : Int)) = ((k - a : Nat) : Int) := by omega
          have HSUB := Lib.hid hsub
          clear hq h3 hsub
          go_wp2_with (first | (go_at_call 95; refine H1.out.mono ?_; rintro e w' ⟨rfl, rfl⟩) | (go_at_call 96; refine H2.out.mono ?_; rintro e w' ⟨rfl, rfl⟩) | (go_at_call 86; refine H3.out.mono ?_; rintro e w' ⟨rfl, rfl⟩))
          refine (H4.out _).mono ?_
          rintro e w1 ⟨rfl, b1⟩
          go_wp2_with fail
          go_roundw
          case rel => exact ⟨t + 1, i + 1, by go_num, HN.out, bthen HB.out HB.out.size b1, by rw [HS.out, HS2.out, HSUB.out], by rw [HS.out, HS2.out]⟩
          case measure => simp [intOf]; omega
      · have hgi : decide ((n : Int) < (k : Int) - (a : Int)) = false := by rw [decide_eq_false_iff_not]; omega
        have HS : Hid (longF (es.take (i + 1)) l = (n, sv)) := Lib.hid (by rw [HNX.out, longStep_no (.inl (by dsimp only; have := HM1.out; have := HK.out; omega))])
        clear h3
        go_wp2_with (first | (go_at_call 95; refine H1.out.mono ?_; rintro e w' ⟨rfl, rfl⟩) | (go_at_call 96; refine H2.out.mono ?_; rintro e w' ⟨rfl, rfl⟩))
        go_roundw
        case rel => exact ⟨t + 1, i + 1, by go_num, HN.out, HB.out, by rw [HS.out, HV1.out], by rw [HS.out]⟩
        case measure => simp [intOf]; omega
    · have hd : decide ((a : Int) < 29726) = false := by rw [decide_eq_false_iff_not]; have := HL.out; omega
      have hi := HT.out.done (by omega)
      have HV : Hid (longF (es.take i) l = longF es l) := Lib.hid (by rw [List.take_of_length_le hi])
      clear hi
      rw [HV.out]
      go_wp2_with fail
      go_ret2
      exact Ret.mk rfl HB.out
end Go.Proofs.YtpfnakonpledgaaDoor
