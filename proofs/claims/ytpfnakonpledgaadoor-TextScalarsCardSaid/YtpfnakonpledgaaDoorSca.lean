/- thicketlaw01.TextScalars. -/
import Derived.Test.YtpfnakonpledgaaDoorPl7
import Derived.Test.YtpfnakonpledgaaDoorKn
namespace Go.Proofs.YtpfnakonpledgaaDoor
open Go.RowKit
attribute [local go_sem] sext
attribute [local go_sem] sapp
attribute [local go_sem] sgetr

/-- A slice that came in reads as these numbers. -/
def IsInts (w : World) (v : Value) (zs : List Int) : Prop := (v = .slice none 0 0 ∧ zs = []) ∨ ∃ a c, v = .slice (some a) zs.length c ∧ ∀ i (h : i < zs.length), w.cell? (a.add i) = some (.int .i64 zs[i])
theorem IsInts.shape {w : World} {v : Value} {zs : List Int} (h : IsInts w v zs) : ∃ a c, v = .slice a zs.length c ∧ ∀ i (h : i < zs.length), ∃ d, a = some d ∧ w.cell? (d.add i) = some (.int .i64 zs[i]) := by
  rcases h with ⟨rfl, rfl⟩ | ⟨a, c, rfl, h⟩
  · exact ⟨_, _, rfl, fun i h => absurd h (Nat.not_lt_zero _)⟩
  · exact ⟨_, _, rfl, fun i hi => ⟨a, rfl, h i hi⟩⟩
theorem textL_take {zs : List Int} {k : Nat} (h : k < zs.length) : textL (zs.take (k + 1)) = textL (zs.take k) ++ rBytes zs[k] := by
  unfold textL; rw [List.take_succ_eq_append_getElem h, List.flatMap_append, List.flatMap_cons, List.flatMap_nil, List.append_nil]
theorem all_take {zs : List Int} {k : Nat} (h : k < zs.length) : (zs.take (k + 1)).all rScal = ((zs.take k).all rScal && rScal zs[k]) := by
  rw [List.take_succ_eq_append_getElem h, List.all_append, List.all_cons, List.all_nil, Bool.and_true]
set_option maxRecDepth 100000 in
set_option maxHeartbeats 4000000 in
theorem TextScalars_any (zs : List Int) (v : Value) (w : World) (hg : Good w) (hv : IsInts w v zs) (hl : zs.length ≤ maxLen) : Calls Tryd.prog 15 #[v] w (Ret w (.bool true)) := by
  have HK := Lib.hid (fun w hg => known_any w hg)
  obtain ⟨a, c, rfl, hc⟩ := hv.shape
  have HC := Lib.hid hc
  clear hv hc
  by_cases h1 : zs.length ≤ 1000
  · clear hl
    go_enter Tryd.func15, Tryd.ntmps15
    go_wp2_with fail
    go_loopw [3, 4, 5] (fun s3 s4 s5 wr => ∃ k : Nat, k ≤ zs.length ∧ s5 = .int .i64 k ∧ s3 = .string ⟨(textL (zs.take k)).toArray⟩ ∧ s4 = .bool ((zs.take k).all rScal) ∧ Below w.heap.size w wr ∧ ∀ z ∈ zs.take k, 0 ≤ z ∧ z ≤ 2097151) (fun _ _ s5 _ => zs.length - (intOf s5).toNat)
    case atStart => exact ⟨0, Nat.zero_le _, rfl, rfl, rfl, Below.refl _ _, by simp⟩
    case round =>
      obtain ⟨k, hk, rfl, rfl, rfl, hb, hz⟩ := hrel
      have HB := Lib.hid hb; have HZ := Lib.hid hz
      clear hb hz
      have htl := textL_len (zs.take k)
      rw [List.length_take] at htl
      by_cases hlt : k < zs.length
      · obtain ⟨d, rfl, hcell⟩ := HC.out k hlt
        have hcell2 := (HB.out.cell (p := d.add k) (World.block_lt_of_cell? _ _ hcell)).trans hcell
        have HT := Lib.hid (textL_take hlt); have HA := Lib.hid (all_take hlt)
        have HIN : Hid (zs.take (k + 1) = zs.take k ++ [zs[k]]) := Lib.hid (List.take_succ_eq_append_getElem hlt)
        clear hcell
        obtain ⟨z, hzq⟩ : ∃ z, zs[k] = z := ⟨_, rfl⟩
        rw [hzq] at HT HA HIN hcell2
        clear hzq
        by_cases hneg : z < 0
        · go_wp2_with fail
          refine (HK.out _ (hg.kept HB.out)).mono ?_
          rintro e w1 ⟨rfl, b1⟩
          go_wp2_with fail
          go_ret
          exact Ret.mk rfl (bthen HB.out HB.out.size b1)
        · by_cases hbig : 2097151 < z
          · go_wp2_with fail
            refine (HK.out _ (hg.kept HB.out)).mono ?_
            rintro e w1 ⟨rfl, b1⟩
            go_wp2_with fail
            go_ret
            exact Ret.mk rfl (bthen HB.out HB.out.size b1)
          · have hw : wrap32 z = z := IntWalk.wrap32_in _ ⟨by omega, by omega⟩
            have hbl := rBytes_len z
            have H1 := Lib.hid (fun w => rScalar_any z w)
            have H2 := Lib.hid (fun w => rBytes_any z w (by omega) (by omega))
            obtain ⟨bs, hbs⟩ : ∃ bs, rBytes z = bs := ⟨_, rfl⟩
            rw [hbs] at hbl HT H2
            obtain ⟨sc, hsc⟩ : ∃ sc, rScal z = sc := ⟨_, rfl⟩
            rw [hsc] at HA H1
            clear hbs hsc
            obtain ⟨t, ht⟩ : ∃ t, textL (zs.take k) = t := ⟨_, rfl⟩
            rw [ht] at htl HT ⊢
            obtain ⟨al, hal⟩ : ∃ al, (zs.take k).all rScal = al := ⟨_, rfl⟩
            rw [hal] at HA ⊢
            clear ht hal
            have hov : ¬ 9223372036854775807 < t.length + bs.length := by omega
            cases al
            all_goals
              go_wp2_with (refine (H1.out _).mono ?_; rintro e w' ⟨rfl, rfl⟩)
              refine (H2.out _).mono ?_
              rintro e w1 ⟨u, rfl, hu, b1⟩
              have kc := own_convert hu
              have HB1 := Lib.hid (bthen HB.out HB.out.size b1)
              clear hu b1
              go_wp2_with fail
              go_roundw
              case rel => exact ⟨k + 1, by omega, by go_num, by rw [HT.out], by rw [HA.out]; rfl, HB1.out, by
                rw [HIN.out]
                intro y hy
                rcases List.mem_append.1 hy with hy | hy
                · exact HZ.out y hy
                · simp at hy; subst hy; omega⟩
              case measure => simp [intOf]; omega
      · obtain rfl : k = zs.length := by omega
        have hz := HZ.out
        rw [List.take_length] at hz htl
        have hvt := valid_text zs hz
        have hct := count_text zs
        have hvi := valid_iff (textL zs)
        have hvd := valid_dec (textL zs)
        have hdl := decL_len (textL zs)
        rw [List.take_length]
        rw [hvt] at hvi
        have h2 := fun w => Decode_any (textL zs) w (by omega)
        have h3 := fun w => Valid_any (textL zs) w (by omega)
        have h4 := fun w => Valid_any (decL (textL zs)) w (by omega)
        have h5 := fun w => Count_any (textL zs) w (by omega)
        rw [hvt] at h3
        rw [hvd] at h4
        have H2 := Lib.hid h2; have H4 := Lib.hid h4
        cases hal : zs.all rScal
        · rw [hal] at hvi h3
          have H3 := Lib.hid h3
          clear h2 h3 h4 h5 hvt hct hvd hz hal
          generalize decL (textL zs) = d at *
          generalize textL zs = t at *
          have hvi2 : (d != t) = true := by rw [bne, hvi]; rfl
          go_wp2_with fail
          refine (H2.out _).mono ?_
          rintro e w1 ⟨rfl, b1⟩
          have B1 := bthen HB.out HB.out.size b1
          clear b1
          go_wp2_with fail
          refine (H3.out _).mono ?_
          rintro e w2 ⟨rfl, b2⟩
          replace B1 := bthen B1 B1.size b2
          clear b2
          go_wp2_with fail
          refine (H4.out _).mono ?_
          rintro e w3 ⟨rfl, b3⟩
          replace B1 := bthen B1 B1.size b3
          clear b3
          go_wp2_with fail
          refine (HK.out _ (hg.kept B1)).mono ?_
          rintro e w4 ⟨rfl, b4⟩
          replace B1 := bthen B1 B1.size b4
          clear b4
          go_wp2_with fail
          go_ret
          exact Ret.mk rfl B1
        · rw [hal] at hvi h3
          rw [hct hal] at h5
          have H3 := Lib.hid h3; have H5 := Lib.hid h5
          clear h2 h3 h4 h5 hvt hct hvd hz hal
          generalize decL (textL zs) = d at *
          generalize textL zs = t at *
          go_wp2_with fail
          refine (H2.out _).mono ?_
          rintro e w1 ⟨rfl, b1⟩
          have B1 := bthen HB.out HB.out.size b1
          clear b1
          go_wp2_with fail
          refine (H3.out _).mono ?_
          rintro e w2 ⟨rfl, b2⟩
          replace B1 := bthen B1 B1.size b2
          clear b2
          go_wp2_with fail
          refine (H5.out _).mono ?_
          rintro e w3 ⟨rfl, b3⟩
          replace B1 := bthen B1 B1.size b3
          clear b3
          go_wp2_with fail
          refine (HK.out _ (hg.kept B1)).mono ?_
          rintro e w4 ⟨rfl, b4⟩
          replace B1 := bthen B1 B1.size b4
          clear b4
          go_wp2_with fail
          go_ret
          exact Ret.mk rfl B1
  · unfold maxLen at hl
    go_enter Tryd.func15, Tryd.ntmps15
    go_wp2_with fail
    refine (HK.out _ hg).mono ?_
    rintro e w1 ⟨rfl, b1⟩
    go_wp2_with fail
    go_ret
    exact Ret.mk rfl b1
end Go.Proofs.YtpfnakonpledgaaDoor
