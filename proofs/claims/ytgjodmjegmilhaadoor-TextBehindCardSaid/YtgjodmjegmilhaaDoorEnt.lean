/- The table of names: its plain form, and the iterator of text.entries. -/
import Derived.Test.YtgjodmjegmilhaaDoorDcd
import Derived.Test.YtgjodmjegmilhaaDoorShelf
namespace Go.Proofs.YtgjodmjegmilhaaDoor
open Go.RowKit
attribute [local go_sem] Oper.semAt_some
attribute [local go_sem] sext

/-- What lies ahead of the first c, and behind it. -/
def upTo (c : UInt8) : List UInt8 → List UInt8 × List UInt8
  | [] => ([], [])
  | x :: t => if x == c then ([], t) else (x :: (upTo c t).1, (upTo c t).2)
theorem cut_one (c : UInt8) : ∀ s : List UInt8, Lib.cut s [c] = ((upTo c s).1, (upTo c s).2, s.contains c)
  | [] => by simp [Lib.cut, Lib.index, upTo]
  | x :: t => by
    have ih := cut_one c t
    have hge := Lib.index_ge t [c]
    by_cases hx : x = c
    · subst hx
      have hI : Lib.index (x :: t) [x] = 0 := by rw [Lib.index]; simp
      rw [Lib.cut, hI, if_pos (by decide), upTo]
      simp
    · have hp : List.isPrefixOf [c] (x :: t) = false := by simp [List.isPrefixOf]; exact fun e => hx e.symm
      have hxc : (x == c) = false := by simpa using hx
      have hcx : (c == x) = false := by simpa using fun e : c = x => hx e.symm
      have hu : upTo c (x :: t) = (x :: (upTo c t).1, (upTo c t).2) := by rw [upTo, hxc]; rfl
      rw [hu, List.contains_cons, hcx, Bool.false_or]
      by_cases hi : Lib.index t [c] = -1
      · have hI : Lib.index (x :: t) [c] = -1 := by rw [Lib.index, hp, hi]; rfl
        rw [Lib.cut, hi, if_neg (by decide)] at ih
        rw [Lib.cut, hI, if_neg (by decide)]
        simp only [Prod.mk.injEq] at ih ⊢
        exact ⟨by rw [← ih.1], ih.2.1, ih.2.2⟩
      · obtain ⟨i, hi2⟩ : ∃ i : Nat, Lib.index t [c] = i := ⟨(Lib.index t [c]).toNat, by omega⟩
        have hne : ((i : Int) == -1) = false := by rw [beq_eq_false_iff_ne]; omega
        have hI : Lib.index (x :: t) [c] = ((i + 1 : Nat) : Int) := by rw [Lib.index, hp, hi2, hne]; simp
        rw [Lib.cut, hi2, if_pos (by omega)] at ih
        rw [Lib.cut, hI, if_pos (by omega)]
        simp only [Prod.mk.injEq, Int.toNat_natCast] at ih ⊢
        obtain ⟨h1, h2, h3⟩ := ih
        refine ⟨?_, ?_, h3⟩
        · rw [← h1]; simp
        · rw [← h2]; rw [show i + 1 + [c].length = (i + [c].length) + 1 by omega, List.drop_succ_cons]
theorem upTo_len (c : UInt8) : ∀ s : List UInt8, (upTo c s).1.length ≤ s.length ∧ (s ≠ [] → (upTo c s).2.length < s.length)
  | [] => by simp [upTo]
  | x :: t => by
    have ih := upTo_len c t
    rw [upTo]
    split
    · simp
    · by_cases ht : t = []
      · subst ht; simp [upTo]
      · have := ih.2 ht; simp; omega
abbrev Ent := List UInt8 × List UInt8
def entsF : Nat → List UInt8 → List Ent
  | 0, _ => []
  | n + 1, s => if s.isEmpty then [] else upTo 61 (upTo 32 s).1 :: entsF n (upTo 32 s).2
def ents (s : List UInt8) : List Ent := entsF s.length s
theorem entsF_fuel : ∀ (n m : Nat) (s : List UInt8), s.length ≤ n → s.length ≤ m → entsF n s = entsF m s
  | 0, m, b, h, _ => by
    obtain rfl : b = [] := List.eq_nil_of_length_eq_zero (by omega)
    cases m <;> simp [entsF]
  | n + 1, 0, b, _, h => by
    obtain rfl : b = [] := List.eq_nil_of_length_eq_zero (by omega)
    simp [entsF]
  | n + 1, m + 1, b, h1, h2 => by
    rw [entsF, entsF]
    by_cases hb : b = []
    · simp [hb]
    · have := (upTo_len 32 b).2 hb
      rw [entsF_fuel n m (upTo 32 b).2 (by omega) (by omega)]
theorem ents_nil : ents [] = [] := rfl
theorem ents_cons (b : List UInt8) (h : b ≠ []) : ents b = upTo 61 (upTo 32 b).1 :: ents (upTo 32 b).2 := by
  have hb := (upTo_len 32 b).2 h
  obtain ⟨n, hn⟩ : ∃ n, b.length = n + 1 := ⟨b.length - 1, by omega⟩
  unfold ents
  rw [hn, entsF, if_neg (by simpa using h), entsF_fuel n _ _ (by omega) (Nat.le_refl _)]

/-- The text that the first operation of a function's body assigns. -/
def constOf (f : Func) : ByteArray :=
  match f.body with
  | some (.seq (.region _ ops _) _) => match ops[0]? with
    | some o => match o.op with
      | .assign (.const (.string s)) => s
      | _ => ByteArray.empty
    | _ => ByteArray.empty
  | _ => ByteArray.empty
noncomputable def namesL : List UInt8 := (constOf Tryd.f27).data.toList
noncomputable def entL : List Ent := ents namesL
theorem namesL_len : namesL.length = 29726 := by decide +kernel

def slen : Value → Nat
  | .string s => s.size
  | _ => 0
theorem first_lit {F : Fence} {n : Nat} {P : Program} {Q : Exit → Act → World → Prop} {a : Act} {w : World} {id d : Nat} {v : Value} {t : TypeId} {p : String} {af : Array Edge} {gd : Option (Nat × Bool)} {o : Bool} {rest : Code}
    (h : ∀ T, v = T → (Code.seq (Code.region id #[{ dst := some d, op := .assign (.const T), type := t, pos := p, after := af, guard := gd }] o) rest).wpIn F n P Q a w) :
    (Code.seq (Code.region id #[{ dst := some d, op := .assign (.const v), type := t, pos := p, after := af, guard := gd }] o) rest).wpIn F n P Q a w := h v rfl

set_option maxRecDepth 100000 in
set_option maxHeartbeats 1000000 in
theorem entries_iter (n : Nat) (hn : 3 ≤ n) (w : World) (hg : Good w) :
    IterAt Fence.wide n Tryd.prog 27 #[] (fun x : Ent => #[.string ⟨x.1.toArray⟩, .string ⟨x.2.toArray⟩]) entL (fun _ => False) (fun k => k = 0) w := by
  have hel : entL = ents namesL := rfl
  obtain ⟨es, hes⟩ : ∃ es, entL = es := ⟨_, rfl⟩
  rw [hes] at hel ⊢
  clear hes
  intro lp J Jx W hsz hI hJ hJx hY h0
  obtain ⟨m, hm⟩ := hg
  have hm0 := World.block_lt_of_cell? w _ hm
  have hmW : W.cell? ⟨0, 0, none⟩ = some (.int .i64 m) := (World.cell?_of_block (w := w) (hI _ (.inr rfl))).trans hm
  have HJ := Lib.hid hJ; have HJX := Lib.hid hJx; have HY := Lib.hid hY; have H0 := Lib.hid h0
  clear hJ hJx hY h0 hI hm
  refine callsIn_of_wp Tryd.func27 rfl trivial ?_ rfl
  refine first_lit fun T hT => ?_
  obtain rfl : T = .string ⟨namesL.toArray⟩ := hT.symm.trans rfl
  clear hT
  simp only [Tryd.ntmps27, List.size_toArray, List.length_cons, List.length_nil, Nat.reduceAdd, Nat.reduceSub, Array.replicate_succ, Array.replicate_zero, List.push_toArray, List.append_toArray, List.nil_append, List.cons_append]
  obtain ⟨ns, hns⟩ : ∃ ns, namesL = ns := ⟨_, rfl⟩
  have hnl : ns.length ≤ 100000 := by rw [← hns, namesL_len]; omega
  rw [hns] at hel ⊢
  have HEL := Lib.hid hel
  clear hns hel
  have HJ0 := Lib.hid (H0.out W.heap.size (Nat.le_refl _))
  clear H0
  obtain ⟨n1, hn1⟩ : ∃ n1, n1 = W.heap.size := ⟨_, rfl⟩
  rw [← hn1] at HJ0
  gi_wp2_with fail
  gi_loopw [2] (fun s2 wr => ∃ (i : Nat) (rest : List UInt8), s2 = .string ⟨rest.toArray⟩ ∧ i ≤ es.length ∧ rest.length ≤ ns.length ∧ n1 ≤ wr.heap.size ∧ wr.cell? ⟨0, 0, none⟩ = some (.int .i64 m) ∧ J n1 i wr ∧ es.drop i = ents rest)
    (fun s2 _ => slen s2)
  case atStart => exact ⟨0, ns, rfl, Nat.zero_le _, Nat.le_refl _, by omega, hmW, HJ0.out, HEL.out⟩
  case round =>
    obtain ⟨i, rest, rfl, hi, hr, hsz1, hc, hj, hd⟩ := hrel
    have HD := Lib.hid hd; have HJ1 := Lib.hid hj
    clear hd hj HJ0 hmW
    by_cases hnil : rest = []
    · subst hnil
      have HE : Hid (i = es.length) := Lib.hid (by
        have h1 := congrArg List.length HD.out
        rw [ents_nil] at h1
        simp at h1
        omega)
      gi_wp2_with fail
      go_end0
      exact ⟨⟨_, rfl⟩, n1, by omega, hsz1, .inl (by rw [← HE.out]; exact HJ1.out)⟩
    · have hne : rest.isEmpty = false := by simpa using hnil
      have hpos : 0 < rest.length := List.length_pos_iff.2 hnil
      have hpc := ents_cons rest hnil
      have hu1 := upTo_len 32 rest
      have hu1b := hu1.2 hnil
      have H1 := Lib.hid (Tryd.strings_Cut ⟨rest.toArray⟩ ⟨#[32]⟩ m wr (by show rest.length < _; omega) hc)
      obtain ⟨⟨e1, r1⟩, hu⟩ : ∃ x, upTo 32 rest = x := ⟨_, rfl⟩
      have hcut : Lib.cut (⟨rest.toArray⟩ : ByteArray).data.toList (⟨#[32]⟩ : ByteArray).data.toList = (e1, r1, rest.contains 32) := by
        have := cut_one 32 rest; rw [hu] at this; exact this
      rw [hcut] at H1
      rw [hu] at hpc hu1 hu1b
      dsimp only at hpc hu1 hu1b
      obtain ⟨⟨nm, cd⟩, hv⟩ : ∃ x, upTo 61 e1 = x := ⟨_, rfl⟩
      have hcut2 : Lib.cut (⟨e1.toArray⟩ : ByteArray).data.toList (⟨#[61]⟩ : ByteArray).data.toList = (nm, cd, e1.contains 61) := by
        have := cut_one 61 e1; rw [hv] at this; exact this
      rw [hv] at hpc
      have hxi : es[i]? = some (nm, cd) := by
        have h1 : (List.drop i es)[0]? = some (nm, cd) := by rw [HD.out, hpc]; rfl
        simpa using h1
      have hdi : Hid (es.drop (i + 1) = ents r1) := Lib.hid (by
        rw [← List.drop_drop, HD.out, hpc]; rfl)
      have hil : i < es.length := (List.getElem?_eq_some_iff.1 hxi).1
      have HXI := Lib.hid hxi
      have HC2 := Lib.hid hcut2
      clear hpc hxi HD hu hv hcut hcut2
      gi_wp2_with fail
      refine call_wide H1.out ?_ (by omega)
      rintro e w2 ⟨rfl, q1, rfl⟩
      have H2 := Lib.hid (Tryd.strings_Cut ⟨e1.toArray⟩ ⟨#[61]⟩ m (wr.drewN q1) (by show e1.length < _; omega) (by simpa using hc))
      rw [HC2.out] at H2
      gi_wp2_with fail
      refine call_wide H2.out ?_ (by omega)
      rintro e w3 ⟨rfl, q2, hw3⟩
      have hM2 : ∀ S, Mod S wr w3 := fun S => by rw [hw3]; exact ((Mod.refl _ wr).drewN q1).drewN q2
      have hc3 : w3.cell? ⟨0, 0, none⟩ = some (.int .i64 m) := by rw [hw3]; simpa using hc
      have hsz3 : w3.heap.size = wr.heap.size := by rw [hw3]; simp
      clear hw3 hc
      have hJ2 := HJ.out n1 i _ w3 HJ1.out (hM2 _)
      obtain ⟨fn, tmps, assign, body, hy, hR⟩ := HY.out n1 i _ w3 HXI.out hJ2 (by omega) (by omega)
      dsimp only at hy
      have HR := Lib.hid hR
      clear hJ2 hR
      gi_wp2_with fail
      refine ⟨fun _ => by omega, ?_⟩
      refine HR.out.mono ?_
      rintro e W3 ⟨(⟨rfl, hj3⟩ | ⟨rfl, hj3⟩), hm3⟩
      · have hm3s := hm3.size
        have hc4 : W3.cell? ⟨0, 0, none⟩ = some (.int .i64 m) := (hm3.cell (p := ⟨0, 0, none⟩) (by show 0 < _; omega) (fun h => h.2.1 rfl)).trans hc3
        have HJ3 := Lib.hid hj3
        clear hj3 hm3 hy HR
        gi_wp2_with fail
        go_roundw
        case rel => exact ⟨i + 1, r1, rfl, by omega, by omega, by omega, hc4, HJ3.out, hdi.out⟩
        case measure => simp [slen, ByteArray.size]; omega
      · have hm3s := hm3.size
        have HJ3 := Lib.hid hj3
        clear hj3 hm3 hy
        gi_wp2_with fail
        refine bodyPost_ret (results_none rfl _ _ _) rfl ?_
        exact ⟨⟨_, rfl⟩, n1, by omega, by omega, .inr ⟨i + 1, by omega, HJ3.out⟩⟩
end Go.Proofs.YtgjodmjegmilhaaDoor
