/- What a slice of operations reads as. -/
import Derived.Test.YtdapdadcninidaaGreatDoorM10
import Derived.Test.YtdapdadcninidaaGreatDoorM19
set_option linter.unusedSimpArgs false
set_option linter.unusedVariables false
namespace Go.Proofs.YtdapdadcninidaaGreatDoor
open Go.ChangeShapes Go.WideShapes Go.RowKit Go.Deep

theorem slice_shape {H : Type} {enc : TypeId × Value → H} {w : World} {fuel : Nat} {v : Value} {x : DataW H × List MemPlace}
    (h : DataW.trod enc Tryz.prog w 0 (fun _ => true) true fuel 40 [v] = some x) : ∃ a len cap, v = .slice a len cap := by
  rcases open_slice Tryz.underlying40 h with ⟨hcs, _⟩ | ⟨b, len', cap', m, n, D, Pl, hcs, _⟩
  · simp only [List.cons.injEq, and_true] at hcs
    exact ⟨_, _, _, hcs⟩
  · simp only [List.cons.injEq, and_true] at hcs
    exact ⟨_, _, _, hcs⟩
set_option maxRecDepth 100000 in
set_option maxHeartbeats 2000000 in
theorem opsIn_open {H : Type} {enc : TypeId × Value → H} {w : World} {fuel len cap : Nat} {a : Option Addr} {x : DataW H × List MemPlace} (ho : Tryz.prog.cellsOf 80 = 10) (hc : Tryz.prog.cellsOf 121 = 3) (hsp : Tryz.prog.cellsOf 29 = 1) (hs : Tryz.prog.cellsOf 9 = 1) (hi : Tryz.prog.cellsOf 3 = 1) (hb : Tryz.prog.cellsOf 4 = 1) (hsl : Tryz.prog.cellsOf 40 = 1)
    (h : DataW.trod enc Tryz.prog w 0 (fun _ => true) true fuel 75 [.slice a len cap] = some x) : ∃ l : List Opn, l.length = len ∧ len ≤ maxLen ∧ OpsIn w a l ∧ ∀ y ∈ l, y.attrs.length ≤ maxLen := by
  rcases open_slice Tryz.underlying75 h with ⟨hcs, _⟩ | ⟨b, len', cap', m, n, D, Pl, hcs, _, hl, hm, hmm, _, hx⟩
  · simp only [List.cons.injEq, Value.slice.injEq, and_true] at hcs
    obtain ⟨rfl, rfl, rfl⟩ := hcs
    exact ⟨[], rfl, Nat.zero_le _, fun j s hj => by simp at hj, fun y hy => by cases hy⟩
  · simp only [List.cons.injEq, Value.slice.injEq, and_true] at hcs
    obtain ⟨rfl, rfl, rfl⟩ := hcs
    simp only [if_true] at hmm
    have each : ∀ i, i < len → ∃ y : Opn, ∃ aa ac, (∀ k v, (opArr y aa ac)[k]? = some v → w.cell? ((b.add (i * 10)).add k) = some v) ∧ AttsAt w aa y.attrs ∧ y.attrs.length ≤ maxLen := by
      intro i hil
      obtain ⟨cs', h1, h2⟩ := hx i (by omega)
      rw [ho] at h1
      obtain ⟨_, hlen, hcell⟩ := World.cells?_some h1
      obtain ⟨xs, n', _, _, _, hxl, hf⟩ := DataW.trod_struct Tryz.underlying80 h2
      match xs, hxl with
      | [y0, y1, y2, y3, y4, y5, y6, y7, y8, y9], _ =>
      match cs', hlen with
      | [v0, v1, v2, v3, v4, v5, v6, v7, v8, v9], _ =>
        have g0 := hf 0 _ rfl
        have g1 := hf 1 _ rfl
        have g2 := hf 2 _ rfl
        have g3 := hf 3 _ rfl
        have g4 := hf 4 _ rfl
        have g5 := hf 5 _ rfl
        have g6 := hf 6 _ rfl
        have g7 := hf 7 _ rfl
        have g8 := hf 8 _ rfl
        have g9 := hf 9 _ rfl
        simp [hsp, hs, hi, hb, hsl] at g0 g1 g2 g3 g4 g5 g6 g7 g8 g9
        obtain ⟨z0, e0, _⟩ := DataW.trod_int Tryz.underlying3 g0
        obtain ⟨z1, e1, _⟩ := DataW.trod_int Tryz.underlying3 g1
        obtain ⟨z2, e2, _⟩ := DataW.trod_int Tryz.underlying3 g2
        obtain ⟨z3, e3, _⟩ := DataW.trod_int Tryz.underlying3 g3
        obtain ⟨z4, e4, _⟩ := DataW.trod_bool Tryz.underlying4 g4
        obtain ⟨z5, e5, _⟩ := DataW.trod_int Tryz.underlying29 g5
        obtain ⟨z6, e6, _⟩ := DataW.trod_string Tryz.underlying9 g6
        obtain ⟨z7, e7, _⟩ := DataW.trod_string Tryz.underlying9 g7
        obtain ⟨z8, e8, _⟩ := DataW.trod_string Tryz.underlying9 g8
        obtain ⟨aa, al, ac, rfl⟩ := slice_shape g9
        obtain ⟨ats, rfl, hal, hat, _⟩ := attsIn_open hc hsp hs g9
        simp at e0 e1 e2 e3 e4 e5 e6 e7 e8
        subst e0; subst e1; subst e2; subst e3; subst e4; subst e5; subst e6; subst e7; subst e8
        refine ⟨⟨z0, z1, z2, z3, z4, z5, z6.data.toList, z7.data.toList, z8.data.toList, ats⟩, aa, ac, fun k v hk => ?_, hat, hal⟩
        have hk10 : k < 10 := by
          have := (Array.getElem?_eq_some_iff.1 hk).1
          simpa [opArr] using this
        have hck := hcell k hk10
        rw [hck]
        match k, hk10 with
        | 0, _ => simpa [opArr] using hk
        | 1, _ => simpa [opArr] using hk
        | 2, _ => simpa [opArr] using hk
        | 3, _ => simpa [opArr] using hk
        | 4, _ => simpa [opArr] using hk
        | 5, _ => simpa [opArr] using hk
        | 6, _ => simpa [opArr] using hk
        | 7, _ => simpa [opArr] using hk
        | 8, _ => simpa [opArr] using hk
        | 9, _ => simpa [opArr] using hk
    obtain ⟨f, hf⟩ := choose_lt (α := Opn) each
    refine ⟨(List.range len).map f, by simp, by omega, fun j y hj => ?_, fun y hy => ?_⟩
    · rw [List.getElem?_map] at hj
      obtain ⟨i, hi2, rfl⟩ := Option.map_eq_some_iff.1 hj
      have hjl : j < len := by
        have := (List.getElem?_eq_some_iff.1 hi2).1
        simpa using this
      obtain rfl : i = j := by
        rw [List.getElem?_range hjl] at hi2
        exact (Option.some.inj hi2).symm
      obtain ⟨aa0, ac0, h0, -⟩ := hf 0 (by omega)
      have h00 := h0 0 _ rfl
      rw [Nat.zero_mul, show b.add 0 = b from rfl, show b.add 0 = b from rfl] at h00
      have hbp := addr_plain h00
      obtain ⟨aa, ac, hc, hat, -⟩ := hf i hjl
      have key : ∀ k v, (opArr (f i) aa ac)[k]? = some v → w.cell? ⟨b.block, b.off + i * 10 + k, none⟩ = some v := fun k v hk => by
        have := hc k v hk
        rw [hbp, add_plainN, add_plainN] at this
        exact this
      refine ⟨b.block, b.off, aa, ac, by rw [← hbp], key 0 _ rfl, key 1 _ rfl, key 2 _ rfl, key 3 _ rfl, key 4 _ rfl, key 5 _ rfl, key 6 _ rfl, key 7 _ rfl, key 8 _ rfl, key 9 _ rfl, hat⟩
    · obtain ⟨i, hi2, rfl⟩ := List.mem_map.1 hy
      obtain ⟨_, _, _, _, h3⟩ := hf i (by simpa using hi2)
      exact h3
end Go.Proofs.YtdapdadcninidaaGreatDoor
